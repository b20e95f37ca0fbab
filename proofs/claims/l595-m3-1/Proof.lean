import JvmDerived
import JvmDerived.Pilot.@@N@@Statement
import JvmDerived.Pilot.@@N@@Code
set_option linter.unusedVariables false
set_option linter.unusedSimpArgs false
namespace Jvm.Pilot.@@N@@
open Jvm Jvm.ClassFile Sem Op Lib Jvm.Free Jvm.Stand Jvm.LawKit Jvm.RoadKit Bundle Jvm.Pilot.@@N@@.Jvm.D
section OwnLayer
variable {p : Program} {l : Launch} {e : Env} {R : Room} {s : State} {m : MethodId} {args : Array Value} {below : List Frame} {meth : Method} {c : Code} {T : State} {locs : List Loc} {cells slots : Nat} {Z : State} {a0 : Array Value} {h : Heap}
/-- from here the body comes to its return, and Q holds of what it returns, of the heap and of the places written -/
def own_Ends (p : Program) (e : Env) (s : State) (below : List Frame) (C S : Nat) (Q : Option Value → Heap → List Loc → Prop) (T : State) (g : JFrame) : Prop :=
  ∃ s₂ o, Steps p.tables e below (T.setTop g) s₂ ∧ s₂.status = .running ∧ Ended s₂ below o ∧ ∃ v L, o = .returned v ∧ Q v s₂.heap L ∧ FrameEnd s o s₂ L C S
theorem own_go {C S : Nat} {Q : Option Value → Heap → List Loc → Prop} {T' : State} {g g' : JFrame} (st : ∀ t, Steps p.tables e below (T'.setTop g') t → Steps p.tables e below (T.setTop g) t) (k : own_Ends p e s below C S Q T' g') : own_Ends p e s below C S Q T g := by
  obtain ⟨s₂, o, h, r⟩ := k
  exact ⟨s₂, o, st _ h, r⟩
theorem own_cast {C S : Nat} {Q : Option Value → Heap → List Loc → Prop} {g g' : JFrame} (q : g = g') (k : own_Ends p e s below C S Q T g') : own_Ends p e s below C S Q T g := q ▸ k
/-- a body's contract -/
def own_C (l : Launch) (y : MethodName) (bytes : ByteArray) (maxL : Nat) (ret : Option FieldType) (rm : Room) (Z : State) (A : Array Value) (h : Heap) (Q : Option Value → Heap → List Loc → Prop) : Prop :=
  ∀ ws : List Jvm.Cond, MetFree l y (head1 (Jvm.Cond.code y bytes maxL ret :: ws) rm) (fun a U => a = A ∧ Z.Warmed39 U.vm ∧ U.heap = h) (fun _ _ _ _ _ => True) (fun _ U o U' => ∃ v L, o = .returned v ∧ Q v U'.heap L ∧ FrameEnd U o U' L rm.cells rm.slots)
theorem own_enter {y : MethodName} {bytes : ByteArray} {maxL : Nat} {ret : Option FieldType} {rm : Room} {A : Array Value} {Q : Option Value → Heap → List Loc → Prop} (hp : plainFor y = true)
    (body : ∀ (p : Program) (e : Env) (s : State) (m : MethodId) (below : List Frame) (meth : Method) (c : Code) (s₁ : State), Stand p l e rm s m A below meth c s₁ [] 0 0 → p.tables.exec = Jvm.exec → c.code = bytes → c.maxLocals = maxL → s.vm.findClass y.cls = some m.cls → meth.name = y.name → meth.sig.returnType = ret → meth.locks = false → Z.Warmed39 s.vm → s₁.heap = h →
      own_Ends p e s below rm.cells rm.slots Q s₁ (entryFrame m A maxL)) : own_C l y bytes maxL ret rm Z A h Q := by
  intro ws
  refine MetFree.of_bodySF hp hisR ?_
  intro p e s m args below meth c s₁ Bd hml hP hK
  obtain ⟨rfl, hZ, hh⟩ := hP
  exact body p e s m below meth c s₁ (Stand.of_body Bd) Bd.exec Bd.bytes hml (findClass_of_methodNamed Bd.named) (name_of_methodNamed Bd.named Bd.method).1 Bd.returns Bd.notSynchronized hZ (by rw [← hh, Bd.state]; rfl)
theorem own_ret (X : Stand p l e R s m args below meth c T locs cells slots) (hx : p.tables.exec = Jvm.exec) (hlk : meth.locks = false) {Q : Option Value → Heap → List Loc → Prop} {C S pc : Nat} {Ls : Array Slot} {w : Value} {t : FieldType} {i : Instr} {rest : List Value} (hret : meth.sig.returnType = some t) (hn : narrow t w = w)
    (hi : (i = .ireturn ∧ (t = .int ∨ t = .boolean ∨ t = .byte ∨ t = .char ∨ t = .short) ∧ ∃ z, w = .int z) ∨ (i = .lreturn ∧ t = .long ∧ ∃ z, w = .long z) ∨ (i = .dreturn ∧ t = .double ∧ ∃ z, w = .double z) ∨ (i = .freturn ∧ t = .float ∧ ∃ z, w = .float z) ∨ (i = .areturn ∧ t.isReference = true ∧ w.isRef = true))
    (hd : decode c.code pc = .ok (i, 1)) (hc : cells ≤ C) (hs : slots ≤ S) (hq : Q (some w) T.heap locs) : own_Ends p e s below C S Q T (mkF m pc Ls (w :: rest)) := by
  obtain ⟨fs, hr, hrun, hended, hW, hsame⟩ := X.leave (v := some w) (fun h => by rw [hret] at h; cases h) hlk
  exact ⟨_, _, retOut X hx hret hn hi hd hr, hrun, hended, _, _, rfl, hq, ⟨_, rfl⟩, hW, hsame.mono hc hs⟩
theorem own_retI (X : Stand p l e R s m args below meth c T locs cells slots) (hx : p.tables.exec = Jvm.exec) (hlk : meth.locks = false) {Q : Option Value → Heap → List Loc → Prop} {C S pc : Nat} {Ls : Array Slot} {z : Int32} {rest : List Value} (hret : meth.sig.returnType = some .int)
    (hd : decode c.code pc = .ok (.ireturn, 1)) (hc : cells ≤ C) (hs : slots ≤ S) (hq : Q (some (.int z)) T.heap locs) : own_Ends p e s below C S Q T (mkF m pc Ls (.int z :: rest)) :=
  own_ret X hx hlk hret rfl (Or.inl ⟨rfl, Or.inl rfl, z, rfl⟩) hd hc hs hq
theorem own_retZ (X : Stand p l e R s m args below meth c T locs cells slots) (hx : p.tables.exec = Jvm.exec) (hlk : meth.locks = false) {Q : Option Value → Heap → List Loc → Prop} {C S pc : Nat} {Ls : Array Slot} {z : Int32} {rest : List Value} (hret : meth.sig.returnType = some .boolean) (hz : z = 0 ∨ z = 1)
    (hd : decode c.code pc = .ok (.ireturn, 1)) (hc : cells ≤ C) (hs : slots ≤ S) (hq : Q (some (.int z)) T.heap locs) : own_Ends p e s below C S Q T (mkF m pc Ls (.int z :: rest)) :=
  own_ret X hx hlk hret (by rcases hz with rfl | rfl <;> rfl) (Or.inl ⟨rfl, Or.inr (Or.inl rfl), z, rfl⟩) hd hc hs hq
theorem own_retJ (X : Stand p l e R s m args below meth c T locs cells slots) (hx : p.tables.exec = Jvm.exec) (hlk : meth.locks = false) {Q : Option Value → Heap → List Loc → Prop} {C S pc : Nat} {Ls : Array Slot} {z : Int64} {rest : List Value} (hret : meth.sig.returnType = some .long)
    (hd : decode c.code pc = .ok (.lreturn, 1)) (hc : cells ≤ C) (hs : slots ≤ S) (hq : Q (some (.long z)) T.heap locs) : own_Ends p e s below C S Q T (mkF m pc Ls (.long z :: rest)) :=
  own_ret X hx hlk hret rfl (Or.inr (Or.inl ⟨rfl, rfl, z, rfl⟩)) hd hc hs hq
theorem own_retR (X : Stand p l e R s m args below meth c T locs cells slots) (hx : p.tables.exec = Jvm.exec) (hlk : meth.locks = false) {Q : Option Value → Heap → List Loc → Prop} {C S pc : Nat} {Ls : Array Slot} {w : Value} {t : FieldType} {rest : List Value} (hret : meth.sig.returnType = some t) (ht : t.isReference = true) (hn : narrow t w = w) (hw : w.isRef = true)
    (hd : decode c.code pc = .ok (.areturn, 1)) (hc : cells ≤ C) (hs : slots ≤ S) (hq : Q (some w) T.heap locs) : own_Ends p e s below C S Q T (mkF m pc Ls (w :: rest)) :=
  own_ret X hx hlk hret hn (Or.inr (Or.inr (Or.inr (Or.inr ⟨rfl, ht, hw⟩)))) hd hc hs hq
theorem own_retV (X : Stand p l e R s m args below meth c T locs cells slots) (hx : p.tables.exec = Jvm.exec) (hlk : meth.locks = false) {Q : Option Value → Heap → List Loc → Prop} {C S pc : Nat} {Ls : Array Slot} (hret : meth.sig.returnType = none)
    (hd : decode c.code pc = .ok (.return_, 1)) (hc : cells ≤ C) (hs : slots ≤ S) (hq : Q none T.heap locs) : own_Ends p e s below C S Q T (mkF m pc Ls []) := by
  obtain ⟨fs, hr, hrun, hended, hW, hsame⟩ := X.leave (v := none) (fun _ => rfl) hlk
  exact ⟨_, _, X.returnOut hx hret hd hr, hrun, hended, _, _, rfl, hq, ⟨_, rfl⟩, hW, hsame.mono hc hs⟩
theorem own_callS (X : Stand p l e R s m args below meth c T locs cells slots) (hx : p.tables.exec = Jvm.exec) (hZ : Z.Warmed39 s.vm) {own : String} {index : Nat} {y : MethodName} {bytes : ByteArray} {maxL W : Nat} {ret : Option FieldType} {rm : Room} {A : Array Value} {Q : Option Value → Heap → List Loc → Prop}
    (hown : s.vm.findClass own = some m.cls) (wl : (Cond.methodLink own index y).before a0 Z = true) (ws : (Cond.static y).before a0 Z = true) (wz : (Cond.initialized y.cls).before a0 Z = true) (wc : (Cond.code y bytes maxL ret).before a0 Z = true)
    (hM : own_C l y bytes maxL ret rm Z A h Q) (eT : T.heap = h) {g : JFrame} (hg : g.method = m) (hsize : g.locals.size = c.maxLocals) {argsL rest : List Value} (hlen : ∀ sig, parseMethodDescriptor y.desc = some sig → argsL.length = sig.parameters.length) (hstack : g.stack = argsL.reverse ++ rest) (hA : argsL.toArray = A)
    (hW : 2 * g.monitorRoom + (rest.map fun v => v.category).sum ≤ W) (hd : decode c.code g.pc = .ok (.invokestatic index, 3)) (hy : y.cls ≠ "java/lang/invoke/MethodHandle" ∧ y.cls ≠ "java/lang/invoke/VarHandle")
    (hf : rm.frames + 1 ≤ R.frames) (hl : W + (maxL + 11) + rm.locals ≤ R.locals) (hc : cells + rm.cells ≤ R.cells) (hs : slots + rm.slots ≤ R.slots) :
    ∃ v T' L, Stand p l e R s m args below meth c T' (locs ++ L) (cells + rm.cells) (slots + rm.slots) ∧ Q v T'.heap L ∧ ∀ target, Steps p.tables e below (T'.setTop { g with pc := g.pc + 3, stack := v.toList ++ rest }) target → Steps p.tables e below (T.setTop g) target := by
  obtain ⟨v, vm₁, ⟨T', L', k', n'⟩, -, X', ⟨L, hQ, l1, l2, l3⟩, st⟩ := Jvm.LawKit.callS X hx hown (mvT hZ wl) (mvT hZ ws) (mvT hZ wz) (mvT hZ wc) hy (backOf (W := W) (hM []) hZ wc wz hf hl) hg hsize hlen hstack hW hd (fun _ _ => ⟨hA, eT, hc, hs⟩)
  dsimp only [Pt.U, Pt.locs, Pt.cells, Pt.slots] at X' l1 l2 l3 st hQ
  subst l1 l2 l3
  exact ⟨v, T', L, X', hQ, st⟩
theorem own_callI (X : Stand p l e R s m args below meth c T locs cells slots) (hx : p.tables.exec = Jvm.exec) (hZ : Z.Warmed39 s.vm) {own : String} {index : Nat} {y : MethodName} {bytes : ByteArray} {maxL W : Nat} {rm : Room} {A : Array Value} {Q : Option Value → Heap → List Loc → Prop}
    (hown : s.vm.findClass own = some m.cls) (hy1 : y.name = "<init>") (wl : (Cond.methodLink own index y).before a0 Z = true) (ws : (Cond.instanceMethod y).before a0 Z = true) (wz : (Cond.initialized y.cls).before a0 Z = true) (wc : (Cond.code y bytes maxL none).before a0 Z = true)
    (hM : own_C l y bytes maxL none rm Z A h Q) (eT : T.heap = h) {g : JFrame} (hg : g.method = m) (hsize : g.locals.size = c.maxLocals) {a : Addr} {argsL rest : List Value} (hlen : ∀ sig, parseMethodDescriptor y.desc = some sig → argsL.length = sig.parameters.length) (hstack : g.stack = argsL.reverse ++ .ref a :: rest) (hA : (.ref a :: argsL).toArray = A)
    (hW : 2 * g.monitorRoom + (rest.map fun v => v.category).sum ≤ W) (hd : decode c.code g.pc = .ok (.invokespecial index, 3)) (hy : y.cls ≠ "java/lang/invoke/MethodHandle" ∧ y.cls ≠ "java/lang/invoke/VarHandle")
    (hf : rm.frames + 1 ≤ R.frames) (hl : W + (maxL + 11) + rm.locals ≤ R.locals) (hc : cells + rm.cells ≤ R.cells) (hs : slots + rm.slots ≤ R.slots) :
    ∃ v T' L, Stand p l e R s m args below meth c T' (locs ++ L) (cells + rm.cells) (slots + rm.slots) ∧ Q v T'.heap L ∧ ∀ target, Steps p.tables e below (T'.setTop { g with pc := g.pc + 3, stack := v.toList ++ rest }) target → Steps p.tables e below (T.setTop g) target := by
  obtain ⟨v, vm₁, ⟨T', L', k', n'⟩, -, X', ⟨L, hQ, l1, l2, l3⟩, st⟩ := X.specialBack hx hy1 hown (mvT hZ wl) (mvT hZ ws) (mvT hZ wc) hy (backOf (W := W) (hM []) hZ wc wz hf hl) hg hsize (Steps.refl _) hlen hstack hW hd (fun _ _ => ⟨hA, eT, hc, hs⟩)
  dsimp only [Pt.U, Pt.locs, Pt.cells, Pt.slots] at X' l1 l2 l3 st hQ
  subst l1 l2 l3
  exact ⟨v, T', L, X', hQ, fun _ k => st.trans k⟩
theorem own_callV (X : Stand p l e R s m args below meth c T locs cells slots) (hx : p.tables.exec = Jvm.exec) (hZ : Z.Warmed39 s.vm) {own K : String} {index : Nat} {y : MethodName} {bytes : ByteArray} {maxL W : Nat} {ret : Option FieldType} {rm : Room} {A : Array Value} {Q : Option Value → Heap → List Loc → Prop}
    (hown : s.vm.findClass own = some m.cls) (wl : (Cond.methodLink own index y).before a0 Z = true) (wd : (Cond.declares y).before a0 Z = true) (wsel : (Cond.selects K y y).before a0 Z = true) (ws : (Cond.instanceMethod y).before a0 Z = true) (wz : (Cond.initialized y.cls).before a0 Z = true) (wc : (Cond.code y bytes maxL ret).before a0 Z = true)
    (hM : own_C l y bytes maxL ret rm Z A h Q) (eT : T.heap = h) {g : JFrame} (hg : g.method = m) (hsize : g.locals.size = c.maxLocals) {a : Addr} {argsL rest : List Value} (hE : Exa Z h a K) (hlen : ∀ sig, parseMethodDescriptor y.desc = some sig → argsL.length = sig.parameters.length) (hstack : g.stack = argsL.reverse ++ .ref a :: rest) (hA : (.ref a :: argsL).toArray = A)
    (hW : 2 * g.monitorRoom + (rest.map fun v => v.category).sum ≤ W) (hd : decode c.code g.pc = .ok (.invokevirtual index, 3)) (hy : y.cls ≠ "java/lang/invoke/MethodHandle" ∧ y.cls ≠ "java/lang/invoke/VarHandle")
    (hf : rm.frames + 1 ≤ R.frames) (hl : W + (maxL + 11) + rm.locals ≤ R.locals) (hc : cells + rm.cells ≤ R.cells) (hs : slots + rm.slots ≤ R.slots) :
    ∃ v T' L, Stand p l e R s m args below meth c T' (locs ++ L) (cells + rm.cells) (slots + rm.slots) ∧ Q v T'.heap L ∧ ∀ target, Steps p.tables e below (T'.setTop { g with pc := g.pc + 3, stack := v.toList ++ rest }) target → Steps p.tables e below (T.setTop g) target := by
  obtain ⟨cq, kq, qa, qb, qc⟩ := isOf hZ eT hE
  obtain ⟨v, vm₁, ⟨T', L', k', n'⟩, -, X', ⟨L, hQ, l1, l2, l3⟩, st⟩ := X.virtualBack hx hown (mvT hZ wl) (mvT hZ wd) (notFace_of_selects (args := #[]) (mvT hZ wsel)) (mvT hZ wsel) (mvT hZ ws) hy (backOf (W := W) (hM []) hZ wc wz hf hl) qa qc hg hsize (Steps.refl _) hlen hstack hW hd (fun _ _ => ⟨hA, eT, hc, hs⟩)
  dsimp only [Pt.U, Pt.locs, Pt.cells, Pt.slots] at X' l1 l2 l3 st hQ
  subst l1 l2 l3
  exact ⟨v, T', L, X', hQ, fun _ k => st.trans k⟩
theorem own_callP (X : Stand p l e R s m args below meth c T locs cells slots) (hx : p.tables.exec = Jvm.exec) (hZ : Z.Warmed39 s.vm) {own K : String} {index kk : Nat} {y : MethodName} {bytes : ByteArray} {maxL W : Nat} {ret : Option FieldType} {rm : Room} {A : Array Value} {Q : Option Value → Heap → List Loc → Prop}
    (hown : s.vm.findClass own = some m.cls) (wl : (Cond.methodLink own index y).before a0 Z = true) (wp : (Cond.privateMethod y).before a0 Z = true) (wi : (Cond.instantiable y.cls kk).before a0 Z = true) (ws : (Cond.instanceMethod y).before a0 Z = true) (wz : (Cond.initialized y.cls).before a0 Z = true) (wc : (Cond.code y bytes maxL ret).before a0 Z = true)
    (hM : own_C l y bytes maxL ret rm Z A h Q) (eT : T.heap = h) {g : JFrame} (hg : g.method = m) (hsize : g.locals.size = c.maxLocals) {a : Addr} {argsL rest : List Value} (hE : Exa Z h a K) (hlen : ∀ sig, parseMethodDescriptor y.desc = some sig → argsL.length = sig.parameters.length) (hstack : g.stack = argsL.reverse ++ .ref a :: rest) (hA : (.ref a :: argsL).toArray = A)
    (hW : 2 * g.monitorRoom + (rest.map fun v => v.category).sum ≤ W) (hd : decode c.code g.pc = .ok (.invokevirtual index, 3)) (hy : y.cls ≠ "java/lang/invoke/MethodHandle" ∧ y.cls ≠ "java/lang/invoke/VarHandle")
    (hf : rm.frames + 1 ≤ R.frames) (hl : W + (maxL + 11) + rm.locals ≤ R.locals) (hc : cells + rm.cells ≤ R.cells) (hs : slots + rm.slots ≤ R.slots) :
    ∃ v T' L, Stand p l e R s m args below meth c T' (locs ++ L) (cells + rm.cells) (slots + rm.slots) ∧ Q v T'.heap L ∧ ∀ target, Steps p.tables e below (T'.setTop { g with pc := g.pc + 3, stack := v.toList ++ rest }) target → Steps p.tables e below (T.setTop g) target := by
  obtain ⟨cq, q1, q2⟩ := hE.cell
  have hpriv : s.PrivateAt y := Cond.privateMethod_at (mvP hZ wp (args := #[]))
  obtain ⟨cc, kc, i1, i2, -, i4, -⟩ := Cond.instantiable_spec (mvT (args := #[]) hZ wi)
  have hni : kc.isInterface = false := (Bool.or_eq_false_iff.mp i4).1
  have hsel : (Cond.selects y.cls y y).before args s = true := selects_self_of_private i1 i2 hni hpriv (mvT hZ ws) hy
  obtain ⟨v, vm₁, ⟨T', L', k', n'⟩, -, X', ⟨L, hQ, l1, l2, l3⟩, st⟩ := X.privateBack hx hown (mvT hZ wl) (mvT hZ ws) hsel hpriv (mvT hZ wc) hy (backOf (W := W) (hM []) hZ wc wz hf hl) hg hsize (Steps.refl _) (by rw [eT]; exact q1) q2 hlen hstack hW hd (fun _ _ => ⟨hA, eT, hc, hs⟩)
  dsimp only [Pt.U, Pt.locs, Pt.cells, Pt.slots] at X' l1 l2 l3 st hQ
  subst l1 l2 l3
  exact ⟨v, T', L, X', hQ, fun _ k => st.trans k⟩
end OwnLayer
theorem own_lct {x y : Int64} (q : x < y) : ifCond.holds .lt (lcmpW x y) = true ∧ ifCond.holds .ge (lcmpW x y) = false := by
  have r := (lw_lt x y).mpr q
  exact ⟨(if0 _ _).trans (tlt r).1, (if0 _ _).trans (tlt r).2.1⟩
theorem own_lcf {x y : Int64} (q : ¬ x < y) : ifCond.holds .lt (lcmpW x y) = false ∧ ifCond.holds .ge (lcmpW x y) = true := by
  have r : ¬ lcmpW x y < 0 := fun z => q ((lw_lt x y).mp z)
  exact ⟨(if0 _ _).trans (flt r).1, (if0 _ _).trans (flt r).2.1⟩
theorem own_lgt {x y : Int64} (q : y < x) : ifCond.holds .gt (lcmpW x y) = true ∧ ifCond.holds .le (lcmpW x y) = false := by
  have r := (lw_gt x y).mpr q
  exact ⟨(if0 _ _).trans (tlt r).2.2.1, (if0 _ _).trans (tlt r).2.2.2⟩
theorem own_lgf {x y : Int64} (q : ¬ y < x) : ifCond.holds .gt (lcmpW x y) = false ∧ ifCond.holds .le (lcmpW x y) = true := by
  have r : ¬ 0 < lcmpW x y := fun z => q ((lw_gt x y).mp z)
  exact ⟨(if0 _ _).trans (flt r).2.2.1, (if0 _ _).trans (flt r).2.2.2⟩
theorem own_let {x y : Int64} (q : x = y) : ifCond.holds .eq (lcmpW x y) = true ∧ ifCond.holds .ne (lcmpW x y) = false := by
  have r := (lw_eq x y).mpr q
  exact ⟨(if0 _ _).trans (teq r).1, (if0 _ _).trans (teq r).2⟩
theorem own_lef {x y : Int64} (q : ¬ x = y) : ifCond.holds .eq (lcmpW x y) = false ∧ ifCond.holds .ne (lcmpW x y) = true := by
  have r : ¬ lcmpW x y = 0 := fun z => q ((lw_eq x y).mp z)
  exact ⟨(if0 _ _).trans (feq r).1, (if0 _ _).trans (feq r).2⟩
section OwnArrays
variable {p : Program} {l : Launch} {e : Env} {R : Room} {s : State} {m : MethodId} {args : Array Value} {below : List Frame} {meth : Method} {c : Code} {T : State} {locs : List Loc} {cells slots : Nat} {Z : State} {a0 : Array Value} {h h' : Heap} {a b : Addr} {k : ClassId} {ty : FieldType} {n i sl : Nat} {f : Nat → Value} {v : Value} {ws : List Addr}
/-- an array by its length and what each place holds -/
def own_Ar (Z : State) (h : Heap) (a : Addr) (k : ClassId) (ty : FieldType) (n : Nat) (f : Nat → Value) : Prop := ∃ c : Cell, Arr Z h a c ty ∧ c.cls = k ∧ c.slots.size = n ∧ n < 2 ^ 31 ∧ ∀ i, i < n → c.slots[i]? = some (f i)
theorem own_Ar.lt (F : own_Ar Z h a k ty n f) : a < h.size := by obtain ⟨c, A, -⟩ := F; exact A.lt
theorem own_Ar.ext (F : own_Ar Z h a k ty n f) (E : Ext h h') : own_Ar Z h' a k ty n f := by obtain ⟨c, A, r⟩ := F; exact ⟨c, A.ext E, r⟩
theorem own_Ar.other (F : own_Ar Z h a k ty n f) (W : Wr h h' b sl v) (q : a ≠ b) : own_Ar Z h' a k ty n f := by obtain ⟨c, A, r⟩ := F; exact ⟨c, A.other W q, r⟩
theorem own_Ar.keep (F : own_Ar Z h a k ty n f) (K : Keep h h' ws) (q : a ∉ ws) : own_Ar Z h' a k ty n f := by obtain ⟨c, A, r⟩ := F; exact ⟨c, ⟨K.2.1 a c A.1 q, A.2⟩, r⟩
theorem own_Ar.cong (F : own_Ar Z h a k ty n f) {g : Nat → Value} (q : ∀ i, i < n → f i = g i) : own_Ar Z h a k ty n g := by
  obtain ⟨c, A, r1, r2, r3, r4⟩ := F
  exact ⟨c, A, r1, r2, r3, fun i hi => by rw [r4 i hi, q i hi]⟩
theorem own_Ar.set (F : own_Ar Z h a k ty n f) (W : Wr h h' a i v) : own_Ar Z h' a k ty n (fun j => if j = i then v else f j) := by
  obtain ⟨c, A, r1, r2, r3, r4⟩ := F
  refine ⟨c.setSlot i v, A.same W, r1, by rw [sz_set]; exact r2, r3, fun j hj => ?_⟩
  show _ = some (if j = i then v else f j)
  by_cases q : j = i
  · subst q
    rw [if_pos rfl]
    show (c.slots.setIfInBounds j v)[j]? = some v
    simp [r2, hj]
  · rw [if_neg q]
    show (c.slots.setIfInBounds i v)[j]? = some (f j)
    rw [Array.getElem?_setIfInBounds_ne (fun z => q z.symm)]
    exact r4 j hj
theorem own_in {c : Cell} {j : Int32} (hj : ¬ j < 0) (hi : j.toNatClampNeg = i) (r : c.slots.size = n) (hn : i < n) : ¬ (j < 0 ∨ c.slots.size ≤ j.toNatClampNeg) := by
  rintro (q | q)
  · exact hj q
  · rw [hi, r] at q; exact absurd hn (Nat.not_lt.mpr q)
theorem own_len (X : Stand p l e R s m args below meth c T locs cells slots) (hx : p.tables.exec = Jvm.exec) (hZ : Z.Warmed39 s.vm) (eT : T.heap = h) (F : own_Ar Z h a k ty n f) {z : Int32} (hz : Int32.ofNat n = z) {g : JFrame} (hg : g.method = m) {rest : List Value} (hs : g.stack = .ref a :: rest) (hd : decode c.code g.pc = .ok (.arraylength, 1)) (target : State)
    (kt : Steps p.tables e below (T.setTop { g with pc := g.pc + 1, stack := .int z :: rest }) target) : Steps p.tables e below (T.setTop g) target := by
  obtain ⟨cl, A, -, r2, r3, -⟩ := F
  refine X.arraylength hx (by rw [eT]; exact A.1) (State.isArrayOf_alike hZ.alike A.2.1) hg hs hd _ ?_
  have q : cl.slots.size.toInt32 = z := by rw [r2]; exact hz
  rw [q]; exact kt
theorem own_ldI (X : Stand p l e R s m args below meth c T locs cells slots) (hx : p.tables.exec = Jvm.exec) (hZ : Z.Warmed39 s.vm) (eT : T.heap = h) (F : own_Ar Z h a k .int n f) {j : Int32} (hj : ¬ j < 0) (hi : j.toNatClampNeg = i) (hn : i < n) (hv : f i = v) {g : JFrame} (hg : g.method = m) {rest : List Value} (hs : g.stack = .int j :: .ref a :: rest) (hd : decode c.code g.pc = .ok (.iaload, 1)) (target : State)
    (kt : Steps p.tables e below (T.setTop { g with pc := g.pc + 1, stack := v :: rest }) target) : Steps p.tables e below (T.setTop g) target := by
  obtain ⟨cl, A, -, r2, r3, r4⟩ := F
  exact X.iaload hx (by rw [eT]; exact A.1) (State.isArrayOf_alike hZ.alike A.2.1) A.2.2 (own_in hj hi r2 hn) (by rw [hi, r4 i hn, hv]) hg hs hd _ kt
theorem own_ldJ (X : Stand p l e R s m args below meth c T locs cells slots) (hx : p.tables.exec = Jvm.exec) (hZ : Z.Warmed39 s.vm) (eT : T.heap = h) (F : own_Ar Z h a k .long n f) {j : Int32} (hj : ¬ j < 0) (hi : j.toNatClampNeg = i) (hn : i < n) (hv : f i = v) {g : JFrame} (hg : g.method = m) {rest : List Value} (hs : g.stack = .int j :: .ref a :: rest) (hd : decode c.code g.pc = .ok (.laload, 1)) (target : State)
    (kt : Steps p.tables e below (T.setTop { g with pc := g.pc + 1, stack := v :: rest }) target) : Steps p.tables e below (T.setTop g) target := by
  obtain ⟨cl, A, -, r2, r3, r4⟩ := F
  exact X.laload hx (by rw [eT]; exact A.1) (State.isArrayOf_alike hZ.alike A.2.1) A.2.2 (own_in hj hi r2 hn) (by rw [hi, r4 i hn, hv]) hg hs hd _ kt
theorem own_ldC (X : Stand p l e R s m args below meth c T locs cells slots) (hx : p.tables.exec = Jvm.exec) (hZ : Z.Warmed39 s.vm) (eT : T.heap = h) (F : own_Ar Z h a k .char n f) {j : Int32} (hj : ¬ j < 0) (hi : j.toNatClampNeg = i) (hn : i < n) (hv : f i = v) {g : JFrame} (hg : g.method = m) {rest : List Value} (hs : g.stack = .int j :: .ref a :: rest) (hd : decode c.code g.pc = .ok (.caload, 1)) (target : State)
    (kt : Steps p.tables e below (T.setTop { g with pc := g.pc + 1, stack := v :: rest }) target) : Steps p.tables e below (T.setTop g) target := by
  obtain ⟨cl, A, -, r2, r3, r4⟩ := F
  exact X.caload hx (by rw [eT]; exact A.1) (State.isArrayOf_alike hZ.alike A.2.1) A.2.2 (own_in hj hi r2 hn) (by rw [hi, r4 i hn, hv]) hg hs hd _ kt
theorem own_ldB (X : Stand p l e R s m args below meth c T locs cells slots) (hx : p.tables.exec = Jvm.exec) (hZ : Z.Warmed39 s.vm) (eT : T.heap = h) (F : own_Ar Z h a k .byte n f) {j : Int32} (hj : ¬ j < 0) (hi : j.toNatClampNeg = i) (hn : i < n) (hv : f i = v) {g : JFrame} (hg : g.method = m) {rest : List Value} (hs : g.stack = .int j :: .ref a :: rest) (hd : decode c.code g.pc = .ok (.baload, 1)) (target : State)
    (kt : Steps p.tables e below (T.setTop { g with pc := g.pc + 1, stack := v :: rest }) target) : Steps p.tables e below (T.setTop g) target := by
  obtain ⟨cl, A, -, r2, r3, r4⟩ := F
  exact X.baloadBytes hx (by rw [eT]; exact A.1) (State.isArrayOf_alike hZ.alike A.2.1) A.2.2 (own_in hj hi r2 hn) (by rw [hi, r4 i hn, hv]) hg hs hd _ kt
theorem own_ldZ (X : Stand p l e R s m args below meth c T locs cells slots) (hx : p.tables.exec = Jvm.exec) (hZ : Z.Warmed39 s.vm) (eT : T.heap = h) (F : own_Ar Z h a k .boolean n f) {j : Int32} (hj : ¬ j < 0) (hi : j.toNatClampNeg = i) (hn : i < n) (hv : f i = v) {g : JFrame} (hg : g.method = m) {rest : List Value} (hs : g.stack = .int j :: .ref a :: rest) (hd : decode c.code g.pc = .ok (.baload, 1)) (target : State)
    (kt : Steps p.tables e below (T.setTop { g with pc := g.pc + 1, stack := v :: rest }) target) : Steps p.tables e below (T.setTop g) target := by
  obtain ⟨cl, A, -, r2, r3, r4⟩ := F
  exact X.baloadBooleans hx (by rw [eT]; exact A.1) (State.isArrayOf_alike hZ.alike A.2.1) A.2.2 (own_in hj hi r2 hn) (by rw [hi, r4 i hn, hv]) hg hs hd _ kt
theorem own_ldR (X : Stand p l e R s m args below meth c T locs cells slots) (hx : p.tables.exec = Jvm.exec) (hZ : Z.Warmed39 s.vm) (eT : T.heap = h) (F : own_Ar Z h a k ty n f) (ht : ty.isReference = true) {j : Int32} (hj : ¬ j < 0) (hi : j.toNatClampNeg = i) (hn : i < n) (hv : f i = v) {g : JFrame} (hg : g.method = m) {rest : List Value} (hs : g.stack = .int j :: .ref a :: rest) (hd : decode c.code g.pc = .ok (.aaload, 1)) (target : State)
    (kt : Steps p.tables e below (T.setTop { g with pc := g.pc + 1, stack := v :: rest }) target) : Steps p.tables e below (T.setTop g) target := by
  obtain ⟨cl, A, -, r2, r3, r4⟩ := F
  exact X.aaload hx (by rw [eT]; exact A.1) (State.isArrayOf_alike hZ.alike A.2.1) ht A.2.2 (own_in hj hi r2 hn) (by rw [hi, r4 i hn, hv]) hg hs hd _ kt
theorem own_newP (X : Stand p l e R s m args below meth c T locs cells slots) (hx : p.tables.exec = Jvm.exec) (hZ : Z.Warmed39 s.vm) {aty : ArrayType} (w : (Cond.arrayClass (newarray.typeOf aty)).before a0 Z = true) (eT : T.heap = h) {g : JFrame} (hg : g.method = m) (hd : decode c.code g.pc = .ok (.newarray aty, 2)) {z : Int32} {rest : List Value} (hs : g.stack = .int z :: rest)
    (hz : ¬ z < 0) (hzn : z.toNatClampNeg = n) {cap : Nat} (hcap : n ≤ cap) (hb : cap * 8 ≤ 536870912) (hc : cells + 1 ≤ R.cells) (hl : slots + cap ≤ R.slots) :
    ∃ T' h' k, Stand p l e R s m args below meth c T' locs (cells + 1) (slots + cap) ∧ T'.heap = h' ∧ Ext h h' ∧ own_Ar Z h' h.size k (newarray.typeOf aty) n (fun _ => defaultValue (newarray.typeOf aty)) ∧
      ∀ target, Steps p.tables e below (T'.setTop { g with pc := g.pc + 2, stack := .ref h.size :: rest }) target → Steps p.tables e below (T.setTop g) target := by
  obtain ⟨T', h', cA, X', e', E, A, st⟩ := newP X hx hZ w eT hg hd hs hz (cap := cap) (by rw [hzn]; exact hcap) hb hc hl
  refine ⟨T', h', cA, X', e', E, ⟨_, A, rfl, (sz_new _ _ _).trans hzn, by omega, fun i hi => ?_⟩, st⟩
  have hs : i < z.toNatClampNeg := by rw [hzn]; exact hi
  simp [newA, hs, defaultValue]
theorem own_stI (X : Stand p l e R s m args below meth c T locs cells slots) (hx : p.tables.exec = Jvm.exec) (hZ : Z.Warmed39 s.vm) (eT : T.heap = h) (F : own_Ar Z h a k .int n f) {j x : Int32} (hj : ¬ j < 0) (hi : j.toNatClampNeg = i) (hn : i < n) {g : JFrame} (hg : g.method = m) {rest : List Value} (hs : g.stack = .int x :: .int j :: .ref a :: rest) (hd : decode c.code g.pc = .ok (.iastore, 1)) :
    ∃ T' h', Stand p l e R s m args below meth c T' (locs ++ [⟨a, i⟩]) cells slots ∧ T'.heap = h' ∧ Wr h h' a i (.int x) ∧ own_Ar Z h' a k .int n (fun j => if j = i then .int x else f j) ∧ ∀ target, Steps p.tables e below (T'.setTop { g with pc := g.pc + 1, stack := rest }) target → Steps p.tables e below (T.setTop g) target := by
  obtain ⟨cl, A, r1, r2, r3, r4⟩ := F
  obtain ⟨T', h', X', e', W, st⟩ := stI X hx hZ eT A (own_in hj hi r2 hn) hg hs hd
  rw [hi] at X' W
  exact ⟨T', h', X', e', W, own_Ar.set ⟨cl, A, r1, r2, r3, r4⟩ W, st⟩
theorem own_stJ (X : Stand p l e R s m args below meth c T locs cells slots) (hx : p.tables.exec = Jvm.exec) (hZ : Z.Warmed39 s.vm) (eT : T.heap = h) (F : own_Ar Z h a k .long n f) {j : Int32} {x : Int64} (hj : ¬ j < 0) (hi : j.toNatClampNeg = i) (hn : i < n) {g : JFrame} (hg : g.method = m) {rest : List Value} (hs : g.stack = .long x :: .int j :: .ref a :: rest) (hd : decode c.code g.pc = .ok (.lastore, 1)) :
    ∃ T' h', Stand p l e R s m args below meth c T' (locs ++ [⟨a, i⟩]) cells slots ∧ T'.heap = h' ∧ Wr h h' a i (.long x) ∧ own_Ar Z h' a k .long n (fun j => if j = i then .long x else f j) ∧ ∀ target, Steps p.tables e below (T'.setTop { g with pc := g.pc + 1, stack := rest }) target → Steps p.tables e below (T.setTop g) target := by
  obtain ⟨cl, A, r1, r2, r3, r4⟩ := F
  obtain ⟨T', h', X', e', W, st⟩ := stJ X hx hZ eT A (own_in hj hi r2 hn) hg hs hd
  rw [hi] at X' W
  exact ⟨T', h', X', e', W, own_Ar.set ⟨cl, A, r1, r2, r3, r4⟩ W, st⟩
theorem own_stB (X : Stand p l e R s m args below meth c T locs cells slots) (hx : p.tables.exec = Jvm.exec) (hZ : Z.Warmed39 s.vm) (eT : T.heap = h) (F : own_Ar Z h a k .byte n f) {j x : Int32} (hj : ¬ j < 0) (hi : j.toNatClampNeg = i) (hn : i < n) {g : JFrame} (hg : g.method = m) {rest : List Value} (hs : g.stack = .int x :: .int j :: .ref a :: rest) (hd : decode c.code g.pc = .ok (.bastore, 1)) :
    ∃ T' h', Stand p l e R s m args below meth c T' (locs ++ [⟨a, i⟩]) cells slots ∧ T'.heap = h' ∧ Wr h h' a i (.int (nar .byte x)) ∧ own_Ar Z h' a k .byte n (fun j => if j = i then .int (nar .byte x) else f j) ∧ ∀ target, Steps p.tables e below (T'.setTop { g with pc := g.pc + 1, stack := rest }) target → Steps p.tables e below (T.setTop g) target := by
  obtain ⟨cl, A, r1, r2, r3, r4⟩ := F
  obtain ⟨T', h', X', e', W, st⟩ := stB X hx hZ eT A (own_in hj hi r2 hn) hg hs hd
  rw [hi] at X' W
  exact ⟨T', h', X', e', W, own_Ar.set ⟨cl, A, r1, r2, r3, r4⟩ W, st⟩
theorem own_stZ (X : Stand p l e R s m args below meth c T locs cells slots) (hx : p.tables.exec = Jvm.exec) (hZ : Z.Warmed39 s.vm) (eT : T.heap = h) (F : own_Ar Z h a k .boolean n f) {j x : Int32} (hj : ¬ j < 0) (hi : j.toNatClampNeg = i) (hn : i < n) {g : JFrame} (hg : g.method = m) {rest : List Value} (hs : g.stack = .int x :: .int j :: .ref a :: rest) (hd : decode c.code g.pc = .ok (.bastore, 1)) :
    ∃ T' h', Stand p l e R s m args below meth c T' (locs ++ [⟨a, i⟩]) cells slots ∧ T'.heap = h' ∧ Wr h h' a i (.int (nar .boolean x)) ∧ own_Ar Z h' a k .boolean n (fun j => if j = i then .int (nar .boolean x) else f j) ∧ ∀ target, Steps p.tables e below (T'.setTop { g with pc := g.pc + 1, stack := rest }) target → Steps p.tables e below (T.setTop g) target := by
  obtain ⟨cl, A, r1, r2, r3, r4⟩ := F
  obtain ⟨T', h', X', e', W, st⟩ := stZ X hx hZ eT A (own_in hj hi r2 hn) hg hs hd
  rw [hi] at X' W
  exact ⟨T', h', X', e', W, own_Ar.set ⟨cl, A, r1, r2, r3, r4⟩ W, st⟩
theorem own_stC (X : Stand p l e R s m args below meth c T locs cells slots) (hx : p.tables.exec = Jvm.exec) (hZ : Z.Warmed39 s.vm) (eT : T.heap = h) (F : own_Ar Z h a k .char n f) {j x : Int32} (hj : ¬ j < 0) (hi : j.toNatClampNeg = i) (hn : i < n) {g : JFrame} (hg : g.method = m) {rest : List Value} (hs : g.stack = .int x :: .int j :: .ref a :: rest) (hd : decode c.code g.pc = .ok (.castore, 1)) :
    ∃ T' h', Stand p l e R s m args below meth c T' (locs ++ [⟨a, i⟩]) cells slots ∧ T'.heap = h' ∧ Wr h h' a i (.int (nar .char x)) ∧ own_Ar Z h' a k .char n (fun j => if j = i then .int (nar .char x) else f j) ∧ ∀ target, Steps p.tables e below (T'.setTop { g with pc := g.pc + 1, stack := rest }) target → Steps p.tables e below (T.setTop g) target := by
  obtain ⟨cl, A, r1, r2, r3, r4⟩ := F
  obtain ⟨T', h', X', e', W, st⟩ := stC X hx hZ eT A (own_in hj hi r2 hn) hg hs hd
  rw [hi] at X' W
  exact ⟨T', h', X', e', W, own_Ar.set ⟨cl, A, r1, r2, r3, r4⟩ W, st⟩
theorem own_stR (X : Stand p l e R s m args below meth c T locs cells slots) (hx : p.tables.exec = Jvm.exec) (hZ : Z.Warmed39 s.vm) (eT : T.heap = h) (F : own_Ar Z h a k ty n f) (ht : ty.isReference = true) {j : Int32} (S : Sto Z h a v) (hj : ¬ j < 0) (hi : j.toNatClampNeg = i) (hn : i < n) {g : JFrame} (hg : g.method = m) {rest : List Value} (hs : g.stack = v :: .int j :: .ref a :: rest) (hd : decode c.code g.pc = .ok (.aastore, 1)) :
    ∃ T' h', Stand p l e R s m args below meth c T' (locs ++ [⟨a, i⟩]) cells slots ∧ T'.heap = h' ∧ Wr h h' a i v ∧ own_Ar Z h' a k ty n (fun j => if j = i then v else f j) ∧ ∀ target, Steps p.tables e below (T'.setTop { g with pc := g.pc + 1, stack := rest }) target → Steps p.tables e below (T.setTop g) target := by
  obtain ⟨cl, A, r1, r2, r3, r4⟩ := F
  obtain ⟨T', h', X', e', W, st⟩ := stR X hx hZ eT A (own_in hj hi r2 hn) ht S hg hs hd
  rw [hi] at X' W
  exact ⟨T', h', X', e', W, own_Ar.set ⟨cl, A, r1, r2, r3, r4⟩ W, st⟩
theorem own_newR (X : Stand p l e R s m args below meth c T locs cells slots) (hx : p.tables.exec = Jvm.exec) (hZ : Z.Warmed39 s.vm) {own C : String} {index : Nat} (hown : s.vm.findClass own = some m.cls) (w1 : (Cond.classLink own index C).before a0 Z = true) (w2 : (Cond.arrayOver (.object C)).before a0 Z = true)
    (eT : T.heap = h) {g : JFrame} (hg : g.method = m) (hd : decode c.code g.pc = .ok (.anewarray index, 3)) {z : Int32} {rest : List Value} (hs : g.stack = .int z :: rest) (hz : ¬ z < 0) (hzn : z.toNatClampNeg = n) {cap : Nat} (hcap : n ≤ cap) (hb : cap * 8 ≤ 536870912) (hc : cells + 1 ≤ R.cells) (hl : slots + cap ≤ R.slots) :
    ∃ T' h' k, Stand p l e R s m args below meth c T' locs (cells + 1) (slots + cap) ∧ T'.heap = h' ∧ Ext h h' ∧ own_Ar Z h' h.size k (.object C) n (fun _ => .null) ∧ Ovr Z k C ∧
      ∀ target, Steps p.tables e below (T'.setTop { g with pc := g.pc + 3, stack := .ref h.size :: rest }) target → Steps p.tables e below (T.setTop g) target := by
  obtain ⟨T', h', cA, X', e', E, A, O, st⟩ := newR X hx hZ hown w1 w2 eT hg hd hs hz (cap := cap) (by rw [hzn]; exact hcap) hb hc hl
  refine ⟨T', h', cA, X', e', E, ⟨_, A, rfl, (sz_new _ _ _).trans hzn, by omega, fun i hi => ?_⟩, O, st⟩
  have hs : i < z.toNatClampNeg := by rw [hzn]; exact hi
  simp [newA, hs, defaultValue]
theorem own_Ar.sto {C : String} {y : Addr} (F : own_Ar Z h a k ty n f) (O : Ovr Z k C) (I : Ins Z h y C true) : Sto Z h a (.ref y) := by
  obtain ⟨cl, A, r1, -⟩ := F
  exact Sto.of A (r1 ▸ O) I
end OwnArrays
theorem pnn_1 : plainName "com/example/disarray/disarray/Latencies" = true := by first | (simp [plainName, overriddenIn]; done) | decide +kernel
theorem pn_1 : plainFor (⟨"com/example/disarray/disarray/Latencies", "<init>", "(Z)V"⟩ : MethodName) = true := plainFor_of_name pnn_1
theorem d1_0 : decode prog_29_method_1_code 0 = .ok (.aload_n 0, 1) := by decide +kernel
theorem d1_1 : decode prog_29_method_1_code 1 = .ok (.invokespecial 7, 3) := by decide +kernel
theorem d1_4 : decode prog_29_method_1_code 4 = .ok (.aload_n 0, 1) := by decide +kernel
theorem d1_5 : decode prog_29_method_1_code 5 = .ok (.iconst 1, 1) := by decide +kernel
theorem d1_6 : decode prog_29_method_1_code 6 = .ok (.anewarray 13, 3) := by decide +kernel
theorem d1_9 : decode prog_29_method_1_code 9 = .ok (.putfield 15, 3) := by decide +kernel
theorem d1_12 : decode prog_29_method_1_code 12 = .ok (.aload_n 0, 1) := by decide +kernel
theorem d1_13 : decode prog_29_method_1_code 13 = .ok (.iconst 1, 1) := by decide +kernel
theorem d1_14 : decode prog_29_method_1_code 14 = .ok (.anewarray 13, 3) := by decide +kernel
theorem d1_17 : decode prog_29_method_1_code 17 = .ok (.putfield 19, 3) := by decide +kernel
theorem d1_20 : decode prog_29_method_1_code 20 = .ok (.iload_n 1, 1) := by decide +kernel
theorem d1_21 : decode prog_29_method_1_code 21 = .ok (.ifCond .eq 19, 3) := by decide +kernel
theorem d1_40 : decode prog_29_method_1_code 40 = .ok (.return_, 1) := by decide +kernel
theorem pnn_5 : plainName "com/example/disarray/disarray/Latencies" = true := by first | (simp [plainName, overriddenIn]; done) | decide +kernel
theorem pn_5 : plainFor (⟨"com/example/disarray/disarray/Latencies", "withRoomFor", "([Ljava/lang/Object;I)[Ljava/lang/Object;"⟩ : MethodName) = true := plainFor_of_name pnn_5
theorem d5_0 : decode prog_29_method_5_code 0 = .ok (.iload_n 1, 1) := by decide +kernel
theorem d5_1 : decode prog_29_method_5_code 1 = .ok (.aload_n 0, 1) := by decide +kernel
theorem d5_2 : decode prog_29_method_5_code 2 = .ok (.arraylength, 1) := by decide +kernel
theorem d5_3 : decode prog_29_method_5_code 3 = .ok (.if_icmp .ge 7, 3) := by decide +kernel
theorem d5_6 : decode prog_29_method_5_code 6 = .ok (.aload_n 0, 1) := by decide +kernel
theorem d5_7 : decode prog_29_method_5_code 7 = .ok (.goto 11, 3) := by decide +kernel
theorem d5_18 : decode prog_29_method_5_code 18 = .ok (.areturn, 1) := by decide +kernel
theorem pnn_4 : plainName "com/example/disarray/disarray/Latencies" = true := by first | (simp [plainName, overriddenIn]; done) | decide +kernel
theorem pn_4 : plainFor (⟨"com/example/disarray/disarray/Latencies", "addBlock", "(I)V"⟩ : MethodName) = true := plainFor_of_name pnn_4
theorem d4_0 : decode prog_29_method_3_code 0 = .ok (.sipush 4094, 3) := by decide +kernel
theorem d4_3 : decode prog_29_method_3_code 3 = .ok (.newarray .long, 2) := by decide +kernel
theorem d4_5 : decode prog_29_method_3_code 5 = .ok (.astore_n 2, 1) := by decide +kernel
theorem d4_6 : decode prog_29_method_3_code 6 = .ok (.sipush 4094, 3) := by decide +kernel
theorem d4_9 : decode prog_29_method_3_code 9 = .ok (.newarray .long, 2) := by decide +kernel
theorem d4_11 : decode prog_29_method_3_code 11 = .ok (.astore_n 3, 1) := by decide +kernel
theorem d4_12 : decode prog_29_method_3_code 12 = .ok (.aload_n 0, 1) := by decide +kernel
theorem d4_13 : decode prog_29_method_3_code 13 = .ok (.getfield 30, 3) := by decide +kernel
theorem d4_16 : decode prog_29_method_3_code 16 = .ok (.ifnonnull 7, 3) := by decide +kernel
theorem d4_19 : decode prog_29_method_3_code 19 = .ok (.aconst_null, 1) := by decide +kernel
theorem d4_20 : decode prog_29_method_3_code 20 = .ok (.goto 8, 3) := by decide +kernel
theorem d4_28 : decode prog_29_method_3_code 28 = .ok (.astore 4, 2) := by decide +kernel
theorem d4_30 : decode prog_29_method_3_code 30 = .ok (.aload_n 0, 1) := by decide +kernel
theorem d4_31 : decode prog_29_method_3_code 31 = .ok (.getfield 15, 3) := by decide +kernel
theorem d4_34 : decode prog_29_method_3_code 34 = .ok (.iload_n 1, 1) := by decide +kernel
theorem pd_0 : parseMethodDescriptor "([Ljava/lang/Object;I)[Ljava/lang/Object;" = some ⟨[(.array (.object "java/lang/Object")), .int], some (.array (.object "java/lang/Object"))⟩ := by decide +kernel
theorem d4_35 : decode prog_29_method_3_code 35 = .ok (.invokestatic 61, 3) := by decide +kernel
theorem d4_38 : decode prog_29_method_3_code 38 = .ok (.checkcast 65, 3) := by decide +kernel
theorem d4_41 : decode prog_29_method_3_code 41 = .ok (.astore 5, 2) := by decide +kernel
theorem d4_43 : decode prog_29_method_3_code 43 = .ok (.aload_n 0, 1) := by decide +kernel
theorem d4_44 : decode prog_29_method_3_code 44 = .ok (.getfield 19, 3) := by decide +kernel
theorem d4_47 : decode prog_29_method_3_code 47 = .ok (.iload_n 1, 1) := by decide +kernel
theorem d4_48 : decode prog_29_method_3_code 48 = .ok (.invokestatic 61, 3) := by decide +kernel
theorem d4_51 : decode prog_29_method_3_code 51 = .ok (.checkcast 65, 3) := by decide +kernel
theorem d4_54 : decode prog_29_method_3_code 54 = .ok (.astore 6, 2) := by decide +kernel
theorem d4_56 : decode prog_29_method_3_code 56 = .ok (.aload 4, 2) := by decide +kernel
theorem d4_58 : decode prog_29_method_3_code 58 = .ok (.ifnonnull 7, 3) := by decide +kernel
theorem d4_61 : decode prog_29_method_3_code 61 = .ok (.aconst_null, 1) := by decide +kernel
theorem d4_62 : decode prog_29_method_3_code 62 = .ok (.goto 14, 3) := by decide +kernel
theorem d4_76 : decode prog_29_method_3_code 76 = .ok (.astore 7, 2) := by decide +kernel
theorem d4_78 : decode prog_29_method_3_code 78 = .ok (.aload_n 0, 1) := by decide +kernel
theorem d4_79 : decode prog_29_method_3_code 79 = .ok (.aload 5, 2) := by decide +kernel
theorem d4_81 : decode prog_29_method_3_code 81 = .ok (.putfield 15, 3) := by decide +kernel
theorem d4_84 : decode prog_29_method_3_code 84 = .ok (.aload_n 0, 1) := by decide +kernel
theorem d4_85 : decode prog_29_method_3_code 85 = .ok (.getfield 15, 3) := by decide +kernel
theorem d4_88 : decode prog_29_method_3_code 88 = .ok (.iload_n 1, 1) := by decide +kernel
theorem d4_89 : decode prog_29_method_3_code 89 = .ok (.aload_n 2, 1) := by decide +kernel
theorem d4_90 : decode prog_29_method_3_code 90 = .ok (.aastore, 1) := by decide +kernel
theorem d4_91 : decode prog_29_method_3_code 91 = .ok (.aload_n 0, 1) := by decide +kernel
theorem d4_92 : decode prog_29_method_3_code 92 = .ok (.aload 6, 2) := by decide +kernel
theorem d4_94 : decode prog_29_method_3_code 94 = .ok (.putfield 19, 3) := by decide +kernel
theorem d4_97 : decode prog_29_method_3_code 97 = .ok (.aload_n 0, 1) := by decide +kernel
theorem d4_98 : decode prog_29_method_3_code 98 = .ok (.getfield 19, 3) := by decide +kernel
theorem d4_101 : decode prog_29_method_3_code 101 = .ok (.iload_n 1, 1) := by decide +kernel
theorem d4_102 : decode prog_29_method_3_code 102 = .ok (.aload_n 3, 1) := by decide +kernel
theorem d4_103 : decode prog_29_method_3_code 103 = .ok (.aastore, 1) := by decide +kernel
theorem d4_104 : decode prog_29_method_3_code 104 = .ok (.aload 4, 2) := by decide +kernel
theorem d4_106 : decode prog_29_method_3_code 106 = .ok (.ifnull 17, 3) := by decide +kernel
theorem d4_123 : decode prog_29_method_3_code 123 = .ok (.return_, 1) := by decide +kernel
theorem pnn_3 : plainName "com/example/disarray/disarray/Latencies" = true := by first | (simp [plainName, overriddenIn]; done) | decide +kernel
theorem pn_3 : plainFor (⟨"com/example/disarray/disarray/Latencies", "add", "(JJLjava/nio/ByteBuffer;)V"⟩ : MethodName) = true := plainFor_of_name pnn_3
theorem d3_0 : decode prog_29_method_2_code 0 = .ok (.aload_n 0, 1) := by decide +kernel
theorem d3_1 : decode prog_29_method_2_code 1 = .ok (.getfield 34, 3) := by decide +kernel
theorem d3_4 : decode prog_29_method_2_code 4 = .ok (.ldc 38, 2) := by decide +kernel
theorem d3_6 : decode prog_29_method_2_code 6 = .ok (.if_icmp .ne 13, 3) := by decide +kernel
theorem d3_19 : decode prog_29_method_2_code 19 = .ok (.aload_n 0, 1) := by decide +kernel
theorem d3_20 : decode prog_29_method_2_code 20 = .ok (.getfield 34, 3) := by decide +kernel
theorem d3_23 : decode prog_29_method_2_code 23 = .ok (.sipush 4094, 3) := by decide +kernel
theorem d3_26 : decode prog_29_method_2_code 26 = .ok (.idiv, 1) := by decide +kernel
theorem d3_27 : decode prog_29_method_2_code 27 = .ok (.istore 6, 2) := by decide +kernel
theorem d3_29 : decode prog_29_method_2_code 29 = .ok (.aload_n 0, 1) := by decide +kernel
theorem d3_30 : decode prog_29_method_2_code 30 = .ok (.getfield 34, 3) := by decide +kernel
theorem d3_33 : decode prog_29_method_2_code 33 = .ok (.sipush 4094, 3) := by decide +kernel
theorem d3_36 : decode prog_29_method_2_code 36 = .ok (.irem, 1) := by decide +kernel
theorem d3_37 : decode prog_29_method_2_code 37 = .ok (.istore 7, 2) := by decide +kernel
theorem d3_39 : decode prog_29_method_2_code 39 = .ok (.iload 7, 2) := by decide +kernel
theorem d3_41 : decode prog_29_method_2_code 41 = .ok (.ifCond .ne 9, 3) := by decide +kernel
theorem d3_44 : decode prog_29_method_2_code 44 = .ok (.aload_n 0, 1) := by decide +kernel
theorem d3_45 : decode prog_29_method_2_code 45 = .ok (.iload 6, 2) := by decide +kernel
theorem pd_1 : parseMethodDescriptor "(I)V" = some ⟨[.int], none⟩ := by decide +kernel
theorem d3_47 : decode prog_29_method_2_code 47 = .ok (.invokevirtual 46, 3) := by decide +kernel
theorem d3_50 : decode prog_29_method_2_code 50 = .ok (.aload_n 0, 1) := by decide +kernel
theorem d3_51 : decode prog_29_method_2_code 51 = .ok (.getfield 24, 3) := by decide +kernel
theorem d3_54 : decode prog_29_method_2_code 54 = .ok (.ifnull 27, 3) := by decide +kernel
theorem d3_81 : decode prog_29_method_2_code 81 = .ok (.aload_n 0, 1) := by decide +kernel
theorem d3_82 : decode prog_29_method_2_code 82 = .ok (.getfield 15, 3) := by decide +kernel
theorem d3_85 : decode prog_29_method_2_code 85 = .ok (.iload 6, 2) := by decide +kernel
theorem d3_87 : decode prog_29_method_2_code 87 = .ok (.aaload, 1) := by decide +kernel
theorem d3_88 : decode prog_29_method_2_code 88 = .ok (.iload 7, 2) := by decide +kernel
theorem d3_90 : decode prog_29_method_2_code 90 = .ok (.lload_n 1, 1) := by decide +kernel
theorem d3_91 : decode prog_29_method_2_code 91 = .ok (.lastore, 1) := by decide +kernel
theorem d3_92 : decode prog_29_method_2_code 92 = .ok (.aload_n 0, 1) := by decide +kernel
theorem d3_93 : decode prog_29_method_2_code 93 = .ok (.getfield 19, 3) := by decide +kernel
theorem d3_96 : decode prog_29_method_2_code 96 = .ok (.iload 6, 2) := by decide +kernel
theorem d3_98 : decode prog_29_method_2_code 98 = .ok (.aaload, 1) := by decide +kernel
theorem d3_99 : decode prog_29_method_2_code 99 = .ok (.iload 7, 2) := by decide +kernel
theorem d3_101 : decode prog_29_method_2_code 101 = .ok (.lload_n 3, 1) := by decide +kernel
theorem d3_102 : decode prog_29_method_2_code 102 = .ok (.lastore, 1) := by decide +kernel
theorem d3_103 : decode prog_29_method_2_code 103 = .ok (.aload_n 0, 1) := by decide +kernel
theorem d3_104 : decode prog_29_method_2_code 104 = .ok (.dup, 1) := by decide +kernel
theorem d3_105 : decode prog_29_method_2_code 105 = .ok (.getfield 34, 3) := by decide +kernel
theorem d3_108 : decode prog_29_method_2_code 108 = .ok (.iconst 1, 1) := by decide +kernel
theorem d3_109 : decode prog_29_method_2_code 109 = .ok (.iadd, 1) := by decide +kernel
theorem d3_110 : decode prog_29_method_2_code 110 = .ok (.putfield 34, 3) := by decide +kernel
theorem d3_113 : decode prog_29_method_2_code 113 = .ok (.aload_n 0, 1) := by decide +kernel
theorem d3_114 : decode prog_29_method_2_code 114 = .ok (.aconst_null, 1) := by decide +kernel
theorem d3_115 : decode prog_29_method_2_code 115 = .ok (.putfield 58, 3) := by decide +kernel
theorem d3_118 : decode prog_29_method_2_code 118 = .ok (.return_, 1) := by decide +kernel
theorem pnn_6 : plainName "com/example/disarray/disarray/Latencies" = true := by first | (simp [plainName, overriddenIn]; done) | decide +kernel
theorem pn_6 : plainFor (⟨"com/example/disarray/disarray/Latencies", "arrival", "(I)J"⟩ : MethodName) = true := plainFor_of_name pnn_6
theorem d6_0 : decode prog_29_method_7_code 0 = .ok (.aload_n 0, 1) := by decide +kernel
theorem d6_1 : decode prog_29_method_7_code 1 = .ok (.getfield 15, 3) := by decide +kernel
theorem d6_4 : decode prog_29_method_7_code 4 = .ok (.iload_n 1, 1) := by decide +kernel
theorem d6_5 : decode prog_29_method_7_code 5 = .ok (.sipush 4094, 3) := by decide +kernel
theorem d6_8 : decode prog_29_method_7_code 8 = .ok (.idiv, 1) := by decide +kernel
theorem d6_9 : decode prog_29_method_7_code 9 = .ok (.aaload, 1) := by decide +kernel
theorem d6_10 : decode prog_29_method_7_code 10 = .ok (.iload_n 1, 1) := by decide +kernel
theorem d6_11 : decode prog_29_method_7_code 11 = .ok (.sipush 4094, 3) := by decide +kernel
theorem d6_14 : decode prog_29_method_7_code 14 = .ok (.irem, 1) := by decide +kernel
theorem d6_15 : decode prog_29_method_7_code 15 = .ok (.laload, 1) := by decide +kernel
theorem d6_16 : decode prog_29_method_7_code 16 = .ok (.lreturn, 1) := by decide +kernel
theorem pnn_0 : plainName "com/example/disarray/disarray/LatenciesArrivalPinLaw" = true := by first | (simp [plainName, overriddenIn]; done) | decide +kernel
theorem pn_0 : plainFor (⟨"com/example/disarray/disarray/LatenciesArrivalPinLaw", "law", "(JJJJJI)Z"⟩ : MethodName) = true := plainFor_of_name pnn_0
theorem pd_2 : parseMethodDescriptor "(Z)V" = some ⟨[.boolean], none⟩ := by decide +kernel
theorem pd_3 : parseMethodDescriptor "(JJLjava/nio/ByteBuffer;)V" = some ⟨[.long, .long, (.object "java/nio/ByteBuffer")], none⟩ := by decide +kernel
theorem pd_4 : parseMethodDescriptor "(I)J" = some ⟨[.int], some .long⟩ := by decide +kernel
section OwnArr2
variable {p : Program} {l : Launch} {e : Env} {R : Room} {s : State} {m : MethodId} {args : Array Value} {below : List Frame} {meth : Method} {c : Code} {T : State} {locs : List Loc} {cells slots : Nat} {Z : State} {a0 : Array Value} {h h' : Heap} {a b : Addr} {k : ClassId} {ty t0 : FieldType} {n : Nat} {f : Nat → Value}
theorem own_newPE (X : Stand p l e R s m args below meth c T locs cells slots) (hx : p.tables.exec = Jvm.exec) (hZ : Z.Warmed39 s.vm) {aty : ArrayType} (w : (Cond.arrayClass (newarray.typeOf aty)).before a0 Z = true) (eT : T.heap = h) {g : JFrame} (hg : g.method = m) (hd : decode c.code g.pc = .ok (.newarray aty, 2)) {z : Int32} {rest : List Value} (hs : g.stack = .int z :: rest)
    (hz : ¬ z < 0) (hzn : z.toNatClampNeg = n) {cap : Nat} (hcap : n ≤ cap) (hb : cap * 8 ≤ 536870912) (hc : cells + 1 ≤ R.cells) (hl : slots + cap ≤ R.slots) {ad : String} (had : "[" ++ (newarray.typeOf aty).toString = ad) :
    ∃ T' h' k, Stand p l e R s m args below meth c T' locs (cells + 1) (slots + cap) ∧ T'.heap = h' ∧ Ext h h' ∧ own_Ar Z h' h.size k (newarray.typeOf aty) n (fun _ => defaultValue (newarray.typeOf aty)) ∧ Exa Z h' h.size ad ∧
      ∀ target, Steps p.tables e below (T'.setTop { g with pc := g.pc + 2, stack := .ref h.size :: rest }) target → Steps p.tables e below (T.setTop g) target := by
  obtain ⟨T', h', cA, X', e', E, A, Q, st⟩ := newPE X hx hZ w eT hg hd hs hz (cap := cap) (by rw [hzn]; exact hcap) hb hc hl had
  refine ⟨T', h', cA, X', e', E, ⟨_, A, rfl, (sz_new _ _ _).trans hzn, by omega, fun i hi => ?_⟩, Q, st⟩
  have hs : i < z.toNatClampNeg := by rw [hzn]; exact hi
  simp [newA, hs, defaultValue]
theorem own_newRA (X : Stand p l e R s m args below meth c T locs cells slots) (hx : p.tables.exec = Jvm.exec) (hZ : Z.Warmed39 s.vm) {own C : String} {index : Nat} (hown : s.vm.findClass own = some m.cls) (hC : (FieldType.array ty).toString = C) (w1 : (Cond.classLink own index C).before a0 Z = true) (w2 : (Cond.arrayOver (.array ty)).before a0 Z = true)
    (eT : T.heap = h) {g : JFrame} (hg : g.method = m) (hd : decode c.code g.pc = .ok (.anewarray index, 3)) {z : Int32} {rest : List Value} (hs : g.stack = .int z :: rest) (hz : ¬ z < 0) (hzn : z.toNatClampNeg = n) {cap : Nat} (hcap : n ≤ cap) (hb : cap * 8 ≤ 536870912) (hc : cells + 1 ≤ R.cells) (hl : slots + cap ≤ R.slots) {ad : String} (had : "[" ++ C = ad) :
    ∃ T' h' k, Stand p l e R s m args below meth c T' locs (cells + 1) (slots + cap) ∧ T'.heap = h' ∧ Ext h h' ∧ own_Ar Z h' h.size k (.array ty) n (fun _ => .null) ∧ Exa Z h' h.size ad ∧ OvrA Z k ty C ∧
      ∀ target, Steps p.tables e below (T'.setTop { g with pc := g.pc + 3, stack := .ref h.size :: rest }) target → Steps p.tables e below (T.setTop g) target := by
  obtain ⟨T', h', cA, X', e', E, A, Q, O, st⟩ := newRA X hx hZ hown hC w1 w2 eT hg hd hs hz (cap := cap) (by rw [hzn]; exact hcap) hb hc hl had
  refine ⟨T', h', cA, X', e', E, ⟨_, A, rfl, (sz_new _ _ _).trans hzn, by omega, fun i hi => ?_⟩, Q, O, st⟩
  have hs : i < z.toNatClampNeg := by rw [hzn]; exact hi
  simp [newA, hs, defaultValue]
theorem own_Ar.stoA {C : String} {y : Addr} (F : own_Ar Z h a k t0 n f) (O : OvrA Z k ty C) (I : Ins Z h y C true) : Sto Z h a (.ref y) := by
  obtain ⟨cl, A, r1, -⟩ := F
  exact Sto.ofVA A r1 O I
end OwnArr2

set_option maxRecDepth 65536 in
set_option maxHeartbeats 40000000 in
theorem rm1 (l : Launch) (Z : State) (a0 : Array Value) (hw : ∀ d ∈ tables_1, d.before a0 Z = true) (o0 : Addr) (p1 : Int32) (h0 : Heap) (n0 : Nat) (Z0 : n0 ≤ h0.size) (E : Exa Z h0 o0 "com/example/disarray/disarray/Latencies") (F0 : Fld Z h0 o0 "com/example/disarray/disarray/Latencies" "arrivals" "[[J" .null) (F1 : Fld Z h0 o0 "com/example/disarray/disarray/Latencies" "nanos" "[[J" .null) (F2 : Fld Z h0 o0 "com/example/disarray/disarray/Latencies" "eventTimes" "[[B" .null) (F3 : Fld Z h0 o0 "com/example/disarray/disarray/Latencies" "eventTimeEnds" "[[I" .null) (F4 : Fld Z h0 o0 "com/example/disarray/disarray/Latencies" "count" "I" (.int (0 : Int32))) (F5 : Fld Z h0 o0 "com/example/disarray/disarray/Latencies" "figures" "[J" .null) (g : n0 ≤ o0) (hp : p1 = 0) :
    own_C l (⟨"com/example/disarray/disarray/Latencies", "<init>", "(Z)V"⟩ : MethodName) prog_29_method_1_code 2 none ({ frames := 1, cells := 2, slots := 2, locals := 12 } : Room) Z #[(.ref o0), (.int p1)] h0 (fun v h L => ∃ (aa na : Addr) (ka kn : ClassId), v = none ∧ Fr n0 L ∧ Keep h0 h [o0] ∧ Exa Z h o0 "com/example/disarray/disarray/Latencies" ∧ Fld Z h o0 "com/example/disarray/disarray/Latencies" "arrivals" "[[J" (.ref aa) ∧ Fld Z h o0 "com/example/disarray/disarray/Latencies" "nanos" "[[J" (.ref na) ∧ Fld Z h o0 "com/example/disarray/disarray/Latencies" "eventTimes" "[[B" .null ∧ Fld Z h o0 "com/example/disarray/disarray/Latencies" "eventTimeEnds" "[[I" .null ∧ Fld Z h o0 "com/example/disarray/disarray/Latencies" "count" "I" (.int (0 : Int32)) ∧ Fld Z h o0 "com/example/disarray/disarray/Latencies" "figures" "[J" .null ∧ own_Ar Z h aa ka (.array .long) 1 (fun _ => .null) ∧ own_Ar Z h na kn (.array .long) 1 (fun _ => .null) ∧ Exa Z h aa "[[J" ∧ Exa Z h na "[[J" ∧ OvrA Z ka .long "[J" ∧ OvrA Z kn .long "[J" ∧ h0.size ≤ aa ∧ h0.size ≤ na ∧ aa ≠ na) := by
  refine own_enter pn_1 ?_
  intro p e s m below meth c s₁ X0 hx hby hml hown hnm hret hlk hZ e0
  replace hown : s.vm.findClass "com/example/disarray/disarray/Latencies" = some m.cls := hown
  have ef : entryFrame m #[(.ref o0), (.int p1)] 2 = mkF m 0 #[.val (.ref o0), .val (.int p1)] [] := by first | rfl | (simp [entryFrame, mkF, argsToLocals, Value.category, maxLocals]; done)
  refine own_cast ef ?_
  show own_Ends _ _ _ _ _ _ _ s₁ (mkF m 0 #[.val (.ref o0), .val (.int p1)] [])
  subst hp
  show own_Ends _ _ _ _ _ _ _ s₁ (mkF m 0 #[.val (.ref o0), .val (.int (0 : Int32))] [])
  have N0 := Fr.nil n0
  have K0 : Keep h0 h0 [o0] := Keep.refl _ _
  refine own_go (fun _ k => XS.aloadN X0.here hx rfl (hb hby d1_0) rfl rfl k) ?_
  show own_Ends _ _ _ _ _ _ _ s₁ (mkF m 1 #[.val (.ref o0), .val (.int (0 : Int32))] [(.ref o0)])
  obtain ⟨T1, X1, e1, st1⟩ := initO X0 hx hZ hown (hw _ (List.mem_of_getElem? (i := 6) rfl)) (hw _ (List.mem_of_getElem? (i := 7) rfl)) (hw _ (List.mem_of_getElem? (i := 8) rfl)) e0 (g := (mkF m 1 #[.val (.ref o0), .val (.int (0 : Int32))] [(.ref o0)])) rfl (by rw [hml]; rfl) rfl (hb hby d1_1) (by decide) (W := 0) (by show 2 * 0 + _ ≤ _; exact Nat.le_of_eq rfl) (by decide)
  refine own_go st1 ?_
  show own_Ends _ _ _ _ _ _ _ T1 (mkF m 4 #[.val (.ref o0), .val (.int (0 : Int32))] [])
  refine own_go (fun _ k => XS.aloadN X1.here hx rfl (hb hby d1_4) rfl rfl k) ?_
  show own_Ends _ _ _ _ _ _ _ T1 (mkF m 5 #[.val (.ref o0), .val (.int (0 : Int32))] [(.ref o0)])
  refine own_go (fun _ k => XS.iconst X1.here hx rfl (hb hby d1_5) k) ?_
  show own_Ends _ _ _ _ _ _ _ T1 (mkF m 6 #[.val (.ref o0), .val (.int (0 : Int32))] [(.int (1 : Int32)), (.ref o0)])
  obtain ⟨T2, h2, k2, X2, e2, E2, A2, Q2, O2, st2⟩ := own_newRA X1 hx hZ hown (ty := .long) (by decide) (hw _ (List.mem_of_getElem? (i := 9) rfl)) (hw _ (List.mem_of_getElem? (i := 10) rfl)) e1 (g := (mkF m 6 #[.val (.ref o0), .val (.int (0 : Int32))] [(.int (1 : Int32)), (.ref o0)])) rfl (hb hby d1_6) rfl (by decide) (n := 1) (by decide) (cap := 1) (by decide) (by decide) (by decide) (by decide) (ad := "[[J") (by decide)
  obtain ⟨aa, gq2⟩ : ∃ z, z = h0.size := ⟨_, rfl⟩
  rw [← gq2] at A2 Q2 st2
  have ne_o0_aa : o0 ≠ aa := Nat.ne_of_lt (Nat.lt_of_lt_of_le E.lt (Nat.le_of_eq gq2.symm))
  have sz_aa : h0.size ≤ aa := Nat.le_trans K0.1 (Nat.le_of_eq gq2.symm)
  have g_aa : n0 ≤ aa := Nat.le_trans Z0 sz_aa
  have K_2 := K0.ext E2
  have E_o0_2 := E.ext E2
  have F_o0_arrivals_2 := F0.ext E2
  have F_o0_nanos_2 := F1.ext E2
  have F_o0_eventTimes_2 := F2.ext E2
  have F_o0_eventTimeEnds_2 := F3.ext E2
  have F_o0_count_2 := F4.ext E2
  have F_o0_figures_2 := F5.ext E2
  refine own_go st2 ?_
  show own_Ends _ _ _ _ _ _ _ T2 (mkF m 9 #[.val (.ref o0), .val (.int (0 : Int32))] [(.ref aa), (.ref o0)])
  obtain ⟨T3, h3, X3, e3, W3, st3⟩ := putF X2 hx hZ hown (host := "") (Or.inl (hw _ (List.mem_of_getElem? (i := 11) rfl))) Via.refl e2 F_o0_arrivals_2 E_o0_2 (Or.inl (hw _ (List.mem_of_getElem? (i := 12) rfl))) (hw _ (List.mem_of_getElem? (i := 1) rfl)) (ty := (.array (.array .long))) (by decide) rfl rfl (g := (mkF m 9 #[.val (.ref o0), .val (.int (0 : Int32))] [(.ref aa), (.ref o0)])) rfl rfl (hb hby d1_9)
  have N3 := Fr.snoc X3 N0 g
  have K_3 := K_2.wr W3 (Or.inl (List.mem_of_getElem? (i := 0) rfl))
  have E_o0_3 := E_o0_2.wr W3
  have F_o0_arrivals_3 := F_o0_arrivals_2.same W3
  have F_o0_nanos_3 := F_o0_nanos_2.other W3 (Or.inr (slot_ne (Or.inl (hw _ (List.mem_of_getElem? (i := 14) rfl))) (Or.inl (hw _ (List.mem_of_getElem? (i := 12) rfl))) (by decide) (t := (.array (.array .long))) (t' := (.array (.array .long))) (by decide) (by decide)))
  have F_o0_eventTimes_3 := F_o0_eventTimes_2.other W3 (Or.inr (slot_ne (Or.inl (hw _ (List.mem_of_getElem? (i := 37) rfl))) (Or.inl (hw _ (List.mem_of_getElem? (i := 12) rfl))) (by decide) (t := (.array (.array .byte))) (t' := (.array (.array .long))) (by decide) (by decide)))
  have F_o0_eventTimeEnds_3 := F_o0_eventTimeEnds_2.other W3 (Or.inr (slot_ne (Or.inl (hw _ (List.mem_of_getElem? (i := 29) rfl))) (Or.inl (hw _ (List.mem_of_getElem? (i := 12) rfl))) (by decide) (t := (.array (.array .int))) (t' := (.array (.array .long))) (by decide) (by decide)))
  have F_o0_count_3 := F_o0_count_2.other W3 (Or.inr (slot_ne (Or.inl (hw _ (List.mem_of_getElem? (i := 21) rfl))) (Or.inl (hw _ (List.mem_of_getElem? (i := 12) rfl))) (by decide) (t := .int) (t' := (.array (.array .long))) (by decide) (by decide)))
  have F_o0_figures_3 := F_o0_figures_2.other W3 (Or.inr (slot_ne (Or.inl (hw _ (List.mem_of_getElem? (i := 39) rfl))) (Or.inl (hw _ (List.mem_of_getElem? (i := 12) rfl))) (by decide) (t := (.array .long)) (t' := (.array (.array .long))) (by decide) (by decide)))
  have V_aa_3 := A2.other W3 (Ne.symm ne_o0_aa)
  have E_aa_3 := Q2.wr W3
  refine own_go st3 ?_
  show own_Ends _ _ _ _ _ _ _ T3 (mkF m 12 #[.val (.ref o0), .val (.int (0 : Int32))] [])
  refine own_go (fun _ k => XS.aloadN X3.here hx rfl (hb hby d1_12) rfl rfl k) ?_
  show own_Ends _ _ _ _ _ _ _ T3 (mkF m 13 #[.val (.ref o0), .val (.int (0 : Int32))] [(.ref o0)])
  refine own_go (fun _ k => XS.iconst X3.here hx rfl (hb hby d1_13) k) ?_
  show own_Ends _ _ _ _ _ _ _ T3 (mkF m 14 #[.val (.ref o0), .val (.int (0 : Int32))] [(.int (1 : Int32)), (.ref o0)])
  obtain ⟨T4, h4, k4, X4, e4, E4, A4, Q4, O4, st4⟩ := own_newRA X3 hx hZ hown (ty := .long) (by decide) (hw _ (List.mem_of_getElem? (i := 9) rfl)) (hw _ (List.mem_of_getElem? (i := 10) rfl)) e3 (g := (mkF m 14 #[.val (.ref o0), .val (.int (0 : Int32))] [(.int (1 : Int32)), (.ref o0)])) rfl (hb hby d1_14) rfl (by decide) (n := 1) (by decide) (cap := 1) (by decide) (by decide) (by decide) (by decide) (ad := "[[J") (by decide)
  obtain ⟨na, gq4⟩ : ∃ z, z = h3.size := ⟨_, rfl⟩
  rw [← gq4] at A4 Q4 st4
  have ne_o0_na : o0 ≠ na := Nat.ne_of_lt (Nat.lt_of_lt_of_le E_o0_3.lt (Nat.le_of_eq gq4.symm))
  have ne_aa_na : aa ≠ na := Nat.ne_of_lt (Nat.lt_of_lt_of_le V_aa_3.lt (Nat.le_of_eq gq4.symm))
  have sz_na : h0.size ≤ na := Nat.le_trans K_3.1 (Nat.le_of_eq gq4.symm)
  have g_na : n0 ≤ na := Nat.le_trans Z0 sz_na
  have K_4 := K_3.ext E4
  have E_o0_4 := E_o0_3.ext E4
  have F_o0_arrivals_4 := F_o0_arrivals_3.ext E4
  have F_o0_nanos_4 := F_o0_nanos_3.ext E4
  have F_o0_eventTimes_4 := F_o0_eventTimes_3.ext E4
  have F_o0_eventTimeEnds_4 := F_o0_eventTimeEnds_3.ext E4
  have F_o0_count_4 := F_o0_count_3.ext E4
  have F_o0_figures_4 := F_o0_figures_3.ext E4
  have V_aa_4 := V_aa_3.ext E4
  have E_aa_4 := E_aa_3.ext E4
  refine own_go st4 ?_
  show own_Ends _ _ _ _ _ _ _ T4 (mkF m 17 #[.val (.ref o0), .val (.int (0 : Int32))] [(.ref na), (.ref o0)])
  obtain ⟨T5, h5, X5, e5, W5, st5⟩ := putF X4 hx hZ hown (host := "") (Or.inl (hw _ (List.mem_of_getElem? (i := 13) rfl))) Via.refl e4 F_o0_nanos_4 E_o0_4 (Or.inl (hw _ (List.mem_of_getElem? (i := 14) rfl))) (hw _ (List.mem_of_getElem? (i := 1) rfl)) (ty := (.array (.array .long))) (by decide) rfl rfl (g := (mkF m 17 #[.val (.ref o0), .val (.int (0 : Int32))] [(.ref na), (.ref o0)])) rfl rfl (hb hby d1_17)
  have N5 := Fr.snoc X5 N3 g
  have K_5 := K_4.wr W5 (Or.inl (List.mem_of_getElem? (i := 0) rfl))
  have E_o0_5 := E_o0_4.wr W5
  have F_o0_arrivals_5 := F_o0_arrivals_4.other W5 (Or.inr (slot_ne (Or.inl (hw _ (List.mem_of_getElem? (i := 12) rfl))) (Or.inl (hw _ (List.mem_of_getElem? (i := 14) rfl))) (by decide) (t := (.array (.array .long))) (t' := (.array (.array .long))) (by decide) (by decide)))
  have F_o0_nanos_5 := F_o0_nanos_4.same W5
  have F_o0_eventTimes_5 := F_o0_eventTimes_4.other W5 (Or.inr (slot_ne (Or.inl (hw _ (List.mem_of_getElem? (i := 37) rfl))) (Or.inl (hw _ (List.mem_of_getElem? (i := 14) rfl))) (by decide) (t := (.array (.array .byte))) (t' := (.array (.array .long))) (by decide) (by decide)))
  have F_o0_eventTimeEnds_5 := F_o0_eventTimeEnds_4.other W5 (Or.inr (slot_ne (Or.inl (hw _ (List.mem_of_getElem? (i := 29) rfl))) (Or.inl (hw _ (List.mem_of_getElem? (i := 14) rfl))) (by decide) (t := (.array (.array .int))) (t' := (.array (.array .long))) (by decide) (by decide)))
  have F_o0_count_5 := F_o0_count_4.other W5 (Or.inr (slot_ne (Or.inl (hw _ (List.mem_of_getElem? (i := 21) rfl))) (Or.inl (hw _ (List.mem_of_getElem? (i := 14) rfl))) (by decide) (t := .int) (t' := (.array (.array .long))) (by decide) (by decide)))
  have F_o0_figures_5 := F_o0_figures_4.other W5 (Or.inr (slot_ne (Or.inl (hw _ (List.mem_of_getElem? (i := 39) rfl))) (Or.inl (hw _ (List.mem_of_getElem? (i := 14) rfl))) (by decide) (t := (.array .long)) (t' := (.array (.array .long))) (by decide) (by decide)))
  have V_aa_5 := V_aa_4.other W5 (Ne.symm ne_o0_aa)
  have E_aa_5 := E_aa_4.wr W5
  have V_na_5 := A4.other W5 (Ne.symm ne_o0_na)
  have E_na_5 := Q4.wr W5
  refine own_go st5 ?_
  show own_Ends _ _ _ _ _ _ _ T5 (mkF m 20 #[.val (.ref o0), .val (.int (0 : Int32))] [])
  refine own_go (fun _ k => XS.iloadN X5.here hx rfl (hb hby d1_20) rfl k) ?_
  show own_Ends _ _ _ _ _ _ _ T5 (mkF m 21 #[.val (.ref o0), .val (.int (0 : Int32))] [(.int (0 : Int32))])
  refine own_go (fun _ k => XS.ifYes X5.here hx rfl (pc0 := 21) (pc' := 40) rfl (hb hby d1_21) rfl ((if0 _ _).trans (teq (rfl)).1) (by decide) (by decide) k) ?_
  show own_Ends _ _ _ _ _ _ _ T5 (mkF m 40 #[.val (.ref o0), .val (.int (0 : Int32))] [])
  exact own_retV X5 hx hlk hret (hb hby d1_40) (by decide) (by decide) (by rw [e5]; exact ⟨aa, na, k2, k4, rfl, N5, K_5, E_o0_5, F_o0_arrivals_5, F_o0_nanos_5, F_o0_eventTimes_5, F_o0_eventTimeEnds_5, F_o0_count_5, F_o0_figures_5, V_aa_5, V_na_5, E_aa_5, E_na_5, O2, O4, sz_aa, sz_na, ne_aa_na⟩)
set_option maxRecDepth 65536 in
set_option maxHeartbeats 40000000 in
theorem rm5 (l : Launch) (Z : State) (a0 : Array Value) (hw : ∀ d ∈ tables_1, d.before a0 Z = true) (r0 : Addr) (p1 : Int32) (h0 : Heap) (kc : ClassId) (ty : FieldType) (f : Nat → Value) (A : own_Ar Z h0 r0 kc ty 1 f) (hp : p1 = 0) :
    own_C l (⟨"com/example/disarray/disarray/Latencies", "withRoomFor", "([Ljava/lang/Object;I)[Ljava/lang/Object;"⟩ : MethodName) prog_29_method_5_code 2 (some (.array (.object "java/lang/Object"))) ({ frames := 0, cells := 0, slots := 0, locals := 0 } : Room) Z #[(.ref r0), (.int p1)] h0 (fun v h L => v = some (.ref r0) ∧ L = [] ∧ h = h0) := by
  refine own_enter pn_5 ?_
  intro p e s m below meth c s₁ X0 hx hby hml hown hnm hret hlk hZ e0
  replace hown : s.vm.findClass "com/example/disarray/disarray/Latencies" = some m.cls := hown
  have ef : entryFrame m #[(.ref r0), (.int p1)] 2 = mkF m 0 #[.val (.ref r0), .val (.int p1)] [] := by first | rfl | (simp [entryFrame, mkF, argsToLocals, Value.category, maxLocals]; done)
  refine own_cast ef ?_
  show own_Ends _ _ _ _ _ _ _ s₁ (mkF m 0 #[.val (.ref r0), .val (.int p1)] [])
  subst hp
  show own_Ends _ _ _ _ _ _ _ s₁ (mkF m 0 #[.val (.ref r0), .val (.int (0 : Int32))] [])
  refine own_go (fun _ k => XS.iloadN X0.here hx rfl (hb hby d5_0) rfl k) ?_
  show own_Ends _ _ _ _ _ _ _ s₁ (mkF m 1 #[.val (.ref r0), .val (.int (0 : Int32))] [(.int (0 : Int32))])
  refine own_go (fun _ k => XS.aloadN X0.here hx rfl (hb hby d5_1) rfl rfl k) ?_
  show own_Ends _ _ _ _ _ _ _ s₁ (mkF m 2 #[.val (.ref r0), .val (.int (0 : Int32))] [(.ref r0), (.int (0 : Int32))])
  refine own_go (fun _ k => own_len X0 hx hZ e0 A (z := (1 : Int32)) rfl (g := (mkF m 2 #[.val (.ref r0), .val (.int (0 : Int32))] [(.ref r0), (.int (0 : Int32))])) rfl rfl (hb hby d5_2) _ k) ?_
  show own_Ends _ _ _ _ _ _ _ s₁ (mkF m 3 #[.val (.ref r0), .val (.int (0 : Int32))] [(.int (1 : Int32)), (.int (0 : Int32))])
  refine own_go (fun _ k => XS.icmpNo X0.here hx rfl (hb hby d5_3) rfl (tlt (by decide)).2.1 k) ?_
  show own_Ends _ _ _ _ _ _ _ s₁ (mkF m 6 #[.val (.ref r0), .val (.int (0 : Int32))] [])
  refine own_go (fun _ k => XS.aloadN X0.here hx rfl (hb hby d5_6) rfl rfl k) ?_
  show own_Ends _ _ _ _ _ _ _ s₁ (mkF m 7 #[.val (.ref r0), .val (.int (0 : Int32))] [(.ref r0)])
  refine own_go (fun _ k => XS.goto X0.here hx rfl (pc0 := 7) (pc' := 18) rfl (hb hby d5_7) (by decide) (by decide) k) ?_
  show own_Ends _ _ _ _ _ _ _ s₁ (mkF m 18 #[.val (.ref r0), .val (.int (0 : Int32))] [(.ref r0)])
  exact own_retR X0 hx hlk hret rfl rfl rfl (hb hby d5_18) (by decide) (by decide) ⟨rfl, rfl, e0⟩
set_option maxRecDepth 65536 in
set_option maxHeartbeats 40000000 in
theorem rm4 (l : Launch) (Z : State) (a0 : Array Value) (hw : ∀ d ∈ tables_1, d.before a0 Z = true) (o0 : Addr) (p1 : Int32) (h0 : Heap) (n0 : Nat) (aa : Addr) (na : Addr) (ka : ClassId) (kn : ClassId) (Z0 : n0 ≤ h0.size) (E : Exa Z h0 o0 "com/example/disarray/disarray/Latencies") (F0 : Fld Z h0 o0 "com/example/disarray/disarray/Latencies" "arrivals" "[[J" (.ref aa)) (F1 : Fld Z h0 o0 "com/example/disarray/disarray/Latencies" "nanos" "[[J" (.ref na)) (F2 : Fld Z h0 o0 "com/example/disarray/disarray/Latencies" "eventTimes" "[[B" .null) (F3 : Fld Z h0 o0 "com/example/disarray/disarray/Latencies" "eventTimeEnds" "[[I" .null) (F4 : Fld Z h0 o0 "com/example/disarray/disarray/Latencies" "count" "I" (.int (0 : Int32))) (F5 : Fld Z h0 o0 "com/example/disarray/disarray/Latencies" "figures" "[J" .null) (A : own_Ar Z h0 aa ka (.array .long) 1 (fun _ => .null)) (B : own_Ar Z h0 na kn (.array .long) 1 (fun _ => .null)) (Ea : Exa Z h0 aa "[[J") (En : Exa Z h0 na "[[J") (Oa : OvrA Z ka .long "[J") (On : OvrA Z kn .long "[J") (gg : n0 ≤ o0) (ga : n0 ≤ aa) (gn : n0 ≤ na) (n1 : o0 ≠ aa) (n2 : o0 ≠ na) (n3 : aa ≠ na) (hp : p1 = 0) :
    own_C l (⟨"com/example/disarray/disarray/Latencies", "addBlock", "(I)V"⟩ : MethodName) prog_29_method_3_code 8 none ({ frames := 1, cells := 2, slots := 8188, locals := 40 } : Room) Z #[(.ref o0), (.int p1)] h0 (fun v h L => ∃ (la ln : Addr) (kl km : ClassId), v = none ∧ Fr n0 L ∧ Keep h0 h [o0, aa, na] ∧ Exa Z h o0 "com/example/disarray/disarray/Latencies" ∧ Fld Z h o0 "com/example/disarray/disarray/Latencies" "arrivals" "[[J" (.ref aa) ∧ Fld Z h o0 "com/example/disarray/disarray/Latencies" "nanos" "[[J" (.ref na) ∧ Fld Z h o0 "com/example/disarray/disarray/Latencies" "eventTimes" "[[B" .null ∧ Fld Z h o0 "com/example/disarray/disarray/Latencies" "eventTimeEnds" "[[I" .null ∧ Fld Z h o0 "com/example/disarray/disarray/Latencies" "count" "I" (.int (0 : Int32)) ∧ Fld Z h o0 "com/example/disarray/disarray/Latencies" "figures" "[J" .null ∧ own_Ar Z h aa ka (.array .long) 1 (fun j => if j = 0 then .ref la else (fun _ => .null) j) ∧ own_Ar Z h na kn (.array .long) 1 (fun j => if j = 0 then .ref ln else (fun _ => .null) j) ∧ own_Ar Z h la kl .long 4094 (fun _ => .long (0 : Int64)) ∧ own_Ar Z h ln km .long 4094 (fun _ => .long (0 : Int64)) ∧ Exa Z h aa "[[J" ∧ Exa Z h na "[[J" ∧ h0.size ≤ la ∧ h0.size ≤ ln ∧ la ≠ ln) := by
  refine own_enter pn_4 ?_
  intro p e s m below meth c s₁ X0 hx hby hml hown hnm hret hlk hZ e0
  replace hown : s.vm.findClass "com/example/disarray/disarray/Latencies" = some m.cls := hown
  have ef : entryFrame m #[(.ref o0), (.int p1)] 8 = mkF m 0 #[.val (.ref o0), .val (.int p1), .unset, .unset, .unset, .unset, .unset, .unset] [] := by first | rfl | (simp [entryFrame, mkF, argsToLocals, Value.category, maxLocals]; done)
  refine own_cast ef ?_
  show own_Ends _ _ _ _ _ _ _ s₁ (mkF m 0 #[.val (.ref o0), .val (.int p1), .unset, .unset, .unset, .unset, .unset, .unset] [])
  subst hp
  show own_Ends _ _ _ _ _ _ _ s₁ (mkF m 0 #[.val (.ref o0), .val (.int (0 : Int32)), .unset, .unset, .unset, .unset, .unset, .unset] [])
  have N0 := Fr.nil n0
  have K0 : Keep h0 h0 [o0, aa, na] := Keep.refl _ _
  refine own_go (fun _ k => XS.sipush X0.here hx rfl (hb hby d4_0) k) ?_
  show own_Ends _ _ _ _ _ _ _ s₁ (mkF m 3 #[.val (.ref o0), .val (.int (0 : Int32)), .unset, .unset, .unset, .unset, .unset, .unset] [(.int (4094 : Int32))])
  obtain ⟨T6, h6, k6, X6, e6, E6, A6, Q6, st6⟩ := own_newPE X0 hx hZ (aty := .long) (hw _ (List.mem_of_getElem? (i := 27) rfl)) e0 (g := (mkF m 3 #[.val (.ref o0), .val (.int (0 : Int32)), .unset, .unset, .unset, .unset, .unset, .unset] [(.int (4094 : Int32))])) rfl (hb hby d4_3) rfl (by decide) (n := 4094) (by decide) (cap := 4094) (by decide) (by decide) (by decide) (by decide) (ad := "[J") (by decide)
  obtain ⟨la, gq6⟩ : ∃ z, z = h0.size := ⟨_, rfl⟩
  rw [← gq6] at A6 Q6 st6
  have ne_o0_la : o0 ≠ la := Nat.ne_of_lt (Nat.lt_of_lt_of_le E.lt (Nat.le_of_eq gq6.symm))
  have ne_aa_la : aa ≠ la := Nat.ne_of_lt (Nat.lt_of_lt_of_le A.lt (Nat.le_of_eq gq6.symm))
  have ne_na_la : na ≠ la := Nat.ne_of_lt (Nat.lt_of_lt_of_le B.lt (Nat.le_of_eq gq6.symm))
  have sz_la : h0.size ≤ la := Nat.le_trans K0.1 (Nat.le_of_eq gq6.symm)
  have g_la : n0 ≤ la := Nat.le_trans Z0 sz_la
  have K_6 := K0.ext E6
  have E_o0_6 := E.ext E6
  have F_o0_arrivals_6 := F0.ext E6
  have F_o0_nanos_6 := F1.ext E6
  have F_o0_eventTimes_6 := F2.ext E6
  have F_o0_eventTimeEnds_6 := F3.ext E6
  have F_o0_count_6 := F4.ext E6
  have F_o0_figures_6 := F5.ext E6
  have V_aa_6 := A.ext E6
  have V_na_6 := B.ext E6
  have E_aa_6 := Ea.ext E6
  have E_na_6 := En.ext E6
  have V_la : own_Ar Z h6 la k6 .long 4094 (fun _ => (.long (0 : Int64))) := A6
  refine own_go st6 ?_
  show own_Ends _ _ _ _ _ _ _ T6 (mkF m 5 #[.val (.ref o0), .val (.int (0 : Int32)), .unset, .unset, .unset, .unset, .unset, .unset] [(.ref la)])
  refine own_go (fun _ k => XS.astoreN X6.here hx rfl (hb hby d4_5) rfl rfl (l' := #[.val (.ref o0), .val (.int (0 : Int32)), .val (.ref la), .unset, .unset, .unset, .unset, .unset]) rfl k) ?_
  show own_Ends _ _ _ _ _ _ _ T6 (mkF m 6 #[.val (.ref o0), .val (.int (0 : Int32)), .val (.ref la), .unset, .unset, .unset, .unset, .unset] [])
  refine own_go (fun _ k => XS.sipush X6.here hx rfl (hb hby d4_6) k) ?_
  show own_Ends _ _ _ _ _ _ _ T6 (mkF m 9 #[.val (.ref o0), .val (.int (0 : Int32)), .val (.ref la), .unset, .unset, .unset, .unset, .unset] [(.int (4094 : Int32))])
  obtain ⟨T7, h7, k7, X7, e7, E7, A7, Q7, st7⟩ := own_newPE X6 hx hZ (aty := .long) (hw _ (List.mem_of_getElem? (i := 27) rfl)) e6 (g := (mkF m 9 #[.val (.ref o0), .val (.int (0 : Int32)), .val (.ref la), .unset, .unset, .unset, .unset, .unset] [(.int (4094 : Int32))])) rfl (hb hby d4_9) rfl (by decide) (n := 4094) (by decide) (cap := 4094) (by decide) (by decide) (by decide) (by decide) (ad := "[J") (by decide)
  obtain ⟨ln, gq7⟩ : ∃ z, z = h6.size := ⟨_, rfl⟩
  rw [← gq7] at A7 Q7 st7
  have ne_o0_ln : o0 ≠ ln := Nat.ne_of_lt (Nat.lt_of_lt_of_le E_o0_6.lt (Nat.le_of_eq gq7.symm))
  have ne_aa_ln : aa ≠ ln := Nat.ne_of_lt (Nat.lt_of_lt_of_le V_aa_6.lt (Nat.le_of_eq gq7.symm))
  have ne_na_ln : na ≠ ln := Nat.ne_of_lt (Nat.lt_of_lt_of_le V_na_6.lt (Nat.le_of_eq gq7.symm))
  have ne_la_ln : la ≠ ln := Nat.ne_of_lt (Nat.lt_of_lt_of_le V_la.lt (Nat.le_of_eq gq7.symm))
  have sz_ln : h0.size ≤ ln := Nat.le_trans K_6.1 (Nat.le_of_eq gq7.symm)
  have g_ln : n0 ≤ ln := Nat.le_trans Z0 sz_ln
  have K_7 := K_6.ext E7
  have E_o0_7 := E_o0_6.ext E7
  have F_o0_arrivals_7 := F_o0_arrivals_6.ext E7
  have F_o0_nanos_7 := F_o0_nanos_6.ext E7
  have F_o0_eventTimes_7 := F_o0_eventTimes_6.ext E7
  have F_o0_eventTimeEnds_7 := F_o0_eventTimeEnds_6.ext E7
  have F_o0_count_7 := F_o0_count_6.ext E7
  have F_o0_figures_7 := F_o0_figures_6.ext E7
  have V_aa_7 := V_aa_6.ext E7
  have V_na_7 := V_na_6.ext E7
  have E_aa_7 := E_aa_6.ext E7
  have E_na_7 := E_na_6.ext E7
  have V_la_7 := V_la.ext E7
  have E_la_7 := Q6.ext E7
  have V_ln : own_Ar Z h7 ln k7 .long 4094 (fun _ => (.long (0 : Int64))) := A7
  refine own_go st7 ?_
  show own_Ends _ _ _ _ _ _ _ T7 (mkF m 11 #[.val (.ref o0), .val (.int (0 : Int32)), .val (.ref la), .unset, .unset, .unset, .unset, .unset] [(.ref ln)])
  refine own_go (fun _ k => XS.astoreN X7.here hx rfl (hb hby d4_11) rfl rfl (l' := #[.val (.ref o0), .val (.int (0 : Int32)), .val (.ref la), .val (.ref ln), .unset, .unset, .unset, .unset]) rfl k) ?_
  show own_Ends _ _ _ _ _ _ _ T7 (mkF m 12 #[.val (.ref o0), .val (.int (0 : Int32)), .val (.ref la), .val (.ref ln), .unset, .unset, .unset, .unset] [])
  refine own_go (fun _ k => XS.aloadN X7.here hx rfl (hb hby d4_12) rfl rfl k) ?_
  show own_Ends _ _ _ _ _ _ _ T7 (mkF m 13 #[.val (.ref o0), .val (.int (0 : Int32)), .val (.ref la), .val (.ref ln), .unset, .unset, .unset, .unset] [(.ref o0)])
  obtain ⟨T8, X8, e8, st8⟩ := getF X7 hx hZ hown (host := "") (Or.inl (hw _ (List.mem_of_getElem? (i := 28) rfl))) Via.refl e7 F_o0_eventTimeEnds_7 (g := (mkF m 13 #[.val (.ref o0), .val (.int (0 : Int32)), .val (.ref la), .val (.ref ln), .unset, .unset, .unset, .unset] [(.ref o0)])) rfl rfl (hb hby d4_13)
  refine own_go st8 ?_
  show own_Ends _ _ _ _ _ _ _ T8 (mkF m 16 #[.val (.ref o0), .val (.int (0 : Int32)), .val (.ref la), .val (.ref ln), .unset, .unset, .unset, .unset] [.null])
  refine own_go (fun _ k => XS.ifnonnullNo X8.here hx rfl (hb hby d4_16) rfl k) ?_
  show own_Ends _ _ _ _ _ _ _ T8 (mkF m 19 #[.val (.ref o0), .val (.int (0 : Int32)), .val (.ref la), .val (.ref ln), .unset, .unset, .unset, .unset] [])
  refine own_go (fun _ k => XS.aconstNull X8.here hx rfl (hb hby d4_19) k) ?_
  show own_Ends _ _ _ _ _ _ _ T8 (mkF m 20 #[.val (.ref o0), .val (.int (0 : Int32)), .val (.ref la), .val (.ref ln), .unset, .unset, .unset, .unset] [.null])
  refine own_go (fun _ k => XS.goto X8.here hx rfl (pc0 := 20) (pc' := 28) rfl (hb hby d4_20) (by decide) (by decide) k) ?_
  show own_Ends _ _ _ _ _ _ _ T8 (mkF m 28 #[.val (.ref o0), .val (.int (0 : Int32)), .val (.ref la), .val (.ref ln), .unset, .unset, .unset, .unset] [.null])
  refine own_go (fun _ k => XS.astore X8.here hx rfl (hb hby d4_28) rfl rfl (l' := #[.val (.ref o0), .val (.int (0 : Int32)), .val (.ref la), .val (.ref ln), .val .null, .unset, .unset, .unset]) rfl k) ?_
  show own_Ends _ _ _ _ _ _ _ T8 (mkF m 30 #[.val (.ref o0), .val (.int (0 : Int32)), .val (.ref la), .val (.ref ln), .val .null, .unset, .unset, .unset] [])
  refine own_go (fun _ k => XS.aloadN X8.here hx rfl (hb hby d4_30) rfl rfl k) ?_
  show own_Ends _ _ _ _ _ _ _ T8 (mkF m 31 #[.val (.ref o0), .val (.int (0 : Int32)), .val (.ref la), .val (.ref ln), .val .null, .unset, .unset, .unset] [(.ref o0)])
  obtain ⟨T9, X9, e9, st9⟩ := getF X8 hx hZ hown (host := "") (Or.inl (hw _ (List.mem_of_getElem? (i := 11) rfl))) Via.refl e8 F_o0_arrivals_7 (g := (mkF m 31 #[.val (.ref o0), .val (.int (0 : Int32)), .val (.ref la), .val (.ref ln), .val .null, .unset, .unset, .unset] [(.ref o0)])) rfl rfl (hb hby d4_31)
  refine own_go st9 ?_
  show own_Ends _ _ _ _ _ _ _ T9 (mkF m 34 #[.val (.ref o0), .val (.int (0 : Int32)), .val (.ref la), .val (.ref ln), .val .null, .unset, .unset, .unset] [(.ref aa)])
  refine own_go (fun _ k => XS.iloadN X9.here hx rfl (hb hby d4_34) rfl k) ?_
  show own_Ends _ _ _ _ _ _ _ T9 (mkF m 35 #[.val (.ref o0), .val (.int (0 : Int32)), .val (.ref la), .val (.ref ln), .val .null, .unset, .unset, .unset] [(.int (0 : Int32)), (.ref aa)])
  obtain ⟨v10, T10, L10, X10, hQ10, st10⟩ := own_callS X9 hx hZ hown (hw _ (List.mem_of_getElem? (i := 30) rfl)) (hw _ (List.mem_of_getElem? (i := 31) rfl)) (hw _ (List.mem_of_getElem? (i := 2) rfl)) (hw _ (List.mem_of_getElem? (i := 32) rfl)) (rm5 l Z a0 hw aa 0 h7 ka (.array .long) (fun _ => .null) V_aa_7 rfl) e9 (g := (mkF m 35 #[.val (.ref o0), .val (.int (0 : Int32)), .val (.ref la), .val (.ref ln), .val .null, .unset, .unset, .unset] [(.int (0 : Int32)), (.ref aa)])) rfl (by rw [hml]; rfl) (argsL := [(.ref aa), (.int (0 : Int32))]) (rest := []) (lenOf pd_0 rfl) rfl rfl (W := 0) (by show 2 * 0 + _ ≤ _; exact Nat.le_of_eq rfl) (hb hby d4_35) (by decide) (by decide) (by decide) (by decide) (by decide)
  obtain ⟨rfl, rfl, e10⟩ := hQ10
  refine own_go st10 ?_
  have N10 := Fr.app N0 (Fr.nil _)
  show own_Ends _ _ _ _ _ _ _ T10 (mkF m 38 #[.val (.ref o0), .val (.int (0 : Int32)), .val (.ref la), .val (.ref ln), .val .null, .unset, .unset, .unset] [(.ref aa)])
  obtain ⟨T11, X11, e11, st11⟩ := castY X10 hx hZ hown (hw _ (List.mem_of_getElem? (i := 33) rfl)) e10 (Ins.self E_aa_7) (g := (mkF m 38 #[.val (.ref o0), .val (.int (0 : Int32)), .val (.ref la), .val (.ref ln), .val .null, .unset, .unset, .unset] [(.ref aa)])) rfl rfl (hb hby d4_38)
  refine own_go st11 ?_
  show own_Ends _ _ _ _ _ _ _ T11 (mkF m 41 #[.val (.ref o0), .val (.int (0 : Int32)), .val (.ref la), .val (.ref ln), .val .null, .unset, .unset, .unset] [(.ref aa)])
  refine own_go (fun _ k => XS.astore X11.here hx rfl (hb hby d4_41) rfl rfl (l' := #[.val (.ref o0), .val (.int (0 : Int32)), .val (.ref la), .val (.ref ln), .val .null, .val (.ref aa), .unset, .unset]) rfl k) ?_
  show own_Ends _ _ _ _ _ _ _ T11 (mkF m 43 #[.val (.ref o0), .val (.int (0 : Int32)), .val (.ref la), .val (.ref ln), .val .null, .val (.ref aa), .unset, .unset] [])
  refine own_go (fun _ k => XS.aloadN X11.here hx rfl (hb hby d4_43) rfl rfl k) ?_
  show own_Ends _ _ _ _ _ _ _ T11 (mkF m 44 #[.val (.ref o0), .val (.int (0 : Int32)), .val (.ref la), .val (.ref ln), .val .null, .val (.ref aa), .unset, .unset] [(.ref o0)])
  obtain ⟨T12, X12, e12, st12⟩ := getF X11 hx hZ hown (host := "") (Or.inl (hw _ (List.mem_of_getElem? (i := 13) rfl))) Via.refl e11 F_o0_nanos_7 (g := (mkF m 44 #[.val (.ref o0), .val (.int (0 : Int32)), .val (.ref la), .val (.ref ln), .val .null, .val (.ref aa), .unset, .unset] [(.ref o0)])) rfl rfl (hb hby d4_44)
  refine own_go st12 ?_
  show own_Ends _ _ _ _ _ _ _ T12 (mkF m 47 #[.val (.ref o0), .val (.int (0 : Int32)), .val (.ref la), .val (.ref ln), .val .null, .val (.ref aa), .unset, .unset] [(.ref na)])
  refine own_go (fun _ k => XS.iloadN X12.here hx rfl (hb hby d4_47) rfl k) ?_
  show own_Ends _ _ _ _ _ _ _ T12 (mkF m 48 #[.val (.ref o0), .val (.int (0 : Int32)), .val (.ref la), .val (.ref ln), .val .null, .val (.ref aa), .unset, .unset] [(.int (0 : Int32)), (.ref na)])
  obtain ⟨v13, T13, L13, X13, hQ13, st13⟩ := own_callS X12 hx hZ hown (hw _ (List.mem_of_getElem? (i := 30) rfl)) (hw _ (List.mem_of_getElem? (i := 31) rfl)) (hw _ (List.mem_of_getElem? (i := 2) rfl)) (hw _ (List.mem_of_getElem? (i := 32) rfl)) (rm5 l Z a0 hw na 0 h7 kn (.array .long) (fun _ => .null) V_na_7 rfl) e12 (g := (mkF m 48 #[.val (.ref o0), .val (.int (0 : Int32)), .val (.ref la), .val (.ref ln), .val .null, .val (.ref aa), .unset, .unset] [(.int (0 : Int32)), (.ref na)])) rfl (by rw [hml]; rfl) (argsL := [(.ref na), (.int (0 : Int32))]) (rest := []) (lenOf pd_0 rfl) rfl rfl (W := 0) (by show 2 * 0 + _ ≤ _; exact Nat.le_of_eq rfl) (hb hby d4_48) (by decide) (by decide) (by decide) (by decide) (by decide)
  obtain ⟨rfl, rfl, e13⟩ := hQ13
  refine own_go st13 ?_
  have N13 := Fr.app N10 (Fr.nil _)
  show own_Ends _ _ _ _ _ _ _ T13 (mkF m 51 #[.val (.ref o0), .val (.int (0 : Int32)), .val (.ref la), .val (.ref ln), .val .null, .val (.ref aa), .unset, .unset] [(.ref na)])
  obtain ⟨T14, X14, e14, st14⟩ := castY X13 hx hZ hown (hw _ (List.mem_of_getElem? (i := 33) rfl)) e13 (Ins.self E_na_7) (g := (mkF m 51 #[.val (.ref o0), .val (.int (0 : Int32)), .val (.ref la), .val (.ref ln), .val .null, .val (.ref aa), .unset, .unset] [(.ref na)])) rfl rfl (hb hby d4_51)
  refine own_go st14 ?_
  show own_Ends _ _ _ _ _ _ _ T14 (mkF m 54 #[.val (.ref o0), .val (.int (0 : Int32)), .val (.ref la), .val (.ref ln), .val .null, .val (.ref aa), .unset, .unset] [(.ref na)])
  refine own_go (fun _ k => XS.astore X14.here hx rfl (hb hby d4_54) rfl rfl (l' := #[.val (.ref o0), .val (.int (0 : Int32)), .val (.ref la), .val (.ref ln), .val .null, .val (.ref aa), .val (.ref na), .unset]) rfl k) ?_
  show own_Ends _ _ _ _ _ _ _ T14 (mkF m 56 #[.val (.ref o0), .val (.int (0 : Int32)), .val (.ref la), .val (.ref ln), .val .null, .val (.ref aa), .val (.ref na), .unset] [])
  refine own_go (fun _ k => XS.aload X14.here hx rfl (hb hby d4_56) rfl rfl k) ?_
  show own_Ends _ _ _ _ _ _ _ T14 (mkF m 58 #[.val (.ref o0), .val (.int (0 : Int32)), .val (.ref la), .val (.ref ln), .val .null, .val (.ref aa), .val (.ref na), .unset] [.null])
  refine own_go (fun _ k => XS.ifnonnullNo X14.here hx rfl (hb hby d4_58) rfl k) ?_
  show own_Ends _ _ _ _ _ _ _ T14 (mkF m 61 #[.val (.ref o0), .val (.int (0 : Int32)), .val (.ref la), .val (.ref ln), .val .null, .val (.ref aa), .val (.ref na), .unset] [])
  refine own_go (fun _ k => XS.aconstNull X14.here hx rfl (hb hby d4_61) k) ?_
  show own_Ends _ _ _ _ _ _ _ T14 (mkF m 62 #[.val (.ref o0), .val (.int (0 : Int32)), .val (.ref la), .val (.ref ln), .val .null, .val (.ref aa), .val (.ref na), .unset] [.null])
  refine own_go (fun _ k => XS.goto X14.here hx rfl (pc0 := 62) (pc' := 76) rfl (hb hby d4_62) (by decide) (by decide) k) ?_
  show own_Ends _ _ _ _ _ _ _ T14 (mkF m 76 #[.val (.ref o0), .val (.int (0 : Int32)), .val (.ref la), .val (.ref ln), .val .null, .val (.ref aa), .val (.ref na), .unset] [.null])
  refine own_go (fun _ k => XS.astore X14.here hx rfl (hb hby d4_76) rfl rfl (l' := #[.val (.ref o0), .val (.int (0 : Int32)), .val (.ref la), .val (.ref ln), .val .null, .val (.ref aa), .val (.ref na), .val .null]) rfl k) ?_
  show own_Ends _ _ _ _ _ _ _ T14 (mkF m 78 #[.val (.ref o0), .val (.int (0 : Int32)), .val (.ref la), .val (.ref ln), .val .null, .val (.ref aa), .val (.ref na), .val .null] [])
  refine own_go (fun _ k => XS.aloadN X14.here hx rfl (hb hby d4_78) rfl rfl k) ?_
  show own_Ends _ _ _ _ _ _ _ T14 (mkF m 79 #[.val (.ref o0), .val (.int (0 : Int32)), .val (.ref la), .val (.ref ln), .val .null, .val (.ref aa), .val (.ref na), .val .null] [(.ref o0)])
  refine own_go (fun _ k => XS.aload X14.here hx rfl (hb hby d4_79) rfl rfl k) ?_
  show own_Ends _ _ _ _ _ _ _ T14 (mkF m 81 #[.val (.ref o0), .val (.int (0 : Int32)), .val (.ref la), .val (.ref ln), .val .null, .val (.ref aa), .val (.ref na), .val .null] [(.ref aa), (.ref o0)])
  obtain ⟨T15, h15, X15, e15, W15, st15⟩ := putF X14 hx hZ hown (host := "") (Or.inl (hw _ (List.mem_of_getElem? (i := 11) rfl))) Via.refl e14 F_o0_arrivals_7 E_o0_7 (Or.inl (hw _ (List.mem_of_getElem? (i := 12) rfl))) (hw _ (List.mem_of_getElem? (i := 1) rfl)) (ty := (.array (.array .long))) (by decide) rfl rfl (g := (mkF m 81 #[.val (.ref o0), .val (.int (0 : Int32)), .val (.ref la), .val (.ref ln), .val .null, .val (.ref aa), .val (.ref na), .val .null] [(.ref aa), (.ref o0)])) rfl rfl (hb hby d4_81)
  have N15 := Fr.snoc X15 N13 gg
  have K_15 := K_7.wr W15 (Or.inl (List.mem_of_getElem? (i := 0) rfl))
  have E_o0_15 := E_o0_7.wr W15
  have F_o0_arrivals_15 := F_o0_arrivals_7.same W15
  have F_o0_nanos_15 := F_o0_nanos_7.other W15 (Or.inr (slot_ne (Or.inl (hw _ (List.mem_of_getElem? (i := 14) rfl))) (Or.inl (hw _ (List.mem_of_getElem? (i := 12) rfl))) (by decide) (t := (.array (.array .long))) (t' := (.array (.array .long))) (by decide) (by decide)))
  have F_o0_eventTimes_15 := F_o0_eventTimes_7.other W15 (Or.inr (slot_ne (Or.inl (hw _ (List.mem_of_getElem? (i := 37) rfl))) (Or.inl (hw _ (List.mem_of_getElem? (i := 12) rfl))) (by decide) (t := (.array (.array .byte))) (t' := (.array (.array .long))) (by decide) (by decide)))
  have F_o0_eventTimeEnds_15 := F_o0_eventTimeEnds_7.other W15 (Or.inr (slot_ne (Or.inl (hw _ (List.mem_of_getElem? (i := 29) rfl))) (Or.inl (hw _ (List.mem_of_getElem? (i := 12) rfl))) (by decide) (t := (.array (.array .int))) (t' := (.array (.array .long))) (by decide) (by decide)))
  have F_o0_count_15 := F_o0_count_7.other W15 (Or.inr (slot_ne (Or.inl (hw _ (List.mem_of_getElem? (i := 21) rfl))) (Or.inl (hw _ (List.mem_of_getElem? (i := 12) rfl))) (by decide) (t := .int) (t' := (.array (.array .long))) (by decide) (by decide)))
  have F_o0_figures_15 := F_o0_figures_7.other W15 (Or.inr (slot_ne (Or.inl (hw _ (List.mem_of_getElem? (i := 39) rfl))) (Or.inl (hw _ (List.mem_of_getElem? (i := 12) rfl))) (by decide) (t := (.array .long)) (t' := (.array (.array .long))) (by decide) (by decide)))
  have V_aa_15 := V_aa_7.other W15 (Ne.symm n1)
  have V_na_15 := V_na_7.other W15 (Ne.symm n2)
  have E_aa_15 := E_aa_7.wr W15
  have E_na_15 := E_na_7.wr W15
  have V_la_15 := V_la_7.other W15 (Ne.symm ne_o0_la)
  have E_la_15 := E_la_7.wr W15
  have V_ln_15 := V_ln.other W15 (Ne.symm ne_o0_ln)
  have E_ln_15 := Q7.wr W15
  refine own_go st15 ?_
  show own_Ends _ _ _ _ _ _ _ T15 (mkF m 84 #[.val (.ref o0), .val (.int (0 : Int32)), .val (.ref la), .val (.ref ln), .val .null, .val (.ref aa), .val (.ref na), .val .null] [])
  refine own_go (fun _ k => XS.aloadN X15.here hx rfl (hb hby d4_84) rfl rfl k) ?_
  show own_Ends _ _ _ _ _ _ _ T15 (mkF m 85 #[.val (.ref o0), .val (.int (0 : Int32)), .val (.ref la), .val (.ref ln), .val .null, .val (.ref aa), .val (.ref na), .val .null] [(.ref o0)])
  obtain ⟨T16, X16, e16, st16⟩ := getF X15 hx hZ hown (host := "") (Or.inl (hw _ (List.mem_of_getElem? (i := 11) rfl))) Via.refl e15 F_o0_arrivals_15 (g := (mkF m 85 #[.val (.ref o0), .val (.int (0 : Int32)), .val (.ref la), .val (.ref ln), .val .null, .val (.ref aa), .val (.ref na), .val .null] [(.ref o0)])) rfl rfl (hb hby d4_85)
  refine own_go st16 ?_
  show own_Ends _ _ _ _ _ _ _ T16 (mkF m 88 #[.val (.ref o0), .val (.int (0 : Int32)), .val (.ref la), .val (.ref ln), .val .null, .val (.ref aa), .val (.ref na), .val .null] [(.ref aa)])
  refine own_go (fun _ k => XS.iloadN X16.here hx rfl (hb hby d4_88) rfl k) ?_
  show own_Ends _ _ _ _ _ _ _ T16 (mkF m 89 #[.val (.ref o0), .val (.int (0 : Int32)), .val (.ref la), .val (.ref ln), .val .null, .val (.ref aa), .val (.ref na), .val .null] [(.int (0 : Int32)), (.ref aa)])
  refine own_go (fun _ k => XS.aloadN X16.here hx rfl (hb hby d4_89) rfl rfl k) ?_
  show own_Ends _ _ _ _ _ _ _ T16 (mkF m 90 #[.val (.ref o0), .val (.int (0 : Int32)), .val (.ref la), .val (.ref ln), .val .null, .val (.ref aa), .val (.ref na), .val .null] [(.ref la), (.int (0 : Int32)), (.ref aa)])
  obtain ⟨T17, h17, X17, e17, W17, V17, st17⟩ := own_stR X16 hx hZ e16 V_aa_15 rfl (S := (V_aa_15.stoA Oa (Ins.self E_la_15))) (i := 0) (by decide) (by decide) (by decide) (g := (mkF m 90 #[.val (.ref o0), .val (.int (0 : Int32)), .val (.ref la), .val (.ref ln), .val .null, .val (.ref aa), .val (.ref na), .val .null] [(.ref la), (.int (0 : Int32)), (.ref aa)])) rfl rfl (hb hby d4_90)
  have N17 := Fr.snoc X17 N15 ga
  have K_17 := K_15.wr W17 (Or.inl (List.mem_of_getElem? (i := 1) rfl))
  have E_o0_17 := E_o0_15.wr W17
  have F_o0_arrivals_17 := F_o0_arrivals_15.other W17 (Or.inl n1)
  have F_o0_nanos_17 := F_o0_nanos_15.other W17 (Or.inl n1)
  have F_o0_eventTimes_17 := F_o0_eventTimes_15.other W17 (Or.inl n1)
  have F_o0_eventTimeEnds_17 := F_o0_eventTimeEnds_15.other W17 (Or.inl n1)
  have F_o0_count_17 := F_o0_count_15.other W17 (Or.inl n1)
  have F_o0_figures_17 := F_o0_figures_15.other W17 (Or.inl n1)
  have V_na_17 := V_na_15.other W17 (Ne.symm n3)
  have E_aa_17 := E_aa_15.wr W17
  have E_na_17 := E_na_15.wr W17
  have V_la_17 := V_la_15.other W17 (Ne.symm ne_aa_la)
  have E_la_17 := E_la_15.wr W17
  have V_ln_17 := V_ln_15.other W17 (Ne.symm ne_aa_ln)
  have E_ln_17 := E_ln_15.wr W17
  refine own_go st17 ?_
  show own_Ends _ _ _ _ _ _ _ T17 (mkF m 91 #[.val (.ref o0), .val (.int (0 : Int32)), .val (.ref la), .val (.ref ln), .val .null, .val (.ref aa), .val (.ref na), .val .null] [])
  refine own_go (fun _ k => XS.aloadN X17.here hx rfl (hb hby d4_91) rfl rfl k) ?_
  show own_Ends _ _ _ _ _ _ _ T17 (mkF m 92 #[.val (.ref o0), .val (.int (0 : Int32)), .val (.ref la), .val (.ref ln), .val .null, .val (.ref aa), .val (.ref na), .val .null] [(.ref o0)])
  refine own_go (fun _ k => XS.aload X17.here hx rfl (hb hby d4_92) rfl rfl k) ?_
  show own_Ends _ _ _ _ _ _ _ T17 (mkF m 94 #[.val (.ref o0), .val (.int (0 : Int32)), .val (.ref la), .val (.ref ln), .val .null, .val (.ref aa), .val (.ref na), .val .null] [(.ref na), (.ref o0)])
  obtain ⟨T18, h18, X18, e18, W18, st18⟩ := putF X17 hx hZ hown (host := "") (Or.inl (hw _ (List.mem_of_getElem? (i := 13) rfl))) Via.refl e17 F_o0_nanos_17 E_o0_17 (Or.inl (hw _ (List.mem_of_getElem? (i := 14) rfl))) (hw _ (List.mem_of_getElem? (i := 1) rfl)) (ty := (.array (.array .long))) (by decide) rfl rfl (g := (mkF m 94 #[.val (.ref o0), .val (.int (0 : Int32)), .val (.ref la), .val (.ref ln), .val .null, .val (.ref aa), .val (.ref na), .val .null] [(.ref na), (.ref o0)])) rfl rfl (hb hby d4_94)
  have N18 := Fr.snoc X18 N17 gg
  have K_18 := K_17.wr W18 (Or.inl (List.mem_of_getElem? (i := 0) rfl))
  have E_o0_18 := E_o0_17.wr W18
  have F_o0_arrivals_18 := F_o0_arrivals_17.other W18 (Or.inr (slot_ne (Or.inl (hw _ (List.mem_of_getElem? (i := 12) rfl))) (Or.inl (hw _ (List.mem_of_getElem? (i := 14) rfl))) (by decide) (t := (.array (.array .long))) (t' := (.array (.array .long))) (by decide) (by decide)))
  have F_o0_nanos_18 := F_o0_nanos_17.same W18
  have F_o0_eventTimes_18 := F_o0_eventTimes_17.other W18 (Or.inr (slot_ne (Or.inl (hw _ (List.mem_of_getElem? (i := 37) rfl))) (Or.inl (hw _ (List.mem_of_getElem? (i := 14) rfl))) (by decide) (t := (.array (.array .byte))) (t' := (.array (.array .long))) (by decide) (by decide)))
  have F_o0_eventTimeEnds_18 := F_o0_eventTimeEnds_17.other W18 (Or.inr (slot_ne (Or.inl (hw _ (List.mem_of_getElem? (i := 29) rfl))) (Or.inl (hw _ (List.mem_of_getElem? (i := 14) rfl))) (by decide) (t := (.array (.array .int))) (t' := (.array (.array .long))) (by decide) (by decide)))
  have F_o0_count_18 := F_o0_count_17.other W18 (Or.inr (slot_ne (Or.inl (hw _ (List.mem_of_getElem? (i := 21) rfl))) (Or.inl (hw _ (List.mem_of_getElem? (i := 14) rfl))) (by decide) (t := .int) (t' := (.array (.array .long))) (by decide) (by decide)))
  have F_o0_figures_18 := F_o0_figures_17.other W18 (Or.inr (slot_ne (Or.inl (hw _ (List.mem_of_getElem? (i := 39) rfl))) (Or.inl (hw _ (List.mem_of_getElem? (i := 14) rfl))) (by decide) (t := (.array .long)) (t' := (.array (.array .long))) (by decide) (by decide)))
  have V_na_18 := V_na_17.other W18 (Ne.symm n2)
  have E_aa_18 := E_aa_17.wr W18
  have E_na_18 := E_na_17.wr W18
  have V_la_18 := V_la_17.other W18 (Ne.symm ne_o0_la)
  have E_la_18 := E_la_17.wr W18
  have V_ln_18 := V_ln_17.other W18 (Ne.symm ne_o0_ln)
  have E_ln_18 := E_ln_17.wr W18
  have V_aa_18 := V17.other W18 (Ne.symm n1)
  refine own_go st18 ?_
  show own_Ends _ _ _ _ _ _ _ T18 (mkF m 97 #[.val (.ref o0), .val (.int (0 : Int32)), .val (.ref la), .val (.ref ln), .val .null, .val (.ref aa), .val (.ref na), .val .null] [])
  refine own_go (fun _ k => XS.aloadN X18.here hx rfl (hb hby d4_97) rfl rfl k) ?_
  show own_Ends _ _ _ _ _ _ _ T18 (mkF m 98 #[.val (.ref o0), .val (.int (0 : Int32)), .val (.ref la), .val (.ref ln), .val .null, .val (.ref aa), .val (.ref na), .val .null] [(.ref o0)])
  obtain ⟨T19, X19, e19, st19⟩ := getF X18 hx hZ hown (host := "") (Or.inl (hw _ (List.mem_of_getElem? (i := 13) rfl))) Via.refl e18 F_o0_nanos_18 (g := (mkF m 98 #[.val (.ref o0), .val (.int (0 : Int32)), .val (.ref la), .val (.ref ln), .val .null, .val (.ref aa), .val (.ref na), .val .null] [(.ref o0)])) rfl rfl (hb hby d4_98)
  refine own_go st19 ?_
  show own_Ends _ _ _ _ _ _ _ T19 (mkF m 101 #[.val (.ref o0), .val (.int (0 : Int32)), .val (.ref la), .val (.ref ln), .val .null, .val (.ref aa), .val (.ref na), .val .null] [(.ref na)])
  refine own_go (fun _ k => XS.iloadN X19.here hx rfl (hb hby d4_101) rfl k) ?_
  show own_Ends _ _ _ _ _ _ _ T19 (mkF m 102 #[.val (.ref o0), .val (.int (0 : Int32)), .val (.ref la), .val (.ref ln), .val .null, .val (.ref aa), .val (.ref na), .val .null] [(.int (0 : Int32)), (.ref na)])
  refine own_go (fun _ k => XS.aloadN X19.here hx rfl (hb hby d4_102) rfl rfl k) ?_
  show own_Ends _ _ _ _ _ _ _ T19 (mkF m 103 #[.val (.ref o0), .val (.int (0 : Int32)), .val (.ref la), .val (.ref ln), .val .null, .val (.ref aa), .val (.ref na), .val .null] [(.ref ln), (.int (0 : Int32)), (.ref na)])
  obtain ⟨T20, h20, X20, e20, W20, V20, st20⟩ := own_stR X19 hx hZ e19 V_na_18 rfl (S := (V_na_18.stoA On (Ins.self E_ln_18))) (i := 0) (by decide) (by decide) (by decide) (g := (mkF m 103 #[.val (.ref o0), .val (.int (0 : Int32)), .val (.ref la), .val (.ref ln), .val .null, .val (.ref aa), .val (.ref na), .val .null] [(.ref ln), (.int (0 : Int32)), (.ref na)])) rfl rfl (hb hby d4_103)
  have N20 := Fr.snoc X20 N18 gn
  have K_20 := K_18.wr W20 (Or.inl (List.mem_of_getElem? (i := 2) rfl))
  have E_o0_20 := E_o0_18.wr W20
  have F_o0_arrivals_20 := F_o0_arrivals_18.other W20 (Or.inl n2)
  have F_o0_nanos_20 := F_o0_nanos_18.other W20 (Or.inl n2)
  have F_o0_eventTimes_20 := F_o0_eventTimes_18.other W20 (Or.inl n2)
  have F_o0_eventTimeEnds_20 := F_o0_eventTimeEnds_18.other W20 (Or.inl n2)
  have F_o0_count_20 := F_o0_count_18.other W20 (Or.inl n2)
  have F_o0_figures_20 := F_o0_figures_18.other W20 (Or.inl n2)
  have E_aa_20 := E_aa_18.wr W20
  have E_na_20 := E_na_18.wr W20
  have V_la_20 := V_la_18.other W20 (Ne.symm ne_na_la)
  have E_la_20 := E_la_18.wr W20
  have V_ln_20 := V_ln_18.other W20 (Ne.symm ne_na_ln)
  have E_ln_20 := E_ln_18.wr W20
  have V_aa_20 := V_aa_18.other W20 n3
  refine own_go st20 ?_
  show own_Ends _ _ _ _ _ _ _ T20 (mkF m 104 #[.val (.ref o0), .val (.int (0 : Int32)), .val (.ref la), .val (.ref ln), .val .null, .val (.ref aa), .val (.ref na), .val .null] [])
  refine own_go (fun _ k => XS.aload X20.here hx rfl (hb hby d4_104) rfl rfl k) ?_
  show own_Ends _ _ _ _ _ _ _ T20 (mkF m 106 #[.val (.ref o0), .val (.int (0 : Int32)), .val (.ref la), .val (.ref ln), .val .null, .val (.ref aa), .val (.ref na), .val .null] [.null])
  refine own_go (fun _ k => XS.ifnullYes X20.here hx rfl (pc0 := 106) (pc' := 123) rfl (hb hby d4_106) rfl (by decide) (by decide) k) ?_
  show own_Ends _ _ _ _ _ _ _ T20 (mkF m 123 #[.val (.ref o0), .val (.int (0 : Int32)), .val (.ref la), .val (.ref ln), .val .null, .val (.ref aa), .val (.ref na), .val .null] [])
  exact own_retV X20 hx hlk hret (hb hby d4_123) (by decide) (by decide) (by rw [e20]; exact ⟨la, ln, k6, k7, rfl, N20, K_20, E_o0_20, F_o0_arrivals_20, F_o0_nanos_20, F_o0_eventTimes_20, F_o0_eventTimeEnds_20, F_o0_count_20, F_o0_figures_20, V_aa_20, V20, V_la_20, V_ln_20, E_aa_20, E_na_20, sz_la, sz_ln, ne_la_ln⟩)
set_option maxRecDepth 65536 in
set_option maxHeartbeats 40000000 in
theorem rm3_0 (l : Launch) (Z : State) (a0 : Array Value) (hw : ∀ d ∈ tables_1, d.before a0 Z = true) (o0 : Addr) (q1 : Int64) (q2 : Int64) (h0 : Heap) (n0 : Nat) (aa : Addr) (na : Addr) (ka : ClassId) (kn : ClassId) (Z0 : n0 ≤ h0.size) (E : Exa Z h0 o0 "com/example/disarray/disarray/Latencies") (F0 : Fld Z h0 o0 "com/example/disarray/disarray/Latencies" "arrivals" "[[J" (.ref aa)) (F1 : Fld Z h0 o0 "com/example/disarray/disarray/Latencies" "nanos" "[[J" (.ref na)) (F2 : Fld Z h0 o0 "com/example/disarray/disarray/Latencies" "eventTimes" "[[B" .null) (F3 : Fld Z h0 o0 "com/example/disarray/disarray/Latencies" "eventTimeEnds" "[[I" .null) (F4 : Fld Z h0 o0 "com/example/disarray/disarray/Latencies" "count" "I" (.int (0 : Int32))) (F5 : Fld Z h0 o0 "com/example/disarray/disarray/Latencies" "figures" "[J" .null) (A : own_Ar Z h0 aa ka (.array .long) 1 (fun _ => .null)) (B : own_Ar Z h0 na kn (.array .long) 1 (fun _ => .null)) (Ea : Exa Z h0 aa "[[J") (En : Exa Z h0 na "[[J") (Oa : OvrA Z ka .long "[J") (On : OvrA Z kn .long "[J") (gg : n0 ≤ o0) (ga : n0 ≤ aa) (gn : n0 ≤ na) (n1 : o0 ≠ aa) (n2 : o0 ≠ na) (n3 : aa ≠ na) :
    own_C l (⟨"com/example/disarray/disarray/Latencies", "add", "(JJLjava/nio/ByteBuffer;)V"⟩ : MethodName) prog_29_method_2_code 8 none ({ frames := 3, cells := 2, slots := 8188, locals := 90 } : Room) Z #[(.ref o0), (.long q1), (.long q2), .null] h0 (fun v h L => ∃ (la ln : Addr) (kl km : ClassId) (gl gm : Nat → Value), v = none ∧ Fr n0 L ∧ Keep h0 h [o0, aa, na] ∧ Exa Z h o0 "com/example/disarray/disarray/Latencies" ∧ Fld Z h o0 "com/example/disarray/disarray/Latencies" "arrivals" "[[J" (.ref aa) ∧ Fld Z h o0 "com/example/disarray/disarray/Latencies" "nanos" "[[J" (.ref na) ∧ Fld Z h o0 "com/example/disarray/disarray/Latencies" "eventTimes" "[[B" .null ∧ Fld Z h o0 "com/example/disarray/disarray/Latencies" "eventTimeEnds" "[[I" .null ∧ Fld Z h o0 "com/example/disarray/disarray/Latencies" "count" "I" (.int (1 : Int32)) ∧ Fld Z h o0 "com/example/disarray/disarray/Latencies" "figures" "[J" .null ∧ own_Ar Z h aa ka (.array .long) 1 (fun j => if j = 0 then .ref la else (fun _ => .null) j) ∧ own_Ar Z h na kn (.array .long) 1 (fun j => if j = 0 then .ref ln else (fun _ => .null) j) ∧ own_Ar Z h la kl .long 4094 gl ∧ own_Ar Z h ln km .long 4094 gm ∧ Exa Z h aa "[[J" ∧ Exa Z h na "[[J" ∧ h0.size ≤ la ∧ h0.size ≤ ln ∧ la ≠ ln ∧ gl 0 = .long q1) := by
  refine own_enter pn_3 ?_
  intro p e s m below meth c s₁ X0 hx hby hml hown hnm hret hlk hZ e0
  replace hown : s.vm.findClass "com/example/disarray/disarray/Latencies" = some m.cls := hown
  have ef : entryFrame m #[(.ref o0), (.long q1), (.long q2), .null] 8 = mkF m 0 #[.val (.ref o0), .val (.long q1), .second, .val (.long q2), .second, .val .null, .unset, .unset] [] := by first | rfl | (simp [entryFrame, mkF, argsToLocals, Value.category, maxLocals]; done)
  refine own_cast ef ?_
  show own_Ends _ _ _ _ _ _ _ s₁ (mkF m 0 #[.val (.ref o0), .val (.long q1), .second, .val (.long q2), .second, .val .null, .unset, .unset] [])
  have N0 := Fr.nil n0
  have K0 : Keep h0 h0 [o0, aa, na] := Keep.refl _ _
  refine own_go (fun _ k => XS.aloadN X0.here hx rfl (hb hby d3_0) rfl rfl k) ?_
  show own_Ends _ _ _ _ _ _ _ s₁ (mkF m 1 #[.val (.ref o0), .val (.long q1), .second, .val (.long q2), .second, .val .null, .unset, .unset] [(.ref o0)])
  obtain ⟨T21, X21, e21, st21⟩ := getF X0 hx hZ hown (host := "") (Or.inl (hw _ (List.mem_of_getElem? (i := 20) rfl))) Via.refl e0 F4 (g := (mkF m 1 #[.val (.ref o0), .val (.long q1), .second, .val (.long q2), .second, .val .null, .unset, .unset] [(.ref o0)])) rfl rfl (hb hby d3_1)
  refine own_go st21 ?_
  show own_Ends _ _ _ _ _ _ _ T21 (mkF m 4 #[.val (.ref o0), .val (.long q1), .second, .val (.long q2), .second, .val .null, .unset, .unset] [(.int (0 : Int32))])
  refine own_go (fun _ k => X21.ldcInt hx hown (mvT hZ (hw _ (List.mem_of_getElem? (i := 22) rfl))) (g := (mkF m 4 #[.val (.ref o0), .val (.long q1), .second, .val (.long q2), .second, .val .null, .unset, .unset] [(.int (0 : Int32))])) rfl (hb hby d3_4) _ k) ?_
  show own_Ends _ _ _ _ _ _ _ T21 (mkF m 6 #[.val (.ref o0), .val (.long q1), .second, .val (.long q2), .second, .val .null, .unset, .unset] [(.int (2147483639 : Int32)), (.int (0 : Int32))])
  refine own_go (fun _ k => XS.icmpYes X21.here hx rfl (pc0 := 6) (pc' := 19) rfl (hb hby d3_6) rfl (feq (by decide)).2 (by decide) (by decide) k) ?_
  show own_Ends _ _ _ _ _ _ _ T21 (mkF m 19 #[.val (.ref o0), .val (.long q1), .second, .val (.long q2), .second, .val .null, .unset, .unset] [])
  refine own_go (fun _ k => XS.aloadN X21.here hx rfl (hb hby d3_19) rfl rfl k) ?_
  show own_Ends _ _ _ _ _ _ _ T21 (mkF m 20 #[.val (.ref o0), .val (.long q1), .second, .val (.long q2), .second, .val .null, .unset, .unset] [(.ref o0)])
  obtain ⟨T22, X22, e22, st22⟩ := getF X21 hx hZ hown (host := "") (Or.inl (hw _ (List.mem_of_getElem? (i := 20) rfl))) Via.refl e21 F4 (g := (mkF m 20 #[.val (.ref o0), .val (.long q1), .second, .val (.long q2), .second, .val .null, .unset, .unset] [(.ref o0)])) rfl rfl (hb hby d3_20)
  refine own_go st22 ?_
  show own_Ends _ _ _ _ _ _ _ T22 (mkF m 23 #[.val (.ref o0), .val (.long q1), .second, .val (.long q2), .second, .val .null, .unset, .unset] [(.int (0 : Int32))])
  refine own_go (fun _ k => XS.sipush X22.here hx rfl (hb hby d3_23) k) ?_
  show own_Ends _ _ _ _ _ _ _ T22 (mkF m 26 #[.val (.ref o0), .val (.long q1), .second, .val (.long q2), .second, .val .null, .unset, .unset] [(.int (4094 : Int32)), (.int (0 : Int32))])
  refine own_go (fun _ k => XS.idiv X22.here hx rfl (hb hby d3_26) rfl (by decide) k) ?_
  show own_Ends _ _ _ _ _ _ _ T22 (mkF m 27 #[.val (.ref o0), .val (.long q1), .second, .val (.long q2), .second, .val .null, .unset, .unset] [(.int ((0 : Int32) / (4094 : Int32)))])
  refine own_go (fun _ k => XS.istore X22.here hx rfl (hb hby d3_27) rfl (l' := #[.val (.ref o0), .val (.long q1), .second, .val (.long q2), .second, .val .null, .val (.int ((0 : Int32) / (4094 : Int32))), .unset]) rfl k) ?_
  show own_Ends _ _ _ _ _ _ _ T22 (mkF m 29 #[.val (.ref o0), .val (.long q1), .second, .val (.long q2), .second, .val .null, .val (.int ((0 : Int32) / (4094 : Int32))), .unset] [])
  refine own_go (fun _ k => XS.aloadN X22.here hx rfl (hb hby d3_29) rfl rfl k) ?_
  show own_Ends _ _ _ _ _ _ _ T22 (mkF m 30 #[.val (.ref o0), .val (.long q1), .second, .val (.long q2), .second, .val .null, .val (.int ((0 : Int32) / (4094 : Int32))), .unset] [(.ref o0)])
  obtain ⟨T23, X23, e23, st23⟩ := getF X22 hx hZ hown (host := "") (Or.inl (hw _ (List.mem_of_getElem? (i := 20) rfl))) Via.refl e22 F4 (g := (mkF m 30 #[.val (.ref o0), .val (.long q1), .second, .val (.long q2), .second, .val .null, .val (.int ((0 : Int32) / (4094 : Int32))), .unset] [(.ref o0)])) rfl rfl (hb hby d3_30)
  refine own_go st23 ?_
  show own_Ends _ _ _ _ _ _ _ T23 (mkF m 33 #[.val (.ref o0), .val (.long q1), .second, .val (.long q2), .second, .val .null, .val (.int ((0 : Int32) / (4094 : Int32))), .unset] [(.int (0 : Int32))])
  refine own_go (fun _ k => XS.sipush X23.here hx rfl (hb hby d3_33) k) ?_
  show own_Ends _ _ _ _ _ _ _ T23 (mkF m 36 #[.val (.ref o0), .val (.long q1), .second, .val (.long q2), .second, .val .null, .val (.int ((0 : Int32) / (4094 : Int32))), .unset] [(.int (4094 : Int32)), (.int (0 : Int32))])
  refine own_go (fun _ k => iremM X23 hx rfl (hb hby d3_36) rfl (by decide) k) ?_
  show own_Ends _ _ _ _ _ _ _ T23 (mkF m 37 #[.val (.ref o0), .val (.long q1), .second, .val (.long q2), .second, .val .null, .val (.int ((0 : Int32) / (4094 : Int32))), .unset] [(.int ((0 : Int32) % (4094 : Int32)))])
  refine own_go (fun _ k => XS.istore X23.here hx rfl (hb hby d3_37) rfl (l' := #[.val (.ref o0), .val (.long q1), .second, .val (.long q2), .second, .val .null, .val (.int ((0 : Int32) / (4094 : Int32))), .val (.int ((0 : Int32) % (4094 : Int32)))]) rfl k) ?_
  show own_Ends _ _ _ _ _ _ _ T23 (mkF m 39 #[.val (.ref o0), .val (.long q1), .second, .val (.long q2), .second, .val .null, .val (.int ((0 : Int32) / (4094 : Int32))), .val (.int ((0 : Int32) % (4094 : Int32)))] [])
  refine own_go (fun _ k => XS.iload X23.here hx rfl (hb hby d3_39) rfl k) ?_
  show own_Ends _ _ _ _ _ _ _ T23 (mkF m 41 #[.val (.ref o0), .val (.long q1), .second, .val (.long q2), .second, .val .null, .val (.int ((0 : Int32) / (4094 : Int32))), .val (.int ((0 : Int32) % (4094 : Int32)))] [(.int ((0 : Int32) % (4094 : Int32)))])
  refine own_go (fun _ k => XS.ifNo X23.here hx rfl (hb hby d3_41) rfl ((if0 _ _).trans (teq (by decide)).2) k) ?_
  show own_Ends _ _ _ _ _ _ _ T23 (mkF m 44 #[.val (.ref o0), .val (.long q1), .second, .val (.long q2), .second, .val .null, .val (.int ((0 : Int32) / (4094 : Int32))), .val (.int ((0 : Int32) % (4094 : Int32)))] [])
  refine own_go (fun _ k => XS.aloadN X23.here hx rfl (hb hby d3_44) rfl rfl k) ?_
  show own_Ends _ _ _ _ _ _ _ T23 (mkF m 45 #[.val (.ref o0), .val (.long q1), .second, .val (.long q2), .second, .val .null, .val (.int ((0 : Int32) / (4094 : Int32))), .val (.int ((0 : Int32) % (4094 : Int32)))] [(.ref o0)])
  refine own_go (fun _ k => XS.iload X23.here hx rfl (hb hby d3_45) rfl k) ?_
  show own_Ends _ _ _ _ _ _ _ T23 (mkF m 47 #[.val (.ref o0), .val (.long q1), .second, .val (.long q2), .second, .val .null, .val (.int ((0 : Int32) / (4094 : Int32))), .val (.int ((0 : Int32) % (4094 : Int32)))] [(.int ((0 : Int32) / (4094 : Int32))), (.ref o0)])
  rw [show ((0 : Int32) / (4094 : Int32)) = (0 : Int32) from (by decide)]
  show own_Ends _ _ _ _ _ _ _ T23 (mkF m 47 #[.val (.ref o0), .val (.long q1), .second, .val (.long q2), .second, .val .null, .val (.int (0 : Int32)), .val (.int ((0 : Int32) % (4094 : Int32)))] [(.int (0 : Int32)), (.ref o0)])
  rw [show ((0 : Int32) % (4094 : Int32)) = (0 : Int32) from (by decide)]
  show own_Ends _ _ _ _ _ _ _ T23 (mkF m 47 #[.val (.ref o0), .val (.long q1), .second, .val (.long q2), .second, .val .null, .val (.int (0 : Int32)), .val (.int (0 : Int32))] [(.int (0 : Int32)), (.ref o0)])
  obtain ⟨v24, T24, L24, X24, hQ24, st24⟩ := own_callP X23 hx hZ hown (hw _ (List.mem_of_getElem? (i := 23) rfl)) (hw _ (List.mem_of_getElem? (i := 25) rfl)) (hw _ (List.mem_of_getElem? (i := 1) rfl)) (hw _ (List.mem_of_getElem? (i := 24) rfl)) (hw _ (List.mem_of_getElem? (i := 2) rfl)) (hw _ (List.mem_of_getElem? (i := 26) rfl)) (rm4 l Z a0 hw o0 0 h0 n0 aa na ka kn Z0 E F0 F1 F2 F3 F4 F5 A B Ea En Oa On gg ga gn n1 n2 n3 rfl) e23 (g := (mkF m 47 #[.val (.ref o0), .val (.long q1), .second, .val (.long q2), .second, .val .null, .val (.int (0 : Int32)), .val (.int (0 : Int32))] [(.int (0 : Int32)), (.ref o0)])) rfl (by rw [hml]; rfl) (a := o0) (argsL := [(.int (0 : Int32))]) (rest := []) (E) (lenOf pd_1 rfl) rfl rfl (W := 0) (by show 2 * 0 + _ ≤ _; exact Nat.le_of_eq rfl) (hb hby d3_47) (by decide) (by decide) (by decide) (by decide) (by decide)
  obtain ⟨la, ln, kl, km, rfl, N24q, K24, E24, F240, F241, F242, F243, F244, F245, A24, B24, C24, D24, Ea24, En24, s24, u24, nl24⟩ := hQ24
  refine own_go st24 ?_
  have N24 := Fr.app N0 N24q
  show own_Ends _ _ _ _ _ _ _ T24 (mkF m 50 #[.val (.ref o0), .val (.long q1), .second, .val (.long q2), .second, .val .null, .val (.int (0 : Int32)), .val (.int (0 : Int32))] [])
  have ne_o0_la : o0 ≠ la := Nat.ne_of_lt (Nat.lt_of_lt_of_le E.lt s24)
  have ne_o0_ln : o0 ≠ ln := Nat.ne_of_lt (Nat.lt_of_lt_of_le E.lt u24)
  have ne_aa_la : aa ≠ la := Nat.ne_of_lt (Nat.lt_of_lt_of_le A.lt s24)
  have ne_aa_ln : aa ≠ ln := Nat.ne_of_lt (Nat.lt_of_lt_of_le A.lt u24)
  have ne_na_la : na ≠ la := Nat.ne_of_lt (Nat.lt_of_lt_of_le B.lt s24)
  have ne_na_ln : na ≠ ln := Nat.ne_of_lt (Nat.lt_of_lt_of_le B.lt u24)
  have K_24 := K0.trans K24 (allS (Or.inl (List.mem_of_getElem? (i := 0) rfl)) (allS (Or.inl (List.mem_of_getElem? (i := 1) rfl)) (allS (Or.inl (List.mem_of_getElem? (i := 2) rfl)) all0)))
  show own_Ends _ _ _ _ _ _ _ T24 (mkF m 50 #[.val (.ref o0), .val (.long q1), .second, .val (.long q2), .second, .val .null, .val (.int (0 : Int32)), .val (.int (0 : Int32))] [])
  refine own_go (fun _ k => XS.aloadN X24.here hx rfl (hb hby d3_50) rfl rfl k) ?_
  show own_Ends _ _ _ _ _ _ _ T24 (mkF m 51 #[.val (.ref o0), .val (.long q1), .second, .val (.long q2), .second, .val .null, .val (.int (0 : Int32)), .val (.int (0 : Int32))] [(.ref o0)])
  obtain ⟨T25, X25, e25, st25⟩ := getF X24 hx hZ hown (host := "") (Or.inl (hw _ (List.mem_of_getElem? (i := 36) rfl))) Via.refl rfl F242 (g := (mkF m 51 #[.val (.ref o0), .val (.long q1), .second, .val (.long q2), .second, .val .null, .val (.int (0 : Int32)), .val (.int (0 : Int32))] [(.ref o0)])) rfl rfl (hb hby d3_51)
  refine own_go st25 ?_
  show own_Ends _ _ _ _ _ _ _ T25 (mkF m 54 #[.val (.ref o0), .val (.long q1), .second, .val (.long q2), .second, .val .null, .val (.int (0 : Int32)), .val (.int (0 : Int32))] [.null])
  refine own_go (fun _ k => XS.ifnullYes X25.here hx rfl (pc0 := 54) (pc' := 81) rfl (hb hby d3_54) rfl (by decide) (by decide) k) ?_
  show own_Ends _ _ _ _ _ _ _ T25 (mkF m 81 #[.val (.ref o0), .val (.long q1), .second, .val (.long q2), .second, .val .null, .val (.int (0 : Int32)), .val (.int (0 : Int32))] [])
  refine own_go (fun _ k => XS.aloadN X25.here hx rfl (hb hby d3_81) rfl rfl k) ?_
  show own_Ends _ _ _ _ _ _ _ T25 (mkF m 82 #[.val (.ref o0), .val (.long q1), .second, .val (.long q2), .second, .val .null, .val (.int (0 : Int32)), .val (.int (0 : Int32))] [(.ref o0)])
  obtain ⟨T26, X26, e26, st26⟩ := getF X25 hx hZ hown (host := "") (Or.inl (hw _ (List.mem_of_getElem? (i := 11) rfl))) Via.refl e25 F240 (g := (mkF m 82 #[.val (.ref o0), .val (.long q1), .second, .val (.long q2), .second, .val .null, .val (.int (0 : Int32)), .val (.int (0 : Int32))] [(.ref o0)])) rfl rfl (hb hby d3_82)
  refine own_go st26 ?_
  show own_Ends _ _ _ _ _ _ _ T26 (mkF m 85 #[.val (.ref o0), .val (.long q1), .second, .val (.long q2), .second, .val .null, .val (.int (0 : Int32)), .val (.int (0 : Int32))] [(.ref aa)])
  refine own_go (fun _ k => XS.iload X26.here hx rfl (hb hby d3_85) rfl k) ?_
  show own_Ends _ _ _ _ _ _ _ T26 (mkF m 87 #[.val (.ref o0), .val (.long q1), .second, .val (.long q2), .second, .val .null, .val (.int (0 : Int32)), .val (.int (0 : Int32))] [(.int (0 : Int32)), (.ref aa)])
  refine own_go (fun _ k => own_ldR X26 hx hZ e26 A24 rfl (i := 0) (v := (.ref la)) (by decide) (by decide) (by decide) rfl (g := (mkF m 87 #[.val (.ref o0), .val (.long q1), .second, .val (.long q2), .second, .val .null, .val (.int (0 : Int32)), .val (.int (0 : Int32))] [(.int (0 : Int32)), (.ref aa)])) rfl rfl (hb hby d3_87) _ k) ?_
  show own_Ends _ _ _ _ _ _ _ T26 (mkF m 88 #[.val (.ref o0), .val (.long q1), .second, .val (.long q2), .second, .val .null, .val (.int (0 : Int32)), .val (.int (0 : Int32))] [(.ref la)])
  refine own_go (fun _ k => XS.iload X26.here hx rfl (hb hby d3_88) rfl k) ?_
  show own_Ends _ _ _ _ _ _ _ T26 (mkF m 90 #[.val (.ref o0), .val (.long q1), .second, .val (.long q2), .second, .val .null, .val (.int (0 : Int32)), .val (.int (0 : Int32))] [(.int (0 : Int32)), (.ref la)])
  refine own_go (fun _ k => XS.lloadN X26.here hx rfl (hb hby d3_90) rfl k) ?_
  show own_Ends _ _ _ _ _ _ _ T26 (mkF m 91 #[.val (.ref o0), .val (.long q1), .second, .val (.long q2), .second, .val .null, .val (.int (0 : Int32)), .val (.int (0 : Int32))] [(.long q1), (.int (0 : Int32)), (.ref la)])
  obtain ⟨T27, h27, X27, e27, W27, V27, st27⟩ := own_stJ X26 hx hZ e26 C24 (i := 0) (by decide) (by decide) (by decide) (g := (mkF m 91 #[.val (.ref o0), .val (.long q1), .second, .val (.long q2), .second, .val .null, .val (.int (0 : Int32)), .val (.int (0 : Int32))] [(.long q1), (.int (0 : Int32)), (.ref la)])) rfl rfl (hb hby d3_91)
  have N27 := Fr.snoc X27 N24 (Nat.le_trans Z0 s24)
  have K_27 := K_24.wr W27 (Or.inr s24)
  have E_o0_27 := E24.wr W27
  have F_o0_arrivals_27 := F240.other W27 (Or.inl ne_o0_la)
  have F_o0_nanos_27 := F241.other W27 (Or.inl ne_o0_la)
  have F_o0_eventTimes_27 := F242.other W27 (Or.inl ne_o0_la)
  have F_o0_eventTimeEnds_27 := F243.other W27 (Or.inl ne_o0_la)
  have F_o0_count_27 := F244.other W27 (Or.inl ne_o0_la)
  have F_o0_figures_27 := F245.other W27 (Or.inl ne_o0_la)
  have V_aa_27 := A24.other W27 ne_aa_la
  have V_na_27 := B24.other W27 ne_na_la
  have V_ln_27 := D24.other W27 (Ne.symm nl24)
  have E_aa_27 := Ea24.wr W27
  have E_na_27 := En24.wr W27
  refine own_go st27 ?_
  show own_Ends _ _ _ _ _ _ _ T27 (mkF m 92 #[.val (.ref o0), .val (.long q1), .second, .val (.long q2), .second, .val .null, .val (.int (0 : Int32)), .val (.int (0 : Int32))] [])
  refine own_go (fun _ k => XS.aloadN X27.here hx rfl (hb hby d3_92) rfl rfl k) ?_
  show own_Ends _ _ _ _ _ _ _ T27 (mkF m 93 #[.val (.ref o0), .val (.long q1), .second, .val (.long q2), .second, .val .null, .val (.int (0 : Int32)), .val (.int (0 : Int32))] [(.ref o0)])
  obtain ⟨T28, X28, e28, st28⟩ := getF X27 hx hZ hown (host := "") (Or.inl (hw _ (List.mem_of_getElem? (i := 13) rfl))) Via.refl e27 F_o0_nanos_27 (g := (mkF m 93 #[.val (.ref o0), .val (.long q1), .second, .val (.long q2), .second, .val .null, .val (.int (0 : Int32)), .val (.int (0 : Int32))] [(.ref o0)])) rfl rfl (hb hby d3_93)
  refine own_go st28 ?_
  show own_Ends _ _ _ _ _ _ _ T28 (mkF m 96 #[.val (.ref o0), .val (.long q1), .second, .val (.long q2), .second, .val .null, .val (.int (0 : Int32)), .val (.int (0 : Int32))] [(.ref na)])
  refine own_go (fun _ k => XS.iload X28.here hx rfl (hb hby d3_96) rfl k) ?_
  show own_Ends _ _ _ _ _ _ _ T28 (mkF m 98 #[.val (.ref o0), .val (.long q1), .second, .val (.long q2), .second, .val .null, .val (.int (0 : Int32)), .val (.int (0 : Int32))] [(.int (0 : Int32)), (.ref na)])
  refine own_go (fun _ k => own_ldR X28 hx hZ e28 V_na_27 rfl (i := 0) (v := (.ref ln)) (by decide) (by decide) (by decide) rfl (g := (mkF m 98 #[.val (.ref o0), .val (.long q1), .second, .val (.long q2), .second, .val .null, .val (.int (0 : Int32)), .val (.int (0 : Int32))] [(.int (0 : Int32)), (.ref na)])) rfl rfl (hb hby d3_98) _ k) ?_
  show own_Ends _ _ _ _ _ _ _ T28 (mkF m 99 #[.val (.ref o0), .val (.long q1), .second, .val (.long q2), .second, .val .null, .val (.int (0 : Int32)), .val (.int (0 : Int32))] [(.ref ln)])
  refine own_go (fun _ k => XS.iload X28.here hx rfl (hb hby d3_99) rfl k) ?_
  show own_Ends _ _ _ _ _ _ _ T28 (mkF m 101 #[.val (.ref o0), .val (.long q1), .second, .val (.long q2), .second, .val .null, .val (.int (0 : Int32)), .val (.int (0 : Int32))] [(.int (0 : Int32)), (.ref ln)])
  refine own_go (fun _ k => XS.lloadN X28.here hx rfl (hb hby d3_101) rfl k) ?_
  show own_Ends _ _ _ _ _ _ _ T28 (mkF m 102 #[.val (.ref o0), .val (.long q1), .second, .val (.long q2), .second, .val .null, .val (.int (0 : Int32)), .val (.int (0 : Int32))] [(.long q2), (.int (0 : Int32)), (.ref ln)])
  obtain ⟨T29, h29, X29, e29, W29, V29, st29⟩ := own_stJ X28 hx hZ e28 V_ln_27 (i := 0) (by decide) (by decide) (by decide) (g := (mkF m 102 #[.val (.ref o0), .val (.long q1), .second, .val (.long q2), .second, .val .null, .val (.int (0 : Int32)), .val (.int (0 : Int32))] [(.long q2), (.int (0 : Int32)), (.ref ln)])) rfl rfl (hb hby d3_102)
  have N29 := Fr.snoc X29 N27 (Nat.le_trans Z0 u24)
  have K_29 := K_27.wr W29 (Or.inr u24)
  have E_o0_29 := E_o0_27.wr W29
  have F_o0_arrivals_29 := F_o0_arrivals_27.other W29 (Or.inl ne_o0_ln)
  have F_o0_nanos_29 := F_o0_nanos_27.other W29 (Or.inl ne_o0_ln)
  have F_o0_eventTimes_29 := F_o0_eventTimes_27.other W29 (Or.inl ne_o0_ln)
  have F_o0_eventTimeEnds_29 := F_o0_eventTimeEnds_27.other W29 (Or.inl ne_o0_ln)
  have F_o0_count_29 := F_o0_count_27.other W29 (Or.inl ne_o0_ln)
  have F_o0_figures_29 := F_o0_figures_27.other W29 (Or.inl ne_o0_ln)
  have V_aa_29 := V_aa_27.other W29 ne_aa_ln
  have V_na_29 := V_na_27.other W29 ne_na_ln
  have E_aa_29 := E_aa_27.wr W29
  have E_na_29 := E_na_27.wr W29
  have V_la_29 := V27.other W29 nl24
  refine own_go st29 ?_
  show own_Ends _ _ _ _ _ _ _ T29 (mkF m 103 #[.val (.ref o0), .val (.long q1), .second, .val (.long q2), .second, .val .null, .val (.int (0 : Int32)), .val (.int (0 : Int32))] [])
  refine own_go (fun _ k => XS.aloadN X29.here hx rfl (hb hby d3_103) rfl rfl k) ?_
  show own_Ends _ _ _ _ _ _ _ T29 (mkF m 104 #[.val (.ref o0), .val (.long q1), .second, .val (.long q2), .second, .val .null, .val (.int (0 : Int32)), .val (.int (0 : Int32))] [(.ref o0)])
  refine own_go (fun _ k => XS.dup X29.here hx rfl (hb hby d3_104) rfl rfl k) ?_
  show own_Ends _ _ _ _ _ _ _ T29 (mkF m 105 #[.val (.ref o0), .val (.long q1), .second, .val (.long q2), .second, .val .null, .val (.int (0 : Int32)), .val (.int (0 : Int32))] [(.ref o0), (.ref o0)])
  obtain ⟨T30, X30, e30, st30⟩ := getF X29 hx hZ hown (host := "") (Or.inl (hw _ (List.mem_of_getElem? (i := 20) rfl))) Via.refl e29 F_o0_count_29 (g := (mkF m 105 #[.val (.ref o0), .val (.long q1), .second, .val (.long q2), .second, .val .null, .val (.int (0 : Int32)), .val (.int (0 : Int32))] [(.ref o0), (.ref o0)])) rfl rfl (hb hby d3_105)
  refine own_go st30 ?_
  show own_Ends _ _ _ _ _ _ _ T30 (mkF m 108 #[.val (.ref o0), .val (.long q1), .second, .val (.long q2), .second, .val .null, .val (.int (0 : Int32)), .val (.int (0 : Int32))] [(.int (0 : Int32)), (.ref o0)])
  refine own_go (fun _ k => XS.iconst X30.here hx rfl (hb hby d3_108) k) ?_
  show own_Ends _ _ _ _ _ _ _ T30 (mkF m 109 #[.val (.ref o0), .val (.long q1), .second, .val (.long q2), .second, .val .null, .val (.int (0 : Int32)), .val (.int (0 : Int32))] [(.int (1 : Int32)), (.int (0 : Int32)), (.ref o0)])
  refine own_go (fun _ k => XS.iadd X30.here hx rfl (hb hby d3_109) rfl k) ?_
  show own_Ends _ _ _ _ _ _ _ T30 (mkF m 110 #[.val (.ref o0), .val (.long q1), .second, .val (.long q2), .second, .val .null, .val (.int (0 : Int32)), .val (.int (0 : Int32))] [(.int ((0 : Int32) + (1 : Int32))), (.ref o0)])
  obtain ⟨T31, h31, X31, e31, W31, st31⟩ := putF X30 hx hZ hown (host := "") (Or.inl (hw _ (List.mem_of_getElem? (i := 20) rfl))) Via.refl e30 F_o0_count_29 E_o0_29 (Or.inl (hw _ (List.mem_of_getElem? (i := 21) rfl))) (hw _ (List.mem_of_getElem? (i := 1) rfl)) (ty := .int) (by decide) rfl rfl (g := (mkF m 110 #[.val (.ref o0), .val (.long q1), .second, .val (.long q2), .second, .val .null, .val (.int (0 : Int32)), .val (.int (0 : Int32))] [(.int ((0 : Int32) + (1 : Int32))), (.ref o0)])) rfl rfl (hb hby d3_110)
  have N31 := Fr.snoc X31 N29 gg
  have K_31 := K_29.wr W31 (Or.inl (List.mem_of_getElem? (i := 0) rfl))
  have E_o0_31 := E_o0_29.wr W31
  have F_o0_arrivals_31 := F_o0_arrivals_29.other W31 (Or.inr (slot_ne (Or.inl (hw _ (List.mem_of_getElem? (i := 12) rfl))) (Or.inl (hw _ (List.mem_of_getElem? (i := 21) rfl))) (by decide) (t := (.array (.array .long))) (t' := .int) (by decide) (by decide)))
  have F_o0_nanos_31 := F_o0_nanos_29.other W31 (Or.inr (slot_ne (Or.inl (hw _ (List.mem_of_getElem? (i := 14) rfl))) (Or.inl (hw _ (List.mem_of_getElem? (i := 21) rfl))) (by decide) (t := (.array (.array .long))) (t' := .int) (by decide) (by decide)))
  have F_o0_eventTimes_31 := F_o0_eventTimes_29.other W31 (Or.inr (slot_ne (Or.inl (hw _ (List.mem_of_getElem? (i := 37) rfl))) (Or.inl (hw _ (List.mem_of_getElem? (i := 21) rfl))) (by decide) (t := (.array (.array .byte))) (t' := .int) (by decide) (by decide)))
  have F_o0_eventTimeEnds_31 := F_o0_eventTimeEnds_29.other W31 (Or.inr (slot_ne (Or.inl (hw _ (List.mem_of_getElem? (i := 29) rfl))) (Or.inl (hw _ (List.mem_of_getElem? (i := 21) rfl))) (by decide) (t := (.array (.array .int))) (t' := .int) (by decide) (by decide)))
  have F_o0_count_31 := F_o0_count_29.same W31
  have F_o0_figures_31 := F_o0_figures_29.other W31 (Or.inr (slot_ne (Or.inl (hw _ (List.mem_of_getElem? (i := 39) rfl))) (Or.inl (hw _ (List.mem_of_getElem? (i := 21) rfl))) (by decide) (t := (.array .long)) (t' := .int) (by decide) (by decide)))
  have V_aa_31 := V_aa_29.other W31 (Ne.symm n1)
  have V_na_31 := V_na_29.other W31 (Ne.symm n2)
  have E_aa_31 := E_aa_29.wr W31
  have E_na_31 := E_na_29.wr W31
  have V_la_31 := V_la_29.other W31 (Ne.symm ne_o0_la)
  have V_ln_31 := V29.other W31 (Ne.symm ne_o0_ln)
  refine own_go st31 ?_
  show own_Ends _ _ _ _ _ _ _ T31 (mkF m 113 #[.val (.ref o0), .val (.long q1), .second, .val (.long q2), .second, .val .null, .val (.int (0 : Int32)), .val (.int (0 : Int32))] [])
  refine own_go (fun _ k => XS.aloadN X31.here hx rfl (hb hby d3_113) rfl rfl k) ?_
  show own_Ends _ _ _ _ _ _ _ T31 (mkF m 114 #[.val (.ref o0), .val (.long q1), .second, .val (.long q2), .second, .val .null, .val (.int (0 : Int32)), .val (.int (0 : Int32))] [(.ref o0)])
  refine own_go (fun _ k => XS.aconstNull X31.here hx rfl (hb hby d3_114) k) ?_
  show own_Ends _ _ _ _ _ _ _ T31 (mkF m 115 #[.val (.ref o0), .val (.long q1), .second, .val (.long q2), .second, .val .null, .val (.int (0 : Int32)), .val (.int (0 : Int32))] [.null, (.ref o0)])
  obtain ⟨T32, h32, X32, e32, W32, st32⟩ := putF X31 hx hZ hown (host := "") (Or.inl (hw _ (List.mem_of_getElem? (i := 38) rfl))) Via.refl e31 F_o0_figures_31 E_o0_31 (Or.inl (hw _ (List.mem_of_getElem? (i := 39) rfl))) (hw _ (List.mem_of_getElem? (i := 1) rfl)) (ty := (.array .long)) (by decide) rfl rfl (g := (mkF m 115 #[.val (.ref o0), .val (.long q1), .second, .val (.long q2), .second, .val .null, .val (.int (0 : Int32)), .val (.int (0 : Int32))] [.null, (.ref o0)])) rfl rfl (hb hby d3_115)
  have N32 := Fr.snoc X32 N31 gg
  have K_32 := K_31.wr W32 (Or.inl (List.mem_of_getElem? (i := 0) rfl))
  have E_o0_32 := E_o0_31.wr W32
  have F_o0_arrivals_32 := F_o0_arrivals_31.other W32 (Or.inr (slot_ne (Or.inl (hw _ (List.mem_of_getElem? (i := 12) rfl))) (Or.inl (hw _ (List.mem_of_getElem? (i := 39) rfl))) (by decide) (t := (.array (.array .long))) (t' := (.array .long)) (by decide) (by decide)))
  have F_o0_nanos_32 := F_o0_nanos_31.other W32 (Or.inr (slot_ne (Or.inl (hw _ (List.mem_of_getElem? (i := 14) rfl))) (Or.inl (hw _ (List.mem_of_getElem? (i := 39) rfl))) (by decide) (t := (.array (.array .long))) (t' := (.array .long)) (by decide) (by decide)))
  have F_o0_eventTimes_32 := F_o0_eventTimes_31.other W32 (Or.inr (slot_ne (Or.inl (hw _ (List.mem_of_getElem? (i := 37) rfl))) (Or.inl (hw _ (List.mem_of_getElem? (i := 39) rfl))) (by decide) (t := (.array (.array .byte))) (t' := (.array .long)) (by decide) (by decide)))
  have F_o0_eventTimeEnds_32 := F_o0_eventTimeEnds_31.other W32 (Or.inr (slot_ne (Or.inl (hw _ (List.mem_of_getElem? (i := 29) rfl))) (Or.inl (hw _ (List.mem_of_getElem? (i := 39) rfl))) (by decide) (t := (.array (.array .int))) (t' := (.array .long)) (by decide) (by decide)))
  have F_o0_count_32 := F_o0_count_31.other W32 (Or.inr (slot_ne (Or.inl (hw _ (List.mem_of_getElem? (i := 21) rfl))) (Or.inl (hw _ (List.mem_of_getElem? (i := 39) rfl))) (by decide) (t := .int) (t' := (.array .long)) (by decide) (by decide)))
  have F_o0_figures_32 := F_o0_figures_31.same W32
  have V_aa_32 := V_aa_31.other W32 (Ne.symm n1)
  have V_na_32 := V_na_31.other W32 (Ne.symm n2)
  have E_aa_32 := E_aa_31.wr W32
  have E_na_32 := E_na_31.wr W32
  have V_la_32 := V_la_31.other W32 (Ne.symm ne_o0_la)
  have V_ln_32 := V_ln_31.other W32 (Ne.symm ne_o0_ln)
  refine own_go st32 ?_
  show own_Ends _ _ _ _ _ _ _ T32 (mkF m 118 #[.val (.ref o0), .val (.long q1), .second, .val (.long q2), .second, .val .null, .val (.int (0 : Int32)), .val (.int (0 : Int32))] [])
  exact own_retV X32 hx hlk hret (hb hby d3_118) (by decide) (by decide) (by rw [e32]; exact ⟨la, ln, kl, km, (fun j => if j = 0 then (.long q1) else (fun _ => .long (0 : Int64)) j), (fun j => if j = 0 then (.long q2) else (fun _ => .long (0 : Int64)) j), rfl, N32, K_32, E_o0_32, F_o0_arrivals_32, F_o0_nanos_32, F_o0_eventTimes_32, F_o0_eventTimeEnds_32, F_o0_count_32, F_o0_figures_32, V_aa_32, V_na_32, V_la_32, V_ln_32, E_aa_32, E_na_32, s24, u24, nl24, rfl⟩)
set_option maxRecDepth 65536 in
set_option maxHeartbeats 40000000 in
theorem rm3_1 (l : Launch) (Z : State) (a0 : Array Value) (hw : ∀ d ∈ tables_1, d.before a0 Z = true) (o0 : Addr) (q1 : Int64) (q2 : Int64) (h0 : Heap) (n0 : Nat) (aa : Addr) (na : Addr) (ka : ClassId) (kn : ClassId) (la : Addr) (ln : Addr) (kl : ClassId) (km : ClassId) (gl : Nat → Value) (gm : Nat → Value) (Z0 : n0 ≤ h0.size) (E : Exa Z h0 o0 "com/example/disarray/disarray/Latencies") (F0 : Fld Z h0 o0 "com/example/disarray/disarray/Latencies" "arrivals" "[[J" (.ref aa)) (F1 : Fld Z h0 o0 "com/example/disarray/disarray/Latencies" "nanos" "[[J" (.ref na)) (F2 : Fld Z h0 o0 "com/example/disarray/disarray/Latencies" "eventTimes" "[[B" .null) (F3 : Fld Z h0 o0 "com/example/disarray/disarray/Latencies" "eventTimeEnds" "[[I" .null) (F4 : Fld Z h0 o0 "com/example/disarray/disarray/Latencies" "count" "I" (.int (1 : Int32))) (F5 : Fld Z h0 o0 "com/example/disarray/disarray/Latencies" "figures" "[J" .null) (A : own_Ar Z h0 aa ka (.array .long) 1 (fun j => if j = 0 then .ref la else (fun _ => .null) j)) (B : own_Ar Z h0 na kn (.array .long) 1 (fun j => if j = 0 then .ref ln else (fun _ => .null) j)) (Ea : Exa Z h0 aa "[[J") (En : Exa Z h0 na "[[J") (Oa : OvrA Z ka .long "[J") (On : OvrA Z kn .long "[J") (gg : n0 ≤ o0) (ga : n0 ≤ aa) (gn : n0 ≤ na) (n1 : o0 ≠ aa) (n2 : o0 ≠ na) (n3 : aa ≠ na) (Cl : own_Ar Z h0 la kl .long 4094 gl) (Cm : own_Ar Z h0 ln km .long 4094 gm) (gla : n0 ≤ la) (gln : n0 ≤ ln) (m0 : o0 ≠ la) (m1 : o0 ≠ ln) (m2 : aa ≠ la) (m3 : aa ≠ ln) (m4 : na ≠ la) (m5 : na ≠ ln) (m6 : la ≠ ln) :
    own_C l (⟨"com/example/disarray/disarray/Latencies", "add", "(JJLjava/nio/ByteBuffer;)V"⟩ : MethodName) prog_29_method_2_code 8 none ({ frames := 1, cells := 0, slots := 0, locals := 40 } : Room) Z #[(.ref o0), (.long q1), (.long q2), .null] h0 (fun v h L => ∃ (g2 g3 : Nat → Value), v = none ∧ Fr n0 L ∧ Keep h0 h [o0, aa, na, la, ln] ∧ Exa Z h o0 "com/example/disarray/disarray/Latencies" ∧ Fld Z h o0 "com/example/disarray/disarray/Latencies" "arrivals" "[[J" (.ref aa) ∧ Fld Z h o0 "com/example/disarray/disarray/Latencies" "nanos" "[[J" (.ref na) ∧ Fld Z h o0 "com/example/disarray/disarray/Latencies" "eventTimes" "[[B" .null ∧ Fld Z h o0 "com/example/disarray/disarray/Latencies" "eventTimeEnds" "[[I" .null ∧ Fld Z h o0 "com/example/disarray/disarray/Latencies" "count" "I" (.int (2 : Int32)) ∧ Fld Z h o0 "com/example/disarray/disarray/Latencies" "figures" "[J" .null ∧ own_Ar Z h aa ka (.array .long) 1 (fun j => if j = 0 then .ref la else (fun _ => .null) j) ∧ own_Ar Z h na kn (.array .long) 1 (fun j => if j = 0 then .ref ln else (fun _ => .null) j) ∧ own_Ar Z h la kl .long 4094 g2 ∧ own_Ar Z h ln km .long 4094 g3 ∧ Exa Z h aa "[[J" ∧ Exa Z h na "[[J" ∧ g2 1 = .long q1 ∧ g2 0 = gl 0) := by
  refine own_enter pn_3 ?_
  intro p e s m below meth c s₁ X0 hx hby hml hown hnm hret hlk hZ e0
  replace hown : s.vm.findClass "com/example/disarray/disarray/Latencies" = some m.cls := hown
  have ef : entryFrame m #[(.ref o0), (.long q1), (.long q2), .null] 8 = mkF m 0 #[.val (.ref o0), .val (.long q1), .second, .val (.long q2), .second, .val .null, .unset, .unset] [] := by first | rfl | (simp [entryFrame, mkF, argsToLocals, Value.category, maxLocals]; done)
  refine own_cast ef ?_
  show own_Ends _ _ _ _ _ _ _ s₁ (mkF m 0 #[.val (.ref o0), .val (.long q1), .second, .val (.long q2), .second, .val .null, .unset, .unset] [])
  have N0 := Fr.nil n0
  have K0 : Keep h0 h0 [o0, aa, na, la, ln] := Keep.refl _ _
  refine own_go (fun _ k => XS.aloadN X0.here hx rfl (hb hby d3_0) rfl rfl k) ?_
  show own_Ends _ _ _ _ _ _ _ s₁ (mkF m 1 #[.val (.ref o0), .val (.long q1), .second, .val (.long q2), .second, .val .null, .unset, .unset] [(.ref o0)])
  obtain ⟨T33, X33, e33, st33⟩ := getF X0 hx hZ hown (host := "") (Or.inl (hw _ (List.mem_of_getElem? (i := 20) rfl))) Via.refl e0 F4 (g := (mkF m 1 #[.val (.ref o0), .val (.long q1), .second, .val (.long q2), .second, .val .null, .unset, .unset] [(.ref o0)])) rfl rfl (hb hby d3_1)
  refine own_go st33 ?_
  show own_Ends _ _ _ _ _ _ _ T33 (mkF m 4 #[.val (.ref o0), .val (.long q1), .second, .val (.long q2), .second, .val .null, .unset, .unset] [(.int (1 : Int32))])
  refine own_go (fun _ k => X33.ldcInt hx hown (mvT hZ (hw _ (List.mem_of_getElem? (i := 22) rfl))) (g := (mkF m 4 #[.val (.ref o0), .val (.long q1), .second, .val (.long q2), .second, .val .null, .unset, .unset] [(.int (1 : Int32))])) rfl (hb hby d3_4) _ k) ?_
  show own_Ends _ _ _ _ _ _ _ T33 (mkF m 6 #[.val (.ref o0), .val (.long q1), .second, .val (.long q2), .second, .val .null, .unset, .unset] [(.int (2147483639 : Int32)), (.int (1 : Int32))])
  refine own_go (fun _ k => XS.icmpYes X33.here hx rfl (pc0 := 6) (pc' := 19) rfl (hb hby d3_6) rfl (feq (by decide)).2 (by decide) (by decide) k) ?_
  show own_Ends _ _ _ _ _ _ _ T33 (mkF m 19 #[.val (.ref o0), .val (.long q1), .second, .val (.long q2), .second, .val .null, .unset, .unset] [])
  refine own_go (fun _ k => XS.aloadN X33.here hx rfl (hb hby d3_19) rfl rfl k) ?_
  show own_Ends _ _ _ _ _ _ _ T33 (mkF m 20 #[.val (.ref o0), .val (.long q1), .second, .val (.long q2), .second, .val .null, .unset, .unset] [(.ref o0)])
  obtain ⟨T34, X34, e34, st34⟩ := getF X33 hx hZ hown (host := "") (Or.inl (hw _ (List.mem_of_getElem? (i := 20) rfl))) Via.refl e33 F4 (g := (mkF m 20 #[.val (.ref o0), .val (.long q1), .second, .val (.long q2), .second, .val .null, .unset, .unset] [(.ref o0)])) rfl rfl (hb hby d3_20)
  refine own_go st34 ?_
  show own_Ends _ _ _ _ _ _ _ T34 (mkF m 23 #[.val (.ref o0), .val (.long q1), .second, .val (.long q2), .second, .val .null, .unset, .unset] [(.int (1 : Int32))])
  refine own_go (fun _ k => XS.sipush X34.here hx rfl (hb hby d3_23) k) ?_
  show own_Ends _ _ _ _ _ _ _ T34 (mkF m 26 #[.val (.ref o0), .val (.long q1), .second, .val (.long q2), .second, .val .null, .unset, .unset] [(.int (4094 : Int32)), (.int (1 : Int32))])
  refine own_go (fun _ k => XS.idiv X34.here hx rfl (hb hby d3_26) rfl (by decide) k) ?_
  show own_Ends _ _ _ _ _ _ _ T34 (mkF m 27 #[.val (.ref o0), .val (.long q1), .second, .val (.long q2), .second, .val .null, .unset, .unset] [(.int ((1 : Int32) / (4094 : Int32)))])
  refine own_go (fun _ k => XS.istore X34.here hx rfl (hb hby d3_27) rfl (l' := #[.val (.ref o0), .val (.long q1), .second, .val (.long q2), .second, .val .null, .val (.int ((1 : Int32) / (4094 : Int32))), .unset]) rfl k) ?_
  show own_Ends _ _ _ _ _ _ _ T34 (mkF m 29 #[.val (.ref o0), .val (.long q1), .second, .val (.long q2), .second, .val .null, .val (.int ((1 : Int32) / (4094 : Int32))), .unset] [])
  refine own_go (fun _ k => XS.aloadN X34.here hx rfl (hb hby d3_29) rfl rfl k) ?_
  show own_Ends _ _ _ _ _ _ _ T34 (mkF m 30 #[.val (.ref o0), .val (.long q1), .second, .val (.long q2), .second, .val .null, .val (.int ((1 : Int32) / (4094 : Int32))), .unset] [(.ref o0)])
  obtain ⟨T35, X35, e35, st35⟩ := getF X34 hx hZ hown (host := "") (Or.inl (hw _ (List.mem_of_getElem? (i := 20) rfl))) Via.refl e34 F4 (g := (mkF m 30 #[.val (.ref o0), .val (.long q1), .second, .val (.long q2), .second, .val .null, .val (.int ((1 : Int32) / (4094 : Int32))), .unset] [(.ref o0)])) rfl rfl (hb hby d3_30)
  refine own_go st35 ?_
  show own_Ends _ _ _ _ _ _ _ T35 (mkF m 33 #[.val (.ref o0), .val (.long q1), .second, .val (.long q2), .second, .val .null, .val (.int ((1 : Int32) / (4094 : Int32))), .unset] [(.int (1 : Int32))])
  refine own_go (fun _ k => XS.sipush X35.here hx rfl (hb hby d3_33) k) ?_
  show own_Ends _ _ _ _ _ _ _ T35 (mkF m 36 #[.val (.ref o0), .val (.long q1), .second, .val (.long q2), .second, .val .null, .val (.int ((1 : Int32) / (4094 : Int32))), .unset] [(.int (4094 : Int32)), (.int (1 : Int32))])
  refine own_go (fun _ k => iremM X35 hx rfl (hb hby d3_36) rfl (by decide) k) ?_
  show own_Ends _ _ _ _ _ _ _ T35 (mkF m 37 #[.val (.ref o0), .val (.long q1), .second, .val (.long q2), .second, .val .null, .val (.int ((1 : Int32) / (4094 : Int32))), .unset] [(.int ((1 : Int32) % (4094 : Int32)))])
  refine own_go (fun _ k => XS.istore X35.here hx rfl (hb hby d3_37) rfl (l' := #[.val (.ref o0), .val (.long q1), .second, .val (.long q2), .second, .val .null, .val (.int ((1 : Int32) / (4094 : Int32))), .val (.int ((1 : Int32) % (4094 : Int32)))]) rfl k) ?_
  show own_Ends _ _ _ _ _ _ _ T35 (mkF m 39 #[.val (.ref o0), .val (.long q1), .second, .val (.long q2), .second, .val .null, .val (.int ((1 : Int32) / (4094 : Int32))), .val (.int ((1 : Int32) % (4094 : Int32)))] [])
  refine own_go (fun _ k => XS.iload X35.here hx rfl (hb hby d3_39) rfl k) ?_
  show own_Ends _ _ _ _ _ _ _ T35 (mkF m 41 #[.val (.ref o0), .val (.long q1), .second, .val (.long q2), .second, .val .null, .val (.int ((1 : Int32) / (4094 : Int32))), .val (.int ((1 : Int32) % (4094 : Int32)))] [(.int ((1 : Int32) % (4094 : Int32)))])
  refine own_go (fun _ k => XS.ifYes X35.here hx rfl (pc0 := 41) (pc' := 50) rfl (hb hby d3_41) rfl ((if0 _ _).trans (feq (by decide)).2) (by decide) (by decide) k) ?_
  show own_Ends _ _ _ _ _ _ _ T35 (mkF m 50 #[.val (.ref o0), .val (.long q1), .second, .val (.long q2), .second, .val .null, .val (.int ((1 : Int32) / (4094 : Int32))), .val (.int ((1 : Int32) % (4094 : Int32)))] [])
  refine own_go (fun _ k => XS.aloadN X35.here hx rfl (hb hby d3_50) rfl rfl k) ?_
  show own_Ends _ _ _ _ _ _ _ T35 (mkF m 51 #[.val (.ref o0), .val (.long q1), .second, .val (.long q2), .second, .val .null, .val (.int ((1 : Int32) / (4094 : Int32))), .val (.int ((1 : Int32) % (4094 : Int32)))] [(.ref o0)])
  rw [show ((1 : Int32) / (4094 : Int32)) = (0 : Int32) from (by decide)]
  show own_Ends _ _ _ _ _ _ _ T35 (mkF m 51 #[.val (.ref o0), .val (.long q1), .second, .val (.long q2), .second, .val .null, .val (.int (0 : Int32)), .val (.int ((1 : Int32) % (4094 : Int32)))] [(.ref o0)])
  rw [show ((1 : Int32) % (4094 : Int32)) = (1 : Int32) from (by decide)]
  show own_Ends _ _ _ _ _ _ _ T35 (mkF m 51 #[.val (.ref o0), .val (.long q1), .second, .val (.long q2), .second, .val .null, .val (.int (0 : Int32)), .val (.int (1 : Int32))] [(.ref o0)])
  obtain ⟨T36, X36, e36, st36⟩ := getF X35 hx hZ hown (host := "") (Or.inl (hw _ (List.mem_of_getElem? (i := 36) rfl))) Via.refl e35 F2 (g := (mkF m 51 #[.val (.ref o0), .val (.long q1), .second, .val (.long q2), .second, .val .null, .val (.int (0 : Int32)), .val (.int (1 : Int32))] [(.ref o0)])) rfl rfl (hb hby d3_51)
  refine own_go st36 ?_
  show own_Ends _ _ _ _ _ _ _ T36 (mkF m 54 #[.val (.ref o0), .val (.long q1), .second, .val (.long q2), .second, .val .null, .val (.int (0 : Int32)), .val (.int (1 : Int32))] [.null])
  refine own_go (fun _ k => XS.ifnullYes X36.here hx rfl (pc0 := 54) (pc' := 81) rfl (hb hby d3_54) rfl (by decide) (by decide) k) ?_
  show own_Ends _ _ _ _ _ _ _ T36 (mkF m 81 #[.val (.ref o0), .val (.long q1), .second, .val (.long q2), .second, .val .null, .val (.int (0 : Int32)), .val (.int (1 : Int32))] [])
  refine own_go (fun _ k => XS.aloadN X36.here hx rfl (hb hby d3_81) rfl rfl k) ?_
  show own_Ends _ _ _ _ _ _ _ T36 (mkF m 82 #[.val (.ref o0), .val (.long q1), .second, .val (.long q2), .second, .val .null, .val (.int (0 : Int32)), .val (.int (1 : Int32))] [(.ref o0)])
  obtain ⟨T37, X37, e37, st37⟩ := getF X36 hx hZ hown (host := "") (Or.inl (hw _ (List.mem_of_getElem? (i := 11) rfl))) Via.refl e36 F0 (g := (mkF m 82 #[.val (.ref o0), .val (.long q1), .second, .val (.long q2), .second, .val .null, .val (.int (0 : Int32)), .val (.int (1 : Int32))] [(.ref o0)])) rfl rfl (hb hby d3_82)
  refine own_go st37 ?_
  show own_Ends _ _ _ _ _ _ _ T37 (mkF m 85 #[.val (.ref o0), .val (.long q1), .second, .val (.long q2), .second, .val .null, .val (.int (0 : Int32)), .val (.int (1 : Int32))] [(.ref aa)])
  refine own_go (fun _ k => XS.iload X37.here hx rfl (hb hby d3_85) rfl k) ?_
  show own_Ends _ _ _ _ _ _ _ T37 (mkF m 87 #[.val (.ref o0), .val (.long q1), .second, .val (.long q2), .second, .val .null, .val (.int (0 : Int32)), .val (.int (1 : Int32))] [(.int (0 : Int32)), (.ref aa)])
  refine own_go (fun _ k => own_ldR X37 hx hZ e37 A rfl (i := 0) (v := (.ref la)) (by decide) (by decide) (by decide) rfl (g := (mkF m 87 #[.val (.ref o0), .val (.long q1), .second, .val (.long q2), .second, .val .null, .val (.int (0 : Int32)), .val (.int (1 : Int32))] [(.int (0 : Int32)), (.ref aa)])) rfl rfl (hb hby d3_87) _ k) ?_
  show own_Ends _ _ _ _ _ _ _ T37 (mkF m 88 #[.val (.ref o0), .val (.long q1), .second, .val (.long q2), .second, .val .null, .val (.int (0 : Int32)), .val (.int (1 : Int32))] [(.ref la)])
  refine own_go (fun _ k => XS.iload X37.here hx rfl (hb hby d3_88) rfl k) ?_
  show own_Ends _ _ _ _ _ _ _ T37 (mkF m 90 #[.val (.ref o0), .val (.long q1), .second, .val (.long q2), .second, .val .null, .val (.int (0 : Int32)), .val (.int (1 : Int32))] [(.int (1 : Int32)), (.ref la)])
  refine own_go (fun _ k => XS.lloadN X37.here hx rfl (hb hby d3_90) rfl k) ?_
  show own_Ends _ _ _ _ _ _ _ T37 (mkF m 91 #[.val (.ref o0), .val (.long q1), .second, .val (.long q2), .second, .val .null, .val (.int (0 : Int32)), .val (.int (1 : Int32))] [(.long q1), (.int (1 : Int32)), (.ref la)])
  obtain ⟨T38, h38, X38, e38, W38, V38, st38⟩ := own_stJ X37 hx hZ e37 Cl (i := 1) (by decide) (by decide) (by decide) (g := (mkF m 91 #[.val (.ref o0), .val (.long q1), .second, .val (.long q2), .second, .val .null, .val (.int (0 : Int32)), .val (.int (1 : Int32))] [(.long q1), (.int (1 : Int32)), (.ref la)])) rfl rfl (hb hby d3_91)
  have N38 := Fr.snoc X38 N0 gla
  have K_38 := K0.wr W38 (Or.inl (List.mem_of_getElem? (i := 3) rfl))
  have E_o0_38 := E.wr W38
  have F_o0_arrivals_38 := F0.other W38 (Or.inl m0)
  have F_o0_nanos_38 := F1.other W38 (Or.inl m0)
  have F_o0_eventTimes_38 := F2.other W38 (Or.inl m0)
  have F_o0_eventTimeEnds_38 := F3.other W38 (Or.inl m0)
  have F_o0_count_38 := F4.other W38 (Or.inl m0)
  have F_o0_figures_38 := F5.other W38 (Or.inl m0)
  have V_aa_38 := A.other W38 m2
  have V_na_38 := B.other W38 m4
  have E_aa_38 := Ea.wr W38
  have E_na_38 := En.wr W38
  have V_ln_38 := Cm.other W38 (Ne.symm m6)
  refine own_go st38 ?_
  show own_Ends _ _ _ _ _ _ _ T38 (mkF m 92 #[.val (.ref o0), .val (.long q1), .second, .val (.long q2), .second, .val .null, .val (.int (0 : Int32)), .val (.int (1 : Int32))] [])
  refine own_go (fun _ k => XS.aloadN X38.here hx rfl (hb hby d3_92) rfl rfl k) ?_
  show own_Ends _ _ _ _ _ _ _ T38 (mkF m 93 #[.val (.ref o0), .val (.long q1), .second, .val (.long q2), .second, .val .null, .val (.int (0 : Int32)), .val (.int (1 : Int32))] [(.ref o0)])
  obtain ⟨T39, X39, e39, st39⟩ := getF X38 hx hZ hown (host := "") (Or.inl (hw _ (List.mem_of_getElem? (i := 13) rfl))) Via.refl e38 F_o0_nanos_38 (g := (mkF m 93 #[.val (.ref o0), .val (.long q1), .second, .val (.long q2), .second, .val .null, .val (.int (0 : Int32)), .val (.int (1 : Int32))] [(.ref o0)])) rfl rfl (hb hby d3_93)
  refine own_go st39 ?_
  show own_Ends _ _ _ _ _ _ _ T39 (mkF m 96 #[.val (.ref o0), .val (.long q1), .second, .val (.long q2), .second, .val .null, .val (.int (0 : Int32)), .val (.int (1 : Int32))] [(.ref na)])
  refine own_go (fun _ k => XS.iload X39.here hx rfl (hb hby d3_96) rfl k) ?_
  show own_Ends _ _ _ _ _ _ _ T39 (mkF m 98 #[.val (.ref o0), .val (.long q1), .second, .val (.long q2), .second, .val .null, .val (.int (0 : Int32)), .val (.int (1 : Int32))] [(.int (0 : Int32)), (.ref na)])
  refine own_go (fun _ k => own_ldR X39 hx hZ e39 V_na_38 rfl (i := 0) (v := (.ref ln)) (by decide) (by decide) (by decide) rfl (g := (mkF m 98 #[.val (.ref o0), .val (.long q1), .second, .val (.long q2), .second, .val .null, .val (.int (0 : Int32)), .val (.int (1 : Int32))] [(.int (0 : Int32)), (.ref na)])) rfl rfl (hb hby d3_98) _ k) ?_
  show own_Ends _ _ _ _ _ _ _ T39 (mkF m 99 #[.val (.ref o0), .val (.long q1), .second, .val (.long q2), .second, .val .null, .val (.int (0 : Int32)), .val (.int (1 : Int32))] [(.ref ln)])
  refine own_go (fun _ k => XS.iload X39.here hx rfl (hb hby d3_99) rfl k) ?_
  show own_Ends _ _ _ _ _ _ _ T39 (mkF m 101 #[.val (.ref o0), .val (.long q1), .second, .val (.long q2), .second, .val .null, .val (.int (0 : Int32)), .val (.int (1 : Int32))] [(.int (1 : Int32)), (.ref ln)])
  refine own_go (fun _ k => XS.lloadN X39.here hx rfl (hb hby d3_101) rfl k) ?_
  show own_Ends _ _ _ _ _ _ _ T39 (mkF m 102 #[.val (.ref o0), .val (.long q1), .second, .val (.long q2), .second, .val .null, .val (.int (0 : Int32)), .val (.int (1 : Int32))] [(.long q2), (.int (1 : Int32)), (.ref ln)])
  obtain ⟨T40, h40, X40, e40, W40, V40, st40⟩ := own_stJ X39 hx hZ e39 V_ln_38 (i := 1) (by decide) (by decide) (by decide) (g := (mkF m 102 #[.val (.ref o0), .val (.long q1), .second, .val (.long q2), .second, .val .null, .val (.int (0 : Int32)), .val (.int (1 : Int32))] [(.long q2), (.int (1 : Int32)), (.ref ln)])) rfl rfl (hb hby d3_102)
  have N40 := Fr.snoc X40 N38 gln
  have K_40 := K_38.wr W40 (Or.inl (List.mem_of_getElem? (i := 4) rfl))
  have E_o0_40 := E_o0_38.wr W40
  have F_o0_arrivals_40 := F_o0_arrivals_38.other W40 (Or.inl m1)
  have F_o0_nanos_40 := F_o0_nanos_38.other W40 (Or.inl m1)
  have F_o0_eventTimes_40 := F_o0_eventTimes_38.other W40 (Or.inl m1)
  have F_o0_eventTimeEnds_40 := F_o0_eventTimeEnds_38.other W40 (Or.inl m1)
  have F_o0_count_40 := F_o0_count_38.other W40 (Or.inl m1)
  have F_o0_figures_40 := F_o0_figures_38.other W40 (Or.inl m1)
  have V_aa_40 := V_aa_38.other W40 m3
  have V_na_40 := V_na_38.other W40 m5
  have E_aa_40 := E_aa_38.wr W40
  have E_na_40 := E_na_38.wr W40
  have V_la_40 := V38.other W40 m6
  refine own_go st40 ?_
  show own_Ends _ _ _ _ _ _ _ T40 (mkF m 103 #[.val (.ref o0), .val (.long q1), .second, .val (.long q2), .second, .val .null, .val (.int (0 : Int32)), .val (.int (1 : Int32))] [])
  refine own_go (fun _ k => XS.aloadN X40.here hx rfl (hb hby d3_103) rfl rfl k) ?_
  show own_Ends _ _ _ _ _ _ _ T40 (mkF m 104 #[.val (.ref o0), .val (.long q1), .second, .val (.long q2), .second, .val .null, .val (.int (0 : Int32)), .val (.int (1 : Int32))] [(.ref o0)])
  refine own_go (fun _ k => XS.dup X40.here hx rfl (hb hby d3_104) rfl rfl k) ?_
  show own_Ends _ _ _ _ _ _ _ T40 (mkF m 105 #[.val (.ref o0), .val (.long q1), .second, .val (.long q2), .second, .val .null, .val (.int (0 : Int32)), .val (.int (1 : Int32))] [(.ref o0), (.ref o0)])
  obtain ⟨T41, X41, e41, st41⟩ := getF X40 hx hZ hown (host := "") (Or.inl (hw _ (List.mem_of_getElem? (i := 20) rfl))) Via.refl e40 F_o0_count_40 (g := (mkF m 105 #[.val (.ref o0), .val (.long q1), .second, .val (.long q2), .second, .val .null, .val (.int (0 : Int32)), .val (.int (1 : Int32))] [(.ref o0), (.ref o0)])) rfl rfl (hb hby d3_105)
  refine own_go st41 ?_
  show own_Ends _ _ _ _ _ _ _ T41 (mkF m 108 #[.val (.ref o0), .val (.long q1), .second, .val (.long q2), .second, .val .null, .val (.int (0 : Int32)), .val (.int (1 : Int32))] [(.int (1 : Int32)), (.ref o0)])
  refine own_go (fun _ k => XS.iconst X41.here hx rfl (hb hby d3_108) k) ?_
  show own_Ends _ _ _ _ _ _ _ T41 (mkF m 109 #[.val (.ref o0), .val (.long q1), .second, .val (.long q2), .second, .val .null, .val (.int (0 : Int32)), .val (.int (1 : Int32))] [(.int (1 : Int32)), (.int (1 : Int32)), (.ref o0)])
  refine own_go (fun _ k => XS.iadd X41.here hx rfl (hb hby d3_109) rfl k) ?_
  show own_Ends _ _ _ _ _ _ _ T41 (mkF m 110 #[.val (.ref o0), .val (.long q1), .second, .val (.long q2), .second, .val .null, .val (.int (0 : Int32)), .val (.int (1 : Int32))] [(.int ((1 : Int32) + (1 : Int32))), (.ref o0)])
  obtain ⟨T42, h42, X42, e42, W42, st42⟩ := putF X41 hx hZ hown (host := "") (Or.inl (hw _ (List.mem_of_getElem? (i := 20) rfl))) Via.refl e41 F_o0_count_40 E_o0_40 (Or.inl (hw _ (List.mem_of_getElem? (i := 21) rfl))) (hw _ (List.mem_of_getElem? (i := 1) rfl)) (ty := .int) (by decide) rfl rfl (g := (mkF m 110 #[.val (.ref o0), .val (.long q1), .second, .val (.long q2), .second, .val .null, .val (.int (0 : Int32)), .val (.int (1 : Int32))] [(.int ((1 : Int32) + (1 : Int32))), (.ref o0)])) rfl rfl (hb hby d3_110)
  have N42 := Fr.snoc X42 N40 gg
  have K_42 := K_40.wr W42 (Or.inl (List.mem_of_getElem? (i := 0) rfl))
  have E_o0_42 := E_o0_40.wr W42
  have F_o0_arrivals_42 := F_o0_arrivals_40.other W42 (Or.inr (slot_ne (Or.inl (hw _ (List.mem_of_getElem? (i := 12) rfl))) (Or.inl (hw _ (List.mem_of_getElem? (i := 21) rfl))) (by decide) (t := (.array (.array .long))) (t' := .int) (by decide) (by decide)))
  have F_o0_nanos_42 := F_o0_nanos_40.other W42 (Or.inr (slot_ne (Or.inl (hw _ (List.mem_of_getElem? (i := 14) rfl))) (Or.inl (hw _ (List.mem_of_getElem? (i := 21) rfl))) (by decide) (t := (.array (.array .long))) (t' := .int) (by decide) (by decide)))
  have F_o0_eventTimes_42 := F_o0_eventTimes_40.other W42 (Or.inr (slot_ne (Or.inl (hw _ (List.mem_of_getElem? (i := 37) rfl))) (Or.inl (hw _ (List.mem_of_getElem? (i := 21) rfl))) (by decide) (t := (.array (.array .byte))) (t' := .int) (by decide) (by decide)))
  have F_o0_eventTimeEnds_42 := F_o0_eventTimeEnds_40.other W42 (Or.inr (slot_ne (Or.inl (hw _ (List.mem_of_getElem? (i := 29) rfl))) (Or.inl (hw _ (List.mem_of_getElem? (i := 21) rfl))) (by decide) (t := (.array (.array .int))) (t' := .int) (by decide) (by decide)))
  have F_o0_count_42 := F_o0_count_40.same W42
  have F_o0_figures_42 := F_o0_figures_40.other W42 (Or.inr (slot_ne (Or.inl (hw _ (List.mem_of_getElem? (i := 39) rfl))) (Or.inl (hw _ (List.mem_of_getElem? (i := 21) rfl))) (by decide) (t := (.array .long)) (t' := .int) (by decide) (by decide)))
  have V_aa_42 := V_aa_40.other W42 (Ne.symm n1)
  have V_na_42 := V_na_40.other W42 (Ne.symm n2)
  have E_aa_42 := E_aa_40.wr W42
  have E_na_42 := E_na_40.wr W42
  have V_la_42 := V_la_40.other W42 (Ne.symm m0)
  have V_ln_42 := V40.other W42 (Ne.symm m1)
  refine own_go st42 ?_
  show own_Ends _ _ _ _ _ _ _ T42 (mkF m 113 #[.val (.ref o0), .val (.long q1), .second, .val (.long q2), .second, .val .null, .val (.int (0 : Int32)), .val (.int (1 : Int32))] [])
  refine own_go (fun _ k => XS.aloadN X42.here hx rfl (hb hby d3_113) rfl rfl k) ?_
  show own_Ends _ _ _ _ _ _ _ T42 (mkF m 114 #[.val (.ref o0), .val (.long q1), .second, .val (.long q2), .second, .val .null, .val (.int (0 : Int32)), .val (.int (1 : Int32))] [(.ref o0)])
  refine own_go (fun _ k => XS.aconstNull X42.here hx rfl (hb hby d3_114) k) ?_
  show own_Ends _ _ _ _ _ _ _ T42 (mkF m 115 #[.val (.ref o0), .val (.long q1), .second, .val (.long q2), .second, .val .null, .val (.int (0 : Int32)), .val (.int (1 : Int32))] [.null, (.ref o0)])
  obtain ⟨T43, h43, X43, e43, W43, st43⟩ := putF X42 hx hZ hown (host := "") (Or.inl (hw _ (List.mem_of_getElem? (i := 38) rfl))) Via.refl e42 F_o0_figures_42 E_o0_42 (Or.inl (hw _ (List.mem_of_getElem? (i := 39) rfl))) (hw _ (List.mem_of_getElem? (i := 1) rfl)) (ty := (.array .long)) (by decide) rfl rfl (g := (mkF m 115 #[.val (.ref o0), .val (.long q1), .second, .val (.long q2), .second, .val .null, .val (.int (0 : Int32)), .val (.int (1 : Int32))] [.null, (.ref o0)])) rfl rfl (hb hby d3_115)
  have N43 := Fr.snoc X43 N42 gg
  have K_43 := K_42.wr W43 (Or.inl (List.mem_of_getElem? (i := 0) rfl))
  have E_o0_43 := E_o0_42.wr W43
  have F_o0_arrivals_43 := F_o0_arrivals_42.other W43 (Or.inr (slot_ne (Or.inl (hw _ (List.mem_of_getElem? (i := 12) rfl))) (Or.inl (hw _ (List.mem_of_getElem? (i := 39) rfl))) (by decide) (t := (.array (.array .long))) (t' := (.array .long)) (by decide) (by decide)))
  have F_o0_nanos_43 := F_o0_nanos_42.other W43 (Or.inr (slot_ne (Or.inl (hw _ (List.mem_of_getElem? (i := 14) rfl))) (Or.inl (hw _ (List.mem_of_getElem? (i := 39) rfl))) (by decide) (t := (.array (.array .long))) (t' := (.array .long)) (by decide) (by decide)))
  have F_o0_eventTimes_43 := F_o0_eventTimes_42.other W43 (Or.inr (slot_ne (Or.inl (hw _ (List.mem_of_getElem? (i := 37) rfl))) (Or.inl (hw _ (List.mem_of_getElem? (i := 39) rfl))) (by decide) (t := (.array (.array .byte))) (t' := (.array .long)) (by decide) (by decide)))
  have F_o0_eventTimeEnds_43 := F_o0_eventTimeEnds_42.other W43 (Or.inr (slot_ne (Or.inl (hw _ (List.mem_of_getElem? (i := 29) rfl))) (Or.inl (hw _ (List.mem_of_getElem? (i := 39) rfl))) (by decide) (t := (.array (.array .int))) (t' := (.array .long)) (by decide) (by decide)))
  have F_o0_count_43 := F_o0_count_42.other W43 (Or.inr (slot_ne (Or.inl (hw _ (List.mem_of_getElem? (i := 21) rfl))) (Or.inl (hw _ (List.mem_of_getElem? (i := 39) rfl))) (by decide) (t := .int) (t' := (.array .long)) (by decide) (by decide)))
  have F_o0_figures_43 := F_o0_figures_42.same W43
  have V_aa_43 := V_aa_42.other W43 (Ne.symm n1)
  have V_na_43 := V_na_42.other W43 (Ne.symm n2)
  have E_aa_43 := E_aa_42.wr W43
  have E_na_43 := E_na_42.wr W43
  have V_la_43 := V_la_42.other W43 (Ne.symm m0)
  have V_ln_43 := V_ln_42.other W43 (Ne.symm m1)
  refine own_go st43 ?_
  show own_Ends _ _ _ _ _ _ _ T43 (mkF m 118 #[.val (.ref o0), .val (.long q1), .second, .val (.long q2), .second, .val .null, .val (.int (0 : Int32)), .val (.int (1 : Int32))] [])
  exact own_retV X43 hx hlk hret (hb hby d3_118) (by decide) (by decide) (by rw [e43]; exact ⟨(fun j => if j = 1 then (.long q1) else gl j), (fun j => if j = 1 then (.long q2) else gm j), rfl, N43, K_43, E_o0_43, F_o0_arrivals_43, F_o0_nanos_43, F_o0_eventTimes_43, F_o0_eventTimeEnds_43, F_o0_count_43, F_o0_figures_43, V_aa_43, V_na_43, V_la_43, V_ln_43, E_aa_43, E_na_43, rfl, by simp⟩)
set_option maxRecDepth 65536 in
set_option maxHeartbeats 40000000 in
theorem rm3_2 (l : Launch) (Z : State) (a0 : Array Value) (hw : ∀ d ∈ tables_1, d.before a0 Z = true) (o0 : Addr) (q1 : Int64) (q2 : Int64) (h0 : Heap) (n0 : Nat) (aa : Addr) (na : Addr) (ka : ClassId) (kn : ClassId) (la : Addr) (ln : Addr) (kl : ClassId) (km : ClassId) (gl : Nat → Value) (gm : Nat → Value) (Z0 : n0 ≤ h0.size) (E : Exa Z h0 o0 "com/example/disarray/disarray/Latencies") (F0 : Fld Z h0 o0 "com/example/disarray/disarray/Latencies" "arrivals" "[[J" (.ref aa)) (F1 : Fld Z h0 o0 "com/example/disarray/disarray/Latencies" "nanos" "[[J" (.ref na)) (F2 : Fld Z h0 o0 "com/example/disarray/disarray/Latencies" "eventTimes" "[[B" .null) (F3 : Fld Z h0 o0 "com/example/disarray/disarray/Latencies" "eventTimeEnds" "[[I" .null) (F4 : Fld Z h0 o0 "com/example/disarray/disarray/Latencies" "count" "I" (.int (2 : Int32))) (F5 : Fld Z h0 o0 "com/example/disarray/disarray/Latencies" "figures" "[J" .null) (A : own_Ar Z h0 aa ka (.array .long) 1 (fun j => if j = 0 then .ref la else (fun _ => .null) j)) (B : own_Ar Z h0 na kn (.array .long) 1 (fun j => if j = 0 then .ref ln else (fun _ => .null) j)) (Ea : Exa Z h0 aa "[[J") (En : Exa Z h0 na "[[J") (Oa : OvrA Z ka .long "[J") (On : OvrA Z kn .long "[J") (gg : n0 ≤ o0) (ga : n0 ≤ aa) (gn : n0 ≤ na) (n1 : o0 ≠ aa) (n2 : o0 ≠ na) (n3 : aa ≠ na) (Cl : own_Ar Z h0 la kl .long 4094 gl) (Cm : own_Ar Z h0 ln km .long 4094 gm) (gla : n0 ≤ la) (gln : n0 ≤ ln) (m0 : o0 ≠ la) (m1 : o0 ≠ ln) (m2 : aa ≠ la) (m3 : aa ≠ ln) (m4 : na ≠ la) (m5 : na ≠ ln) (m6 : la ≠ ln) :
    own_C l (⟨"com/example/disarray/disarray/Latencies", "add", "(JJLjava/nio/ByteBuffer;)V"⟩ : MethodName) prog_29_method_2_code 8 none ({ frames := 1, cells := 0, slots := 0, locals := 40 } : Room) Z #[(.ref o0), (.long q1), (.long q2), .null] h0 (fun v h L => ∃ (g2 g3 : Nat → Value), v = none ∧ Fr n0 L ∧ Keep h0 h [o0, aa, na, la, ln] ∧ Exa Z h o0 "com/example/disarray/disarray/Latencies" ∧ Fld Z h o0 "com/example/disarray/disarray/Latencies" "arrivals" "[[J" (.ref aa) ∧ Fld Z h o0 "com/example/disarray/disarray/Latencies" "nanos" "[[J" (.ref na) ∧ Fld Z h o0 "com/example/disarray/disarray/Latencies" "eventTimes" "[[B" .null ∧ Fld Z h o0 "com/example/disarray/disarray/Latencies" "eventTimeEnds" "[[I" .null ∧ Fld Z h o0 "com/example/disarray/disarray/Latencies" "count" "I" (.int (3 : Int32)) ∧ Fld Z h o0 "com/example/disarray/disarray/Latencies" "figures" "[J" .null ∧ own_Ar Z h aa ka (.array .long) 1 (fun j => if j = 0 then .ref la else (fun _ => .null) j) ∧ own_Ar Z h na kn (.array .long) 1 (fun j => if j = 0 then .ref ln else (fun _ => .null) j) ∧ own_Ar Z h la kl .long 4094 g2 ∧ own_Ar Z h ln km .long 4094 g3 ∧ Exa Z h aa "[[J" ∧ Exa Z h na "[[J" ∧ g2 2 = .long q1 ∧ g2 0 = gl 0 ∧ g2 1 = gl 1) := by
  refine own_enter pn_3 ?_
  intro p e s m below meth c s₁ X0 hx hby hml hown hnm hret hlk hZ e0
  replace hown : s.vm.findClass "com/example/disarray/disarray/Latencies" = some m.cls := hown
  have ef : entryFrame m #[(.ref o0), (.long q1), (.long q2), .null] 8 = mkF m 0 #[.val (.ref o0), .val (.long q1), .second, .val (.long q2), .second, .val .null, .unset, .unset] [] := by first | rfl | (simp [entryFrame, mkF, argsToLocals, Value.category, maxLocals]; done)
  refine own_cast ef ?_
  show own_Ends _ _ _ _ _ _ _ s₁ (mkF m 0 #[.val (.ref o0), .val (.long q1), .second, .val (.long q2), .second, .val .null, .unset, .unset] [])
  have N0 := Fr.nil n0
  have K0 : Keep h0 h0 [o0, aa, na, la, ln] := Keep.refl _ _
  refine own_go (fun _ k => XS.aloadN X0.here hx rfl (hb hby d3_0) rfl rfl k) ?_
  show own_Ends _ _ _ _ _ _ _ s₁ (mkF m 1 #[.val (.ref o0), .val (.long q1), .second, .val (.long q2), .second, .val .null, .unset, .unset] [(.ref o0)])
  obtain ⟨T44, X44, e44, st44⟩ := getF X0 hx hZ hown (host := "") (Or.inl (hw _ (List.mem_of_getElem? (i := 20) rfl))) Via.refl e0 F4 (g := (mkF m 1 #[.val (.ref o0), .val (.long q1), .second, .val (.long q2), .second, .val .null, .unset, .unset] [(.ref o0)])) rfl rfl (hb hby d3_1)
  refine own_go st44 ?_
  show own_Ends _ _ _ _ _ _ _ T44 (mkF m 4 #[.val (.ref o0), .val (.long q1), .second, .val (.long q2), .second, .val .null, .unset, .unset] [(.int (2 : Int32))])
  refine own_go (fun _ k => X44.ldcInt hx hown (mvT hZ (hw _ (List.mem_of_getElem? (i := 22) rfl))) (g := (mkF m 4 #[.val (.ref o0), .val (.long q1), .second, .val (.long q2), .second, .val .null, .unset, .unset] [(.int (2 : Int32))])) rfl (hb hby d3_4) _ k) ?_
  show own_Ends _ _ _ _ _ _ _ T44 (mkF m 6 #[.val (.ref o0), .val (.long q1), .second, .val (.long q2), .second, .val .null, .unset, .unset] [(.int (2147483639 : Int32)), (.int (2 : Int32))])
  refine own_go (fun _ k => XS.icmpYes X44.here hx rfl (pc0 := 6) (pc' := 19) rfl (hb hby d3_6) rfl (feq (by decide)).2 (by decide) (by decide) k) ?_
  show own_Ends _ _ _ _ _ _ _ T44 (mkF m 19 #[.val (.ref o0), .val (.long q1), .second, .val (.long q2), .second, .val .null, .unset, .unset] [])
  refine own_go (fun _ k => XS.aloadN X44.here hx rfl (hb hby d3_19) rfl rfl k) ?_
  show own_Ends _ _ _ _ _ _ _ T44 (mkF m 20 #[.val (.ref o0), .val (.long q1), .second, .val (.long q2), .second, .val .null, .unset, .unset] [(.ref o0)])
  obtain ⟨T45, X45, e45, st45⟩ := getF X44 hx hZ hown (host := "") (Or.inl (hw _ (List.mem_of_getElem? (i := 20) rfl))) Via.refl e44 F4 (g := (mkF m 20 #[.val (.ref o0), .val (.long q1), .second, .val (.long q2), .second, .val .null, .unset, .unset] [(.ref o0)])) rfl rfl (hb hby d3_20)
  refine own_go st45 ?_
  show own_Ends _ _ _ _ _ _ _ T45 (mkF m 23 #[.val (.ref o0), .val (.long q1), .second, .val (.long q2), .second, .val .null, .unset, .unset] [(.int (2 : Int32))])
  refine own_go (fun _ k => XS.sipush X45.here hx rfl (hb hby d3_23) k) ?_
  show own_Ends _ _ _ _ _ _ _ T45 (mkF m 26 #[.val (.ref o0), .val (.long q1), .second, .val (.long q2), .second, .val .null, .unset, .unset] [(.int (4094 : Int32)), (.int (2 : Int32))])
  refine own_go (fun _ k => XS.idiv X45.here hx rfl (hb hby d3_26) rfl (by decide) k) ?_
  show own_Ends _ _ _ _ _ _ _ T45 (mkF m 27 #[.val (.ref o0), .val (.long q1), .second, .val (.long q2), .second, .val .null, .unset, .unset] [(.int ((2 : Int32) / (4094 : Int32)))])
  refine own_go (fun _ k => XS.istore X45.here hx rfl (hb hby d3_27) rfl (l' := #[.val (.ref o0), .val (.long q1), .second, .val (.long q2), .second, .val .null, .val (.int ((2 : Int32) / (4094 : Int32))), .unset]) rfl k) ?_
  show own_Ends _ _ _ _ _ _ _ T45 (mkF m 29 #[.val (.ref o0), .val (.long q1), .second, .val (.long q2), .second, .val .null, .val (.int ((2 : Int32) / (4094 : Int32))), .unset] [])
  refine own_go (fun _ k => XS.aloadN X45.here hx rfl (hb hby d3_29) rfl rfl k) ?_
  show own_Ends _ _ _ _ _ _ _ T45 (mkF m 30 #[.val (.ref o0), .val (.long q1), .second, .val (.long q2), .second, .val .null, .val (.int ((2 : Int32) / (4094 : Int32))), .unset] [(.ref o0)])
  obtain ⟨T46, X46, e46, st46⟩ := getF X45 hx hZ hown (host := "") (Or.inl (hw _ (List.mem_of_getElem? (i := 20) rfl))) Via.refl e45 F4 (g := (mkF m 30 #[.val (.ref o0), .val (.long q1), .second, .val (.long q2), .second, .val .null, .val (.int ((2 : Int32) / (4094 : Int32))), .unset] [(.ref o0)])) rfl rfl (hb hby d3_30)
  refine own_go st46 ?_
  show own_Ends _ _ _ _ _ _ _ T46 (mkF m 33 #[.val (.ref o0), .val (.long q1), .second, .val (.long q2), .second, .val .null, .val (.int ((2 : Int32) / (4094 : Int32))), .unset] [(.int (2 : Int32))])
  refine own_go (fun _ k => XS.sipush X46.here hx rfl (hb hby d3_33) k) ?_
  show own_Ends _ _ _ _ _ _ _ T46 (mkF m 36 #[.val (.ref o0), .val (.long q1), .second, .val (.long q2), .second, .val .null, .val (.int ((2 : Int32) / (4094 : Int32))), .unset] [(.int (4094 : Int32)), (.int (2 : Int32))])
  refine own_go (fun _ k => iremM X46 hx rfl (hb hby d3_36) rfl (by decide) k) ?_
  show own_Ends _ _ _ _ _ _ _ T46 (mkF m 37 #[.val (.ref o0), .val (.long q1), .second, .val (.long q2), .second, .val .null, .val (.int ((2 : Int32) / (4094 : Int32))), .unset] [(.int ((2 : Int32) % (4094 : Int32)))])
  refine own_go (fun _ k => XS.istore X46.here hx rfl (hb hby d3_37) rfl (l' := #[.val (.ref o0), .val (.long q1), .second, .val (.long q2), .second, .val .null, .val (.int ((2 : Int32) / (4094 : Int32))), .val (.int ((2 : Int32) % (4094 : Int32)))]) rfl k) ?_
  show own_Ends _ _ _ _ _ _ _ T46 (mkF m 39 #[.val (.ref o0), .val (.long q1), .second, .val (.long q2), .second, .val .null, .val (.int ((2 : Int32) / (4094 : Int32))), .val (.int ((2 : Int32) % (4094 : Int32)))] [])
  refine own_go (fun _ k => XS.iload X46.here hx rfl (hb hby d3_39) rfl k) ?_
  show own_Ends _ _ _ _ _ _ _ T46 (mkF m 41 #[.val (.ref o0), .val (.long q1), .second, .val (.long q2), .second, .val .null, .val (.int ((2 : Int32) / (4094 : Int32))), .val (.int ((2 : Int32) % (4094 : Int32)))] [(.int ((2 : Int32) % (4094 : Int32)))])
  refine own_go (fun _ k => XS.ifYes X46.here hx rfl (pc0 := 41) (pc' := 50) rfl (hb hby d3_41) rfl ((if0 _ _).trans (feq (by decide)).2) (by decide) (by decide) k) ?_
  show own_Ends _ _ _ _ _ _ _ T46 (mkF m 50 #[.val (.ref o0), .val (.long q1), .second, .val (.long q2), .second, .val .null, .val (.int ((2 : Int32) / (4094 : Int32))), .val (.int ((2 : Int32) % (4094 : Int32)))] [])
  refine own_go (fun _ k => XS.aloadN X46.here hx rfl (hb hby d3_50) rfl rfl k) ?_
  show own_Ends _ _ _ _ _ _ _ T46 (mkF m 51 #[.val (.ref o0), .val (.long q1), .second, .val (.long q2), .second, .val .null, .val (.int ((2 : Int32) / (4094 : Int32))), .val (.int ((2 : Int32) % (4094 : Int32)))] [(.ref o0)])
  rw [show ((2 : Int32) / (4094 : Int32)) = (0 : Int32) from (by decide)]
  show own_Ends _ _ _ _ _ _ _ T46 (mkF m 51 #[.val (.ref o0), .val (.long q1), .second, .val (.long q2), .second, .val .null, .val (.int (0 : Int32)), .val (.int ((2 : Int32) % (4094 : Int32)))] [(.ref o0)])
  rw [show ((2 : Int32) % (4094 : Int32)) = (2 : Int32) from (by decide)]
  show own_Ends _ _ _ _ _ _ _ T46 (mkF m 51 #[.val (.ref o0), .val (.long q1), .second, .val (.long q2), .second, .val .null, .val (.int (0 : Int32)), .val (.int (2 : Int32))] [(.ref o0)])
  obtain ⟨T47, X47, e47, st47⟩ := getF X46 hx hZ hown (host := "") (Or.inl (hw _ (List.mem_of_getElem? (i := 36) rfl))) Via.refl e46 F2 (g := (mkF m 51 #[.val (.ref o0), .val (.long q1), .second, .val (.long q2), .second, .val .null, .val (.int (0 : Int32)), .val (.int (2 : Int32))] [(.ref o0)])) rfl rfl (hb hby d3_51)
  refine own_go st47 ?_
  show own_Ends _ _ _ _ _ _ _ T47 (mkF m 54 #[.val (.ref o0), .val (.long q1), .second, .val (.long q2), .second, .val .null, .val (.int (0 : Int32)), .val (.int (2 : Int32))] [.null])
  refine own_go (fun _ k => XS.ifnullYes X47.here hx rfl (pc0 := 54) (pc' := 81) rfl (hb hby d3_54) rfl (by decide) (by decide) k) ?_
  show own_Ends _ _ _ _ _ _ _ T47 (mkF m 81 #[.val (.ref o0), .val (.long q1), .second, .val (.long q2), .second, .val .null, .val (.int (0 : Int32)), .val (.int (2 : Int32))] [])
  refine own_go (fun _ k => XS.aloadN X47.here hx rfl (hb hby d3_81) rfl rfl k) ?_
  show own_Ends _ _ _ _ _ _ _ T47 (mkF m 82 #[.val (.ref o0), .val (.long q1), .second, .val (.long q2), .second, .val .null, .val (.int (0 : Int32)), .val (.int (2 : Int32))] [(.ref o0)])
  obtain ⟨T48, X48, e48, st48⟩ := getF X47 hx hZ hown (host := "") (Or.inl (hw _ (List.mem_of_getElem? (i := 11) rfl))) Via.refl e47 F0 (g := (mkF m 82 #[.val (.ref o0), .val (.long q1), .second, .val (.long q2), .second, .val .null, .val (.int (0 : Int32)), .val (.int (2 : Int32))] [(.ref o0)])) rfl rfl (hb hby d3_82)
  refine own_go st48 ?_
  show own_Ends _ _ _ _ _ _ _ T48 (mkF m 85 #[.val (.ref o0), .val (.long q1), .second, .val (.long q2), .second, .val .null, .val (.int (0 : Int32)), .val (.int (2 : Int32))] [(.ref aa)])
  refine own_go (fun _ k => XS.iload X48.here hx rfl (hb hby d3_85) rfl k) ?_
  show own_Ends _ _ _ _ _ _ _ T48 (mkF m 87 #[.val (.ref o0), .val (.long q1), .second, .val (.long q2), .second, .val .null, .val (.int (0 : Int32)), .val (.int (2 : Int32))] [(.int (0 : Int32)), (.ref aa)])
  refine own_go (fun _ k => own_ldR X48 hx hZ e48 A rfl (i := 0) (v := (.ref la)) (by decide) (by decide) (by decide) rfl (g := (mkF m 87 #[.val (.ref o0), .val (.long q1), .second, .val (.long q2), .second, .val .null, .val (.int (0 : Int32)), .val (.int (2 : Int32))] [(.int (0 : Int32)), (.ref aa)])) rfl rfl (hb hby d3_87) _ k) ?_
  show own_Ends _ _ _ _ _ _ _ T48 (mkF m 88 #[.val (.ref o0), .val (.long q1), .second, .val (.long q2), .second, .val .null, .val (.int (0 : Int32)), .val (.int (2 : Int32))] [(.ref la)])
  refine own_go (fun _ k => XS.iload X48.here hx rfl (hb hby d3_88) rfl k) ?_
  show own_Ends _ _ _ _ _ _ _ T48 (mkF m 90 #[.val (.ref o0), .val (.long q1), .second, .val (.long q2), .second, .val .null, .val (.int (0 : Int32)), .val (.int (2 : Int32))] [(.int (2 : Int32)), (.ref la)])
  refine own_go (fun _ k => XS.lloadN X48.here hx rfl (hb hby d3_90) rfl k) ?_
  show own_Ends _ _ _ _ _ _ _ T48 (mkF m 91 #[.val (.ref o0), .val (.long q1), .second, .val (.long q2), .second, .val .null, .val (.int (0 : Int32)), .val (.int (2 : Int32))] [(.long q1), (.int (2 : Int32)), (.ref la)])
  obtain ⟨T49, h49, X49, e49, W49, V49, st49⟩ := own_stJ X48 hx hZ e48 Cl (i := 2) (by decide) (by decide) (by decide) (g := (mkF m 91 #[.val (.ref o0), .val (.long q1), .second, .val (.long q2), .second, .val .null, .val (.int (0 : Int32)), .val (.int (2 : Int32))] [(.long q1), (.int (2 : Int32)), (.ref la)])) rfl rfl (hb hby d3_91)
  have N49 := Fr.snoc X49 N0 gla
  have K_49 := K0.wr W49 (Or.inl (List.mem_of_getElem? (i := 3) rfl))
  have E_o0_49 := E.wr W49
  have F_o0_arrivals_49 := F0.other W49 (Or.inl m0)
  have F_o0_nanos_49 := F1.other W49 (Or.inl m0)
  have F_o0_eventTimes_49 := F2.other W49 (Or.inl m0)
  have F_o0_eventTimeEnds_49 := F3.other W49 (Or.inl m0)
  have F_o0_count_49 := F4.other W49 (Or.inl m0)
  have F_o0_figures_49 := F5.other W49 (Or.inl m0)
  have V_aa_49 := A.other W49 m2
  have V_na_49 := B.other W49 m4
  have E_aa_49 := Ea.wr W49
  have E_na_49 := En.wr W49
  have V_ln_49 := Cm.other W49 (Ne.symm m6)
  refine own_go st49 ?_
  show own_Ends _ _ _ _ _ _ _ T49 (mkF m 92 #[.val (.ref o0), .val (.long q1), .second, .val (.long q2), .second, .val .null, .val (.int (0 : Int32)), .val (.int (2 : Int32))] [])
  refine own_go (fun _ k => XS.aloadN X49.here hx rfl (hb hby d3_92) rfl rfl k) ?_
  show own_Ends _ _ _ _ _ _ _ T49 (mkF m 93 #[.val (.ref o0), .val (.long q1), .second, .val (.long q2), .second, .val .null, .val (.int (0 : Int32)), .val (.int (2 : Int32))] [(.ref o0)])
  obtain ⟨T50, X50, e50, st50⟩ := getF X49 hx hZ hown (host := "") (Or.inl (hw _ (List.mem_of_getElem? (i := 13) rfl))) Via.refl e49 F_o0_nanos_49 (g := (mkF m 93 #[.val (.ref o0), .val (.long q1), .second, .val (.long q2), .second, .val .null, .val (.int (0 : Int32)), .val (.int (2 : Int32))] [(.ref o0)])) rfl rfl (hb hby d3_93)
  refine own_go st50 ?_
  show own_Ends _ _ _ _ _ _ _ T50 (mkF m 96 #[.val (.ref o0), .val (.long q1), .second, .val (.long q2), .second, .val .null, .val (.int (0 : Int32)), .val (.int (2 : Int32))] [(.ref na)])
  refine own_go (fun _ k => XS.iload X50.here hx rfl (hb hby d3_96) rfl k) ?_
  show own_Ends _ _ _ _ _ _ _ T50 (mkF m 98 #[.val (.ref o0), .val (.long q1), .second, .val (.long q2), .second, .val .null, .val (.int (0 : Int32)), .val (.int (2 : Int32))] [(.int (0 : Int32)), (.ref na)])
  refine own_go (fun _ k => own_ldR X50 hx hZ e50 V_na_49 rfl (i := 0) (v := (.ref ln)) (by decide) (by decide) (by decide) rfl (g := (mkF m 98 #[.val (.ref o0), .val (.long q1), .second, .val (.long q2), .second, .val .null, .val (.int (0 : Int32)), .val (.int (2 : Int32))] [(.int (0 : Int32)), (.ref na)])) rfl rfl (hb hby d3_98) _ k) ?_
  show own_Ends _ _ _ _ _ _ _ T50 (mkF m 99 #[.val (.ref o0), .val (.long q1), .second, .val (.long q2), .second, .val .null, .val (.int (0 : Int32)), .val (.int (2 : Int32))] [(.ref ln)])
  refine own_go (fun _ k => XS.iload X50.here hx rfl (hb hby d3_99) rfl k) ?_
  show own_Ends _ _ _ _ _ _ _ T50 (mkF m 101 #[.val (.ref o0), .val (.long q1), .second, .val (.long q2), .second, .val .null, .val (.int (0 : Int32)), .val (.int (2 : Int32))] [(.int (2 : Int32)), (.ref ln)])
  refine own_go (fun _ k => XS.lloadN X50.here hx rfl (hb hby d3_101) rfl k) ?_
  show own_Ends _ _ _ _ _ _ _ T50 (mkF m 102 #[.val (.ref o0), .val (.long q1), .second, .val (.long q2), .second, .val .null, .val (.int (0 : Int32)), .val (.int (2 : Int32))] [(.long q2), (.int (2 : Int32)), (.ref ln)])
  obtain ⟨T51, h51, X51, e51, W51, V51, st51⟩ := own_stJ X50 hx hZ e50 V_ln_49 (i := 2) (by decide) (by decide) (by decide) (g := (mkF m 102 #[.val (.ref o0), .val (.long q1), .second, .val (.long q2), .second, .val .null, .val (.int (0 : Int32)), .val (.int (2 : Int32))] [(.long q2), (.int (2 : Int32)), (.ref ln)])) rfl rfl (hb hby d3_102)
  have N51 := Fr.snoc X51 N49 gln
  have K_51 := K_49.wr W51 (Or.inl (List.mem_of_getElem? (i := 4) rfl))
  have E_o0_51 := E_o0_49.wr W51
  have F_o0_arrivals_51 := F_o0_arrivals_49.other W51 (Or.inl m1)
  have F_o0_nanos_51 := F_o0_nanos_49.other W51 (Or.inl m1)
  have F_o0_eventTimes_51 := F_o0_eventTimes_49.other W51 (Or.inl m1)
  have F_o0_eventTimeEnds_51 := F_o0_eventTimeEnds_49.other W51 (Or.inl m1)
  have F_o0_count_51 := F_o0_count_49.other W51 (Or.inl m1)
  have F_o0_figures_51 := F_o0_figures_49.other W51 (Or.inl m1)
  have V_aa_51 := V_aa_49.other W51 m3
  have V_na_51 := V_na_49.other W51 m5
  have E_aa_51 := E_aa_49.wr W51
  have E_na_51 := E_na_49.wr W51
  have V_la_51 := V49.other W51 m6
  refine own_go st51 ?_
  show own_Ends _ _ _ _ _ _ _ T51 (mkF m 103 #[.val (.ref o0), .val (.long q1), .second, .val (.long q2), .second, .val .null, .val (.int (0 : Int32)), .val (.int (2 : Int32))] [])
  refine own_go (fun _ k => XS.aloadN X51.here hx rfl (hb hby d3_103) rfl rfl k) ?_
  show own_Ends _ _ _ _ _ _ _ T51 (mkF m 104 #[.val (.ref o0), .val (.long q1), .second, .val (.long q2), .second, .val .null, .val (.int (0 : Int32)), .val (.int (2 : Int32))] [(.ref o0)])
  refine own_go (fun _ k => XS.dup X51.here hx rfl (hb hby d3_104) rfl rfl k) ?_
  show own_Ends _ _ _ _ _ _ _ T51 (mkF m 105 #[.val (.ref o0), .val (.long q1), .second, .val (.long q2), .second, .val .null, .val (.int (0 : Int32)), .val (.int (2 : Int32))] [(.ref o0), (.ref o0)])
  obtain ⟨T52, X52, e52, st52⟩ := getF X51 hx hZ hown (host := "") (Or.inl (hw _ (List.mem_of_getElem? (i := 20) rfl))) Via.refl e51 F_o0_count_51 (g := (mkF m 105 #[.val (.ref o0), .val (.long q1), .second, .val (.long q2), .second, .val .null, .val (.int (0 : Int32)), .val (.int (2 : Int32))] [(.ref o0), (.ref o0)])) rfl rfl (hb hby d3_105)
  refine own_go st52 ?_
  show own_Ends _ _ _ _ _ _ _ T52 (mkF m 108 #[.val (.ref o0), .val (.long q1), .second, .val (.long q2), .second, .val .null, .val (.int (0 : Int32)), .val (.int (2 : Int32))] [(.int (2 : Int32)), (.ref o0)])
  refine own_go (fun _ k => XS.iconst X52.here hx rfl (hb hby d3_108) k) ?_
  show own_Ends _ _ _ _ _ _ _ T52 (mkF m 109 #[.val (.ref o0), .val (.long q1), .second, .val (.long q2), .second, .val .null, .val (.int (0 : Int32)), .val (.int (2 : Int32))] [(.int (1 : Int32)), (.int (2 : Int32)), (.ref o0)])
  refine own_go (fun _ k => XS.iadd X52.here hx rfl (hb hby d3_109) rfl k) ?_
  show own_Ends _ _ _ _ _ _ _ T52 (mkF m 110 #[.val (.ref o0), .val (.long q1), .second, .val (.long q2), .second, .val .null, .val (.int (0 : Int32)), .val (.int (2 : Int32))] [(.int ((2 : Int32) + (1 : Int32))), (.ref o0)])
  obtain ⟨T53, h53, X53, e53, W53, st53⟩ := putF X52 hx hZ hown (host := "") (Or.inl (hw _ (List.mem_of_getElem? (i := 20) rfl))) Via.refl e52 F_o0_count_51 E_o0_51 (Or.inl (hw _ (List.mem_of_getElem? (i := 21) rfl))) (hw _ (List.mem_of_getElem? (i := 1) rfl)) (ty := .int) (by decide) rfl rfl (g := (mkF m 110 #[.val (.ref o0), .val (.long q1), .second, .val (.long q2), .second, .val .null, .val (.int (0 : Int32)), .val (.int (2 : Int32))] [(.int ((2 : Int32) + (1 : Int32))), (.ref o0)])) rfl rfl (hb hby d3_110)
  have N53 := Fr.snoc X53 N51 gg
  have K_53 := K_51.wr W53 (Or.inl (List.mem_of_getElem? (i := 0) rfl))
  have E_o0_53 := E_o0_51.wr W53
  have F_o0_arrivals_53 := F_o0_arrivals_51.other W53 (Or.inr (slot_ne (Or.inl (hw _ (List.mem_of_getElem? (i := 12) rfl))) (Or.inl (hw _ (List.mem_of_getElem? (i := 21) rfl))) (by decide) (t := (.array (.array .long))) (t' := .int) (by decide) (by decide)))
  have F_o0_nanos_53 := F_o0_nanos_51.other W53 (Or.inr (slot_ne (Or.inl (hw _ (List.mem_of_getElem? (i := 14) rfl))) (Or.inl (hw _ (List.mem_of_getElem? (i := 21) rfl))) (by decide) (t := (.array (.array .long))) (t' := .int) (by decide) (by decide)))
  have F_o0_eventTimes_53 := F_o0_eventTimes_51.other W53 (Or.inr (slot_ne (Or.inl (hw _ (List.mem_of_getElem? (i := 37) rfl))) (Or.inl (hw _ (List.mem_of_getElem? (i := 21) rfl))) (by decide) (t := (.array (.array .byte))) (t' := .int) (by decide) (by decide)))
  have F_o0_eventTimeEnds_53 := F_o0_eventTimeEnds_51.other W53 (Or.inr (slot_ne (Or.inl (hw _ (List.mem_of_getElem? (i := 29) rfl))) (Or.inl (hw _ (List.mem_of_getElem? (i := 21) rfl))) (by decide) (t := (.array (.array .int))) (t' := .int) (by decide) (by decide)))
  have F_o0_count_53 := F_o0_count_51.same W53
  have F_o0_figures_53 := F_o0_figures_51.other W53 (Or.inr (slot_ne (Or.inl (hw _ (List.mem_of_getElem? (i := 39) rfl))) (Or.inl (hw _ (List.mem_of_getElem? (i := 21) rfl))) (by decide) (t := (.array .long)) (t' := .int) (by decide) (by decide)))
  have V_aa_53 := V_aa_51.other W53 (Ne.symm n1)
  have V_na_53 := V_na_51.other W53 (Ne.symm n2)
  have E_aa_53 := E_aa_51.wr W53
  have E_na_53 := E_na_51.wr W53
  have V_la_53 := V_la_51.other W53 (Ne.symm m0)
  have V_ln_53 := V51.other W53 (Ne.symm m1)
  refine own_go st53 ?_
  show own_Ends _ _ _ _ _ _ _ T53 (mkF m 113 #[.val (.ref o0), .val (.long q1), .second, .val (.long q2), .second, .val .null, .val (.int (0 : Int32)), .val (.int (2 : Int32))] [])
  refine own_go (fun _ k => XS.aloadN X53.here hx rfl (hb hby d3_113) rfl rfl k) ?_
  show own_Ends _ _ _ _ _ _ _ T53 (mkF m 114 #[.val (.ref o0), .val (.long q1), .second, .val (.long q2), .second, .val .null, .val (.int (0 : Int32)), .val (.int (2 : Int32))] [(.ref o0)])
  refine own_go (fun _ k => XS.aconstNull X53.here hx rfl (hb hby d3_114) k) ?_
  show own_Ends _ _ _ _ _ _ _ T53 (mkF m 115 #[.val (.ref o0), .val (.long q1), .second, .val (.long q2), .second, .val .null, .val (.int (0 : Int32)), .val (.int (2 : Int32))] [.null, (.ref o0)])
  obtain ⟨T54, h54, X54, e54, W54, st54⟩ := putF X53 hx hZ hown (host := "") (Or.inl (hw _ (List.mem_of_getElem? (i := 38) rfl))) Via.refl e53 F_o0_figures_53 E_o0_53 (Or.inl (hw _ (List.mem_of_getElem? (i := 39) rfl))) (hw _ (List.mem_of_getElem? (i := 1) rfl)) (ty := (.array .long)) (by decide) rfl rfl (g := (mkF m 115 #[.val (.ref o0), .val (.long q1), .second, .val (.long q2), .second, .val .null, .val (.int (0 : Int32)), .val (.int (2 : Int32))] [.null, (.ref o0)])) rfl rfl (hb hby d3_115)
  have N54 := Fr.snoc X54 N53 gg
  have K_54 := K_53.wr W54 (Or.inl (List.mem_of_getElem? (i := 0) rfl))
  have E_o0_54 := E_o0_53.wr W54
  have F_o0_arrivals_54 := F_o0_arrivals_53.other W54 (Or.inr (slot_ne (Or.inl (hw _ (List.mem_of_getElem? (i := 12) rfl))) (Or.inl (hw _ (List.mem_of_getElem? (i := 39) rfl))) (by decide) (t := (.array (.array .long))) (t' := (.array .long)) (by decide) (by decide)))
  have F_o0_nanos_54 := F_o0_nanos_53.other W54 (Or.inr (slot_ne (Or.inl (hw _ (List.mem_of_getElem? (i := 14) rfl))) (Or.inl (hw _ (List.mem_of_getElem? (i := 39) rfl))) (by decide) (t := (.array (.array .long))) (t' := (.array .long)) (by decide) (by decide)))
  have F_o0_eventTimes_54 := F_o0_eventTimes_53.other W54 (Or.inr (slot_ne (Or.inl (hw _ (List.mem_of_getElem? (i := 37) rfl))) (Or.inl (hw _ (List.mem_of_getElem? (i := 39) rfl))) (by decide) (t := (.array (.array .byte))) (t' := (.array .long)) (by decide) (by decide)))
  have F_o0_eventTimeEnds_54 := F_o0_eventTimeEnds_53.other W54 (Or.inr (slot_ne (Or.inl (hw _ (List.mem_of_getElem? (i := 29) rfl))) (Or.inl (hw _ (List.mem_of_getElem? (i := 39) rfl))) (by decide) (t := (.array (.array .int))) (t' := (.array .long)) (by decide) (by decide)))
  have F_o0_count_54 := F_o0_count_53.other W54 (Or.inr (slot_ne (Or.inl (hw _ (List.mem_of_getElem? (i := 21) rfl))) (Or.inl (hw _ (List.mem_of_getElem? (i := 39) rfl))) (by decide) (t := .int) (t' := (.array .long)) (by decide) (by decide)))
  have F_o0_figures_54 := F_o0_figures_53.same W54
  have V_aa_54 := V_aa_53.other W54 (Ne.symm n1)
  have V_na_54 := V_na_53.other W54 (Ne.symm n2)
  have E_aa_54 := E_aa_53.wr W54
  have E_na_54 := E_na_53.wr W54
  have V_la_54 := V_la_53.other W54 (Ne.symm m0)
  have V_ln_54 := V_ln_53.other W54 (Ne.symm m1)
  refine own_go st54 ?_
  show own_Ends _ _ _ _ _ _ _ T54 (mkF m 118 #[.val (.ref o0), .val (.long q1), .second, .val (.long q2), .second, .val .null, .val (.int (0 : Int32)), .val (.int (2 : Int32))] [])
  exact own_retV X54 hx hlk hret (hb hby d3_118) (by decide) (by decide) (by rw [e54]; exact ⟨(fun j => if j = 2 then (.long q1) else gl j), (fun j => if j = 2 then (.long q2) else gm j), rfl, N54, K_54, E_o0_54, F_o0_arrivals_54, F_o0_nanos_54, F_o0_eventTimes_54, F_o0_eventTimeEnds_54, F_o0_count_54, F_o0_figures_54, V_aa_54, V_na_54, V_la_54, V_ln_54, E_aa_54, E_na_54, rfl, by simp, by simp⟩)
set_option maxRecDepth 65536 in
set_option maxHeartbeats 40000000 in
theorem rm6_0 (l : Launch) (Z : State) (a0 : Array Value) (hw : ∀ d ∈ tables_1, d.before a0 Z = true) (o0 : Addr) (p1 : Int32) (h0 : Heap) (aa : Addr) (la : Addr) (ka : ClassId) (kl : ClassId) (fa : Nat → Value) (gl : Nat → Value) (y : Int64) (F : Fld Z h0 o0 "com/example/disarray/disarray/Latencies" "arrivals" "[[J" (.ref aa)) (A : own_Ar Z h0 aa ka (.array .long) 1 fa) (hf : fa 0 = .ref la) (Cl : own_Ar Z h0 la kl .long 4094 gl) (hg : gl 0 = .long y) (hp : p1 = 0) :
    own_C l (⟨"com/example/disarray/disarray/Latencies", "arrival", "(I)J"⟩ : MethodName) prog_29_method_7_code 2 (some .long) ({ frames := 0, cells := 0, slots := 0, locals := 0 } : Room) Z #[(.ref o0), (.int p1)] h0 (fun v h L => v = some (.long y) ∧ L = [] ∧ h = h0) := by
  refine own_enter pn_6 ?_
  intro p e s m below meth c s₁ X0 hx hby hml hown hnm hret hlk hZ e0
  replace hown : s.vm.findClass "com/example/disarray/disarray/Latencies" = some m.cls := hown
  have ef : entryFrame m #[(.ref o0), (.int p1)] 2 = mkF m 0 #[.val (.ref o0), .val (.int p1)] [] := by first | rfl | (simp [entryFrame, mkF, argsToLocals, Value.category, maxLocals]; done)
  refine own_cast ef ?_
  show own_Ends _ _ _ _ _ _ _ s₁ (mkF m 0 #[.val (.ref o0), .val (.int p1)] [])
  subst hp
  show own_Ends _ _ _ _ _ _ _ s₁ (mkF m 0 #[.val (.ref o0), .val (.int (0 : Int32))] [])
  refine own_go (fun _ k => XS.aloadN X0.here hx rfl (hb hby d6_0) rfl rfl k) ?_
  show own_Ends _ _ _ _ _ _ _ s₁ (mkF m 1 #[.val (.ref o0), .val (.int (0 : Int32))] [(.ref o0)])
  obtain ⟨T55, X55, e55, st55⟩ := getF X0 hx hZ hown (host := "") (Or.inl (hw _ (List.mem_of_getElem? (i := 11) rfl))) Via.refl e0 F (g := (mkF m 1 #[.val (.ref o0), .val (.int (0 : Int32))] [(.ref o0)])) rfl rfl (hb hby d6_1)
  refine own_go st55 ?_
  show own_Ends _ _ _ _ _ _ _ T55 (mkF m 4 #[.val (.ref o0), .val (.int (0 : Int32))] [(.ref aa)])
  refine own_go (fun _ k => XS.iloadN X55.here hx rfl (hb hby d6_4) rfl k) ?_
  show own_Ends _ _ _ _ _ _ _ T55 (mkF m 5 #[.val (.ref o0), .val (.int (0 : Int32))] [(.int (0 : Int32)), (.ref aa)])
  refine own_go (fun _ k => XS.sipush X55.here hx rfl (hb hby d6_5) k) ?_
  show own_Ends _ _ _ _ _ _ _ T55 (mkF m 8 #[.val (.ref o0), .val (.int (0 : Int32))] [(.int (4094 : Int32)), (.int (0 : Int32)), (.ref aa)])
  refine own_go (fun _ k => XS.idiv X55.here hx rfl (hb hby d6_8) rfl (by decide) k) ?_
  show own_Ends _ _ _ _ _ _ _ T55 (mkF m 9 #[.val (.ref o0), .val (.int (0 : Int32))] [(.int ((0 : Int32) / (4094 : Int32))), (.ref aa)])
  refine own_go (fun _ k => own_ldR X55 hx hZ e55 A rfl (i := 0) (v := (.ref la)) (by decide) (by decide) (by decide) hf (g := (mkF m 9 #[.val (.ref o0), .val (.int (0 : Int32))] [(.int ((0 : Int32) / (4094 : Int32))), (.ref aa)])) rfl rfl (hb hby d6_9) _ k) ?_
  show own_Ends _ _ _ _ _ _ _ T55 (mkF m 10 #[.val (.ref o0), .val (.int (0 : Int32))] [(.ref la)])
  refine own_go (fun _ k => XS.iloadN X55.here hx rfl (hb hby d6_10) rfl k) ?_
  show own_Ends _ _ _ _ _ _ _ T55 (mkF m 11 #[.val (.ref o0), .val (.int (0 : Int32))] [(.int (0 : Int32)), (.ref la)])
  refine own_go (fun _ k => XS.sipush X55.here hx rfl (hb hby d6_11) k) ?_
  show own_Ends _ _ _ _ _ _ _ T55 (mkF m 14 #[.val (.ref o0), .val (.int (0 : Int32))] [(.int (4094 : Int32)), (.int (0 : Int32)), (.ref la)])
  refine own_go (fun _ k => iremM X55 hx rfl (hb hby d6_14) rfl (by decide) k) ?_
  show own_Ends _ _ _ _ _ _ _ T55 (mkF m 15 #[.val (.ref o0), .val (.int (0 : Int32))] [(.int ((0 : Int32) % (4094 : Int32))), (.ref la)])
  refine own_go (fun _ k => own_ldJ X55 hx hZ e55 Cl (i := 0) (v := (.long y)) (by decide) (by decide) (by decide) hg (g := (mkF m 15 #[.val (.ref o0), .val (.int (0 : Int32))] [(.int ((0 : Int32) % (4094 : Int32))), (.ref la)])) rfl rfl (hb hby d6_15) _ k) ?_
  show own_Ends _ _ _ _ _ _ _ T55 (mkF m 16 #[.val (.ref o0), .val (.int (0 : Int32))] [(.long y)])
  exact own_retJ X55 hx hlk hret (hb hby d6_16) (by decide) (by decide) ⟨rfl, rfl, e55⟩
set_option maxRecDepth 65536 in
set_option maxHeartbeats 40000000 in
theorem rm6_1 (l : Launch) (Z : State) (a0 : Array Value) (hw : ∀ d ∈ tables_1, d.before a0 Z = true) (o0 : Addr) (p1 : Int32) (h0 : Heap) (aa : Addr) (la : Addr) (ka : ClassId) (kl : ClassId) (fa : Nat → Value) (gl : Nat → Value) (y : Int64) (F : Fld Z h0 o0 "com/example/disarray/disarray/Latencies" "arrivals" "[[J" (.ref aa)) (A : own_Ar Z h0 aa ka (.array .long) 1 fa) (hf : fa 0 = .ref la) (Cl : own_Ar Z h0 la kl .long 4094 gl) (hg : gl 1 = .long y) (hp : p1 = 1) :
    own_C l (⟨"com/example/disarray/disarray/Latencies", "arrival", "(I)J"⟩ : MethodName) prog_29_method_7_code 2 (some .long) ({ frames := 0, cells := 0, slots := 0, locals := 0 } : Room) Z #[(.ref o0), (.int p1)] h0 (fun v h L => v = some (.long y) ∧ L = [] ∧ h = h0) := by
  refine own_enter pn_6 ?_
  intro p e s m below meth c s₁ X0 hx hby hml hown hnm hret hlk hZ e0
  replace hown : s.vm.findClass "com/example/disarray/disarray/Latencies" = some m.cls := hown
  have ef : entryFrame m #[(.ref o0), (.int p1)] 2 = mkF m 0 #[.val (.ref o0), .val (.int p1)] [] := by first | rfl | (simp [entryFrame, mkF, argsToLocals, Value.category, maxLocals]; done)
  refine own_cast ef ?_
  show own_Ends _ _ _ _ _ _ _ s₁ (mkF m 0 #[.val (.ref o0), .val (.int p1)] [])
  subst hp
  show own_Ends _ _ _ _ _ _ _ s₁ (mkF m 0 #[.val (.ref o0), .val (.int (1 : Int32))] [])
  refine own_go (fun _ k => XS.aloadN X0.here hx rfl (hb hby d6_0) rfl rfl k) ?_
  show own_Ends _ _ _ _ _ _ _ s₁ (mkF m 1 #[.val (.ref o0), .val (.int (1 : Int32))] [(.ref o0)])
  obtain ⟨T56, X56, e56, st56⟩ := getF X0 hx hZ hown (host := "") (Or.inl (hw _ (List.mem_of_getElem? (i := 11) rfl))) Via.refl e0 F (g := (mkF m 1 #[.val (.ref o0), .val (.int (1 : Int32))] [(.ref o0)])) rfl rfl (hb hby d6_1)
  refine own_go st56 ?_
  show own_Ends _ _ _ _ _ _ _ T56 (mkF m 4 #[.val (.ref o0), .val (.int (1 : Int32))] [(.ref aa)])
  refine own_go (fun _ k => XS.iloadN X56.here hx rfl (hb hby d6_4) rfl k) ?_
  show own_Ends _ _ _ _ _ _ _ T56 (mkF m 5 #[.val (.ref o0), .val (.int (1 : Int32))] [(.int (1 : Int32)), (.ref aa)])
  refine own_go (fun _ k => XS.sipush X56.here hx rfl (hb hby d6_5) k) ?_
  show own_Ends _ _ _ _ _ _ _ T56 (mkF m 8 #[.val (.ref o0), .val (.int (1 : Int32))] [(.int (4094 : Int32)), (.int (1 : Int32)), (.ref aa)])
  refine own_go (fun _ k => XS.idiv X56.here hx rfl (hb hby d6_8) rfl (by decide) k) ?_
  show own_Ends _ _ _ _ _ _ _ T56 (mkF m 9 #[.val (.ref o0), .val (.int (1 : Int32))] [(.int ((1 : Int32) / (4094 : Int32))), (.ref aa)])
  refine own_go (fun _ k => own_ldR X56 hx hZ e56 A rfl (i := 0) (v := (.ref la)) (by decide) (by decide) (by decide) hf (g := (mkF m 9 #[.val (.ref o0), .val (.int (1 : Int32))] [(.int ((1 : Int32) / (4094 : Int32))), (.ref aa)])) rfl rfl (hb hby d6_9) _ k) ?_
  show own_Ends _ _ _ _ _ _ _ T56 (mkF m 10 #[.val (.ref o0), .val (.int (1 : Int32))] [(.ref la)])
  refine own_go (fun _ k => XS.iloadN X56.here hx rfl (hb hby d6_10) rfl k) ?_
  show own_Ends _ _ _ _ _ _ _ T56 (mkF m 11 #[.val (.ref o0), .val (.int (1 : Int32))] [(.int (1 : Int32)), (.ref la)])
  refine own_go (fun _ k => XS.sipush X56.here hx rfl (hb hby d6_11) k) ?_
  show own_Ends _ _ _ _ _ _ _ T56 (mkF m 14 #[.val (.ref o0), .val (.int (1 : Int32))] [(.int (4094 : Int32)), (.int (1 : Int32)), (.ref la)])
  refine own_go (fun _ k => iremM X56 hx rfl (hb hby d6_14) rfl (by decide) k) ?_
  show own_Ends _ _ _ _ _ _ _ T56 (mkF m 15 #[.val (.ref o0), .val (.int (1 : Int32))] [(.int ((1 : Int32) % (4094 : Int32))), (.ref la)])
  refine own_go (fun _ k => own_ldJ X56 hx hZ e56 Cl (i := 1) (v := (.long y)) (by decide) (by decide) (by decide) hg (g := (mkF m 15 #[.val (.ref o0), .val (.int (1 : Int32))] [(.int ((1 : Int32) % (4094 : Int32))), (.ref la)])) rfl rfl (hb hby d6_15) _ k) ?_
  show own_Ends _ _ _ _ _ _ _ T56 (mkF m 16 #[.val (.ref o0), .val (.int (1 : Int32))] [(.long y)])
  exact own_retJ X56 hx hlk hret (hb hby d6_16) (by decide) (by decide) ⟨rfl, rfl, e56⟩
set_option maxRecDepth 65536 in
set_option maxHeartbeats 40000000 in
theorem rm6_2 (l : Launch) (Z : State) (a0 : Array Value) (hw : ∀ d ∈ tables_1, d.before a0 Z = true) (o0 : Addr) (p1 : Int32) (h0 : Heap) (aa : Addr) (la : Addr) (ka : ClassId) (kl : ClassId) (fa : Nat → Value) (gl : Nat → Value) (y : Int64) (F : Fld Z h0 o0 "com/example/disarray/disarray/Latencies" "arrivals" "[[J" (.ref aa)) (A : own_Ar Z h0 aa ka (.array .long) 1 fa) (hf : fa 0 = .ref la) (Cl : own_Ar Z h0 la kl .long 4094 gl) (hg : gl 2 = .long y) (hp : p1 = 2) :
    own_C l (⟨"com/example/disarray/disarray/Latencies", "arrival", "(I)J"⟩ : MethodName) prog_29_method_7_code 2 (some .long) ({ frames := 0, cells := 0, slots := 0, locals := 0 } : Room) Z #[(.ref o0), (.int p1)] h0 (fun v h L => v = some (.long y) ∧ L = [] ∧ h = h0) := by
  refine own_enter pn_6 ?_
  intro p e s m below meth c s₁ X0 hx hby hml hown hnm hret hlk hZ e0
  replace hown : s.vm.findClass "com/example/disarray/disarray/Latencies" = some m.cls := hown
  have ef : entryFrame m #[(.ref o0), (.int p1)] 2 = mkF m 0 #[.val (.ref o0), .val (.int p1)] [] := by first | rfl | (simp [entryFrame, mkF, argsToLocals, Value.category, maxLocals]; done)
  refine own_cast ef ?_
  show own_Ends _ _ _ _ _ _ _ s₁ (mkF m 0 #[.val (.ref o0), .val (.int p1)] [])
  subst hp
  show own_Ends _ _ _ _ _ _ _ s₁ (mkF m 0 #[.val (.ref o0), .val (.int (2 : Int32))] [])
  refine own_go (fun _ k => XS.aloadN X0.here hx rfl (hb hby d6_0) rfl rfl k) ?_
  show own_Ends _ _ _ _ _ _ _ s₁ (mkF m 1 #[.val (.ref o0), .val (.int (2 : Int32))] [(.ref o0)])
  obtain ⟨T57, X57, e57, st57⟩ := getF X0 hx hZ hown (host := "") (Or.inl (hw _ (List.mem_of_getElem? (i := 11) rfl))) Via.refl e0 F (g := (mkF m 1 #[.val (.ref o0), .val (.int (2 : Int32))] [(.ref o0)])) rfl rfl (hb hby d6_1)
  refine own_go st57 ?_
  show own_Ends _ _ _ _ _ _ _ T57 (mkF m 4 #[.val (.ref o0), .val (.int (2 : Int32))] [(.ref aa)])
  refine own_go (fun _ k => XS.iloadN X57.here hx rfl (hb hby d6_4) rfl k) ?_
  show own_Ends _ _ _ _ _ _ _ T57 (mkF m 5 #[.val (.ref o0), .val (.int (2 : Int32))] [(.int (2 : Int32)), (.ref aa)])
  refine own_go (fun _ k => XS.sipush X57.here hx rfl (hb hby d6_5) k) ?_
  show own_Ends _ _ _ _ _ _ _ T57 (mkF m 8 #[.val (.ref o0), .val (.int (2 : Int32))] [(.int (4094 : Int32)), (.int (2 : Int32)), (.ref aa)])
  refine own_go (fun _ k => XS.idiv X57.here hx rfl (hb hby d6_8) rfl (by decide) k) ?_
  show own_Ends _ _ _ _ _ _ _ T57 (mkF m 9 #[.val (.ref o0), .val (.int (2 : Int32))] [(.int ((2 : Int32) / (4094 : Int32))), (.ref aa)])
  refine own_go (fun _ k => own_ldR X57 hx hZ e57 A rfl (i := 0) (v := (.ref la)) (by decide) (by decide) (by decide) hf (g := (mkF m 9 #[.val (.ref o0), .val (.int (2 : Int32))] [(.int ((2 : Int32) / (4094 : Int32))), (.ref aa)])) rfl rfl (hb hby d6_9) _ k) ?_
  show own_Ends _ _ _ _ _ _ _ T57 (mkF m 10 #[.val (.ref o0), .val (.int (2 : Int32))] [(.ref la)])
  refine own_go (fun _ k => XS.iloadN X57.here hx rfl (hb hby d6_10) rfl k) ?_
  show own_Ends _ _ _ _ _ _ _ T57 (mkF m 11 #[.val (.ref o0), .val (.int (2 : Int32))] [(.int (2 : Int32)), (.ref la)])
  refine own_go (fun _ k => XS.sipush X57.here hx rfl (hb hby d6_11) k) ?_
  show own_Ends _ _ _ _ _ _ _ T57 (mkF m 14 #[.val (.ref o0), .val (.int (2 : Int32))] [(.int (4094 : Int32)), (.int (2 : Int32)), (.ref la)])
  refine own_go (fun _ k => iremM X57 hx rfl (hb hby d6_14) rfl (by decide) k) ?_
  show own_Ends _ _ _ _ _ _ _ T57 (mkF m 15 #[.val (.ref o0), .val (.int (2 : Int32))] [(.int ((2 : Int32) % (4094 : Int32))), (.ref la)])
  refine own_go (fun _ k => own_ldJ X57 hx hZ e57 Cl (i := 2) (v := (.long y)) (by decide) (by decide) (by decide) hg (g := (mkF m 15 #[.val (.ref o0), .val (.int (2 : Int32))] [(.int ((2 : Int32) % (4094 : Int32))), (.ref la)])) rfl rfl (hb hby d6_15) _ k) ?_
  show own_Ends _ _ _ _ _ _ _ T57 (mkF m 16 #[.val (.ref o0), .val (.int (2 : Int32))] [(.long y)])
  exact own_retJ X57 hx hlk hret (hb hby d6_16) (by decide) (by decide) ⟨rfl, rfl, e57⟩
theorem own_cnt (x : Int32) : (x &&& (3 : Int32)) % (3 : Int32) + 1 = 1 ∨ (x &&& (3 : Int32)) % (3 : Int32) + 1 = 2 ∨ (x &&& (3 : Int32)) % (3 : Int32) + 1 = 3 := by
  have e := c_mask x 3 2 (by decide) (by decide)
  have h : x &&& (3 : Int32) = 0 ∨ x &&& (3 : Int32) = 1 ∨ x &&& (3 : Int32) = 2 ∨ x &&& (3 : Int32) = 3 := by
    have d0 : (0 : Int32).toInt = 0 := by decide
    have d1 : (1 : Int32).toInt = 1 := by decide
    have d2 : (2 : Int32).toInt = 2 := by decide
    have d3 : (3 : Int32).toInt = 3 := by decide
    simp only [← Int32.toInt_inj, e, d0, d1, d2, d3]
    omega
  rcases h with q | q | q | q <;> rw [q] <;> decide
set_option maxRecDepth 65536 in
set_option maxHeartbeats 40000000 in
theorem rm0 (l : Launch) (Z : State) (a0 : Array Value) (hw : ∀ d ∈ tables_1, d.before a0 Z = true) (q0 : Int64) (q1 : Int64) (q2 : Int64) (q3 : Int64) (q4 : Int64) (p5 : Int32) (h0 : Heap) :
    own_C l x code maxLocals ret room_1 Z #[(.long q0), (.long q1), (.long q2), (.long q3), (.long q4), (.int p5)] h0 (fun v h L => v = some (.int 1) ∧ Fr h0.size L) := by
  refine own_enter pn_0 ?_
  intro p e s m below meth c s₁ X0 hx hby hml hown hnm hret hlk hZ e0
  have hml : c.maxLocals = 14 := hml
  replace hown : s.vm.findClass "com/example/disarray/disarray/LatenciesArrivalPinLaw" = some m.cls := hown
  have ef : entryFrame m #[(.long q0), (.long q1), (.long q2), (.long q3), (.long q4), (.int p5)] maxLocals = mkF m 0 #[.val (.long q0), .second, .val (.long q1), .second, .val (.long q2), .second, .val (.long q3), .second, .val (.long q4), .second, .val (.int p5), .unset, .unset, .unset] [] := by first | rfl | (simp [entryFrame, mkF, argsToLocals, Value.category, maxLocals]; done)
  refine own_cast ef ?_
  show own_Ends _ _ _ _ _ _ _ s₁ (mkF m 0 #[.val (.long q0), .second, .val (.long q1), .second, .val (.long q2), .second, .val (.long q3), .second, .val (.long q4), .second, .val (.int p5), .unset, .unset, .unset] [])
  have N0 := Fr.nil h0.size
  have K0 : Keep h0 h0 [] := Keep.refl _ _
  refine own_go (fun _ k => XS.iload X0.here hx rfl (hb hby at_0) rfl k) ?_
  show own_Ends _ _ _ _ _ _ _ s₁ (mkF m 2 #[.val (.long q0), .second, .val (.long q1), .second, .val (.long q2), .second, .val (.long q3), .second, .val (.long q4), .second, .val (.int p5), .unset, .unset, .unset] [(.int p5)])
  refine own_go (fun _ k => XS.iconst X0.here hx rfl (hb hby at_2) k) ?_
  show own_Ends _ _ _ _ _ _ _ s₁ (mkF m 3 #[.val (.long q0), .second, .val (.long q1), .second, .val (.long q2), .second, .val (.long q3), .second, .val (.long q4), .second, .val (.int p5), .unset, .unset, .unset] [(.int (3 : Int32)), (.int p5)])
  refine own_go (fun _ k => XS.iand X0.here hx rfl (hb hby at_3) rfl k) ?_
  show own_Ends _ _ _ _ _ _ _ s₁ (mkF m 4 #[.val (.long q0), .second, .val (.long q1), .second, .val (.long q2), .second, .val (.long q3), .second, .val (.long q4), .second, .val (.int p5), .unset, .unset, .unset] [(.int (p5 &&& (3 : Int32)))])
  refine own_go (fun _ k => XS.iconst X0.here hx rfl (hb hby at_4) k) ?_
  show own_Ends _ _ _ _ _ _ _ s₁ (mkF m 5 #[.val (.long q0), .second, .val (.long q1), .second, .val (.long q2), .second, .val (.long q3), .second, .val (.long q4), .second, .val (.int p5), .unset, .unset, .unset] [(.int (3 : Int32)), (.int (p5 &&& (3 : Int32)))])
  refine own_go (fun _ k => iremM X0 hx rfl (hb hby at_5) rfl (by decide) k) ?_
  show own_Ends _ _ _ _ _ _ _ s₁ (mkF m 6 #[.val (.long q0), .second, .val (.long q1), .second, .val (.long q2), .second, .val (.long q3), .second, .val (.long q4), .second, .val (.int p5), .unset, .unset, .unset] [(.int ((p5 &&& (3 : Int32)) % (3 : Int32)))])
  refine own_go (fun _ k => XS.iconst X0.here hx rfl (hb hby at_6) k) ?_
  show own_Ends _ _ _ _ _ _ _ s₁ (mkF m 7 #[.val (.long q0), .second, .val (.long q1), .second, .val (.long q2), .second, .val (.long q3), .second, .val (.long q4), .second, .val (.int p5), .unset, .unset, .unset] [(.int (1 : Int32)), (.int ((p5 &&& (3 : Int32)) % (3 : Int32)))])
  refine own_go (fun _ k => XS.iadd X0.here hx rfl (hb hby at_7) rfl k) ?_
  show own_Ends _ _ _ _ _ _ _ s₁ (mkF m 8 #[.val (.long q0), .second, .val (.long q1), .second, .val (.long q2), .second, .val (.long q3), .second, .val (.long q4), .second, .val (.int p5), .unset, .unset, .unset] [(.int (((p5 &&& (3 : Int32)) % (3 : Int32)) + (1 : Int32)))])
  refine own_go (fun _ k => XS.istore X0.here hx rfl (hb hby at_8) rfl (l' := #[.val (.long q0), .second, .val (.long q1), .second, .val (.long q2), .second, .val (.long q3), .second, .val (.long q4), .second, .val (.int p5), .val (.int (((p5 &&& (3 : Int32)) % (3 : Int32)) + (1 : Int32))), .unset, .unset]) rfl k) ?_
  show own_Ends _ _ _ _ _ _ _ s₁ (mkF m 10 #[.val (.long q0), .second, .val (.long q1), .second, .val (.long q2), .second, .val (.long q3), .second, .val (.long q4), .second, .val (.int p5), .val (.int (((p5 &&& (3 : Int32)) % (3 : Int32)) + (1 : Int32))), .unset, .unset] [])
  obtain ⟨T58, h58, X58, e58, E58, A58, D58, -, st58⟩ := newO X0 hx hZ hown (hw _ (List.mem_of_getElem? (i := 0) rfl)) (hw _ (List.mem_of_getElem? (i := 1) rfl)) (hw _ (List.mem_of_getElem? (i := 2) rfl)) e0 (g := (mkF m 10 #[.val (.long q0), .second, .val (.long q1), .second, .val (.long q2), .second, .val (.long q3), .second, .val (.long q4), .second, .val (.int p5), .val (.int (((p5 &&& (3 : Int32)) % (3 : Int32)) + (1 : Int32))), .unset, .unset] [])) rfl (hb hby at_10) (by decide) (by decide)
  obtain ⟨bo, gq58⟩ : ∃ z, z = h0.size := ⟨_, rfl⟩
  rw [← gq58] at A58 D58 st58
  have sz_bo : h0.size ≤ bo := Nat.le_trans K0.1 (Nat.le_of_eq gq58.symm)
  have g_bo : h0.size ≤ bo := Nat.le_trans (Nat.le_refl _) sz_bo
  have K_58 := K0.ext E58
  have F_arrivals_bo : Fld Z h58 bo "com/example/disarray/disarray/Latencies" "arrivals" "[[J" .null := D58 (Or.inl (hw _ (List.mem_of_getElem? (i := 12) rfl))) (ty := (.array (.array .long))) (by decide)
  have F_nanos_bo : Fld Z h58 bo "com/example/disarray/disarray/Latencies" "nanos" "[[J" .null := D58 (Or.inl (hw _ (List.mem_of_getElem? (i := 14) rfl))) (ty := (.array (.array .long))) (by decide)
  have F_count_bo : Fld Z h58 bo "com/example/disarray/disarray/Latencies" "count" "I" (.int (0 : Int32)) := D58 (Or.inl (hw _ (List.mem_of_getElem? (i := 21) rfl))) (ty := .int) (by decide)
  have F_eventTimeEnds_bo : Fld Z h58 bo "com/example/disarray/disarray/Latencies" "eventTimeEnds" "[[I" .null := D58 (Or.inl (hw _ (List.mem_of_getElem? (i := 29) rfl))) (ty := (.array (.array .int))) (by decide)
  have F_eventTimes_bo : Fld Z h58 bo "com/example/disarray/disarray/Latencies" "eventTimes" "[[B" .null := D58 (Or.inl (hw _ (List.mem_of_getElem? (i := 37) rfl))) (ty := (.array (.array .byte))) (by decide)
  have F_figures_bo : Fld Z h58 bo "com/example/disarray/disarray/Latencies" "figures" "[J" .null := D58 (Or.inl (hw _ (List.mem_of_getElem? (i := 39) rfl))) (ty := (.array .long)) (by decide)
  refine own_go st58 ?_
  show own_Ends _ _ _ _ _ _ _ T58 (mkF m 13 #[.val (.long q0), .second, .val (.long q1), .second, .val (.long q2), .second, .val (.long q3), .second, .val (.long q4), .second, .val (.int p5), .val (.int (((p5 &&& (3 : Int32)) % (3 : Int32)) + (1 : Int32))), .unset, .unset] [(.ref bo)])
  refine own_go (fun _ k => XS.dup X58.here hx rfl (hb hby at_13) rfl rfl k) ?_
  show own_Ends _ _ _ _ _ _ _ T58 (mkF m 14 #[.val (.long q0), .second, .val (.long q1), .second, .val (.long q2), .second, .val (.long q3), .second, .val (.long q4), .second, .val (.int p5), .val (.int (((p5 &&& (3 : Int32)) % (3 : Int32)) + (1 : Int32))), .unset, .unset] [(.ref bo), (.ref bo)])
  refine own_go (fun _ k => XS.iconst X58.here hx rfl (hb hby at_14) k) ?_
  show own_Ends _ _ _ _ _ _ _ T58 (mkF m 15 #[.val (.long q0), .second, .val (.long q1), .second, .val (.long q2), .second, .val (.long q3), .second, .val (.long q4), .second, .val (.int p5), .val (.int (((p5 &&& (3 : Int32)) % (3 : Int32)) + (1 : Int32))), .unset, .unset] [(.int (0 : Int32)), (.ref bo), (.ref bo)])
  obtain ⟨v59, T59, L59, X59, hQ59, st59⟩ := own_callI X58 hx hZ hown rfl (hw _ (List.mem_of_getElem? (i := 3) rfl)) (hw _ (List.mem_of_getElem? (i := 4) rfl)) (hw _ (List.mem_of_getElem? (i := 2) rfl)) (hw _ (List.mem_of_getElem? (i := 5) rfl)) (rm1 l Z a0 hw bo 0 h58 h0.size K_58.1 A58 F_arrivals_bo F_nanos_bo F_eventTimes_bo F_eventTimeEnds_bo F_count_bo F_figures_bo g_bo rfl) e58 (g := (mkF m 15 #[.val (.long q0), .second, .val (.long q1), .second, .val (.long q2), .second, .val (.long q3), .second, .val (.long q4), .second, .val (.int p5), .val (.int (((p5 &&& (3 : Int32)) % (3 : Int32)) + (1 : Int32))), .unset, .unset] [(.int (0 : Int32)), (.ref bo), (.ref bo)])) rfl (by rw [hml]; rfl) (a := bo) (argsL := [(.int (0 : Int32))]) (rest := [(.ref bo)]) (lenOf pd_2 rfl) rfl rfl (W := 1) (by show 2 * 0 + _ ≤ _; exact Nat.le_of_eq rfl) (hb hby at_15) (by decide) (by decide) (by decide) (by decide) (by decide)
  obtain ⟨aa, na, ka, kn, rfl, N59q, K59, E59, F590, F591, F592, F593, F594, F595, A59, B59, Ea59, En59, Oa, On, s59, u59, n3⟩ := hQ59
  refine own_go st59 ?_
  have N59 := Fr.app N0 N59q
  show own_Ends _ _ _ _ _ _ _ T59 (mkF m 18 #[.val (.long q0), .second, .val (.long q1), .second, .val (.long q2), .second, .val (.long q3), .second, .val (.long q4), .second, .val (.int p5), .val (.int (((p5 &&& (3 : Int32)) % (3 : Int32)) + (1 : Int32))), .unset, .unset] [(.ref bo)])
  have n1 : bo ≠ aa := Nat.ne_of_lt (Nat.lt_of_lt_of_le A58.lt s59)
  have n2 : bo ≠ na := Nat.ne_of_lt (Nat.lt_of_lt_of_le A58.lt u59)
  have ga : h0.size ≤ aa := Nat.le_trans K_58.1 s59
  have gn : h0.size ≤ na := Nat.le_trans K_58.1 u59
  have K_59 := K_58.trans K59 (allS (Or.inr sz_bo) all0)
  show own_Ends _ _ _ _ _ _ _ T59 (mkF m 18 #[.val (.long q0), .second, .val (.long q1), .second, .val (.long q2), .second, .val (.long q3), .second, .val (.long q4), .second, .val (.int p5), .val (.int (((p5 &&& (3 : Int32)) % (3 : Int32)) + (1 : Int32))), .unset, .unset] [(.ref bo)])
  refine own_go (fun _ k => XS.astore X59.here hx rfl (hb hby at_18) rfl rfl (l' := #[.val (.long q0), .second, .val (.long q1), .second, .val (.long q2), .second, .val (.long q3), .second, .val (.long q4), .second, .val (.int p5), .val (.int (((p5 &&& (3 : Int32)) % (3 : Int32)) + (1 : Int32))), .val (.ref bo), .unset]) rfl k) ?_
  show own_Ends _ _ _ _ _ _ _ T59 (mkF m 20 #[.val (.long q0), .second, .val (.long q1), .second, .val (.long q2), .second, .val (.long q3), .second, .val (.long q4), .second, .val (.int p5), .val (.int (((p5 &&& (3 : Int32)) % (3 : Int32)) + (1 : Int32))), .val (.ref bo), .unset] [])
  refine own_go (fun _ k => XS.aload X59.here hx rfl (hb hby at_20) rfl rfl k) ?_
  show own_Ends _ _ _ _ _ _ _ T59 (mkF m 22 #[.val (.long q0), .second, .val (.long q1), .second, .val (.long q2), .second, .val (.long q3), .second, .val (.long q4), .second, .val (.int p5), .val (.int (((p5 &&& (3 : Int32)) % (3 : Int32)) + (1 : Int32))), .val (.ref bo), .unset] [(.ref bo)])
  refine own_go (fun _ k => XS.lloadN X59.here hx rfl (hb hby at_22) rfl k) ?_
  show own_Ends _ _ _ _ _ _ _ T59 (mkF m 23 #[.val (.long q0), .second, .val (.long q1), .second, .val (.long q2), .second, .val (.long q3), .second, .val (.long q4), .second, .val (.int p5), .val (.int (((p5 &&& (3 : Int32)) % (3 : Int32)) + (1 : Int32))), .val (.ref bo), .unset] [(.long q0), (.ref bo)])
  refine own_go (fun _ k => XS.lload X59.here hx rfl (hb hby at_23) rfl k) ?_
  show own_Ends _ _ _ _ _ _ _ T59 (mkF m 25 #[.val (.long q0), .second, .val (.long q1), .second, .val (.long q2), .second, .val (.long q3), .second, .val (.long q4), .second, .val (.int p5), .val (.int (((p5 &&& (3 : Int32)) % (3 : Int32)) + (1 : Int32))), .val (.ref bo), .unset] [(.long q3), (.long q0), (.ref bo)])
  refine own_go (fun _ k => XS.aconstNull X59.here hx rfl (hb hby at_25) k) ?_
  show own_Ends _ _ _ _ _ _ _ T59 (mkF m 26 #[.val (.long q0), .second, .val (.long q1), .second, .val (.long q2), .second, .val (.long q3), .second, .val (.long q4), .second, .val (.int p5), .val (.int (((p5 &&& (3 : Int32)) % (3 : Int32)) + (1 : Int32))), .val (.ref bo), .unset] [.null, (.long q3), (.long q0), (.ref bo)])
  obtain ⟨v60, T60, L60, X60, hQ60, st60⟩ := own_callV X59 hx hZ hown (hw _ (List.mem_of_getElem? (i := 15) rfl)) (hw _ (List.mem_of_getElem? (i := 16) rfl)) (hw _ (List.mem_of_getElem? (i := 18) rfl)) (hw _ (List.mem_of_getElem? (i := 17) rfl)) (hw _ (List.mem_of_getElem? (i := 2) rfl)) (hw _ (List.mem_of_getElem? (i := 19) rfl)) (rm3_0 l Z a0 hw bo q0 q3 T59.heap h0.size aa na ka kn K_59.1 E59 F590 F591 F592 F593 F594 F595 A59 B59 Ea59 En59 Oa On g_bo ga gn n1 n2 n3) rfl (g := (mkF m 26 #[.val (.long q0), .second, .val (.long q1), .second, .val (.long q2), .second, .val (.long q3), .second, .val (.long q4), .second, .val (.int p5), .val (.int (((p5 &&& (3 : Int32)) % (3 : Int32)) + (1 : Int32))), .val (.ref bo), .unset] [.null, (.long q3), (.long q0), (.ref bo)])) rfl (by rw [hml]; rfl) (a := bo) (argsL := [(.long q0), (.long q3), .null]) (rest := []) (E59) (lenOf pd_3 rfl) rfl rfl (W := 0) (by show 2 * 0 + _ ≤ _; exact Nat.le_of_eq rfl) (hb hby at_26) (by decide) (by decide) (by decide) (by decide) (by decide)
  obtain ⟨la, ln, kl, km, gl0, gm0, rfl, N60q, K60, E60, F600, F601, F602, F603, F604, F605, A60, B60, C60, D60, Ea60, En60, s60, u60, m6, v0⟩ := hQ60
  refine own_go st60 ?_
  have N60 := Fr.app N59 N60q
  show own_Ends _ _ _ _ _ _ _ T60 (mkF m 29 #[.val (.long q0), .second, .val (.long q1), .second, .val (.long q2), .second, .val (.long q3), .second, .val (.long q4), .second, .val (.int p5), .val (.int (((p5 &&& (3 : Int32)) % (3 : Int32)) + (1 : Int32))), .val (.ref bo), .unset] [])
  have m0 : bo ≠ la := Nat.ne_of_lt (Nat.lt_of_lt_of_le E59.lt s60)
  have m1 : bo ≠ ln := Nat.ne_of_lt (Nat.lt_of_lt_of_le E59.lt u60)
  have m2 : aa ≠ la := Nat.ne_of_lt (Nat.lt_of_lt_of_le A59.lt s60)
  have m3 : aa ≠ ln := Nat.ne_of_lt (Nat.lt_of_lt_of_le A59.lt u60)
  have m4 : na ≠ la := Nat.ne_of_lt (Nat.lt_of_lt_of_le B59.lt s60)
  have m5 : na ≠ ln := Nat.ne_of_lt (Nat.lt_of_lt_of_le B59.lt u60)
  have gla : h0.size ≤ la := Nat.le_trans K_59.1 s60
  have gln : h0.size ≤ ln := Nat.le_trans K_59.1 u60
  have K_60 := K_59.trans K60 (allS (Or.inr sz_bo) (allS (Or.inr ga) (allS (Or.inr gn) all0)))
  show own_Ends _ _ _ _ _ _ _ T60 (mkF m 29 #[.val (.long q0), .second, .val (.long q1), .second, .val (.long q2), .second, .val (.long q3), .second, .val (.long q4), .second, .val (.int p5), .val (.int (((p5 &&& (3 : Int32)) % (3 : Int32)) + (1 : Int32))), .val (.ref bo), .unset] [])
  refine own_go (fun _ k => XS.iload X60.here hx rfl (hb hby at_29) rfl k) ?_
  show own_Ends _ _ _ _ _ _ _ T60 (mkF m 31 #[.val (.long q0), .second, .val (.long q1), .second, .val (.long q2), .second, .val (.long q3), .second, .val (.long q4), .second, .val (.int p5), .val (.int (((p5 &&& (3 : Int32)) % (3 : Int32)) + (1 : Int32))), .val (.ref bo), .unset] [(.int (((p5 &&& (3 : Int32)) % (3 : Int32)) + (1 : Int32)))])
  refine own_go (fun _ k => XS.iconst X60.here hx rfl (hb hby at_31) k) ?_
  show own_Ends _ _ _ _ _ _ _ T60 (mkF m 32 #[.val (.long q0), .second, .val (.long q1), .second, .val (.long q2), .second, .val (.long q3), .second, .val (.long q4), .second, .val (.int p5), .val (.int (((p5 &&& (3 : Int32)) % (3 : Int32)) + (1 : Int32))), .val (.ref bo), .unset] [(.int (2 : Int32)), (.int (((p5 &&& (3 : Int32)) % (3 : Int32)) + (1 : Int32)))])
  rcases own_cnt p5 with hk | hk | hk
  · rw [show (((p5 &&& (3 : Int32)) % (3 : Int32)) + (1 : Int32)) = (1 : Int32) from hk]
    show own_Ends _ _ _ _ _ _ _ T60 (mkF m 32 #[.val (.long q0), .second, .val (.long q1), .second, .val (.long q2), .second, .val (.long q3), .second, .val (.long q4), .second, .val (.int p5), .val (.int (1 : Int32)), .val (.ref bo), .unset] [(.int (2 : Int32)), (.int (1 : Int32))])
    refine own_go (fun _ k => XS.icmpYes X60.here hx rfl (pc0 := 32) (pc' := 44) rfl (hb hby at_32) rfl (tlt (by decide)).1 (by decide) (by decide) k) ?_
    show own_Ends _ _ _ _ _ _ _ T60 (mkF m 44 #[.val (.long q0), .second, .val (.long q1), .second, .val (.long q2), .second, .val (.long q3), .second, .val (.long q4), .second, .val (.int p5), .val (.int (1 : Int32)), .val (.ref bo), .unset] [])
    refine own_go (fun _ k => XS.iload X60.here hx rfl (hb hby at_44) rfl k) ?_
    show own_Ends _ _ _ _ _ _ _ T60 (mkF m 46 #[.val (.long q0), .second, .val (.long q1), .second, .val (.long q2), .second, .val (.long q3), .second, .val (.long q4), .second, .val (.int p5), .val (.int (1 : Int32)), .val (.ref bo), .unset] [(.int (1 : Int32))])
    refine own_go (fun _ k => XS.iconst X60.here hx rfl (hb hby at_46) k) ?_
    show own_Ends _ _ _ _ _ _ _ T60 (mkF m 47 #[.val (.long q0), .second, .val (.long q1), .second, .val (.long q2), .second, .val (.long q3), .second, .val (.long q4), .second, .val (.int p5), .val (.int (1 : Int32)), .val (.ref bo), .unset] [(.int (3 : Int32)), (.int (1 : Int32))])
    refine own_go (fun _ k => XS.icmpYes X60.here hx rfl (pc0 := 47) (pc' := 60) rfl (hb hby at_47) rfl (tlt (by decide)).1 (by decide) (by decide) k) ?_
    show own_Ends _ _ _ _ _ _ _ T60 (mkF m 60 #[.val (.long q0), .second, .val (.long q1), .second, .val (.long q2), .second, .val (.long q3), .second, .val (.long q4), .second, .val (.int p5), .val (.int (1 : Int32)), .val (.ref bo), .unset] [])
    refine own_go (fun _ k => XS.aload X60.here hx rfl (hb hby at_60) rfl rfl k) ?_
    show own_Ends _ _ _ _ _ _ _ T60 (mkF m 62 #[.val (.long q0), .second, .val (.long q1), .second, .val (.long q2), .second, .val (.long q3), .second, .val (.long q4), .second, .val (.int p5), .val (.int (1 : Int32)), .val (.ref bo), .unset] [(.ref bo)])
    refine own_go (fun _ k => XS.iconst X60.here hx rfl (hb hby at_62) k) ?_
    show own_Ends _ _ _ _ _ _ _ T60 (mkF m 63 #[.val (.long q0), .second, .val (.long q1), .second, .val (.long q2), .second, .val (.long q3), .second, .val (.long q4), .second, .val (.int p5), .val (.int (1 : Int32)), .val (.ref bo), .unset] [(.int (0 : Int32)), (.ref bo)])
    obtain ⟨v61, T61, L61, X61, hQ61, st61⟩ := own_callV X60 hx hZ hown (hw _ (List.mem_of_getElem? (i := 40) rfl)) (hw _ (List.mem_of_getElem? (i := 41) rfl)) (hw _ (List.mem_of_getElem? (i := 43) rfl)) (hw _ (List.mem_of_getElem? (i := 42) rfl)) (hw _ (List.mem_of_getElem? (i := 2) rfl)) (hw _ (List.mem_of_getElem? (i := 44) rfl)) (rm6_0 l Z a0 hw bo (0 : Int32) T60.heap aa la ka kl (fun j => if j = 0 then .ref la else (fun _ => .null) j) gl0 q0 F600 A60 rfl C60 v0 rfl) rfl (g := (mkF m 63 #[.val (.long q0), .second, .val (.long q1), .second, .val (.long q2), .second, .val (.long q3), .second, .val (.long q4), .second, .val (.int p5), .val (.int (1 : Int32)), .val (.ref bo), .unset] [(.int (0 : Int32)), (.ref bo)])) rfl (by rw [hml]; rfl) (a := bo) (argsL := [(.int (0 : Int32))]) (rest := []) (E60) (lenOf pd_4 rfl) rfl rfl (W := 0) (by show 2 * 0 + _ ≤ _; exact Nat.le_of_eq rfl) (hb hby at_63) (by decide) (by decide) (by decide) (by decide) (by decide)
    obtain ⟨rfl, rfl, e61⟩ := hQ61
    refine own_go st61 ?_
    have N61 := Fr.app N60 (Fr.nil _)
    show own_Ends _ _ _ _ _ _ _ T61 (mkF m 66 #[.val (.long q0), .second, .val (.long q1), .second, .val (.long q2), .second, .val (.long q3), .second, .val (.long q4), .second, .val (.int p5), .val (.int (1 : Int32)), .val (.ref bo), .unset] [(.long q0)])
    refine own_go (fun _ k => XS.lloadN X61.here hx rfl (hb hby at_66) rfl k) ?_
    show own_Ends _ _ _ _ _ _ _ T61 (mkF m 67 #[.val (.long q0), .second, .val (.long q1), .second, .val (.long q2), .second, .val (.long q3), .second, .val (.long q4), .second, .val (.int p5), .val (.int (1 : Int32)), .val (.ref bo), .unset] [(.long q0), (.long q0)])
    refine own_go (fun _ k => XS.lcmp X61.here hx rfl (hb hby at_67) rfl k) ?_
    show own_Ends _ _ _ _ _ _ _ T61 (mkF m 68 #[.val (.long q0), .second, .val (.long q1), .second, .val (.long q2), .second, .val (.long q3), .second, .val (.long q4), .second, .val (.int p5), .val (.int (1 : Int32)), .val (.ref bo), .unset] [(.int (lcmpW q0 q0))])
    refine own_go (fun _ k => XS.ifNo X61.here hx rfl (hb hby at_68) rfl (own_let (rfl)).2 k) ?_
    show own_Ends _ _ _ _ _ _ _ T61 (mkF m 71 #[.val (.long q0), .second, .val (.long q1), .second, .val (.long q2), .second, .val (.long q3), .second, .val (.long q4), .second, .val (.int p5), .val (.int (1 : Int32)), .val (.ref bo), .unset] [])
    refine own_go (fun _ k => XS.iconst X61.here hx rfl (hb hby at_71) k) ?_
    show own_Ends _ _ _ _ _ _ _ T61 (mkF m 72 #[.val (.long q0), .second, .val (.long q1), .second, .val (.long q2), .second, .val (.long q3), .second, .val (.long q4), .second, .val (.int p5), .val (.int (1 : Int32)), .val (.ref bo), .unset] [(.int (1 : Int32))])
    refine own_go (fun _ k => XS.goto X61.here hx rfl (pc0 := 72) (pc' := 76) rfl (hb hby at_72) (by decide) (by decide) k) ?_
    show own_Ends _ _ _ _ _ _ _ T61 (mkF m 76 #[.val (.long q0), .second, .val (.long q1), .second, .val (.long q2), .second, .val (.long q3), .second, .val (.long q4), .second, .val (.int p5), .val (.int (1 : Int32)), .val (.ref bo), .unset] [(.int (1 : Int32))])
    refine own_go (fun _ k => XS.istore X61.here hx rfl (hb hby at_76) rfl (l' := #[.val (.long q0), .second, .val (.long q1), .second, .val (.long q2), .second, .val (.long q3), .second, .val (.long q4), .second, .val (.int p5), .val (.int (1 : Int32)), .val (.ref bo), .val (.int (1 : Int32))]) rfl k) ?_
    show own_Ends _ _ _ _ _ _ _ T61 (mkF m 78 #[.val (.long q0), .second, .val (.long q1), .second, .val (.long q2), .second, .val (.long q3), .second, .val (.long q4), .second, .val (.int p5), .val (.int (1 : Int32)), .val (.ref bo), .val (.int (1 : Int32))] [])
    refine own_go (fun _ k => XS.iload X61.here hx rfl (hb hby at_78) rfl k) ?_
    show own_Ends _ _ _ _ _ _ _ T61 (mkF m 80 #[.val (.long q0), .second, .val (.long q1), .second, .val (.long q2), .second, .val (.long q3), .second, .val (.long q4), .second, .val (.int p5), .val (.int (1 : Int32)), .val (.ref bo), .val (.int (1 : Int32))] [(.int (1 : Int32))])
    refine own_go (fun _ k => XS.iconst X61.here hx rfl (hb hby at_80) k) ?_
    show own_Ends _ _ _ _ _ _ _ T61 (mkF m 81 #[.val (.long q0), .second, .val (.long q1), .second, .val (.long q2), .second, .val (.long q3), .second, .val (.long q4), .second, .val (.int p5), .val (.int (1 : Int32)), .val (.ref bo), .val (.int (1 : Int32))] [(.int (2 : Int32)), (.int (1 : Int32))])
    refine own_go (fun _ k => XS.icmpYes X61.here hx rfl (pc0 := 81) (pc' := 107) rfl (hb hby at_81) rfl (tlt (by decide)).1 (by decide) (by decide) k) ?_
    show own_Ends _ _ _ _ _ _ _ T61 (mkF m 107 #[.val (.long q0), .second, .val (.long q1), .second, .val (.long q2), .second, .val (.long q3), .second, .val (.long q4), .second, .val (.int p5), .val (.int (1 : Int32)), .val (.ref bo), .val (.int (1 : Int32))] [])
    refine own_go (fun _ k => XS.iload X61.here hx rfl (hb hby at_107) rfl k) ?_
    show own_Ends _ _ _ _ _ _ _ T61 (mkF m 109 #[.val (.long q0), .second, .val (.long q1), .second, .val (.long q2), .second, .val (.long q3), .second, .val (.long q4), .second, .val (.int p5), .val (.int (1 : Int32)), .val (.ref bo), .val (.int (1 : Int32))] [(.int (1 : Int32))])
    refine own_go (fun _ k => XS.iconst X61.here hx rfl (hb hby at_109) k) ?_
    show own_Ends _ _ _ _ _ _ _ T61 (mkF m 110 #[.val (.long q0), .second, .val (.long q1), .second, .val (.long q2), .second, .val (.long q3), .second, .val (.long q4), .second, .val (.int p5), .val (.int (1 : Int32)), .val (.ref bo), .val (.int (1 : Int32))] [(.int (3 : Int32)), (.int (1 : Int32))])
    refine own_go (fun _ k => XS.icmpYes X61.here hx rfl (pc0 := 110) (pc' := 137) rfl (hb hby at_110) rfl (tlt (by decide)).1 (by decide) (by decide) k) ?_
    show own_Ends _ _ _ _ _ _ _ T61 (mkF m 137 #[.val (.long q0), .second, .val (.long q1), .second, .val (.long q2), .second, .val (.long q3), .second, .val (.long q4), .second, .val (.int p5), .val (.int (1 : Int32)), .val (.ref bo), .val (.int (1 : Int32))] [])
    refine own_go (fun _ k => XS.iload X61.here hx rfl (hb hby at_137) rfl k) ?_
    show own_Ends _ _ _ _ _ _ _ T61 (mkF m 139 #[.val (.long q0), .second, .val (.long q1), .second, .val (.long q2), .second, .val (.long q3), .second, .val (.long q4), .second, .val (.int p5), .val (.int (1 : Int32)), .val (.ref bo), .val (.int (1 : Int32))] [(.int (1 : Int32))])
    exact own_retZ X61 hx hlk hret (by decide) (hb hby at_139) (by decide) (by decide) ⟨rfl, N61⟩
  · rw [show (((p5 &&& (3 : Int32)) % (3 : Int32)) + (1 : Int32)) = (2 : Int32) from hk]
    show own_Ends _ _ _ _ _ _ _ T60 (mkF m 32 #[.val (.long q0), .second, .val (.long q1), .second, .val (.long q2), .second, .val (.long q3), .second, .val (.long q4), .second, .val (.int p5), .val (.int (2 : Int32)), .val (.ref bo), .unset] [(.int (2 : Int32)), (.int (2 : Int32))])
    refine own_go (fun _ k => XS.icmpNo X60.here hx rfl (hb hby at_32) rfl (flt (by decide)).1 k) ?_
    show own_Ends _ _ _ _ _ _ _ T60 (mkF m 35 #[.val (.long q0), .second, .val (.long q1), .second, .val (.long q2), .second, .val (.long q3), .second, .val (.long q4), .second, .val (.int p5), .val (.int (2 : Int32)), .val (.ref bo), .unset] [])
    refine own_go (fun _ k => XS.aload X60.here hx rfl (hb hby at_35) rfl rfl k) ?_
    show own_Ends _ _ _ _ _ _ _ T60 (mkF m 37 #[.val (.long q0), .second, .val (.long q1), .second, .val (.long q2), .second, .val (.long q3), .second, .val (.long q4), .second, .val (.int p5), .val (.int (2 : Int32)), .val (.ref bo), .unset] [(.ref bo)])
    refine own_go (fun _ k => XS.lloadN X60.here hx rfl (hb hby at_37) rfl k) ?_
    show own_Ends _ _ _ _ _ _ _ T60 (mkF m 38 #[.val (.long q0), .second, .val (.long q1), .second, .val (.long q2), .second, .val (.long q3), .second, .val (.long q4), .second, .val (.int p5), .val (.int (2 : Int32)), .val (.ref bo), .unset] [(.long q1), (.ref bo)])
    refine own_go (fun _ k => XS.lload X60.here hx rfl (hb hby at_38) rfl k) ?_
    show own_Ends _ _ _ _ _ _ _ T60 (mkF m 40 #[.val (.long q0), .second, .val (.long q1), .second, .val (.long q2), .second, .val (.long q3), .second, .val (.long q4), .second, .val (.int p5), .val (.int (2 : Int32)), .val (.ref bo), .unset] [(.long q4), (.long q1), (.ref bo)])
    refine own_go (fun _ k => XS.aconstNull X60.here hx rfl (hb hby at_40) k) ?_
    show own_Ends _ _ _ _ _ _ _ T60 (mkF m 41 #[.val (.long q0), .second, .val (.long q1), .second, .val (.long q2), .second, .val (.long q3), .second, .val (.long q4), .second, .val (.int p5), .val (.int (2 : Int32)), .val (.ref bo), .unset] [.null, (.long q4), (.long q1), (.ref bo)])
    obtain ⟨v62, T62, L62, X62, hQ62, st62⟩ := own_callV X60 hx hZ hown (hw _ (List.mem_of_getElem? (i := 15) rfl)) (hw _ (List.mem_of_getElem? (i := 16) rfl)) (hw _ (List.mem_of_getElem? (i := 18) rfl)) (hw _ (List.mem_of_getElem? (i := 17) rfl)) (hw _ (List.mem_of_getElem? (i := 2) rfl)) (hw _ (List.mem_of_getElem? (i := 19) rfl)) (rm3_1 l Z a0 hw bo q1 q4 T60.heap h0.size aa na ka kn la ln kl km gl0 gm0 K_60.1 E60 F600 F601 F602 F603 F604 F605 A60 B60 Ea60 En60 Oa On g_bo ga gn n1 n2 n3 C60 D60 gla gln m0 m1 m2 m3 m4 m5 m6) rfl (g := (mkF m 41 #[.val (.long q0), .second, .val (.long q1), .second, .val (.long q2), .second, .val (.long q3), .second, .val (.long q4), .second, .val (.int p5), .val (.int (2 : Int32)), .val (.ref bo), .unset] [.null, (.long q4), (.long q1), (.ref bo)])) rfl (by rw [hml]; rfl) (a := bo) (argsL := [(.long q1), (.long q4), .null]) (rest := []) (E60) (lenOf pd_3 rfl) rfl rfl (W := 0) (by show 2 * 0 + _ ≤ _; exact Nat.le_of_eq rfl) (hb hby at_41) (by decide) (by decide) (by decide) (by decide) (by decide)
    obtain ⟨gl1, gm1, rfl, N62q, K62, E62, F620, F621, F622, F623, F624, F625, A62, B62, C62, D62, Ea62, En62, v1, r10⟩ := hQ62
    refine own_go st62 ?_
    have N62 := Fr.app N60 N62q
    show own_Ends _ _ _ _ _ _ _ T62 (mkF m 44 #[.val (.long q0), .second, .val (.long q1), .second, .val (.long q2), .second, .val (.long q3), .second, .val (.long q4), .second, .val (.int p5), .val (.int (2 : Int32)), .val (.ref bo), .unset] [])
    have K_62 := K_60.trans K62 (allS (Or.inr sz_bo) (allS (Or.inr ga) (allS (Or.inr gn) (allS (Or.inr gla) (allS (Or.inr gln) all0)))))
    show own_Ends _ _ _ _ _ _ _ T62 (mkF m 44 #[.val (.long q0), .second, .val (.long q1), .second, .val (.long q2), .second, .val (.long q3), .second, .val (.long q4), .second, .val (.int p5), .val (.int (2 : Int32)), .val (.ref bo), .unset] [])
    refine own_go (fun _ k => XS.iload X62.here hx rfl (hb hby at_44) rfl k) ?_
    show own_Ends _ _ _ _ _ _ _ T62 (mkF m 46 #[.val (.long q0), .second, .val (.long q1), .second, .val (.long q2), .second, .val (.long q3), .second, .val (.long q4), .second, .val (.int p5), .val (.int (2 : Int32)), .val (.ref bo), .unset] [(.int (2 : Int32))])
    refine own_go (fun _ k => XS.iconst X62.here hx rfl (hb hby at_46) k) ?_
    show own_Ends _ _ _ _ _ _ _ T62 (mkF m 47 #[.val (.long q0), .second, .val (.long q1), .second, .val (.long q2), .second, .val (.long q3), .second, .val (.long q4), .second, .val (.int p5), .val (.int (2 : Int32)), .val (.ref bo), .unset] [(.int (3 : Int32)), (.int (2 : Int32))])
    refine own_go (fun _ k => XS.icmpYes X62.here hx rfl (pc0 := 47) (pc' := 60) rfl (hb hby at_47) rfl (tlt (by decide)).1 (by decide) (by decide) k) ?_
    show own_Ends _ _ _ _ _ _ _ T62 (mkF m 60 #[.val (.long q0), .second, .val (.long q1), .second, .val (.long q2), .second, .val (.long q3), .second, .val (.long q4), .second, .val (.int p5), .val (.int (2 : Int32)), .val (.ref bo), .unset] [])
    refine own_go (fun _ k => XS.aload X62.here hx rfl (hb hby at_60) rfl rfl k) ?_
    show own_Ends _ _ _ _ _ _ _ T62 (mkF m 62 #[.val (.long q0), .second, .val (.long q1), .second, .val (.long q2), .second, .val (.long q3), .second, .val (.long q4), .second, .val (.int p5), .val (.int (2 : Int32)), .val (.ref bo), .unset] [(.ref bo)])
    refine own_go (fun _ k => XS.iconst X62.here hx rfl (hb hby at_62) k) ?_
    show own_Ends _ _ _ _ _ _ _ T62 (mkF m 63 #[.val (.long q0), .second, .val (.long q1), .second, .val (.long q2), .second, .val (.long q3), .second, .val (.long q4), .second, .val (.int p5), .val (.int (2 : Int32)), .val (.ref bo), .unset] [(.int (0 : Int32)), (.ref bo)])
    obtain ⟨v63, T63, L63, X63, hQ63, st63⟩ := own_callV X62 hx hZ hown (hw _ (List.mem_of_getElem? (i := 40) rfl)) (hw _ (List.mem_of_getElem? (i := 41) rfl)) (hw _ (List.mem_of_getElem? (i := 43) rfl)) (hw _ (List.mem_of_getElem? (i := 42) rfl)) (hw _ (List.mem_of_getElem? (i := 2) rfl)) (hw _ (List.mem_of_getElem? (i := 44) rfl)) (rm6_0 l Z a0 hw bo (0 : Int32) T62.heap aa la ka kl (fun j => if j = 0 then .ref la else (fun _ => .null) j) gl1 q0 F620 A62 rfl C62 (r10.trans v0) rfl) rfl (g := (mkF m 63 #[.val (.long q0), .second, .val (.long q1), .second, .val (.long q2), .second, .val (.long q3), .second, .val (.long q4), .second, .val (.int p5), .val (.int (2 : Int32)), .val (.ref bo), .unset] [(.int (0 : Int32)), (.ref bo)])) rfl (by rw [hml]; rfl) (a := bo) (argsL := [(.int (0 : Int32))]) (rest := []) (E62) (lenOf pd_4 rfl) rfl rfl (W := 0) (by show 2 * 0 + _ ≤ _; exact Nat.le_of_eq rfl) (hb hby at_63) (by decide) (by decide) (by decide) (by decide) (by decide)
    obtain ⟨rfl, rfl, e63⟩ := hQ63
    refine own_go st63 ?_
    have N63 := Fr.app N62 (Fr.nil _)
    show own_Ends _ _ _ _ _ _ _ T63 (mkF m 66 #[.val (.long q0), .second, .val (.long q1), .second, .val (.long q2), .second, .val (.long q3), .second, .val (.long q4), .second, .val (.int p5), .val (.int (2 : Int32)), .val (.ref bo), .unset] [(.long q0)])
    refine own_go (fun _ k => XS.lloadN X63.here hx rfl (hb hby at_66) rfl k) ?_
    show own_Ends _ _ _ _ _ _ _ T63 (mkF m 67 #[.val (.long q0), .second, .val (.long q1), .second, .val (.long q2), .second, .val (.long q3), .second, .val (.long q4), .second, .val (.int p5), .val (.int (2 : Int32)), .val (.ref bo), .unset] [(.long q0), (.long q0)])
    refine own_go (fun _ k => XS.lcmp X63.here hx rfl (hb hby at_67) rfl k) ?_
    show own_Ends _ _ _ _ _ _ _ T63 (mkF m 68 #[.val (.long q0), .second, .val (.long q1), .second, .val (.long q2), .second, .val (.long q3), .second, .val (.long q4), .second, .val (.int p5), .val (.int (2 : Int32)), .val (.ref bo), .unset] [(.int (lcmpW q0 q0))])
    refine own_go (fun _ k => XS.ifNo X63.here hx rfl (hb hby at_68) rfl (own_let (rfl)).2 k) ?_
    show own_Ends _ _ _ _ _ _ _ T63 (mkF m 71 #[.val (.long q0), .second, .val (.long q1), .second, .val (.long q2), .second, .val (.long q3), .second, .val (.long q4), .second, .val (.int p5), .val (.int (2 : Int32)), .val (.ref bo), .unset] [])
    refine own_go (fun _ k => XS.iconst X63.here hx rfl (hb hby at_71) k) ?_
    show own_Ends _ _ _ _ _ _ _ T63 (mkF m 72 #[.val (.long q0), .second, .val (.long q1), .second, .val (.long q2), .second, .val (.long q3), .second, .val (.long q4), .second, .val (.int p5), .val (.int (2 : Int32)), .val (.ref bo), .unset] [(.int (1 : Int32))])
    refine own_go (fun _ k => XS.goto X63.here hx rfl (pc0 := 72) (pc' := 76) rfl (hb hby at_72) (by decide) (by decide) k) ?_
    show own_Ends _ _ _ _ _ _ _ T63 (mkF m 76 #[.val (.long q0), .second, .val (.long q1), .second, .val (.long q2), .second, .val (.long q3), .second, .val (.long q4), .second, .val (.int p5), .val (.int (2 : Int32)), .val (.ref bo), .unset] [(.int (1 : Int32))])
    refine own_go (fun _ k => XS.istore X63.here hx rfl (hb hby at_76) rfl (l' := #[.val (.long q0), .second, .val (.long q1), .second, .val (.long q2), .second, .val (.long q3), .second, .val (.long q4), .second, .val (.int p5), .val (.int (2 : Int32)), .val (.ref bo), .val (.int (1 : Int32))]) rfl k) ?_
    show own_Ends _ _ _ _ _ _ _ T63 (mkF m 78 #[.val (.long q0), .second, .val (.long q1), .second, .val (.long q2), .second, .val (.long q3), .second, .val (.long q4), .second, .val (.int p5), .val (.int (2 : Int32)), .val (.ref bo), .val (.int (1 : Int32))] [])
    refine own_go (fun _ k => XS.iload X63.here hx rfl (hb hby at_78) rfl k) ?_
    show own_Ends _ _ _ _ _ _ _ T63 (mkF m 80 #[.val (.long q0), .second, .val (.long q1), .second, .val (.long q2), .second, .val (.long q3), .second, .val (.long q4), .second, .val (.int p5), .val (.int (2 : Int32)), .val (.ref bo), .val (.int (1 : Int32))] [(.int (2 : Int32))])
    refine own_go (fun _ k => XS.iconst X63.here hx rfl (hb hby at_80) k) ?_
    show own_Ends _ _ _ _ _ _ _ T63 (mkF m 81 #[.val (.long q0), .second, .val (.long q1), .second, .val (.long q2), .second, .val (.long q3), .second, .val (.long q4), .second, .val (.int p5), .val (.int (2 : Int32)), .val (.ref bo), .val (.int (1 : Int32))] [(.int (2 : Int32)), (.int (2 : Int32))])
    refine own_go (fun _ k => XS.icmpNo X63.here hx rfl (hb hby at_81) rfl (flt (by decide)).1 k) ?_
    show own_Ends _ _ _ _ _ _ _ T63 (mkF m 84 #[.val (.long q0), .second, .val (.long q1), .second, .val (.long q2), .second, .val (.long q3), .second, .val (.long q4), .second, .val (.int p5), .val (.int (2 : Int32)), .val (.ref bo), .val (.int (1 : Int32))] [])
    refine own_go (fun _ k => XS.iload X63.here hx rfl (hb hby at_84) rfl k) ?_
    show own_Ends _ _ _ _ _ _ _ T63 (mkF m 86 #[.val (.long q0), .second, .val (.long q1), .second, .val (.long q2), .second, .val (.long q3), .second, .val (.long q4), .second, .val (.int p5), .val (.int (2 : Int32)), .val (.ref bo), .val (.int (1 : Int32))] [(.int (1 : Int32))])
    refine own_go (fun _ k => XS.ifNo X63.here hx rfl (hb hby at_86) rfl ((if0 _ _).trans (feq (by decide)).1) k) ?_
    show own_Ends _ _ _ _ _ _ _ T63 (mkF m 89 #[.val (.long q0), .second, .val (.long q1), .second, .val (.long q2), .second, .val (.long q3), .second, .val (.long q4), .second, .val (.int p5), .val (.int (2 : Int32)), .val (.ref bo), .val (.int (1 : Int32))] [])
    refine own_go (fun _ k => XS.aload X63.here hx rfl (hb hby at_89) rfl rfl k) ?_
    show own_Ends _ _ _ _ _ _ _ T63 (mkF m 91 #[.val (.long q0), .second, .val (.long q1), .second, .val (.long q2), .second, .val (.long q3), .second, .val (.long q4), .second, .val (.int p5), .val (.int (2 : Int32)), .val (.ref bo), .val (.int (1 : Int32))] [(.ref bo)])
    refine own_go (fun _ k => XS.iconst X63.here hx rfl (hb hby at_91) k) ?_
    show own_Ends _ _ _ _ _ _ _ T63 (mkF m 92 #[.val (.long q0), .second, .val (.long q1), .second, .val (.long q2), .second, .val (.long q3), .second, .val (.long q4), .second, .val (.int p5), .val (.int (2 : Int32)), .val (.ref bo), .val (.int (1 : Int32))] [(.int (1 : Int32)), (.ref bo)])
    obtain ⟨v64, T64, L64, X64, hQ64, st64⟩ := own_callV X63 hx hZ hown (hw _ (List.mem_of_getElem? (i := 40) rfl)) (hw _ (List.mem_of_getElem? (i := 41) rfl)) (hw _ (List.mem_of_getElem? (i := 43) rfl)) (hw _ (List.mem_of_getElem? (i := 42) rfl)) (hw _ (List.mem_of_getElem? (i := 2) rfl)) (hw _ (List.mem_of_getElem? (i := 44) rfl)) (rm6_1 l Z a0 hw bo (1 : Int32) T62.heap aa la ka kl (fun j => if j = 0 then .ref la else (fun _ => .null) j) gl1 q1 F620 A62 rfl C62 v1 rfl) e63 (g := (mkF m 92 #[.val (.long q0), .second, .val (.long q1), .second, .val (.long q2), .second, .val (.long q3), .second, .val (.long q4), .second, .val (.int p5), .val (.int (2 : Int32)), .val (.ref bo), .val (.int (1 : Int32))] [(.int (1 : Int32)), (.ref bo)])) rfl (by rw [hml]; rfl) (a := bo) (argsL := [(.int (1 : Int32))]) (rest := []) (E62) (lenOf pd_4 rfl) rfl rfl (W := 0) (by show 2 * 0 + _ ≤ _; exact Nat.le_of_eq rfl) (hb hby at_92) (by decide) (by decide) (by decide) (by decide) (by decide)
    obtain ⟨rfl, rfl, e64⟩ := hQ64
    refine own_go st64 ?_
    have N64 := Fr.app N63 (Fr.nil _)
    show own_Ends _ _ _ _ _ _ _ T64 (mkF m 95 #[.val (.long q0), .second, .val (.long q1), .second, .val (.long q2), .second, .val (.long q3), .second, .val (.long q4), .second, .val (.int p5), .val (.int (2 : Int32)), .val (.ref bo), .val (.int (1 : Int32))] [(.long q1)])
    refine own_go (fun _ k => XS.lloadN X64.here hx rfl (hb hby at_95) rfl k) ?_
    show own_Ends _ _ _ _ _ _ _ T64 (mkF m 96 #[.val (.long q0), .second, .val (.long q1), .second, .val (.long q2), .second, .val (.long q3), .second, .val (.long q4), .second, .val (.int p5), .val (.int (2 : Int32)), .val (.ref bo), .val (.int (1 : Int32))] [(.long q1), (.long q1)])
    refine own_go (fun _ k => XS.lcmp X64.here hx rfl (hb hby at_96) rfl k) ?_
    show own_Ends _ _ _ _ _ _ _ T64 (mkF m 97 #[.val (.long q0), .second, .val (.long q1), .second, .val (.long q2), .second, .val (.long q3), .second, .val (.long q4), .second, .val (.int p5), .val (.int (2 : Int32)), .val (.ref bo), .val (.int (1 : Int32))] [(.int (lcmpW q1 q1))])
    refine own_go (fun _ k => XS.ifNo X64.here hx rfl (hb hby at_97) rfl (own_let (rfl)).2 k) ?_
    show own_Ends _ _ _ _ _ _ _ T64 (mkF m 100 #[.val (.long q0), .second, .val (.long q1), .second, .val (.long q2), .second, .val (.long q3), .second, .val (.long q4), .second, .val (.int p5), .val (.int (2 : Int32)), .val (.ref bo), .val (.int (1 : Int32))] [])
    refine own_go (fun _ k => XS.iconst X64.here hx rfl (hb hby at_100) k) ?_
    show own_Ends _ _ _ _ _ _ _ T64 (mkF m 101 #[.val (.long q0), .second, .val (.long q1), .second, .val (.long q2), .second, .val (.long q3), .second, .val (.long q4), .second, .val (.int p5), .val (.int (2 : Int32)), .val (.ref bo), .val (.int (1 : Int32))] [(.int (1 : Int32))])
    refine own_go (fun _ k => XS.goto X64.here hx rfl (pc0 := 101) (pc' := 105) rfl (hb hby at_101) (by decide) (by decide) k) ?_
    show own_Ends _ _ _ _ _ _ _ T64 (mkF m 105 #[.val (.long q0), .second, .val (.long q1), .second, .val (.long q2), .second, .val (.long q3), .second, .val (.long q4), .second, .val (.int p5), .val (.int (2 : Int32)), .val (.ref bo), .val (.int (1 : Int32))] [(.int (1 : Int32))])
    refine own_go (fun _ k => XS.istore X64.here hx rfl (hb hby at_105) rfl (l' := #[.val (.long q0), .second, .val (.long q1), .second, .val (.long q2), .second, .val (.long q3), .second, .val (.long q4), .second, .val (.int p5), .val (.int (2 : Int32)), .val (.ref bo), .val (.int (1 : Int32))]) rfl k) ?_
    show own_Ends _ _ _ _ _ _ _ T64 (mkF m 107 #[.val (.long q0), .second, .val (.long q1), .second, .val (.long q2), .second, .val (.long q3), .second, .val (.long q4), .second, .val (.int p5), .val (.int (2 : Int32)), .val (.ref bo), .val (.int (1 : Int32))] [])
    refine own_go (fun _ k => XS.iload X64.here hx rfl (hb hby at_107) rfl k) ?_
    show own_Ends _ _ _ _ _ _ _ T64 (mkF m 109 #[.val (.long q0), .second, .val (.long q1), .second, .val (.long q2), .second, .val (.long q3), .second, .val (.long q4), .second, .val (.int p5), .val (.int (2 : Int32)), .val (.ref bo), .val (.int (1 : Int32))] [(.int (2 : Int32))])
    refine own_go (fun _ k => XS.iconst X64.here hx rfl (hb hby at_109) k) ?_
    show own_Ends _ _ _ _ _ _ _ T64 (mkF m 110 #[.val (.long q0), .second, .val (.long q1), .second, .val (.long q2), .second, .val (.long q3), .second, .val (.long q4), .second, .val (.int p5), .val (.int (2 : Int32)), .val (.ref bo), .val (.int (1 : Int32))] [(.int (3 : Int32)), (.int (2 : Int32))])
    refine own_go (fun _ k => XS.icmpYes X64.here hx rfl (pc0 := 110) (pc' := 137) rfl (hb hby at_110) rfl (tlt (by decide)).1 (by decide) (by decide) k) ?_
    show own_Ends _ _ _ _ _ _ _ T64 (mkF m 137 #[.val (.long q0), .second, .val (.long q1), .second, .val (.long q2), .second, .val (.long q3), .second, .val (.long q4), .second, .val (.int p5), .val (.int (2 : Int32)), .val (.ref bo), .val (.int (1 : Int32))] [])
    refine own_go (fun _ k => XS.iload X64.here hx rfl (hb hby at_137) rfl k) ?_
    show own_Ends _ _ _ _ _ _ _ T64 (mkF m 139 #[.val (.long q0), .second, .val (.long q1), .second, .val (.long q2), .second, .val (.long q3), .second, .val (.long q4), .second, .val (.int p5), .val (.int (2 : Int32)), .val (.ref bo), .val (.int (1 : Int32))] [(.int (1 : Int32))])
    exact own_retZ X64 hx hlk hret (by decide) (hb hby at_139) (by decide) (by decide) ⟨rfl, N64⟩
  · rw [show (((p5 &&& (3 : Int32)) % (3 : Int32)) + (1 : Int32)) = (3 : Int32) from hk]
    show own_Ends _ _ _ _ _ _ _ T60 (mkF m 32 #[.val (.long q0), .second, .val (.long q1), .second, .val (.long q2), .second, .val (.long q3), .second, .val (.long q4), .second, .val (.int p5), .val (.int (3 : Int32)), .val (.ref bo), .unset] [(.int (2 : Int32)), (.int (3 : Int32))])
    refine own_go (fun _ k => XS.icmpNo X60.here hx rfl (hb hby at_32) rfl (flt (by decide)).1 k) ?_
    show own_Ends _ _ _ _ _ _ _ T60 (mkF m 35 #[.val (.long q0), .second, .val (.long q1), .second, .val (.long q2), .second, .val (.long q3), .second, .val (.long q4), .second, .val (.int p5), .val (.int (3 : Int32)), .val (.ref bo), .unset] [])
    refine own_go (fun _ k => XS.aload X60.here hx rfl (hb hby at_35) rfl rfl k) ?_
    show own_Ends _ _ _ _ _ _ _ T60 (mkF m 37 #[.val (.long q0), .second, .val (.long q1), .second, .val (.long q2), .second, .val (.long q3), .second, .val (.long q4), .second, .val (.int p5), .val (.int (3 : Int32)), .val (.ref bo), .unset] [(.ref bo)])
    refine own_go (fun _ k => XS.lloadN X60.here hx rfl (hb hby at_37) rfl k) ?_
    show own_Ends _ _ _ _ _ _ _ T60 (mkF m 38 #[.val (.long q0), .second, .val (.long q1), .second, .val (.long q2), .second, .val (.long q3), .second, .val (.long q4), .second, .val (.int p5), .val (.int (3 : Int32)), .val (.ref bo), .unset] [(.long q1), (.ref bo)])
    refine own_go (fun _ k => XS.lload X60.here hx rfl (hb hby at_38) rfl k) ?_
    show own_Ends _ _ _ _ _ _ _ T60 (mkF m 40 #[.val (.long q0), .second, .val (.long q1), .second, .val (.long q2), .second, .val (.long q3), .second, .val (.long q4), .second, .val (.int p5), .val (.int (3 : Int32)), .val (.ref bo), .unset] [(.long q4), (.long q1), (.ref bo)])
    refine own_go (fun _ k => XS.aconstNull X60.here hx rfl (hb hby at_40) k) ?_
    show own_Ends _ _ _ _ _ _ _ T60 (mkF m 41 #[.val (.long q0), .second, .val (.long q1), .second, .val (.long q2), .second, .val (.long q3), .second, .val (.long q4), .second, .val (.int p5), .val (.int (3 : Int32)), .val (.ref bo), .unset] [.null, (.long q4), (.long q1), (.ref bo)])
    obtain ⟨v65, T65, L65, X65, hQ65, st65⟩ := own_callV X60 hx hZ hown (hw _ (List.mem_of_getElem? (i := 15) rfl)) (hw _ (List.mem_of_getElem? (i := 16) rfl)) (hw _ (List.mem_of_getElem? (i := 18) rfl)) (hw _ (List.mem_of_getElem? (i := 17) rfl)) (hw _ (List.mem_of_getElem? (i := 2) rfl)) (hw _ (List.mem_of_getElem? (i := 19) rfl)) (rm3_1 l Z a0 hw bo q1 q4 T60.heap h0.size aa na ka kn la ln kl km gl0 gm0 K_60.1 E60 F600 F601 F602 F603 F604 F605 A60 B60 Ea60 En60 Oa On g_bo ga gn n1 n2 n3 C60 D60 gla gln m0 m1 m2 m3 m4 m5 m6) rfl (g := (mkF m 41 #[.val (.long q0), .second, .val (.long q1), .second, .val (.long q2), .second, .val (.long q3), .second, .val (.long q4), .second, .val (.int p5), .val (.int (3 : Int32)), .val (.ref bo), .unset] [.null, (.long q4), (.long q1), (.ref bo)])) rfl (by rw [hml]; rfl) (a := bo) (argsL := [(.long q1), (.long q4), .null]) (rest := []) (E60) (lenOf pd_3 rfl) rfl rfl (W := 0) (by show 2 * 0 + _ ≤ _; exact Nat.le_of_eq rfl) (hb hby at_41) (by decide) (by decide) (by decide) (by decide) (by decide)
    obtain ⟨gl1, gm1, rfl, N65q, K65, E65, F650, F651, F652, F653, F654, F655, A65, B65, C65, D65, Ea65, En65, v1, r10⟩ := hQ65
    refine own_go st65 ?_
    have N65 := Fr.app N60 N65q
    show own_Ends _ _ _ _ _ _ _ T65 (mkF m 44 #[.val (.long q0), .second, .val (.long q1), .second, .val (.long q2), .second, .val (.long q3), .second, .val (.long q4), .second, .val (.int p5), .val (.int (3 : Int32)), .val (.ref bo), .unset] [])
    have K_65 := K_60.trans K65 (allS (Or.inr sz_bo) (allS (Or.inr ga) (allS (Or.inr gn) (allS (Or.inr gla) (allS (Or.inr gln) all0)))))
    show own_Ends _ _ _ _ _ _ _ T65 (mkF m 44 #[.val (.long q0), .second, .val (.long q1), .second, .val (.long q2), .second, .val (.long q3), .second, .val (.long q4), .second, .val (.int p5), .val (.int (3 : Int32)), .val (.ref bo), .unset] [])
    refine own_go (fun _ k => XS.iload X65.here hx rfl (hb hby at_44) rfl k) ?_
    show own_Ends _ _ _ _ _ _ _ T65 (mkF m 46 #[.val (.long q0), .second, .val (.long q1), .second, .val (.long q2), .second, .val (.long q3), .second, .val (.long q4), .second, .val (.int p5), .val (.int (3 : Int32)), .val (.ref bo), .unset] [(.int (3 : Int32))])
    refine own_go (fun _ k => XS.iconst X65.here hx rfl (hb hby at_46) k) ?_
    show own_Ends _ _ _ _ _ _ _ T65 (mkF m 47 #[.val (.long q0), .second, .val (.long q1), .second, .val (.long q2), .second, .val (.long q3), .second, .val (.long q4), .second, .val (.int p5), .val (.int (3 : Int32)), .val (.ref bo), .unset] [(.int (3 : Int32)), (.int (3 : Int32))])
    refine own_go (fun _ k => XS.icmpNo X65.here hx rfl (hb hby at_47) rfl (flt (by decide)).1 k) ?_
    show own_Ends _ _ _ _ _ _ _ T65 (mkF m 50 #[.val (.long q0), .second, .val (.long q1), .second, .val (.long q2), .second, .val (.long q3), .second, .val (.long q4), .second, .val (.int p5), .val (.int (3 : Int32)), .val (.ref bo), .unset] [])
    refine own_go (fun _ k => XS.aload X65.here hx rfl (hb hby at_50) rfl rfl k) ?_
    show own_Ends _ _ _ _ _ _ _ T65 (mkF m 52 #[.val (.long q0), .second, .val (.long q1), .second, .val (.long q2), .second, .val (.long q3), .second, .val (.long q4), .second, .val (.int p5), .val (.int (3 : Int32)), .val (.ref bo), .unset] [(.ref bo)])
    refine own_go (fun _ k => XS.lload X65.here hx rfl (hb hby at_52) rfl k) ?_
    show own_Ends _ _ _ _ _ _ _ T65 (mkF m 54 #[.val (.long q0), .second, .val (.long q1), .second, .val (.long q2), .second, .val (.long q3), .second, .val (.long q4), .second, .val (.int p5), .val (.int (3 : Int32)), .val (.ref bo), .unset] [(.long q2), (.ref bo)])
    refine own_go (fun _ k => XS.lload X65.here hx rfl (hb hby at_54) rfl k) ?_
    show own_Ends _ _ _ _ _ _ _ T65 (mkF m 56 #[.val (.long q0), .second, .val (.long q1), .second, .val (.long q2), .second, .val (.long q3), .second, .val (.long q4), .second, .val (.int p5), .val (.int (3 : Int32)), .val (.ref bo), .unset] [(.long q3), (.long q2), (.ref bo)])
    refine own_go (fun _ k => XS.aconstNull X65.here hx rfl (hb hby at_56) k) ?_
    show own_Ends _ _ _ _ _ _ _ T65 (mkF m 57 #[.val (.long q0), .second, .val (.long q1), .second, .val (.long q2), .second, .val (.long q3), .second, .val (.long q4), .second, .val (.int p5), .val (.int (3 : Int32)), .val (.ref bo), .unset] [.null, (.long q3), (.long q2), (.ref bo)])
    obtain ⟨v66, T66, L66, X66, hQ66, st66⟩ := own_callV X65 hx hZ hown (hw _ (List.mem_of_getElem? (i := 15) rfl)) (hw _ (List.mem_of_getElem? (i := 16) rfl)) (hw _ (List.mem_of_getElem? (i := 18) rfl)) (hw _ (List.mem_of_getElem? (i := 17) rfl)) (hw _ (List.mem_of_getElem? (i := 2) rfl)) (hw _ (List.mem_of_getElem? (i := 19) rfl)) (rm3_2 l Z a0 hw bo q2 q3 T65.heap h0.size aa na ka kn la ln kl km gl1 gm1 K_65.1 E65 F650 F651 F652 F653 F654 F655 A65 B65 Ea65 En65 Oa On g_bo ga gn n1 n2 n3 C65 D65 gla gln m0 m1 m2 m3 m4 m5 m6) rfl (g := (mkF m 57 #[.val (.long q0), .second, .val (.long q1), .second, .val (.long q2), .second, .val (.long q3), .second, .val (.long q4), .second, .val (.int p5), .val (.int (3 : Int32)), .val (.ref bo), .unset] [.null, (.long q3), (.long q2), (.ref bo)])) rfl (by rw [hml]; rfl) (a := bo) (argsL := [(.long q2), (.long q3), .null]) (rest := []) (E65) (lenOf pd_3 rfl) rfl rfl (W := 0) (by show 2 * 0 + _ ≤ _; exact Nat.le_of_eq rfl) (hb hby at_57) (by decide) (by decide) (by decide) (by decide) (by decide)
    obtain ⟨gl2, gm2, rfl, N66q, K66, E66, F660, F661, F662, F663, F664, F665, A66, B66, C66, D66, Ea66, En66, v2, r20, r21⟩ := hQ66
    refine own_go st66 ?_
    have N66 := Fr.app N65 N66q
    show own_Ends _ _ _ _ _ _ _ T66 (mkF m 60 #[.val (.long q0), .second, .val (.long q1), .second, .val (.long q2), .second, .val (.long q3), .second, .val (.long q4), .second, .val (.int p5), .val (.int (3 : Int32)), .val (.ref bo), .unset] [])
    have K_66 := K_65.trans K66 (allS (Or.inr sz_bo) (allS (Or.inr ga) (allS (Or.inr gn) (allS (Or.inr gla) (allS (Or.inr gln) all0)))))
    show own_Ends _ _ _ _ _ _ _ T66 (mkF m 60 #[.val (.long q0), .second, .val (.long q1), .second, .val (.long q2), .second, .val (.long q3), .second, .val (.long q4), .second, .val (.int p5), .val (.int (3 : Int32)), .val (.ref bo), .unset] [])
    refine own_go (fun _ k => XS.aload X66.here hx rfl (hb hby at_60) rfl rfl k) ?_
    show own_Ends _ _ _ _ _ _ _ T66 (mkF m 62 #[.val (.long q0), .second, .val (.long q1), .second, .val (.long q2), .second, .val (.long q3), .second, .val (.long q4), .second, .val (.int p5), .val (.int (3 : Int32)), .val (.ref bo), .unset] [(.ref bo)])
    refine own_go (fun _ k => XS.iconst X66.here hx rfl (hb hby at_62) k) ?_
    show own_Ends _ _ _ _ _ _ _ T66 (mkF m 63 #[.val (.long q0), .second, .val (.long q1), .second, .val (.long q2), .second, .val (.long q3), .second, .val (.long q4), .second, .val (.int p5), .val (.int (3 : Int32)), .val (.ref bo), .unset] [(.int (0 : Int32)), (.ref bo)])
    obtain ⟨v67, T67, L67, X67, hQ67, st67⟩ := own_callV X66 hx hZ hown (hw _ (List.mem_of_getElem? (i := 40) rfl)) (hw _ (List.mem_of_getElem? (i := 41) rfl)) (hw _ (List.mem_of_getElem? (i := 43) rfl)) (hw _ (List.mem_of_getElem? (i := 42) rfl)) (hw _ (List.mem_of_getElem? (i := 2) rfl)) (hw _ (List.mem_of_getElem? (i := 44) rfl)) (rm6_0 l Z a0 hw bo (0 : Int32) T66.heap aa la ka kl (fun j => if j = 0 then .ref la else (fun _ => .null) j) gl2 q0 F660 A66 rfl C66 (r20.trans (r10.trans v0)) rfl) rfl (g := (mkF m 63 #[.val (.long q0), .second, .val (.long q1), .second, .val (.long q2), .second, .val (.long q3), .second, .val (.long q4), .second, .val (.int p5), .val (.int (3 : Int32)), .val (.ref bo), .unset] [(.int (0 : Int32)), (.ref bo)])) rfl (by rw [hml]; rfl) (a := bo) (argsL := [(.int (0 : Int32))]) (rest := []) (E66) (lenOf pd_4 rfl) rfl rfl (W := 0) (by show 2 * 0 + _ ≤ _; exact Nat.le_of_eq rfl) (hb hby at_63) (by decide) (by decide) (by decide) (by decide) (by decide)
    obtain ⟨rfl, rfl, e67⟩ := hQ67
    refine own_go st67 ?_
    have N67 := Fr.app N66 (Fr.nil _)
    show own_Ends _ _ _ _ _ _ _ T67 (mkF m 66 #[.val (.long q0), .second, .val (.long q1), .second, .val (.long q2), .second, .val (.long q3), .second, .val (.long q4), .second, .val (.int p5), .val (.int (3 : Int32)), .val (.ref bo), .unset] [(.long q0)])
    refine own_go (fun _ k => XS.lloadN X67.here hx rfl (hb hby at_66) rfl k) ?_
    show own_Ends _ _ _ _ _ _ _ T67 (mkF m 67 #[.val (.long q0), .second, .val (.long q1), .second, .val (.long q2), .second, .val (.long q3), .second, .val (.long q4), .second, .val (.int p5), .val (.int (3 : Int32)), .val (.ref bo), .unset] [(.long q0), (.long q0)])
    refine own_go (fun _ k => XS.lcmp X67.here hx rfl (hb hby at_67) rfl k) ?_
    show own_Ends _ _ _ _ _ _ _ T67 (mkF m 68 #[.val (.long q0), .second, .val (.long q1), .second, .val (.long q2), .second, .val (.long q3), .second, .val (.long q4), .second, .val (.int p5), .val (.int (3 : Int32)), .val (.ref bo), .unset] [(.int (lcmpW q0 q0))])
    refine own_go (fun _ k => XS.ifNo X67.here hx rfl (hb hby at_68) rfl (own_let (rfl)).2 k) ?_
    show own_Ends _ _ _ _ _ _ _ T67 (mkF m 71 #[.val (.long q0), .second, .val (.long q1), .second, .val (.long q2), .second, .val (.long q3), .second, .val (.long q4), .second, .val (.int p5), .val (.int (3 : Int32)), .val (.ref bo), .unset] [])
    refine own_go (fun _ k => XS.iconst X67.here hx rfl (hb hby at_71) k) ?_
    show own_Ends _ _ _ _ _ _ _ T67 (mkF m 72 #[.val (.long q0), .second, .val (.long q1), .second, .val (.long q2), .second, .val (.long q3), .second, .val (.long q4), .second, .val (.int p5), .val (.int (3 : Int32)), .val (.ref bo), .unset] [(.int (1 : Int32))])
    refine own_go (fun _ k => XS.goto X67.here hx rfl (pc0 := 72) (pc' := 76) rfl (hb hby at_72) (by decide) (by decide) k) ?_
    show own_Ends _ _ _ _ _ _ _ T67 (mkF m 76 #[.val (.long q0), .second, .val (.long q1), .second, .val (.long q2), .second, .val (.long q3), .second, .val (.long q4), .second, .val (.int p5), .val (.int (3 : Int32)), .val (.ref bo), .unset] [(.int (1 : Int32))])
    refine own_go (fun _ k => XS.istore X67.here hx rfl (hb hby at_76) rfl (l' := #[.val (.long q0), .second, .val (.long q1), .second, .val (.long q2), .second, .val (.long q3), .second, .val (.long q4), .second, .val (.int p5), .val (.int (3 : Int32)), .val (.ref bo), .val (.int (1 : Int32))]) rfl k) ?_
    show own_Ends _ _ _ _ _ _ _ T67 (mkF m 78 #[.val (.long q0), .second, .val (.long q1), .second, .val (.long q2), .second, .val (.long q3), .second, .val (.long q4), .second, .val (.int p5), .val (.int (3 : Int32)), .val (.ref bo), .val (.int (1 : Int32))] [])
    refine own_go (fun _ k => XS.iload X67.here hx rfl (hb hby at_78) rfl k) ?_
    show own_Ends _ _ _ _ _ _ _ T67 (mkF m 80 #[.val (.long q0), .second, .val (.long q1), .second, .val (.long q2), .second, .val (.long q3), .second, .val (.long q4), .second, .val (.int p5), .val (.int (3 : Int32)), .val (.ref bo), .val (.int (1 : Int32))] [(.int (3 : Int32))])
    refine own_go (fun _ k => XS.iconst X67.here hx rfl (hb hby at_80) k) ?_
    show own_Ends _ _ _ _ _ _ _ T67 (mkF m 81 #[.val (.long q0), .second, .val (.long q1), .second, .val (.long q2), .second, .val (.long q3), .second, .val (.long q4), .second, .val (.int p5), .val (.int (3 : Int32)), .val (.ref bo), .val (.int (1 : Int32))] [(.int (2 : Int32)), (.int (3 : Int32))])
    refine own_go (fun _ k => XS.icmpNo X67.here hx rfl (hb hby at_81) rfl (flt (by decide)).1 k) ?_
    show own_Ends _ _ _ _ _ _ _ T67 (mkF m 84 #[.val (.long q0), .second, .val (.long q1), .second, .val (.long q2), .second, .val (.long q3), .second, .val (.long q4), .second, .val (.int p5), .val (.int (3 : Int32)), .val (.ref bo), .val (.int (1 : Int32))] [])
    refine own_go (fun _ k => XS.iload X67.here hx rfl (hb hby at_84) rfl k) ?_
    show own_Ends _ _ _ _ _ _ _ T67 (mkF m 86 #[.val (.long q0), .second, .val (.long q1), .second, .val (.long q2), .second, .val (.long q3), .second, .val (.long q4), .second, .val (.int p5), .val (.int (3 : Int32)), .val (.ref bo), .val (.int (1 : Int32))] [(.int (1 : Int32))])
    refine own_go (fun _ k => XS.ifNo X67.here hx rfl (hb hby at_86) rfl ((if0 _ _).trans (feq (by decide)).1) k) ?_
    show own_Ends _ _ _ _ _ _ _ T67 (mkF m 89 #[.val (.long q0), .second, .val (.long q1), .second, .val (.long q2), .second, .val (.long q3), .second, .val (.long q4), .second, .val (.int p5), .val (.int (3 : Int32)), .val (.ref bo), .val (.int (1 : Int32))] [])
    refine own_go (fun _ k => XS.aload X67.here hx rfl (hb hby at_89) rfl rfl k) ?_
    show own_Ends _ _ _ _ _ _ _ T67 (mkF m 91 #[.val (.long q0), .second, .val (.long q1), .second, .val (.long q2), .second, .val (.long q3), .second, .val (.long q4), .second, .val (.int p5), .val (.int (3 : Int32)), .val (.ref bo), .val (.int (1 : Int32))] [(.ref bo)])
    refine own_go (fun _ k => XS.iconst X67.here hx rfl (hb hby at_91) k) ?_
    show own_Ends _ _ _ _ _ _ _ T67 (mkF m 92 #[.val (.long q0), .second, .val (.long q1), .second, .val (.long q2), .second, .val (.long q3), .second, .val (.long q4), .second, .val (.int p5), .val (.int (3 : Int32)), .val (.ref bo), .val (.int (1 : Int32))] [(.int (1 : Int32)), (.ref bo)])
    obtain ⟨v68, T68, L68, X68, hQ68, st68⟩ := own_callV X67 hx hZ hown (hw _ (List.mem_of_getElem? (i := 40) rfl)) (hw _ (List.mem_of_getElem? (i := 41) rfl)) (hw _ (List.mem_of_getElem? (i := 43) rfl)) (hw _ (List.mem_of_getElem? (i := 42) rfl)) (hw _ (List.mem_of_getElem? (i := 2) rfl)) (hw _ (List.mem_of_getElem? (i := 44) rfl)) (rm6_1 l Z a0 hw bo (1 : Int32) T66.heap aa la ka kl (fun j => if j = 0 then .ref la else (fun _ => .null) j) gl2 q1 F660 A66 rfl C66 (r21.trans v1) rfl) e67 (g := (mkF m 92 #[.val (.long q0), .second, .val (.long q1), .second, .val (.long q2), .second, .val (.long q3), .second, .val (.long q4), .second, .val (.int p5), .val (.int (3 : Int32)), .val (.ref bo), .val (.int (1 : Int32))] [(.int (1 : Int32)), (.ref bo)])) rfl (by rw [hml]; rfl) (a := bo) (argsL := [(.int (1 : Int32))]) (rest := []) (E66) (lenOf pd_4 rfl) rfl rfl (W := 0) (by show 2 * 0 + _ ≤ _; exact Nat.le_of_eq rfl) (hb hby at_92) (by decide) (by decide) (by decide) (by decide) (by decide)
    obtain ⟨rfl, rfl, e68⟩ := hQ68
    refine own_go st68 ?_
    have N68 := Fr.app N67 (Fr.nil _)
    show own_Ends _ _ _ _ _ _ _ T68 (mkF m 95 #[.val (.long q0), .second, .val (.long q1), .second, .val (.long q2), .second, .val (.long q3), .second, .val (.long q4), .second, .val (.int p5), .val (.int (3 : Int32)), .val (.ref bo), .val (.int (1 : Int32))] [(.long q1)])
    refine own_go (fun _ k => XS.lloadN X68.here hx rfl (hb hby at_95) rfl k) ?_
    show own_Ends _ _ _ _ _ _ _ T68 (mkF m 96 #[.val (.long q0), .second, .val (.long q1), .second, .val (.long q2), .second, .val (.long q3), .second, .val (.long q4), .second, .val (.int p5), .val (.int (3 : Int32)), .val (.ref bo), .val (.int (1 : Int32))] [(.long q1), (.long q1)])
    refine own_go (fun _ k => XS.lcmp X68.here hx rfl (hb hby at_96) rfl k) ?_
    show own_Ends _ _ _ _ _ _ _ T68 (mkF m 97 #[.val (.long q0), .second, .val (.long q1), .second, .val (.long q2), .second, .val (.long q3), .second, .val (.long q4), .second, .val (.int p5), .val (.int (3 : Int32)), .val (.ref bo), .val (.int (1 : Int32))] [(.int (lcmpW q1 q1))])
    refine own_go (fun _ k => XS.ifNo X68.here hx rfl (hb hby at_97) rfl (own_let (rfl)).2 k) ?_
    show own_Ends _ _ _ _ _ _ _ T68 (mkF m 100 #[.val (.long q0), .second, .val (.long q1), .second, .val (.long q2), .second, .val (.long q3), .second, .val (.long q4), .second, .val (.int p5), .val (.int (3 : Int32)), .val (.ref bo), .val (.int (1 : Int32))] [])
    refine own_go (fun _ k => XS.iconst X68.here hx rfl (hb hby at_100) k) ?_
    show own_Ends _ _ _ _ _ _ _ T68 (mkF m 101 #[.val (.long q0), .second, .val (.long q1), .second, .val (.long q2), .second, .val (.long q3), .second, .val (.long q4), .second, .val (.int p5), .val (.int (3 : Int32)), .val (.ref bo), .val (.int (1 : Int32))] [(.int (1 : Int32))])
    refine own_go (fun _ k => XS.goto X68.here hx rfl (pc0 := 101) (pc' := 105) rfl (hb hby at_101) (by decide) (by decide) k) ?_
    show own_Ends _ _ _ _ _ _ _ T68 (mkF m 105 #[.val (.long q0), .second, .val (.long q1), .second, .val (.long q2), .second, .val (.long q3), .second, .val (.long q4), .second, .val (.int p5), .val (.int (3 : Int32)), .val (.ref bo), .val (.int (1 : Int32))] [(.int (1 : Int32))])
    refine own_go (fun _ k => XS.istore X68.here hx rfl (hb hby at_105) rfl (l' := #[.val (.long q0), .second, .val (.long q1), .second, .val (.long q2), .second, .val (.long q3), .second, .val (.long q4), .second, .val (.int p5), .val (.int (3 : Int32)), .val (.ref bo), .val (.int (1 : Int32))]) rfl k) ?_
    show own_Ends _ _ _ _ _ _ _ T68 (mkF m 107 #[.val (.long q0), .second, .val (.long q1), .second, .val (.long q2), .second, .val (.long q3), .second, .val (.long q4), .second, .val (.int p5), .val (.int (3 : Int32)), .val (.ref bo), .val (.int (1 : Int32))] [])
    refine own_go (fun _ k => XS.iload X68.here hx rfl (hb hby at_107) rfl k) ?_
    show own_Ends _ _ _ _ _ _ _ T68 (mkF m 109 #[.val (.long q0), .second, .val (.long q1), .second, .val (.long q2), .second, .val (.long q3), .second, .val (.long q4), .second, .val (.int p5), .val (.int (3 : Int32)), .val (.ref bo), .val (.int (1 : Int32))] [(.int (3 : Int32))])
    refine own_go (fun _ k => XS.iconst X68.here hx rfl (hb hby at_109) k) ?_
    show own_Ends _ _ _ _ _ _ _ T68 (mkF m 110 #[.val (.long q0), .second, .val (.long q1), .second, .val (.long q2), .second, .val (.long q3), .second, .val (.long q4), .second, .val (.int p5), .val (.int (3 : Int32)), .val (.ref bo), .val (.int (1 : Int32))] [(.int (3 : Int32)), (.int (3 : Int32))])
    refine own_go (fun _ k => XS.icmpNo X68.here hx rfl (hb hby at_110) rfl (flt (by decide)).1 k) ?_
    show own_Ends _ _ _ _ _ _ _ T68 (mkF m 113 #[.val (.long q0), .second, .val (.long q1), .second, .val (.long q2), .second, .val (.long q3), .second, .val (.long q4), .second, .val (.int p5), .val (.int (3 : Int32)), .val (.ref bo), .val (.int (1 : Int32))] [])
    refine own_go (fun _ k => XS.iload X68.here hx rfl (hb hby at_113) rfl k) ?_
    show own_Ends _ _ _ _ _ _ _ T68 (mkF m 115 #[.val (.long q0), .second, .val (.long q1), .second, .val (.long q2), .second, .val (.long q3), .second, .val (.long q4), .second, .val (.int p5), .val (.int (3 : Int32)), .val (.ref bo), .val (.int (1 : Int32))] [(.int (1 : Int32))])
    refine own_go (fun _ k => XS.ifNo X68.here hx rfl (hb hby at_115) rfl ((if0 _ _).trans (feq (by decide)).1) k) ?_
    show own_Ends _ _ _ _ _ _ _ T68 (mkF m 118 #[.val (.long q0), .second, .val (.long q1), .second, .val (.long q2), .second, .val (.long q3), .second, .val (.long q4), .second, .val (.int p5), .val (.int (3 : Int32)), .val (.ref bo), .val (.int (1 : Int32))] [])
    refine own_go (fun _ k => XS.aload X68.here hx rfl (hb hby at_118) rfl rfl k) ?_
    show own_Ends _ _ _ _ _ _ _ T68 (mkF m 120 #[.val (.long q0), .second, .val (.long q1), .second, .val (.long q2), .second, .val (.long q3), .second, .val (.long q4), .second, .val (.int p5), .val (.int (3 : Int32)), .val (.ref bo), .val (.int (1 : Int32))] [(.ref bo)])
    refine own_go (fun _ k => XS.iconst X68.here hx rfl (hb hby at_120) k) ?_
    show own_Ends _ _ _ _ _ _ _ T68 (mkF m 121 #[.val (.long q0), .second, .val (.long q1), .second, .val (.long q2), .second, .val (.long q3), .second, .val (.long q4), .second, .val (.int p5), .val (.int (3 : Int32)), .val (.ref bo), .val (.int (1 : Int32))] [(.int (2 : Int32)), (.ref bo)])
    obtain ⟨v69, T69, L69, X69, hQ69, st69⟩ := own_callV X68 hx hZ hown (hw _ (List.mem_of_getElem? (i := 40) rfl)) (hw _ (List.mem_of_getElem? (i := 41) rfl)) (hw _ (List.mem_of_getElem? (i := 43) rfl)) (hw _ (List.mem_of_getElem? (i := 42) rfl)) (hw _ (List.mem_of_getElem? (i := 2) rfl)) (hw _ (List.mem_of_getElem? (i := 44) rfl)) (rm6_2 l Z a0 hw bo (2 : Int32) T66.heap aa la ka kl (fun j => if j = 0 then .ref la else (fun _ => .null) j) gl2 q2 F660 A66 rfl C66 v2 rfl) e68 (g := (mkF m 121 #[.val (.long q0), .second, .val (.long q1), .second, .val (.long q2), .second, .val (.long q3), .second, .val (.long q4), .second, .val (.int p5), .val (.int (3 : Int32)), .val (.ref bo), .val (.int (1 : Int32))] [(.int (2 : Int32)), (.ref bo)])) rfl (by rw [hml]; rfl) (a := bo) (argsL := [(.int (2 : Int32))]) (rest := []) (E66) (lenOf pd_4 rfl) rfl rfl (W := 0) (by show 2 * 0 + _ ≤ _; exact Nat.le_of_eq rfl) (hb hby at_121) (by decide) (by decide) (by decide) (by decide) (by decide)
    obtain ⟨rfl, rfl, e69⟩ := hQ69
    refine own_go st69 ?_
    have N69 := Fr.app N68 (Fr.nil _)
    show own_Ends _ _ _ _ _ _ _ T69 (mkF m 124 #[.val (.long q0), .second, .val (.long q1), .second, .val (.long q2), .second, .val (.long q3), .second, .val (.long q4), .second, .val (.int p5), .val (.int (3 : Int32)), .val (.ref bo), .val (.int (1 : Int32))] [(.long q2)])
    refine own_go (fun _ k => XS.lload X69.here hx rfl (hb hby at_124) rfl k) ?_
    show own_Ends _ _ _ _ _ _ _ T69 (mkF m 126 #[.val (.long q0), .second, .val (.long q1), .second, .val (.long q2), .second, .val (.long q3), .second, .val (.long q4), .second, .val (.int p5), .val (.int (3 : Int32)), .val (.ref bo), .val (.int (1 : Int32))] [(.long q2), (.long q2)])
    refine own_go (fun _ k => XS.lcmp X69.here hx rfl (hb hby at_126) rfl k) ?_
    show own_Ends _ _ _ _ _ _ _ T69 (mkF m 127 #[.val (.long q0), .second, .val (.long q1), .second, .val (.long q2), .second, .val (.long q3), .second, .val (.long q4), .second, .val (.int p5), .val (.int (3 : Int32)), .val (.ref bo), .val (.int (1 : Int32))] [(.int (lcmpW q2 q2))])
    refine own_go (fun _ k => XS.ifNo X69.here hx rfl (hb hby at_127) rfl (own_let (rfl)).2 k) ?_
    show own_Ends _ _ _ _ _ _ _ T69 (mkF m 130 #[.val (.long q0), .second, .val (.long q1), .second, .val (.long q2), .second, .val (.long q3), .second, .val (.long q4), .second, .val (.int p5), .val (.int (3 : Int32)), .val (.ref bo), .val (.int (1 : Int32))] [])
    refine own_go (fun _ k => XS.iconst X69.here hx rfl (hb hby at_130) k) ?_
    show own_Ends _ _ _ _ _ _ _ T69 (mkF m 131 #[.val (.long q0), .second, .val (.long q1), .second, .val (.long q2), .second, .val (.long q3), .second, .val (.long q4), .second, .val (.int p5), .val (.int (3 : Int32)), .val (.ref bo), .val (.int (1 : Int32))] [(.int (1 : Int32))])
    refine own_go (fun _ k => XS.goto X69.here hx rfl (pc0 := 131) (pc' := 135) rfl (hb hby at_131) (by decide) (by decide) k) ?_
    show own_Ends _ _ _ _ _ _ _ T69 (mkF m 135 #[.val (.long q0), .second, .val (.long q1), .second, .val (.long q2), .second, .val (.long q3), .second, .val (.long q4), .second, .val (.int p5), .val (.int (3 : Int32)), .val (.ref bo), .val (.int (1 : Int32))] [(.int (1 : Int32))])
    refine own_go (fun _ k => XS.istore X69.here hx rfl (hb hby at_135) rfl (l' := #[.val (.long q0), .second, .val (.long q1), .second, .val (.long q2), .second, .val (.long q3), .second, .val (.long q4), .second, .val (.int p5), .val (.int (3 : Int32)), .val (.ref bo), .val (.int (1 : Int32))]) rfl k) ?_
    show own_Ends _ _ _ _ _ _ _ T69 (mkF m 137 #[.val (.long q0), .second, .val (.long q1), .second, .val (.long q2), .second, .val (.long q3), .second, .val (.long q4), .second, .val (.int p5), .val (.int (3 : Int32)), .val (.ref bo), .val (.int (1 : Int32))] [])
    refine own_go (fun _ k => XS.iload X69.here hx rfl (hb hby at_137) rfl k) ?_
    show own_Ends _ _ _ _ _ _ _ T69 (mkF m 139 #[.val (.long q0), .second, .val (.long q1), .second, .val (.long q2), .second, .val (.long q3), .second, .val (.long q4), .second, .val (.int p5), .val (.int (3 : Int32)), .val (.ref bo), .val (.int (1 : Int32))] [(.int (1 : Int32))])
    exact own_retZ X69 hx hlk hret (by decide) (hb hby at_139) (by decide) (by decide) ⟨rfl, N69⟩
set_option maxRecDepth 65536 in
set_option maxHeartbeats 40000000 in
theorem comes_1 {Post : Tables → Env → Array Value → State → Outcome → State → Prop} (hpost : ∀ tb e args s v u, (limb_1_1.after args s (.returned v) u = true ∧ limb_1_2.after args s (.returned v) u = true ∧ True) → FrameEnd s (.returned v) u (Jvm.fieldLocs frame_1_writes args s ++ Jvm.arrayLocs frame_1_arrays args s ++ Jvm.staticLocs frame_1_statics s) 24 16512 → Post tb e args s (.returned v) u) :
    ArmFor flags0 classFile x code maxLocals ret World_1 tables_1 room_1 Calls_1 rest_1 Pre_1 Post := by
  intro l hfl _ _ p e ha hc hk s m args below hf hA hF happ hP
  obtain ⟨hcalls, hrest, hpre⟩ := hP
  obtain ⟨-, -, -, hnamed, -, -, -, hat⟩ := (Spec.applies_iff hf).mp happ
  obtain ⟨hg, hn⟩ := and_e (Cond.before_iff.mp (show (Jvm.Cond.and given_1 narrow_1).before args s = true from hpre))
  obtain ⟨g0, gr0⟩ := and_e hg
  obtain ⟨ga0, gr1⟩ := and_e gr0
  obtain ⟨ga1, gr2⟩ := and_e gr1
  obtain ⟨ga2, gr3⟩ := and_e gr2
  obtain ⟨ga3, gr4⟩ := and_e gr3
  obtain ⟨ga4, gr5⟩ := and_e gr4
  have ga5 := gr5
  obtain ⟨w0, w1, w2, w3, w4, w5, rfl⟩ : ∃ w0 w1 w2 w3 w4 w5 : Value, args = #[w0, w1, w2, w3, w4, w5] := by
    have hs : args.size = 6 := by simpa [Cond.value, given_1] using g0
    obtain ⟨L⟩ := args
    match L, hs with
    | [w0, w1, w2, w3, w4, w5], _ => exact ⟨w0, w1, w2, w3, w4, w5, rfl⟩
  have hw := fun d (hd : d ∈ tables_1) => atoms_spec (ws := Jvm.Cond.code x code maxLocals ret :: tables_1) hat d (List.mem_cons_of_mem _ hd)
  have hfit : Fit s := fun {y c} hc i hi => by
    obtain ⟨ha, rfl⟩ := Array.getElem?_eq_some_iff.mp hc
    have q := List.all_eq_true.mp ((Array.all_eq_true_iff_forall_mem.mp hF) _ (Array.getElem_mem ha)) i (List.mem_range.mpr hi)
    simpa [Array.getElem?_eq_getElem hi] using q
  obtain ⟨i0, ei0⟩ := isL_v ga0
  obtain rfl : w0 = (.long i0) := Option.some.inj ei0
  obtain ⟨i1, ei1⟩ := isL_v ga1
  obtain rfl : w1 = (.long i1) := Option.some.inj ei1
  obtain ⟨i2, ei2⟩ := isL_v ga2
  obtain rfl : w2 = (.long i2) := Option.some.inj ei2
  obtain ⟨i3, ei3⟩ := isL_v ga3
  obtain rfl : w3 = (.long i3) := Option.some.inj ei3
  obtain ⟨i4, ei4⟩ := isL_v ga4
  obtain rfl : w4 = (.long i4) := Option.some.inj ei4
  obtain ⟨i5, ei5⟩ := is_v ga5
  obtain rfl : w5 = (.int i5) := Option.some.inj ei5
  obtain ⟨n, o, h1, h2, h3, _, L, rfl, ⟨rfl, N⟩, hq⟩ := rm0 l s _ hw i0 i1 i2 i3 i4 i5 s.heap  tables_1 p e ha hc hk s m _ below hf ((Spec.applies_iff_loose hf).mp happ).1 ⟨rfl, State.Warmed39.refl s, rfl⟩ trivial
  refine ⟨n, _, h1, h2, h3, hpost _ _ _ _ _ _ ⟨Cond.after_iff.mpr rfl, Cond.after_iff.mpr (eq_i res_at (Term.int_eval (1)) rfl), trivial⟩ ⟨hq.1, hq.2.1, (hq.2.2.sift fun y hy => Or.inr (N y hy)).mono (by decide) (by decide)⟩⟩
theorem main_1_1 : Claimed_1_1 := comes_1 fun _ _ _ _ _ _ h hF => ⟨h.1, hF⟩
theorem main_1_2 : Claimed_1_2 := comes_1 fun _ _ _ _ _ _ h hF => ⟨h.2.1, hF⟩

end Jvm.Pilot.@@N@@
namespace Jvm.Pilot.@@N@@
open Jvm Jvm.ClassFile Sem Op Lib Jvm.Free Jvm.Stand Jvm.Pilot.@@N@@.Jvm.D
/-! MADE BY PROGRAM (witnessworld.py) out of the Statement's table words and the real class files: 11 classes; the members and pool entries that the words name. The judged class is class 1, her method 1. -/
namespace start1
open Jvm.ClassFile
def u (s : String) : CpInfo := .utf8 (stringToUtf16 s)
/-- a pool by its gaps: so many unusable entries, then the entry; so many at the end -/
def gap : Nat → List CpInfo → List CpInfo
  | 0, r => r
  | n + 1, r => .unusable :: gap n r
def poolList (es : List (Nat × CpInfo)) (last : Nat) : List CpInfo := es.foldr (fun e r => gap e.1 (e.2 :: r)) (gap last [])
def pool (es : List (Nat × CpInfo)) (last : Nat) : Array CpInfo := ⟨poolList es last⟩
def fileOf (pool : Array CpInfo) (this : Nat) (attrs : Array Attribute := #[]) (ms : Array MethodInfo := #[]) (fl : Nat := 33) (sup : Nat := 0) (ifs : Array Nat := #[]) (fds : Array FieldInfo := #[]) : ClassFile where
  minorVersion := 0
  majorVersion := 65
  constantPool := pool
  accessFlags := fl
  thisClass := this
  superClass := sup
  interfaces := ifs
  fields := fds
  methods := ms
  attributes := attrs
def plain (name : String) (sup : Option ClassId) : Class where
  name := name
  kind := .ordinary
  loader := none
  accessFlags := 33
  super := sup
  interfaces := #[]
  cf := none
  fields := #[]
  methods := #[]
  instanceTypes := #[]
  staticTypes := #[]
  resolved := #[]
  callSites := []
  init := .initialized
  statics := none
  mirror := none

def pool0 : Array CpInfo := pool [(5, u "<init>"), (0, u "()V"), (1, .class_ 10), (1, u "java/lang/Object")] 113

def k0c0 : Code := { maxStack := 0, maxLocals := 1, code := object_method_1_code, exceptionTable := #[], attributes := #[] }
def k0m0 : Method := { name := "<init>", desc := "()V", sig := { parameters := [], returnType := none }, accessFlags := 1, code := some k0c0 }
/-- java/lang/Object -/
def k0 : Class := { plain "java/lang/Object" none with
  accessFlags := 33
  interfaces := #[]
  cf := some (fileOf pool0 8 #[] #[{ accessFlags := 1, nameIndex := 5, descriptorIndex := 6, attributes := #[] }] 33 0 #[] #[])
  fields := #[]
  methods := #[k0m0]
  instanceTypes := #[]
  staticTypes := #[]
  resolved := Array.replicate 124 none
  statics := none }

def pool1 : Array CpInfo := pool [(2, .class_ 4), (1, u "java/lang/Object"), (0, u "<init>"), (0, u "()V"), (0, .class_ 8), (0, u "com/example/disarray/disarray/Latencies"), (0, .methodref 7 10), (0, .nameAndType 5 11), (0, u "(Z)V"), (0, .methodref 7 13), (0, .nameAndType 14 15), (0, u "add"), (0, u "(JJLjava/nio/ByteBuffer;)V"), (0, .methodref 7 17), (0, .nameAndType 18 19), (0, u "arrival"), (0, u "(I)J"), (0, .class_ 21), (0, u "com/example/disarray/disarray/LatenciesArrivalPinLaw"), (2, u "law"), (0, u "(JJJJJI)Z")] 3

def k1m0 : Method := { name := "<init>", desc := "()V", sig := { parameters := [], returnType := none }, accessFlags := 1, code := none }
def k1c1 : Code := { maxStack := 6, maxLocals := 14, code := code, exceptionTable := #[], attributes := #[] }
def k1m1 : Method := { name := "law", desc := "(JJJJJI)Z", sig := { parameters := [.long, .long, .long, .long, .long, .int], returnType := some .boolean }, accessFlags := 9, code := some k1c1 }
/-- com/example/disarray/disarray/LatenciesArrivalPinLaw -/
def k1 : Class := { plain "com/example/disarray/disarray/LatenciesArrivalPinLaw" (some 0) with
  accessFlags := 49
  interfaces := #[]
  cf := some (fileOf pool1 20 #[] #[{ accessFlags := 1, nameIndex := 5, descriptorIndex := 6, attributes := #[] }, { accessFlags := 9, nameIndex := 24, descriptorIndex := 25, attributes := #[] }] 49 2 #[] #[])
  fields := #[]
  methods := #[k1m0, k1m1]
  instanceTypes := #[]
  staticTypes := #[]
  resolved := Array.replicate 29 none
  statics := none }

def pool2 : Array CpInfo := pool [(3, .class_ 4), (0, u "com/example/disarray/disarray/Latencies"), (2, .methodref 8 9), (0, .class_ 10), (0, .nameAndType 11 12), (0, u "java/lang/Object"), (0, u "<init>"), (0, u "()V"), (0, .class_ 14), (0, u "[J"), (0, .fieldref 3 16), (0, .nameAndType 17 18), (0, u "arrivals"), (0, u "[[J"), (0, .fieldref 3 20), (0, .nameAndType 21 18), (0, u "nanos"), (2, .fieldref 3 25), (0, .nameAndType 26 27), (0, u "eventTimes"), (0, u "[[B"), (1, u "[I"), (0, .fieldref 3 31), (0, .nameAndType 32 33), (0, u "eventTimeEnds"), (0, u "[[I"), (0, .fieldref 3 35), (0, .nameAndType 36 37), (0, u "count"), (0, u "I"), (0, .integer 2147483639), (7, .methodref 3 47), (0, .nameAndType 48 49), (0, u "addBlock"), (0, u "(I)V"), (8, .fieldref 3 59), (0, .nameAndType 60 14), (0, u "figures"), (0, .methodref 3 62), (0, .nameAndType 63 64), (0, u "withRoomFor"), (0, u "([Ljava/lang/Object;I)[Ljava/lang/Object;"), (0, .class_ 18), (41, u "arrival"), (0, u "(I)J"), (34, u "PERCENTILES"), (55, u "MOST"), (1, u "TOO_MANY"), (0, u "Ljava/lang/String;"), (0, u "BLOCK_BYTES"), (1, u "BLOCK_SIZE"), (1, u "(Z)V"), (3, u "add"), (0, u "(JJLjava/nio/ByteBuffer;)V")] 34

def k2c0 : Code := { maxStack := 2, maxLocals := 2, code := prog_29_method_1_code, exceptionTable := #[], attributes := #[] }
def k2m0 : Method := { name := "<init>", desc := "(Z)V", sig := { parameters := [.boolean], returnType := none }, accessFlags := 0, code := some k2c0 }
def k2c1 : Code := { maxStack := 5, maxLocals := 8, code := prog_29_method_2_code, exceptionTable := #[], attributes := #[] }
def k2m1 : Method := { name := "add", desc := "(JJLjava/nio/ByteBuffer;)V", sig := { parameters := [.long, .long, (.object "java/nio/ByteBuffer")], returnType := none }, accessFlags := 0, code := some k2c1 }
def k2c2 : Code := { maxStack := 3, maxLocals := 8, code := prog_29_method_3_code, exceptionTable := #[], attributes := #[] }
def k2m2 : Method := { name := "addBlock", desc := "(I)V", sig := { parameters := [.int], returnType := none }, accessFlags := 2, code := some k2c2 }
def k2c3 : Code := { maxStack := 3, maxLocals := 2, code := prog_29_method_5_code, exceptionTable := #[], attributes := #[] }
def k2m3 : Method := { name := "withRoomFor", desc := "([Ljava/lang/Object;I)[Ljava/lang/Object;", sig := { parameters := [(.array (.object "java/lang/Object")), .int], returnType := some (.array (.object "java/lang/Object")) }, accessFlags := 10, code := some k2c3 }
def k2c4 : Code := { maxStack := 3, maxLocals := 2, code := prog_29_method_7_code, exceptionTable := #[], attributes := #[] }
def k2m4 : Method := { name := "arrival", desc := "(I)J", sig := { parameters := [.int], returnType := some .long }, accessFlags := 0, code := some k2c4 }
/-- com/example/disarray/disarray/Latencies -/
def k2 : Class := { plain "com/example/disarray/disarray/Latencies" (some 0) with
  accessFlags := 48
  interfaces := #[]
  cf := some (fileOf pool2 3 #[] #[{ accessFlags := 0, nameIndex := 11, descriptorIndex := 207, attributes := #[] }, { accessFlags := 0, nameIndex := 211, descriptorIndex := 212, attributes := #[] }, { accessFlags := 2, nameIndex := 48, descriptorIndex := 49, attributes := #[] }, { accessFlags := 10, nameIndex := 63, descriptorIndex := 64, attributes := #[] }, { accessFlags := 0, nameIndex := 107, descriptorIndex := 108, attributes := #[] }] 48 8 #[] #[{ accessFlags := 26, nameIndex := 199, descriptorIndex := 37, attributes := #[] }, { accessFlags := 26, nameIndex := 201, descriptorIndex := 202, attributes := #[] }, { accessFlags := 24, nameIndex := 143, descriptorIndex := 29, attributes := #[] }, { accessFlags := 26, nameIndex := 203, descriptorIndex := 37, attributes := #[] }, { accessFlags := 26, nameIndex := 205, descriptorIndex := 37, attributes := #[] }, { accessFlags := 2, nameIndex := 17, descriptorIndex := 18, attributes := #[] }, { accessFlags := 2, nameIndex := 21, descriptorIndex := 18, attributes := #[] }, { accessFlags := 2, nameIndex := 36, descriptorIndex := 37, attributes := #[] }, { accessFlags := 2, nameIndex := 26, descriptorIndex := 27, attributes := #[] }, { accessFlags := 2, nameIndex := 32, descriptorIndex := 33, attributes := #[] }, { accessFlags := 2, nameIndex := 60, descriptorIndex := 14, attributes := #[] }])
  fields := #[{ name := "MOST", type := .int, accessFlags := 26, slot := 0, constantValue := 0 }, { name := "TOO_MANY", type := (.object "java/lang/String"), accessFlags := 26, slot := 1, constantValue := 0 }, { name := "PERCENTILES", type := (.array .int), accessFlags := 24, slot := 2, constantValue := 0 }, { name := "BLOCK_BYTES", type := .int, accessFlags := 26, slot := 3, constantValue := 0 }, { name := "BLOCK_SIZE", type := .int, accessFlags := 26, slot := 4, constantValue := 0 }, { name := "arrivals", type := (.array (.array .long)), accessFlags := 2, slot := 0, constantValue := 0 }, { name := "nanos", type := (.array (.array .long)), accessFlags := 2, slot := 1, constantValue := 0 }, { name := "count", type := .int, accessFlags := 2, slot := 2, constantValue := 0 }, { name := "eventTimes", type := (.array (.array .byte)), accessFlags := 2, slot := 3, constantValue := 0 }, { name := "eventTimeEnds", type := (.array (.array .int)), accessFlags := 2, slot := 4, constantValue := 0 }, { name := "figures", type := (.array .long), accessFlags := 2, slot := 5, constantValue := 0 }]
  methods := #[k2m0, k2m1, k2m2, k2m3, k2m4]
  instanceTypes := #[(.array (.array .long)), (.array (.array .long)), .int, (.array (.array .byte)), (.array (.array .int)), (.array .long)]
  staticTypes := #[.int, (.object "java/lang/String"), (.array .int), .int, .int]
  resolved := Array.replicate 247 none
  statics := none }

def pool3 : Array CpInfo := pool [(1, u "java/lang/Cloneable"), (0, .class_ 1), (0, u "java/lang/Object"), (0, .class_ 3)] 3

/-- java/lang/Cloneable -/
def k3 : Class := { plain "java/lang/Cloneable" (some 0) with
  accessFlags := 1537
  interfaces := #[]
  cf := some (fileOf pool3 2 #[] #[] 1537 4 #[] #[])
  fields := #[]
  methods := #[]
  instanceTypes := #[]
  staticTypes := #[]
  resolved := Array.replicate 8 none
  statics := none }

def pool4 : Array CpInfo := pool [(1, u "java/io/Serializable"), (0, .class_ 1), (0, u "java/lang/Object"), (0, .class_ 3)] 3

/-- java/io/Serializable -/
def k4 : Class := { plain "java/io/Serializable" (some 0) with
  accessFlags := 1537
  interfaces := #[]
  cf := some (fileOf pool4 2 #[] #[] 1537 4 #[] #[])
  fields := #[]
  methods := #[]
  instanceTypes := #[]
  staticTypes := #[]
  resolved := Array.replicate 8 none
  statics := none }

/-- the primitive byte -/
def k5 : Class := { plain "byte" none with kind := .primitive 'B', accessFlags := 0x411 }
/-- [B -/
def k6 : Class := { plain "[B" (some 0) with kind := .array 5 .byte, interfaces := #[3, 4], accessFlags := 1041 }

/-- the primitive int -/
def k7 : Class := { plain "int" none with kind := .primitive 'I', accessFlags := 0x411 }
/-- [I -/
def k8 : Class := { plain "[I" (some 0) with kind := .array 7 .int, interfaces := #[3, 4], accessFlags := 1041 }

/-- the primitive long -/
def k9 : Class := { plain "long" none with kind := .primitive 'J', accessFlags := 0x411 }
/-- [J -/
def k10 : Class := { plain "[J" (some 0) with kind := .array 9 .long, interfaces := #[3, 4], accessFlags := 1041 }

/-- [[J -/
def k11 : Class := { plain "[[J" (some 0) with kind := .array 10 (.array .long), interfaces := #[3, 4], accessFlags := 1041 }

def heap : Heap := #[]
def classes : Array Class := #[k0, k1, k2, k3, k4, k5, k6, k7, k8, k9, k10, k11]
def interned : List (Array UInt16 × Addr) := []
def slotsUsed : Nat := 0
def theMethod : MethodId := ⟨1, 1⟩
def args0 : Array Value := #[.long 0, .long 1, .long 2, .long 3, .long 4, .int 5]
def aboutOver (below : List Frame) : State where
  vm := { classes := classes, interned := interned.toArray }
  heap := heap
  slotsUsed := slotsUsed
  threads := #[{ frames := .invoking theMethod args0 :: below }]
def below0 : List Frame := [.native { method := ⟨0, 0⟩, args := #[] }]
def about1 : State := aboutOver below0
def p0 : Program := .bare "" "" ""
def e0 : Env := launch0.env 0 0 0
theorem w_frames : about1.frames = Frame.invoking theMethod args0 :: below0 := rfl
set_option maxRecDepth 65536 in
theorem w_args : argsFit about1.vm theMethod args0 = true := by decide +kernel
set_option maxRecDepth 65536 in
theorem w_heap : heapFits about1 = true := by decide +kernel
set_option maxRecDepth 65536 in
theorem w_runnable : about1.curStatus? = some .runnable := by decide +kernel
set_option maxRecDepth 65536 in
theorem w_alone : about1.alone = true := by decide +kernel
set_option maxRecDepth 65536 in
theorem w_named : about1.methodNamed? x = some theMethod := by decide +kernel
set_option maxRecDepth 65536 in
theorem w_hears : about1.hears theMethod below0 = true := by decide +kernel
set_option maxRecDepth 65536 in
theorem w_ripe : about1.ripe theMethod args0 below0 = true := by decide +kernel
theorem w_running : about1.status = .running := rfl
set_option maxRecDepth 65536 in
theorem w_room : about1.hasRoom e0.platform room_1 = true :=
  launch0.hasRoom_least _ room_1 (by decide +kernel) (by decide +kernel) (by decide +kernel) (by decide +kernel) (by decide +kernel) (by decide +kernel)
theorem allAtoms_all (ts : List Jvm.Cond) (a : Array Jvm.Value) (st : Jvm.State) : (allAtoms ts).before a st = ts.all (fun c => c.before a st) := by
  induction ts with
  | nil => rfl
  | cons c t ih =>
    show (Jvm.Cond.and c (allAtoms t)).before a st = _
    rw [Jvm.Cond.before_and, ih, List.all_cons]
def words1 : List Jvm.Cond := Jvm.Cond.code x code maxLocals ret :: tables_1
/-- a 'code' word, met by the world's own term for the bytes: nothing is compared byte by byte -/
theorem code_word {y : MethodName} {bytes : ByteArray} {mx : Nat} {rt : Option FieldType} {a : Array Value} {s : State} {m : MethodId} {meth : Method} {c : Code} (h1 : s.methodNamed? y = some m) (h2 : s.vm.method? m = some meth) (h3 : meth.code = some c) (h4 : c.code = bytes)
    (h5 : (c.maxLocals == mx && c.exceptionTable.isEmpty && decide (c.maxStack ≤ mostOperands) && decide (meth.sig.returnType = rt) && !meth.locks && decide (parseMethodDescriptor y.desc = some meth.sig)) = true) : (Jvm.Cond.code y bytes mx rt).before a s = true := by
  simp only [Bool.and_eq_true, beq_iff_eq, Bool.not_eq_true', decide_eq_true_eq] at h5
  obtain ⟨⟨⟨⟨⟨g1, g2⟩, g3⟩, g4⟩, g5⟩, g6⟩ := h5
  simp [Cond.before, Cond.holds, Cond.value, h1, h2, h3, h4, g1, g2, g3, g4, g5, g6]
def isCode : Jvm.Cond → Bool
  | .code _ _ _ _ => true
  | _ => false
theorem all_split {L : List Jvm.Cond} {P : Jvm.Cond → Bool} (h1 : L.all (fun c => isCode c || P c) = true) (h2 : ∀ c ∈ L.filter isCode, P c = true) : L.all P = true := by
  refine List.all_eq_true.mpr fun c hc => ?_
  have h := List.all_eq_true.mp h1 c hc
  rcases Bool.eq_false_or_eq_true (isCode c) with hi | hi
  · exact h2 c (List.mem_filter.mpr ⟨hc, hi⟩)
  · simpa [hi] using h
set_option maxRecDepth 65536 in
theorem w_c0 : (Jvm.Cond.code x code maxLocals ret).before args0 about1 = true := code_word (m := ⟨1, 1⟩) (meth := k1m1) (c := k1c1) (by decide +kernel) rfl rfl rfl (by decide +kernel)
set_option maxRecDepth 65536 in
theorem w_c1 : (Jvm.Cond.code ({ cls := "com/example/disarray/disarray/Latencies", name := "<init>", desc := "(Z)V" } : Jvm.MethodName) prog_29_method_1_code (2 : Nat) (Option.none : Option Jvm.ClassFile.FieldType)).before args0 about1 = true := code_word (m := ⟨2, 0⟩) (meth := k2m0) (c := k2c0) (by decide +kernel) rfl rfl rfl (by decide +kernel)
set_option maxRecDepth 65536 in
theorem w_c2 : (Jvm.Cond.code ({ cls := "java/lang/Object", name := "<init>", desc := "()V" } : Jvm.MethodName) object_method_1_code (1 : Nat) (Option.none : Option Jvm.ClassFile.FieldType)).before args0 about1 = true := code_word (m := ⟨0, 0⟩) (meth := k0m0) (c := k0c0) (by decide +kernel) rfl rfl rfl (by decide +kernel)
set_option maxRecDepth 65536 in
theorem w_c3 : (Jvm.Cond.code ({ cls := "com/example/disarray/disarray/Latencies", name := "add", desc := "(JJLjava/nio/ByteBuffer;)V" } : Jvm.MethodName) prog_29_method_2_code (8 : Nat) (Option.none : Option Jvm.ClassFile.FieldType)).before args0 about1 = true := code_word (m := ⟨2, 1⟩) (meth := k2m1) (c := k2c1) (by decide +kernel) rfl rfl rfl (by decide +kernel)
set_option maxRecDepth 65536 in
theorem w_c4 : (Jvm.Cond.code ({ cls := "com/example/disarray/disarray/Latencies", name := "addBlock", desc := "(I)V" } : Jvm.MethodName) prog_29_method_3_code (8 : Nat) (Option.none : Option Jvm.ClassFile.FieldType)).before args0 about1 = true := code_word (m := ⟨2, 2⟩) (meth := k2m2) (c := k2c2) (by decide +kernel) rfl rfl rfl (by decide +kernel)
set_option maxRecDepth 65536 in
theorem w_c5 : (Jvm.Cond.code ({ cls := "com/example/disarray/disarray/Latencies", name := "withRoomFor", desc := "([Ljava/lang/Object;I)[Ljava/lang/Object;" } : Jvm.MethodName) prog_29_method_5_code (2 : Nat) (Option.some (Jvm.ClassFile.FieldType.array (Jvm.ClassFile.FieldType.object "java/lang/Object")))).before args0 about1 = true := code_word (m := ⟨2, 3⟩) (meth := k2m3) (c := k2c3) (by decide +kernel) rfl rfl rfl (by decide +kernel)
set_option maxRecDepth 65536 in
theorem w_c6 : (Jvm.Cond.code ({ cls := "com/example/disarray/disarray/Latencies", name := "arrival", desc := "(I)J" } : Jvm.MethodName) prog_29_method_7_code (2 : Nat) (Option.some Jvm.ClassFile.FieldType.long)).before args0 about1 = true := code_word (m := ⟨2, 4⟩) (meth := k2m4) (c := k2c4) (by decide +kernel) rfl rfl rfl (by decide +kernel)
def codes1 : List Jvm.Cond := [Jvm.Cond.code x code maxLocals ret, Jvm.Cond.code ({ cls := "com/example/disarray/disarray/Latencies", name := "<init>", desc := "(Z)V" } : Jvm.MethodName) prog_29_method_1_code (2 : Nat) (Option.none : Option Jvm.ClassFile.FieldType), Jvm.Cond.code ({ cls := "java/lang/Object", name := "<init>", desc := "()V" } : Jvm.MethodName) object_method_1_code (1 : Nat) (Option.none : Option Jvm.ClassFile.FieldType), Jvm.Cond.code ({ cls := "com/example/disarray/disarray/Latencies", name := "add", desc := "(JJLjava/nio/ByteBuffer;)V" } : Jvm.MethodName) prog_29_method_2_code (8 : Nat) (Option.none : Option Jvm.ClassFile.FieldType), Jvm.Cond.code ({ cls := "com/example/disarray/disarray/Latencies", name := "addBlock", desc := "(I)V" } : Jvm.MethodName) prog_29_method_3_code (8 : Nat) (Option.none : Option Jvm.ClassFile.FieldType), Jvm.Cond.code ({ cls := "com/example/disarray/disarray/Latencies", name := "withRoomFor", desc := "([Ljava/lang/Object;I)[Ljava/lang/Object;" } : Jvm.MethodName) prog_29_method_5_code (2 : Nat) (Option.some (Jvm.ClassFile.FieldType.array (Jvm.ClassFile.FieldType.object "java/lang/Object"))), Jvm.Cond.code ({ cls := "com/example/disarray/disarray/Latencies", name := "arrival", desc := "(I)J" } : Jvm.MethodName) prog_29_method_7_code (2 : Nat) (Option.some Jvm.ClassFile.FieldType.long)]
set_option maxRecDepth 65536 in
theorem codes_eq : words1.filter isCode = codes1 := rfl
theorem w_codes : ∀ c ∈ words1.filter isCode, c.before args0 about1 = true := by
  rw [codes_eq]
  intro c hc
  simp only [codes1, List.mem_cons, List.not_mem_nil, or_false] at hc
  rcases hc with rfl | rfl | rfl | rfl | rfl | rfl | rfl
  · exact w_c0
  · exact w_c1
  · exact w_c2
  · exact w_c3
  · exact w_c4
  · exact w_c5
  · exact w_c6
set_option maxRecDepth 65536 in
theorem w_t1 : (words1.take 24).all (fun c => isCode c || c.before args0 about1) = true := by decide +kernel
set_option maxRecDepth 65536 in
theorem w_t2 : (words1.drop 24).all (fun c => isCode c || c.before args0 about1) = true := by decide +kernel
theorem w_tables : (allAtoms (Jvm.Cond.code x code maxLocals ret :: tables_1)).before args0 about1 = true := by
  rw [allAtoms_all]
  show words1.all (fun c => c.before args0 about1) = true
  refine all_split ?_ w_codes
  rw [← List.take_append_drop 24 words1, List.all_append, w_t1, w_t2]
  rfl
set_option maxRecDepth 65536 in
theorem w_case : (Jvm.Cond.and given_1 narrow_1).before args0 about1 = true := by decide +kernel
theorem w_applies : (headSpec (Jvm.Cond.code x code maxLocals ret :: tables_1) room_1).applies x e0.platform about1 = true :=
  (Spec.applies_iff w_frames).mpr ⟨w_running, w_runnable, w_alone, w_named, w_hears, w_ripe, w_room, w_tables⟩
theorem atStart : AtStart classFile x code maxLocals ret World_1 tables_1 room_1 Calls_1 rest_1 Pre_1 launch0 p0 e0 about1 theMethod args0 below0 :=
  ⟨lists_1, trivial, launch0.admits_env _ _ _, launch0.least_env, fairChoices_fair.cas, fairChoices_fair.clock, w_frames, w_args, w_heap, w_applies, trivial, trivial, w_case⟩
end start1
theorem witness_1 : WitnessClaimed_1 := ⟨start1.p0, start1.e0, start1.about1, start1.theMethod, start1.args0, start1.below0, start1.atStart⟩
end Jvm.Pilot.@@N@@
