import JvmDerived
import JvmDerived.Pilot.@@N@@Statement
import JvmDerived.Pilot.@@N@@Code
set_option linter.unusedVariables false
set_option linter.unusedSimpArgs false
namespace Jvm.Pilot.@@N@@
open Jvm Jvm.ClassFile Sem Op Lib Jvm.Free Jvm.Stand Jvm.LawKit Jvm.RoadKit Bundle Jvm.Pilot.@@N@@.Jvm.D
section OwnLayer
variable {p : Program} {l : Launch} {e : Env} {R : Room} {s : State} {m : MethodId} {args : Array Value} {below : List Frame} {meth : Method} {c : Code} {T : State} {locs : List Loc} {cells slots : Nat} {Z : State} {a0 : Array Value} {h : Heap}
/-- from here the body comes to its return, and Q holds of what it returns, of the heap and of the places written -/
def own_Ends (p : Program) (e : Env) (s : State) (below : List Frame) (C S : Nat) (Q : Option Value → Heap → List Loc → Prop) (T : State) (g : JFrame) : Prop :=
  ∃ s₂ o, Steps p.tables e below (T.setTop g) s₂ ∧ s₂.status = .running ∧ Ended s₂ below o ∧ ∃ v L, o = .returned v ∧ Q v s₂.heap L ∧ FrameEnd s o s₂ L C S
theorem own_go {C S : Nat} {Q : Option Value → Heap → List Loc → Prop} {T' : State} {g g' : JFrame} (st : ∀ t, Steps p.tables e below (T'.setTop g') t → Steps p.tables e below (T.setTop g) t) (k : own_Ends p e s below C S Q T' g') : own_Ends p e s below C S Q T g := by
  obtain ⟨s₂, o, h, r⟩ := k
  exact ⟨s₂, o, st _ h, r⟩
theorem own_cast {C S : Nat} {Q : Option Value → Heap → List Loc → Prop} {g g' : JFrame} (q : g = g') (k : own_Ends p e s below C S Q T g') : own_Ends p e s below C S Q T g := q ▸ k
/-- a body's contract -/
def own_C (l : Launch) (y : MethodName) (bytes : ByteArray) (maxL : Nat) (ret : Option FieldType) (rm : Room) (Z : State) (A : Array Value) (h : Heap) (Q : Option Value → Heap → List Loc → Prop) : Prop :=
  ∀ ws : List Jvm.Cond, MetFree l y (head1 (Jvm.Cond.code y bytes maxL ret :: ws) rm) (fun a U => a = A ∧ Z.Warmed39 U.vm ∧ U.heap = h) (fun _ _ _ _ _ => True) (fun _ U o U' => ∃ v L, o = .returned v ∧ Q v U'.heap L ∧ FrameEnd U o U' L rm.cells rm.slots)
theorem own_enter {y : MethodName} {bytes : ByteArray} {maxL : Nat} {ret : Option FieldType} {rm : Room} {A : Array Value} {Q : Option Value → Heap → List Loc → Prop} (hp : plainFor y = true)
    (body : ∀ (p : Program) (e : Env) (s : State) (m : MethodId) (below : List Frame) (meth : Method) (c : Code) (s₁ : State), Stand p l e rm s m A below meth c s₁ [] 0 0 → p.tables.exec = Jvm.exec → c.code = bytes → c.maxLocals = maxL → s.vm.findClass y.cls = some m.cls → meth.name = y.name → meth.sig.returnType = ret → meth.locks = false → Z.Warmed39 s.vm → s₁.heap = h →
      own_Ends p e s below rm.cells rm.slots Q s₁ (entryFrame m A maxL)) : own_C l y bytes maxL ret rm Z A h Q := by
  intro ws
  refine MetFree.of_bodySF hp hisR ?_
  intro p e s m args below meth c s₁ Bd hml hP hK
  obtain ⟨rfl, hZ, hh⟩ := hP
  exact body p e s m below meth c s₁ (Stand.of_body Bd) Bd.exec Bd.bytes hml (findClass_of_methodNamed Bd.named) (name_of_methodNamed Bd.named Bd.method).1 Bd.returns Bd.notSynchronized hZ (by rw [← hh, Bd.state]; rfl)
theorem own_ret (X : Stand p l e R s m args below meth c T locs cells slots) (hx : p.tables.exec = Jvm.exec) (hlk : meth.locks = false) {Q : Option Value → Heap → List Loc → Prop} {C S pc : Nat} {Ls : Array Slot} {w : Value} {t : FieldType} {i : Instr} {rest : List Value} (hret : meth.sig.returnType = some t) (hn : narrow t w = w)
    (hi : (i = .ireturn ∧ (t = .int ∨ t = .boolean ∨ t = .byte ∨ t = .char ∨ t = .short) ∧ ∃ z, w = .int z) ∨ (i = .lreturn ∧ t = .long ∧ ∃ z, w = .long z) ∨ (i = .dreturn ∧ t = .double ∧ ∃ z, w = .double z) ∨ (i = .freturn ∧ t = .float ∧ ∃ z, w = .float z) ∨ (i = .areturn ∧ t.isReference = true ∧ w.isRef = true))
    (hd : decode c.code pc = .ok (i, 1)) (hc : cells ≤ C) (hs : slots ≤ S) (hq : Q (some w) T.heap locs) : own_Ends p e s below C S Q T (mkF m pc Ls (w :: rest)) := by
  obtain ⟨fs, hr, hrun, hended, hW, hsame⟩ := X.leave (v := some w) (fun h => by rw [hret] at h; cases h) hlk
  exact ⟨_, _, retOut X hx hret hn hi hd hr, hrun, hended, _, _, rfl, hq, ⟨_, rfl⟩, hW, hsame.mono hc hs⟩
theorem own_retI (X : Stand p l e R s m args below meth c T locs cells slots) (hx : p.tables.exec = Jvm.exec) (hlk : meth.locks = false) {Q : Option Value → Heap → List Loc → Prop} {C S pc : Nat} {Ls : Array Slot} {z : Int32} {rest : List Value} (hret : meth.sig.returnType = some .int)
    (hd : decode c.code pc = .ok (.ireturn, 1)) (hc : cells ≤ C) (hs : slots ≤ S) (hq : Q (some (.int z)) T.heap locs) : own_Ends p e s below C S Q T (mkF m pc Ls (.int z :: rest)) :=
  own_ret X hx hlk hret rfl (Or.inl ⟨rfl, Or.inl rfl, z, rfl⟩) hd hc hs hq
theorem own_retZ (X : Stand p l e R s m args below meth c T locs cells slots) (hx : p.tables.exec = Jvm.exec) (hlk : meth.locks = false) {Q : Option Value → Heap → List Loc → Prop} {C S pc : Nat} {Ls : Array Slot} {z : Int32} {rest : List Value} (hret : meth.sig.returnType = some .boolean) (hz : z = 0 ∨ z = 1)
    (hd : decode c.code pc = .ok (.ireturn, 1)) (hc : cells ≤ C) (hs : slots ≤ S) (hq : Q (some (.int z)) T.heap locs) : own_Ends p e s below C S Q T (mkF m pc Ls (.int z :: rest)) :=
  own_ret X hx hlk hret (by rcases hz with rfl | rfl <;> rfl) (Or.inl ⟨rfl, Or.inr (Or.inl rfl), z, rfl⟩) hd hc hs hq
theorem own_retJ (X : Stand p l e R s m args below meth c T locs cells slots) (hx : p.tables.exec = Jvm.exec) (hlk : meth.locks = false) {Q : Option Value → Heap → List Loc → Prop} {C S pc : Nat} {Ls : Array Slot} {z : Int64} {rest : List Value} (hret : meth.sig.returnType = some .long)
    (hd : decode c.code pc = .ok (.lreturn, 1)) (hc : cells ≤ C) (hs : slots ≤ S) (hq : Q (some (.long z)) T.heap locs) : own_Ends p e s below C S Q T (mkF m pc Ls (.long z :: rest)) :=
  own_ret X hx hlk hret rfl (Or.inr (Or.inl ⟨rfl, rfl, z, rfl⟩)) hd hc hs hq
theorem own_retR (X : Stand p l e R s m args below meth c T locs cells slots) (hx : p.tables.exec = Jvm.exec) (hlk : meth.locks = false) {Q : Option Value → Heap → List Loc → Prop} {C S pc : Nat} {Ls : Array Slot} {w : Value} {t : FieldType} {rest : List Value} (hret : meth.sig.returnType = some t) (ht : t.isReference = true) (hn : narrow t w = w) (hw : w.isRef = true)
    (hd : decode c.code pc = .ok (.areturn, 1)) (hc : cells ≤ C) (hs : slots ≤ S) (hq : Q (some w) T.heap locs) : own_Ends p e s below C S Q T (mkF m pc Ls (w :: rest)) :=
  own_ret X hx hlk hret hn (Or.inr (Or.inr (Or.inr (Or.inr ⟨rfl, ht, hw⟩)))) hd hc hs hq
theorem own_retV (X : Stand p l e R s m args below meth c T locs cells slots) (hx : p.tables.exec = Jvm.exec) (hlk : meth.locks = false) {Q : Option Value → Heap → List Loc → Prop} {C S pc : Nat} {Ls : Array Slot} (hret : meth.sig.returnType = none)
    (hd : decode c.code pc = .ok (.return_, 1)) (hc : cells ≤ C) (hs : slots ≤ S) (hq : Q none T.heap locs) : own_Ends p e s below C S Q T (mkF m pc Ls []) := by
  obtain ⟨fs, hr, hrun, hended, hW, hsame⟩ := X.leave (v := none) (fun _ => rfl) hlk
  exact ⟨_, _, X.returnOut hx hret hd hr, hrun, hended, _, _, rfl, hq, ⟨_, rfl⟩, hW, hsame.mono hc hs⟩
theorem own_callS (X : Stand p l e R s m args below meth c T locs cells slots) (hx : p.tables.exec = Jvm.exec) (hZ : Z.Warmed39 s.vm) {own : String} {index : Nat} {y : MethodName} {bytes : ByteArray} {maxL W : Nat} {ret : Option FieldType} {rm : Room} {A : Array Value} {Q : Option Value → Heap → List Loc → Prop}
    (hown : s.vm.findClass own = some m.cls) (wl : (Cond.methodLink own index y).before a0 Z = true) (ws : (Cond.static y).before a0 Z = true) (wz : (Cond.initialized y.cls).before a0 Z = true) (wc : (Cond.code y bytes maxL ret).before a0 Z = true)
    (hM : own_C l y bytes maxL ret rm Z A h Q) (eT : T.heap = h) {g : JFrame} (hg : g.method = m) (hsize : g.locals.size = c.maxLocals) {argsL rest : List Value} (hlen : ∀ sig, parseMethodDescriptor y.desc = some sig → argsL.length = sig.parameters.length) (hstack : g.stack = argsL.reverse ++ rest) (hA : argsL.toArray = A)
    (hW : 2 * g.monitorRoom + (rest.map fun v => v.category).sum ≤ W) (hd : decode c.code g.pc = .ok (.invokestatic index, 3)) (hy : y.cls ≠ "java/lang/invoke/MethodHandle" ∧ y.cls ≠ "java/lang/invoke/VarHandle")
    (hf : rm.frames + 1 ≤ R.frames) (hl : W + (maxL + 11) + rm.locals ≤ R.locals) (hc : cells + rm.cells ≤ R.cells) (hs : slots + rm.slots ≤ R.slots) :
    ∃ v T' L, Stand p l e R s m args below meth c T' (locs ++ L) (cells + rm.cells) (slots + rm.slots) ∧ Q v T'.heap L ∧ ∀ target, Steps p.tables e below (T'.setTop { g with pc := g.pc + 3, stack := v.toList ++ rest }) target → Steps p.tables e below (T.setTop g) target := by
  obtain ⟨v, vm₁, ⟨T', L', k', n'⟩, -, X', ⟨L, hQ, l1, l2, l3⟩, st⟩ := Jvm.LawKit.callS X hx hown (mvT hZ wl) (mvT hZ ws) (mvT hZ wz) (mvT hZ wc) hy (backOf (W := W) (hM []) hZ wc wz hf hl) hg hsize hlen hstack hW hd (fun _ _ => ⟨hA, eT, hc, hs⟩)
  dsimp only [Pt.U, Pt.locs, Pt.cells, Pt.slots] at X' l1 l2 l3 st hQ
  subst l1 l2 l3
  exact ⟨v, T', L, X', hQ, st⟩
theorem own_callI (X : Stand p l e R s m args below meth c T locs cells slots) (hx : p.tables.exec = Jvm.exec) (hZ : Z.Warmed39 s.vm) {own : String} {index : Nat} {y : MethodName} {bytes : ByteArray} {maxL W : Nat} {rm : Room} {A : Array Value} {Q : Option Value → Heap → List Loc → Prop}
    (hown : s.vm.findClass own = some m.cls) (hy1 : y.name = "<init>") (wl : (Cond.methodLink own index y).before a0 Z = true) (ws : (Cond.instanceMethod y).before a0 Z = true) (wz : (Cond.initialized y.cls).before a0 Z = true) (wc : (Cond.code y bytes maxL none).before a0 Z = true)
    (hM : own_C l y bytes maxL none rm Z A h Q) (eT : T.heap = h) {g : JFrame} (hg : g.method = m) (hsize : g.locals.size = c.maxLocals) {a : Addr} {argsL rest : List Value} (hlen : ∀ sig, parseMethodDescriptor y.desc = some sig → argsL.length = sig.parameters.length) (hstack : g.stack = argsL.reverse ++ .ref a :: rest) (hA : (.ref a :: argsL).toArray = A)
    (hW : 2 * g.monitorRoom + (rest.map fun v => v.category).sum ≤ W) (hd : decode c.code g.pc = .ok (.invokespecial index, 3)) (hy : y.cls ≠ "java/lang/invoke/MethodHandle" ∧ y.cls ≠ "java/lang/invoke/VarHandle")
    (hf : rm.frames + 1 ≤ R.frames) (hl : W + (maxL + 11) + rm.locals ≤ R.locals) (hc : cells + rm.cells ≤ R.cells) (hs : slots + rm.slots ≤ R.slots) :
    ∃ v T' L, Stand p l e R s m args below meth c T' (locs ++ L) (cells + rm.cells) (slots + rm.slots) ∧ Q v T'.heap L ∧ ∀ target, Steps p.tables e below (T'.setTop { g with pc := g.pc + 3, stack := v.toList ++ rest }) target → Steps p.tables e below (T.setTop g) target := by
  obtain ⟨v, vm₁, ⟨T', L', k', n'⟩, -, X', ⟨L, hQ, l1, l2, l3⟩, st⟩ := X.specialBack hx hy1 hown (mvT hZ wl) (mvT hZ ws) (mvT hZ wc) hy (backOf (W := W) (hM []) hZ wc wz hf hl) hg hsize (Steps.refl _) hlen hstack hW hd (fun _ _ => ⟨hA, eT, hc, hs⟩)
  dsimp only [Pt.U, Pt.locs, Pt.cells, Pt.slots] at X' l1 l2 l3 st hQ
  subst l1 l2 l3
  exact ⟨v, T', L, X', hQ, fun _ k => st.trans k⟩
theorem own_callV (X : Stand p l e R s m args below meth c T locs cells slots) (hx : p.tables.exec = Jvm.exec) (hZ : Z.Warmed39 s.vm) {own K : String} {index : Nat} {y : MethodName} {bytes : ByteArray} {maxL W : Nat} {ret : Option FieldType} {rm : Room} {A : Array Value} {Q : Option Value → Heap → List Loc → Prop}
    (hown : s.vm.findClass own = some m.cls) (wl : (Cond.methodLink own index y).before a0 Z = true) (wd : (Cond.declares y).before a0 Z = true) (wsel : (Cond.selects K y y).before a0 Z = true) (ws : (Cond.instanceMethod y).before a0 Z = true) (wz : (Cond.initialized y.cls).before a0 Z = true) (wc : (Cond.code y bytes maxL ret).before a0 Z = true)
    (hM : own_C l y bytes maxL ret rm Z A h Q) (eT : T.heap = h) {g : JFrame} (hg : g.method = m) (hsize : g.locals.size = c.maxLocals) {a : Addr} {argsL rest : List Value} (hE : Exa Z h a K) (hlen : ∀ sig, parseMethodDescriptor y.desc = some sig → argsL.length = sig.parameters.length) (hstack : g.stack = argsL.reverse ++ .ref a :: rest) (hA : (.ref a :: argsL).toArray = A)
    (hW : 2 * g.monitorRoom + (rest.map fun v => v.category).sum ≤ W) (hd : decode c.code g.pc = .ok (.invokevirtual index, 3)) (hy : y.cls ≠ "java/lang/invoke/MethodHandle" ∧ y.cls ≠ "java/lang/invoke/VarHandle")
    (hf : rm.frames + 1 ≤ R.frames) (hl : W + (maxL + 11) + rm.locals ≤ R.locals) (hc : cells + rm.cells ≤ R.cells) (hs : slots + rm.slots ≤ R.slots) :
    ∃ v T' L, Stand p l e R s m args below meth c T' (locs ++ L) (cells + rm.cells) (slots + rm.slots) ∧ Q v T'.heap L ∧ ∀ target, Steps p.tables e below (T'.setTop { g with pc := g.pc + 3, stack := v.toList ++ rest }) target → Steps p.tables e below (T.setTop g) target := by
  obtain ⟨cq, kq, qa, qb, qc⟩ := isOf hZ eT hE
  obtain ⟨v, vm₁, ⟨T', L', k', n'⟩, -, X', ⟨L, hQ, l1, l2, l3⟩, st⟩ := X.virtualBack hx hown (mvT hZ wl) (mvT hZ wd) (notFace_of_selects (args := #[]) (mvT hZ wsel)) (mvT hZ wsel) (mvT hZ ws) hy (backOf (W := W) (hM []) hZ wc wz hf hl) qa qc hg hsize (Steps.refl _) hlen hstack hW hd (fun _ _ => ⟨hA, eT, hc, hs⟩)
  dsimp only [Pt.U, Pt.locs, Pt.cells, Pt.slots] at X' l1 l2 l3 st hQ
  subst l1 l2 l3
  exact ⟨v, T', L, X', hQ, fun _ k => st.trans k⟩
theorem own_callP (X : Stand p l e R s m args below meth c T locs cells slots) (hx : p.tables.exec = Jvm.exec) (hZ : Z.Warmed39 s.vm) {own K : String} {index kk : Nat} {y : MethodName} {bytes : ByteArray} {maxL W : Nat} {ret : Option FieldType} {rm : Room} {A : Array Value} {Q : Option Value → Heap → List Loc → Prop}
    (hown : s.vm.findClass own = some m.cls) (wl : (Cond.methodLink own index y).before a0 Z = true) (wp : (Cond.privateMethod y).before a0 Z = true) (wi : (Cond.instantiable y.cls kk).before a0 Z = true) (ws : (Cond.instanceMethod y).before a0 Z = true) (wz : (Cond.initialized y.cls).before a0 Z = true) (wc : (Cond.code y bytes maxL ret).before a0 Z = true)
    (hM : own_C l y bytes maxL ret rm Z A h Q) (eT : T.heap = h) {g : JFrame} (hg : g.method = m) (hsize : g.locals.size = c.maxLocals) {a : Addr} {argsL rest : List Value} (hE : Exa Z h a K) (hlen : ∀ sig, parseMethodDescriptor y.desc = some sig → argsL.length = sig.parameters.length) (hstack : g.stack = argsL.reverse ++ .ref a :: rest) (hA : (.ref a :: argsL).toArray = A)
    (hW : 2 * g.monitorRoom + (rest.map fun v => v.category).sum ≤ W) (hd : decode c.code g.pc = .ok (.invokevirtual index, 3)) (hy : y.cls ≠ "java/lang/invoke/MethodHandle" ∧ y.cls ≠ "java/lang/invoke/VarHandle")
    (hf : rm.frames + 1 ≤ R.frames) (hl : W + (maxL + 11) + rm.locals ≤ R.locals) (hc : cells + rm.cells ≤ R.cells) (hs : slots + rm.slots ≤ R.slots) :
    ∃ v T' L, Stand p l e R s m args below meth c T' (locs ++ L) (cells + rm.cells) (slots + rm.slots) ∧ Q v T'.heap L ∧ ∀ target, Steps p.tables e below (T'.setTop { g with pc := g.pc + 3, stack := v.toList ++ rest }) target → Steps p.tables e below (T.setTop g) target := by
  obtain ⟨cq, q1, q2⟩ := hE.cell
  have hpriv : s.PrivateAt y := Cond.privateMethod_at (mvP hZ wp (args := #[]))
  obtain ⟨cc, kc, i1, i2, -, i4, -⟩ := Cond.instantiable_spec (mvT (args := #[]) hZ wi)
  have hni : kc.isInterface = false := (Bool.or_eq_false_iff.mp i4).1
  have hsel : (Cond.selects y.cls y y).before args s = true := selects_self_of_private i1 i2 hni hpriv (mvT hZ ws) hy
  obtain ⟨v, vm₁, ⟨T', L', k', n'⟩, -, X', ⟨L, hQ, l1, l2, l3⟩, st⟩ := X.privateBack hx hown (mvT hZ wl) (mvT hZ ws) hsel hpriv (mvT hZ wc) hy (backOf (W := W) (hM []) hZ wc wz hf hl) hg hsize (Steps.refl _) (by rw [eT]; exact q1) q2 hlen hstack hW hd (fun _ _ => ⟨hA, eT, hc, hs⟩)
  dsimp only [Pt.U, Pt.locs, Pt.cells, Pt.slots] at X' l1 l2 l3 st hQ
  subst l1 l2 l3
  exact ⟨v, T', L, X', hQ, fun _ k => st.trans k⟩
end OwnLayer
theorem own_lct {x y : Int64} (q : x < y) : ifCond.holds .lt (lcmpW x y) = true ∧ ifCond.holds .ge (lcmpW x y) = false := by
  have r := (lw_lt x y).mpr q
  exact ⟨(if0 _ _).trans (tlt r).1, (if0 _ _).trans (tlt r).2.1⟩
theorem own_lcf {x y : Int64} (q : ¬ x < y) : ifCond.holds .lt (lcmpW x y) = false ∧ ifCond.holds .ge (lcmpW x y) = true := by
  have r : ¬ lcmpW x y < 0 := fun z => q ((lw_lt x y).mp z)
  exact ⟨(if0 _ _).trans (flt r).1, (if0 _ _).trans (flt r).2.1⟩
theorem own_lgt {x y : Int64} (q : y < x) : ifCond.holds .gt (lcmpW x y) = true ∧ ifCond.holds .le (lcmpW x y) = false := by
  have r := (lw_gt x y).mpr q
  exact ⟨(if0 _ _).trans (tlt r).2.2.1, (if0 _ _).trans (tlt r).2.2.2⟩
theorem own_lgf {x y : Int64} (q : ¬ y < x) : ifCond.holds .gt (lcmpW x y) = false ∧ ifCond.holds .le (lcmpW x y) = true := by
  have r : ¬ 0 < lcmpW x y := fun z => q ((lw_gt x y).mp z)
  exact ⟨(if0 _ _).trans (flt r).2.2.1, (if0 _ _).trans (flt r).2.2.2⟩
theorem own_let {x y : Int64} (q : x = y) : ifCond.holds .eq (lcmpW x y) = true ∧ ifCond.holds .ne (lcmpW x y) = false := by
  have r := (lw_eq x y).mpr q
  exact ⟨(if0 _ _).trans (teq r).1, (if0 _ _).trans (teq r).2⟩
theorem own_lef {x y : Int64} (q : ¬ x = y) : ifCond.holds .eq (lcmpW x y) = false ∧ ifCond.holds .ne (lcmpW x y) = true := by
  have r : ¬ lcmpW x y = 0 := fun z => q ((lw_eq x y).mp z)
  exact ⟨(if0 _ _).trans (feq r).1, (if0 _ _).trans (feq r).2⟩
section OwnArrays
variable {p : Program} {l : Launch} {e : Env} {R : Room} {s : State} {m : MethodId} {args : Array Value} {below : List Frame} {meth : Method} {c : Code} {T : State} {locs : List Loc} {cells slots : Nat} {Z : State} {a0 : Array Value} {h h' : Heap} {a b : Addr} {k : ClassId} {ty : FieldType} {n i sl : Nat} {f : Nat → Value} {v : Value} {ws : List Addr}
/-- an array by its length and what each place holds -/
def own_Ar (Z : State) (h : Heap) (a : Addr) (k : ClassId) (ty : FieldType) (n : Nat) (f : Nat → Value) : Prop := ∃ c : Cell, Arr Z h a c ty ∧ c.cls = k ∧ c.slots.size = n ∧ n < 2 ^ 31 ∧ ∀ i, i < n → c.slots[i]? = some (f i)
theorem own_Ar.lt (F : own_Ar Z h a k ty n f) : a < h.size := by obtain ⟨c, A, -⟩ := F; exact A.lt
theorem own_Ar.ext (F : own_Ar Z h a k ty n f) (E : Ext h h') : own_Ar Z h' a k ty n f := by obtain ⟨c, A, r⟩ := F; exact ⟨c, A.ext E, r⟩
theorem own_Ar.other (F : own_Ar Z h a k ty n f) (W : Wr h h' b sl v) (q : a ≠ b) : own_Ar Z h' a k ty n f := by obtain ⟨c, A, r⟩ := F; exact ⟨c, A.other W q, r⟩
theorem own_Ar.keep (F : own_Ar Z h a k ty n f) (K : Keep h h' ws) (q : a ∉ ws) : own_Ar Z h' a k ty n f := by obtain ⟨c, A, r⟩ := F; exact ⟨c, ⟨K.2.1 a c A.1 q, A.2⟩, r⟩
theorem own_Ar.cong (F : own_Ar Z h a k ty n f) {g : Nat → Value} (q : ∀ i, i < n → f i = g i) : own_Ar Z h a k ty n g := by
  obtain ⟨c, A, r1, r2, r3, r4⟩ := F
  exact ⟨c, A, r1, r2, r3, fun i hi => by rw [r4 i hi, q i hi]⟩
theorem own_Ar.set (F : own_Ar Z h a k ty n f) (W : Wr h h' a i v) : own_Ar Z h' a k ty n (fun j => if j = i then v else f j) := by
  obtain ⟨c, A, r1, r2, r3, r4⟩ := F
  refine ⟨c.setSlot i v, A.same W, r1, by rw [sz_set]; exact r2, r3, fun j hj => ?_⟩
  show _ = some (if j = i then v else f j)
  by_cases q : j = i
  · subst q
    rw [if_pos rfl]
    show (c.slots.setIfInBounds j v)[j]? = some v
    simp [r2, hj]
  · rw [if_neg q]
    show (c.slots.setIfInBounds i v)[j]? = some (f j)
    rw [Array.getElem?_setIfInBounds_ne (fun z => q z.symm)]
    exact r4 j hj
theorem own_in {c : Cell} {j : Int32} (hj : ¬ j < 0) (hi : j.toNatClampNeg = i) (r : c.slots.size = n) (hn : i < n) : ¬ (j < 0 ∨ c.slots.size ≤ j.toNatClampNeg) := by
  rintro (q | q)
  · exact hj q
  · rw [hi, r] at q; exact absurd hn (Nat.not_lt.mpr q)
theorem own_len (X : Stand p l e R s m args below meth c T locs cells slots) (hx : p.tables.exec = Jvm.exec) (hZ : Z.Warmed39 s.vm) (eT : T.heap = h) (F : own_Ar Z h a k ty n f) {z : Int32} (hz : Int32.ofNat n = z) {g : JFrame} (hg : g.method = m) {rest : List Value} (hs : g.stack = .ref a :: rest) (hd : decode c.code g.pc = .ok (.arraylength, 1)) (target : State)
    (kt : Steps p.tables e below (T.setTop { g with pc := g.pc + 1, stack := .int z :: rest }) target) : Steps p.tables e below (T.setTop g) target := by
  obtain ⟨cl, A, -, r2, r3, -⟩ := F
  refine X.arraylength hx (by rw [eT]; exact A.1) (State.isArrayOf_alike hZ.alike A.2.1) hg hs hd _ ?_
  have q : cl.slots.size.toInt32 = z := by rw [r2]; exact hz
  rw [q]; exact kt
theorem own_ldI (X : Stand p l e R s m args below meth c T locs cells slots) (hx : p.tables.exec = Jvm.exec) (hZ : Z.Warmed39 s.vm) (eT : T.heap = h) (F : own_Ar Z h a k .int n f) {j : Int32} (hj : ¬ j < 0) (hi : j.toNatClampNeg = i) (hn : i < n) (hv : f i = v) {g : JFrame} (hg : g.method = m) {rest : List Value} (hs : g.stack = .int j :: .ref a :: rest) (hd : decode c.code g.pc = .ok (.iaload, 1)) (target : State)
    (kt : Steps p.tables e below (T.setTop { g with pc := g.pc + 1, stack := v :: rest }) target) : Steps p.tables e below (T.setTop g) target := by
  obtain ⟨cl, A, -, r2, r3, r4⟩ := F
  exact X.iaload hx (by rw [eT]; exact A.1) (State.isArrayOf_alike hZ.alike A.2.1) A.2.2 (own_in hj hi r2 hn) (by rw [hi, r4 i hn, hv]) hg hs hd _ kt
theorem own_ldJ (X : Stand p l e R s m args below meth c T locs cells slots) (hx : p.tables.exec = Jvm.exec) (hZ : Z.Warmed39 s.vm) (eT : T.heap = h) (F : own_Ar Z h a k .long n f) {j : Int32} (hj : ¬ j < 0) (hi : j.toNatClampNeg = i) (hn : i < n) (hv : f i = v) {g : JFrame} (hg : g.method = m) {rest : List Value} (hs : g.stack = .int j :: .ref a :: rest) (hd : decode c.code g.pc = .ok (.laload, 1)) (target : State)
    (kt : Steps p.tables e below (T.setTop { g with pc := g.pc + 1, stack := v :: rest }) target) : Steps p.tables e below (T.setTop g) target := by
  obtain ⟨cl, A, -, r2, r3, r4⟩ := F
  exact X.laload hx (by rw [eT]; exact A.1) (State.isArrayOf_alike hZ.alike A.2.1) A.2.2 (own_in hj hi r2 hn) (by rw [hi, r4 i hn, hv]) hg hs hd _ kt
theorem own_ldC (X : Stand p l e R s m args below meth c T locs cells slots) (hx : p.tables.exec = Jvm.exec) (hZ : Z.Warmed39 s.vm) (eT : T.heap = h) (F : own_Ar Z h a k .char n f) {j : Int32} (hj : ¬ j < 0) (hi : j.toNatClampNeg = i) (hn : i < n) (hv : f i = v) {g : JFrame} (hg : g.method = m) {rest : List Value} (hs : g.stack = .int j :: .ref a :: rest) (hd : decode c.code g.pc = .ok (.caload, 1)) (target : State)
    (kt : Steps p.tables e below (T.setTop { g with pc := g.pc + 1, stack := v :: rest }) target) : Steps p.tables e below (T.setTop g) target := by
  obtain ⟨cl, A, -, r2, r3, r4⟩ := F
  exact X.caload hx (by rw [eT]; exact A.1) (State.isArrayOf_alike hZ.alike A.2.1) A.2.2 (own_in hj hi r2 hn) (by rw [hi, r4 i hn, hv]) hg hs hd _ kt
theorem own_ldB (X : Stand p l e R s m args below meth c T locs cells slots) (hx : p.tables.exec = Jvm.exec) (hZ : Z.Warmed39 s.vm) (eT : T.heap = h) (F : own_Ar Z h a k .byte n f) {j : Int32} (hj : ¬ j < 0) (hi : j.toNatClampNeg = i) (hn : i < n) (hv : f i = v) {g : JFrame} (hg : g.method = m) {rest : List Value} (hs : g.stack = .int j :: .ref a :: rest) (hd : decode c.code g.pc = .ok (.baload, 1)) (target : State)
    (kt : Steps p.tables e below (T.setTop { g with pc := g.pc + 1, stack := v :: rest }) target) : Steps p.tables e below (T.setTop g) target := by
  obtain ⟨cl, A, -, r2, r3, r4⟩ := F
  exact X.baloadBytes hx (by rw [eT]; exact A.1) (State.isArrayOf_alike hZ.alike A.2.1) A.2.2 (own_in hj hi r2 hn) (by rw [hi, r4 i hn, hv]) hg hs hd _ kt
theorem own_ldZ (X : Stand p l e R s m args below meth c T locs cells slots) (hx : p.tables.exec = Jvm.exec) (hZ : Z.Warmed39 s.vm) (eT : T.heap = h) (F : own_Ar Z h a k .boolean n f) {j : Int32} (hj : ¬ j < 0) (hi : j.toNatClampNeg = i) (hn : i < n) (hv : f i = v) {g : JFrame} (hg : g.method = m) {rest : List Value} (hs : g.stack = .int j :: .ref a :: rest) (hd : decode c.code g.pc = .ok (.baload, 1)) (target : State)
    (kt : Steps p.tables e below (T.setTop { g with pc := g.pc + 1, stack := v :: rest }) target) : Steps p.tables e below (T.setTop g) target := by
  obtain ⟨cl, A, -, r2, r3, r4⟩ := F
  exact X.baloadBooleans hx (by rw [eT]; exact A.1) (State.isArrayOf_alike hZ.alike A.2.1) A.2.2 (own_in hj hi r2 hn) (by rw [hi, r4 i hn, hv]) hg hs hd _ kt
theorem own_ldR (X : Stand p l e R s m args below meth c T locs cells slots) (hx : p.tables.exec = Jvm.exec) (hZ : Z.Warmed39 s.vm) (eT : T.heap = h) (F : own_Ar Z h a k ty n f) (ht : ty.isReference = true) {j : Int32} (hj : ¬ j < 0) (hi : j.toNatClampNeg = i) (hn : i < n) (hv : f i = v) {g : JFrame} (hg : g.method = m) {rest : List Value} (hs : g.stack = .int j :: .ref a :: rest) (hd : decode c.code g.pc = .ok (.aaload, 1)) (target : State)
    (kt : Steps p.tables e below (T.setTop { g with pc := g.pc + 1, stack := v :: rest }) target) : Steps p.tables e below (T.setTop g) target := by
  obtain ⟨cl, A, -, r2, r3, r4⟩ := F
  exact X.aaload hx (by rw [eT]; exact A.1) (State.isArrayOf_alike hZ.alike A.2.1) ht A.2.2 (own_in hj hi r2 hn) (by rw [hi, r4 i hn, hv]) hg hs hd _ kt
theorem own_newP (X : Stand p l e R s m args below meth c T locs cells slots) (hx : p.tables.exec = Jvm.exec) (hZ : Z.Warmed39 s.vm) {aty : ArrayType} (w : (Cond.arrayClass (newarray.typeOf aty)).before a0 Z = true) (eT : T.heap = h) {g : JFrame} (hg : g.method = m) (hd : decode c.code g.pc = .ok (.newarray aty, 2)) {z : Int32} {rest : List Value} (hs : g.stack = .int z :: rest)
    (hz : ¬ z < 0) (hzn : z.toNatClampNeg = n) {cap : Nat} (hcap : n ≤ cap) (hb : cap * 8 ≤ 536870912) (hc : cells + 1 ≤ R.cells) (hl : slots + cap ≤ R.slots) :
    ∃ T' h' k, Stand p l e R s m args below meth c T' locs (cells + 1) (slots + cap) ∧ T'.heap = h' ∧ Ext h h' ∧ own_Ar Z h' h.size k (newarray.typeOf aty) n (fun _ => defaultValue (newarray.typeOf aty)) ∧
      ∀ target, Steps p.tables e below (T'.setTop { g with pc := g.pc + 2, stack := .ref h.size :: rest }) target → Steps p.tables e below (T.setTop g) target := by
  obtain ⟨T', h', cA, X', e', E, A, st⟩ := newP X hx hZ w eT hg hd hs hz (cap := cap) (by rw [hzn]; exact hcap) hb hc hl
  refine ⟨T', h', cA, X', e', E, ⟨_, A, rfl, (sz_new _ _ _).trans hzn, by omega, fun i hi => ?_⟩, st⟩
  have hs : i < z.toNatClampNeg := by rw [hzn]; exact hi
  simp [newA, hs, defaultValue]
theorem own_stI (X : Stand p l e R s m args below meth c T locs cells slots) (hx : p.tables.exec = Jvm.exec) (hZ : Z.Warmed39 s.vm) (eT : T.heap = h) (F : own_Ar Z h a k .int n f) {j x : Int32} (hj : ¬ j < 0) (hi : j.toNatClampNeg = i) (hn : i < n) {g : JFrame} (hg : g.method = m) {rest : List Value} (hs : g.stack = .int x :: .int j :: .ref a :: rest) (hd : decode c.code g.pc = .ok (.iastore, 1)) :
    ∃ T' h', Stand p l e R s m args below meth c T' (locs ++ [⟨a, i⟩]) cells slots ∧ T'.heap = h' ∧ Wr h h' a i (.int x) ∧ own_Ar Z h' a k .int n (fun j => if j = i then .int x else f j) ∧ ∀ target, Steps p.tables e below (T'.setTop { g with pc := g.pc + 1, stack := rest }) target → Steps p.tables e below (T.setTop g) target := by
  obtain ⟨cl, A, r1, r2, r3, r4⟩ := F
  obtain ⟨T', h', X', e', W, st⟩ := stI X hx hZ eT A (own_in hj hi r2 hn) hg hs hd
  rw [hi] at X' W
  exact ⟨T', h', X', e', W, own_Ar.set ⟨cl, A, r1, r2, r3, r4⟩ W, st⟩
theorem own_stJ (X : Stand p l e R s m args below meth c T locs cells slots) (hx : p.tables.exec = Jvm.exec) (hZ : Z.Warmed39 s.vm) (eT : T.heap = h) (F : own_Ar Z h a k .long n f) {j : Int32} {x : Int64} (hj : ¬ j < 0) (hi : j.toNatClampNeg = i) (hn : i < n) {g : JFrame} (hg : g.method = m) {rest : List Value} (hs : g.stack = .long x :: .int j :: .ref a :: rest) (hd : decode c.code g.pc = .ok (.lastore, 1)) :
    ∃ T' h', Stand p l e R s m args below meth c T' (locs ++ [⟨a, i⟩]) cells slots ∧ T'.heap = h' ∧ Wr h h' a i (.long x) ∧ own_Ar Z h' a k .long n (fun j => if j = i then .long x else f j) ∧ ∀ target, Steps p.tables e below (T'.setTop { g with pc := g.pc + 1, stack := rest }) target → Steps p.tables e below (T.setTop g) target := by
  obtain ⟨cl, A, r1, r2, r3, r4⟩ := F
  obtain ⟨T', h', X', e', W, st⟩ := stJ X hx hZ eT A (own_in hj hi r2 hn) hg hs hd
  rw [hi] at X' W
  exact ⟨T', h', X', e', W, own_Ar.set ⟨cl, A, r1, r2, r3, r4⟩ W, st⟩
theorem own_stB (X : Stand p l e R s m args below meth c T locs cells slots) (hx : p.tables.exec = Jvm.exec) (hZ : Z.Warmed39 s.vm) (eT : T.heap = h) (F : own_Ar Z h a k .byte n f) {j x : Int32} (hj : ¬ j < 0) (hi : j.toNatClampNeg = i) (hn : i < n) {g : JFrame} (hg : g.method = m) {rest : List Value} (hs : g.stack = .int x :: .int j :: .ref a :: rest) (hd : decode c.code g.pc = .ok (.bastore, 1)) :
    ∃ T' h', Stand p l e R s m args below meth c T' (locs ++ [⟨a, i⟩]) cells slots ∧ T'.heap = h' ∧ Wr h h' a i (.int (nar .byte x)) ∧ own_Ar Z h' a k .byte n (fun j => if j = i then .int (nar .byte x) else f j) ∧ ∀ target, Steps p.tables e below (T'.setTop { g with pc := g.pc + 1, stack := rest }) target → Steps p.tables e below (T.setTop g) target := by
  obtain ⟨cl, A, r1, r2, r3, r4⟩ := F
  obtain ⟨T', h', X', e', W, st⟩ := stB X hx hZ eT A (own_in hj hi r2 hn) hg hs hd
  rw [hi] at X' W
  exact ⟨T', h', X', e', W, own_Ar.set ⟨cl, A, r1, r2, r3, r4⟩ W, st⟩
theorem own_stZ (X : Stand p l e R s m args below meth c T locs cells slots) (hx : p.tables.exec = Jvm.exec) (hZ : Z.Warmed39 s.vm) (eT : T.heap = h) (F : own_Ar Z h a k .boolean n f) {j x : Int32} (hj : ¬ j < 0) (hi : j.toNatClampNeg = i) (hn : i < n) {g : JFrame} (hg : g.method = m) {rest : List Value} (hs : g.stack = .int x :: .int j :: .ref a :: rest) (hd : decode c.code g.pc = .ok (.bastore, 1)) :
    ∃ T' h', Stand p l e R s m args below meth c T' (locs ++ [⟨a, i⟩]) cells slots ∧ T'.heap = h' ∧ Wr h h' a i (.int (nar .boolean x)) ∧ own_Ar Z h' a k .boolean n (fun j => if j = i then .int (nar .boolean x) else f j) ∧ ∀ target, Steps p.tables e below (T'.setTop { g with pc := g.pc + 1, stack := rest }) target → Steps p.tables e below (T.setTop g) target := by
  obtain ⟨cl, A, r1, r2, r3, r4⟩ := F
  obtain ⟨T', h', X', e', W, st⟩ := stZ X hx hZ eT A (own_in hj hi r2 hn) hg hs hd
  rw [hi] at X' W
  exact ⟨T', h', X', e', W, own_Ar.set ⟨cl, A, r1, r2, r3, r4⟩ W, st⟩
theorem own_stC (X : Stand p l e R s m args below meth c T locs cells slots) (hx : p.tables.exec = Jvm.exec) (hZ : Z.Warmed39 s.vm) (eT : T.heap = h) (F : own_Ar Z h a k .char n f) {j x : Int32} (hj : ¬ j < 0) (hi : j.toNatClampNeg = i) (hn : i < n) {g : JFrame} (hg : g.method = m) {rest : List Value} (hs : g.stack = .int x :: .int j :: .ref a :: rest) (hd : decode c.code g.pc = .ok (.castore, 1)) :
    ∃ T' h', Stand p l e R s m args below meth c T' (locs ++ [⟨a, i⟩]) cells slots ∧ T'.heap = h' ∧ Wr h h' a i (.int (nar .char x)) ∧ own_Ar Z h' a k .char n (fun j => if j = i then .int (nar .char x) else f j) ∧ ∀ target, Steps p.tables e below (T'.setTop { g with pc := g.pc + 1, stack := rest }) target → Steps p.tables e below (T.setTop g) target := by
  obtain ⟨cl, A, r1, r2, r3, r4⟩ := F
  obtain ⟨T', h', X', e', W, st⟩ := stC X hx hZ eT A (own_in hj hi r2 hn) hg hs hd
  rw [hi] at X' W
  exact ⟨T', h', X', e', W, own_Ar.set ⟨cl, A, r1, r2, r3, r4⟩ W, st⟩
theorem own_stR (X : Stand p l e R s m args below meth c T locs cells slots) (hx : p.tables.exec = Jvm.exec) (hZ : Z.Warmed39 s.vm) (eT : T.heap = h) (F : own_Ar Z h a k ty n f) (ht : ty.isReference = true) {j : Int32} (S : Sto Z h a v) (hj : ¬ j < 0) (hi : j.toNatClampNeg = i) (hn : i < n) {g : JFrame} (hg : g.method = m) {rest : List Value} (hs : g.stack = v :: .int j :: .ref a :: rest) (hd : decode c.code g.pc = .ok (.aastore, 1)) :
    ∃ T' h', Stand p l e R s m args below meth c T' (locs ++ [⟨a, i⟩]) cells slots ∧ T'.heap = h' ∧ Wr h h' a i v ∧ own_Ar Z h' a k ty n (fun j => if j = i then v else f j) ∧ ∀ target, Steps p.tables e below (T'.setTop { g with pc := g.pc + 1, stack := rest }) target → Steps p.tables e below (T.setTop g) target := by
  obtain ⟨cl, A, r1, r2, r3, r4⟩ := F
  obtain ⟨T', h', X', e', W, st⟩ := stR X hx hZ eT A (own_in hj hi r2 hn) ht S hg hs hd
  rw [hi] at X' W
  exact ⟨T', h', X', e', W, own_Ar.set ⟨cl, A, r1, r2, r3, r4⟩ W, st⟩
theorem own_newR (X : Stand p l e R s m args below meth c T locs cells slots) (hx : p.tables.exec = Jvm.exec) (hZ : Z.Warmed39 s.vm) {own C : String} {index : Nat} (hown : s.vm.findClass own = some m.cls) (w1 : (Cond.classLink own index C).before a0 Z = true) (w2 : (Cond.arrayOver (.object C)).before a0 Z = true)
    (eT : T.heap = h) {g : JFrame} (hg : g.method = m) (hd : decode c.code g.pc = .ok (.anewarray index, 3)) {z : Int32} {rest : List Value} (hs : g.stack = .int z :: rest) (hz : ¬ z < 0) (hzn : z.toNatClampNeg = n) {cap : Nat} (hcap : n ≤ cap) (hb : cap * 8 ≤ 536870912) (hc : cells + 1 ≤ R.cells) (hl : slots + cap ≤ R.slots) :
    ∃ T' h' k, Stand p l e R s m args below meth c T' locs (cells + 1) (slots + cap) ∧ T'.heap = h' ∧ Ext h h' ∧ own_Ar Z h' h.size k (.object C) n (fun _ => .null) ∧ Ovr Z k C ∧
      ∀ target, Steps p.tables e below (T'.setTop { g with pc := g.pc + 3, stack := .ref h.size :: rest }) target → Steps p.tables e below (T.setTop g) target := by
  obtain ⟨T', h', cA, X', e', E, A, O, st⟩ := newR X hx hZ hown w1 w2 eT hg hd hs hz (cap := cap) (by rw [hzn]; exact hcap) hb hc hl
  refine ⟨T', h', cA, X', e', E, ⟨_, A, rfl, (sz_new _ _ _).trans hzn, by omega, fun i hi => ?_⟩, O, st⟩
  have hs : i < z.toNatClampNeg := by rw [hzn]; exact hi
  simp [newA, hs, defaultValue]
theorem own_Ar.sto {C : String} {y : Addr} (F : own_Ar Z h a k ty n f) (O : Ovr Z k C) (I : Ins Z h y C true) : Sto Z h a (.ref y) := by
  obtain ⟨cl, A, r1, -⟩ := F
  exact Sto.of A (r1 ▸ O) I
end OwnArrays
theorem pnn_1 : plainName "com/example/ledgerline/ledgerline/TextBuffer" = true := by first | (simp [plainName, overriddenIn]; done) | decide +kernel
theorem pn_1 : plainFor (⟨"com/example/ledgerline/ledgerline/TextBuffer", "<init>", "(I)V"⟩ : MethodName) = true := plainFor_of_name pnn_1
theorem d1_0 : decode prog_39_method_2_code 0 = .ok (.aload_n 0, 1) := by decide +kernel
theorem d1_1 : decode prog_39_method_2_code 1 = .ok (.invokespecial 7, 3) := by decide +kernel
theorem d1_4 : decode prog_39_method_2_code 4 = .ok (.aload_n 0, 1) := by decide +kernel
theorem d1_5 : decode prog_39_method_2_code 5 = .ok (.iload_n 1, 1) := by decide +kernel
theorem d1_6 : decode prog_39_method_2_code 6 = .ok (.newarray .byte, 2) := by decide +kernel
theorem d1_8 : decode prog_39_method_2_code 8 = .ok (.putfield 12, 3) := by decide +kernel
theorem d1_11 : decode prog_39_method_2_code 11 = .ok (.return_, 1) := by decide +kernel
theorem pnn_5 : plainName "com/example/ledgerline/ledgerline/TextBuffer" = true := by first | (simp [plainName, overriddenIn]; done) | decide +kernel
theorem pn_5 : plainFor (⟨"com/example/ledgerline/ledgerline/TextBuffer", "latin1", "(C)B"⟩ : MethodName) = true := plainFor_of_name pnn_5
theorem d5_0 : decode prog_39_method_19_code 0 = .ok (.iload_n 0, 1) := by decide +kernel
theorem d5_1 : decode prog_39_method_19_code 1 = .ok (.sipush 255, 3) := by decide +kernel
theorem d5_4 : decode prog_39_method_19_code 4 = .ok (.if_icmp .le 27, 3) := by decide +kernel
theorem d5_31 : decode prog_39_method_19_code 31 = .ok (.iload_n 0, 1) := by decide +kernel
theorem d5_32 : decode prog_39_method_19_code 32 = .ok (.i2b, 1) := by decide +kernel
theorem d5_33 : decode prog_39_method_19_code 33 = .ok (.ireturn, 1) := by decide +kernel
theorem pnn_4 : plainName "com/example/ledgerline/ledgerline/TextBuffer" = true := by first | (simp [plainName, overriddenIn]; done) | decide +kernel
theorem pn_4 : plainFor (⟨"com/example/ledgerline/ledgerline/TextBuffer", "reserve", "(I)V"⟩ : MethodName) = true := plainFor_of_name pnn_4
theorem d4_0 : decode prog_39_method_17_code 0 = .ok (.iload_n 1, 1) := by decide +kernel
theorem d4_1 : decode prog_39_method_17_code 1 = .ok (.aload_n 0, 1) := by decide +kernel
theorem d4_2 : decode prog_39_method_17_code 2 = .ok (.getfield 12, 3) := by decide +kernel
theorem d4_5 : decode prog_39_method_17_code 5 = .ok (.arraylength, 1) := by decide +kernel
theorem d4_6 : decode prog_39_method_17_code 6 = .ok (.aload_n 0, 1) := by decide +kernel
theorem d4_7 : decode prog_39_method_17_code 7 = .ok (.getfield 16, 3) := by decide +kernel
theorem d4_10 : decode prog_39_method_17_code 10 = .ok (.isub, 1) := by decide +kernel
theorem d4_11 : decode prog_39_method_17_code 11 = .ok (.if_icmp .le 8, 3) := by decide +kernel
theorem d4_19 : decode prog_39_method_17_code 19 = .ok (.return_, 1) := by decide +kernel
theorem pnn_3 : plainName "com/example/ledgerline/ledgerline/TextBuffer" = true := by first | (simp [plainName, overriddenIn]; done) | decide +kernel
theorem pn_3 : plainFor (⟨"com/example/ledgerline/ledgerline/TextBuffer", "append", "(C)Lcom/example/ledgerline/ledgerline/TextBuffer;"⟩ : MethodName) = true := plainFor_of_name pnn_3
theorem d3_0 : decode prog_39_method_8_code 0 = .ok (.aload_n 0, 1) := by decide +kernel
theorem d3_1 : decode prog_39_method_8_code 1 = .ok (.iconst 1, 1) := by decide +kernel
theorem pd_0 : parseMethodDescriptor "(I)V" = some ⟨[.int], none⟩ := by decide +kernel
theorem d3_2 : decode prog_39_method_8_code 2 = .ok (.invokevirtual 41, 3) := by decide +kernel
theorem d3_5 : decode prog_39_method_8_code 5 = .ok (.aload_n 0, 1) := by decide +kernel
theorem d3_6 : decode prog_39_method_8_code 6 = .ok (.getfield 12, 3) := by decide +kernel
theorem d3_9 : decode prog_39_method_8_code 9 = .ok (.aload_n 0, 1) := by decide +kernel
theorem d3_10 : decode prog_39_method_8_code 10 = .ok (.dup, 1) := by decide +kernel
theorem d3_11 : decode prog_39_method_8_code 11 = .ok (.getfield 16, 3) := by decide +kernel
theorem d3_14 : decode prog_39_method_8_code 14 = .ok (.dup_x1, 1) := by decide +kernel
theorem d3_15 : decode prog_39_method_8_code 15 = .ok (.iconst 1, 1) := by decide +kernel
theorem d3_16 : decode prog_39_method_8_code 16 = .ok (.iadd, 1) := by decide +kernel
theorem d3_17 : decode prog_39_method_8_code 17 = .ok (.putfield 16, 3) := by decide +kernel
theorem d3_20 : decode prog_39_method_8_code 20 = .ok (.iload_n 1, 1) := by decide +kernel
theorem pd_1 : parseMethodDescriptor "(C)B" = some ⟨[.char], some .byte⟩ := by decide +kernel
theorem d3_21 : decode prog_39_method_8_code 21 = .ok (.invokestatic 44, 3) := by decide +kernel
theorem d3_24 : decode prog_39_method_8_code 24 = .ok (.bastore, 1) := by decide +kernel
theorem d3_25 : decode prog_39_method_8_code 25 = .ok (.aload_n 0, 1) := by decide +kernel
theorem d3_26 : decode prog_39_method_8_code 26 = .ok (.areturn, 1) := by decide +kernel
theorem pnn_6 : plainName "com/example/ledgerline/ledgerline/TextBufferHoldsAnyPinLaw" = true := by first | (simp [plainName, overriddenIn]; done) | decide +kernel
theorem pn_6 : plainFor (⟨"com/example/ledgerline/ledgerline/TextBufferHoldsAnyPinLaw", "hit", "(IIIIII)Z"⟩ : MethodName) = true := plainFor_of_name pnn_6
theorem d6_0 : decode method_3_code 0 = .ok (.iload_n 3, 1) := by decide +kernel
theorem d6_1 : decode method_3_code 1 = .ok (.iload_n 0, 1) := by decide +kernel
theorem d6_2 : decode method_3_code 2 = .ok (.if_icmp .gt 24, 3) := by decide +kernel
theorem d6_26 : decode method_3_code 26 = .ok (.iconst 0, 1) := by decide +kernel
theorem d6_27 : decode method_3_code 27 = .ok (.ireturn, 1) := by decide +kernel
theorem d6_5 : decode method_3_code 5 = .ok (.iload_n 0, 1) := by decide +kernel
theorem d6_6 : decode method_3_code 6 = .ok (.iload_n 2, 1) := by decide +kernel
theorem d6_7 : decode method_3_code 7 = .ok (.if_icmp .ge 19, 3) := by decide +kernel
theorem d6_10 : decode method_3_code 10 = .ok (.iload_n 1, 1) := by decide +kernel
theorem d6_11 : decode method_3_code 11 = .ok (.iload 4, 2) := by decide +kernel
theorem d6_13 : decode method_3_code 13 = .ok (.if_icmp .eq 9, 3) := by decide +kernel
theorem d6_22 : decode method_3_code 22 = .ok (.iconst 1, 1) := by decide +kernel
theorem d6_23 : decode method_3_code 23 = .ok (.goto 4, 3) := by decide +kernel
theorem d6_16 : decode method_3_code 16 = .ok (.iload_n 1, 1) := by decide +kernel
theorem d6_17 : decode method_3_code 17 = .ok (.iload 5, 2) := by decide +kernel
theorem d6_19 : decode method_3_code 19 = .ok (.if_icmp .ne 7, 3) := by decide +kernel
theorem pnn_7 : plainName "com/example/ledgerline/ledgerline/TextBuffer" = true := by first | (simp [plainName, overriddenIn]; done) | decide +kernel
theorem pn_7 : plainFor (⟨"com/example/ledgerline/ledgerline/TextBuffer", "holdsAny", "(I[Z)Z"⟩ : MethodName) = true := plainFor_of_name pnn_7
theorem d7_0 : decode prog_39_method_6_code 0 = .ok (.iload_n 1, 1) := by decide +kernel
theorem d7_1 : decode prog_39_method_6_code 1 = .ok (.istore_n 3, 1) := by decide +kernel
theorem d7_2 : decode prog_39_method_6_code 2 = .ok (.iload_n 3, 1) := by decide +kernel
theorem d7_3 : decode prog_39_method_6_code 3 = .ok (.aload_n 0, 1) := by decide +kernel
theorem d7_4 : decode prog_39_method_6_code 4 = .ok (.getfield 16, 3) := by decide +kernel
theorem d7_7 : decode prog_39_method_6_code 7 = .ok (.if_icmp .ge 26, 3) := by decide +kernel
theorem d7_33 : decode prog_39_method_6_code 33 = .ok (.iconst 0, 1) := by decide +kernel
theorem d7_34 : decode prog_39_method_6_code 34 = .ok (.ireturn, 1) := by decide +kernel
theorem d7_10 : decode prog_39_method_6_code 10 = .ok (.aload_n 2, 1) := by decide +kernel
theorem d7_11 : decode prog_39_method_6_code 11 = .ok (.aload_n 0, 1) := by decide +kernel
theorem d7_12 : decode prog_39_method_6_code 12 = .ok (.getfield 12, 3) := by decide +kernel
theorem d7_15 : decode prog_39_method_6_code 15 = .ok (.iload_n 3, 1) := by decide +kernel
theorem d7_16 : decode prog_39_method_6_code 16 = .ok (.baload, 1) := by decide +kernel
theorem d7_17 : decode prog_39_method_6_code 17 = .ok (.sipush 255, 3) := by decide +kernel
theorem d7_20 : decode prog_39_method_6_code 20 = .ok (.iand, 1) := by decide +kernel
theorem d7_21 : decode prog_39_method_6_code 21 = .ok (.baload, 1) := by decide +kernel
theorem d7_22 : decode prog_39_method_6_code 22 = .ok (.ifCond .eq 5, 3) := by decide +kernel
theorem d7_27 : decode prog_39_method_6_code 27 = .ok (.iinc 3 1, 3) := by decide +kernel
theorem d7_30 : decode prog_39_method_6_code 30 = .ok (.goto (-28), 3) := by decide +kernel
theorem d7_25 : decode prog_39_method_6_code 25 = .ok (.iconst 1, 1) := by decide +kernel
theorem d7_26 : decode prog_39_method_6_code 26 = .ok (.ireturn, 1) := by decide +kernel
theorem pnn_0 : plainName "com/example/ledgerline/ledgerline/TextBufferHoldsAnyPinLaw" = true := by first | (simp [plainName, overriddenIn]; done) | decide +kernel
theorem pn_0 : plainFor (⟨"com/example/ledgerline/ledgerline/TextBufferHoldsAnyPinLaw", "law", "(IIII)Z"⟩ : MethodName) = true := plainFor_of_name pnn_0
theorem pd_2 : parseMethodDescriptor "(IIIIII)Z" = some ⟨[.int, .int, .int, .int, .int, .int], some .boolean⟩ := by decide +kernel
theorem pd_3 : parseMethodDescriptor "(I[Z)Z" = some ⟨[.int, (.array .boolean)], some .boolean⟩ := by decide +kernel
theorem pd_4 : parseMethodDescriptor "(C)Lcom/example/ledgerline/ledgerline/TextBuffer;" = some ⟨[.char], some (.object "com/example/ledgerline/ledgerline/TextBuffer")⟩ := by decide +kernel
abbrev own_by (x : Int32) : Int32 := nar .byte (x.toInt8.toInt32)
def own_hit (i c n fr m1 m2 : Int32) : Int32 := if i < fr then 0 else if i < n then (if c = m1 then 1 else if c = m2 then 1 else 0) else 0
def own_hol (mk : Nat → Int32) (bv : Nat → Int32) : Nat → Nat → Int32
  | _, 0 => 0
  | i, k + 1 => if mk (bv i &&& 255).toNatClampNeg = 0 then own_hol mk bv (i + 1) k else 1
def own_mk (m1 m2 : Int32) (j : Nat) : Int32 := if j = m2.toNatClampNeg then 1 else if j = m1.toNatClampNeg then 1 else 0
theorem own_hol01 (mk bv : Nat → Int32) (i k : Nat) : own_hol mk bv i k = 0 ∨ own_hol mk bv i k = 1 := by
  induction k generalizing i with
  | zero => exact Or.inl rfl
  | succ k ih => unfold own_hol; split
                 · exact ih _
                 · exact Or.inr rfl
theorem own_and3 (x : Int32) : x &&& (3 : Int32) = 0 ∨ x &&& (3 : Int32) = 1 ∨ x &&& (3 : Int32) = 2 ∨ x &&& (3 : Int32) = 3 := by
  have e := c_mask x 3 2 (by decide) (by decide)
  have d0 : (0 : Int32).toInt = 0 := by decide
  have d1 : (1 : Int32).toInt = 1 := by decide
  have d2 : (2 : Int32).toInt = 2 := by decide
  have d3 : (3 : Int32).toInt = 3 := by decide
  simp only [← Int32.toInt_inj, e, d0, d1, d2, d3]
  omega
theorem own_b (x : Int32) : 0 ≤ (x &&& (255 : Int32)).toInt ∧ (x &&& (255 : Int32)).toInt ≤ 255 := c_and x 255 (by decide)
theorem own_bn (x : Int32) : ¬ (x &&& (255 : Int32)) < 0 := by
  intro q
  rw [Int32.lt_iff_toInt_lt] at q
  have := own_b x
  have d : (0 : Int32).toInt = 0 := by decide
  omega
theorem own_b256 (x : Int32) : (x &&& (255 : Int32)).toNatClampNeg < 256 := by
  have := own_b x
  have e := nat_of (own_bn x)
  omega
theorem own_b255 (x : Int32) : ¬ (255 : Int32) < (x &&& (255 : Int32)) := by
  intro q
  rw [Int32.lt_iff_toInt_lt] at q
  have := own_b x
  have d : (255 : Int32).toInt = 255 := by decide
  omega
theorem own_by255 (x : Int32) : own_by (x &&& (255 : Int32)) &&& (255 : Int32) = x &&& (255 : Int32) := by
  apply Int32.toInt_inj.mp
  have h1 := c_mask (own_by (x &&& 255)) 255 8 (by decide) (by decide)
  have h2 := c_i2b (x &&& 255).toInt8.toInt32
  have h3 := c_i2b (x &&& 255)
  have h4 := own_b x
  have e : own_by (x &&& 255) = (x &&& 255).toInt8.toInt32.toInt8.toInt32 := rfl
  rw [h1, e]
  omega
theorem own_nat_inj {x y : Int32} (hx : ¬ x < 0) (hy : ¬ y < 0) : x.toNatClampNeg = y.toNatClampNeg ↔ x = y := by
  constructor
  · intro q
    apply Int32.toInt_inj.mp
    rw [nat_of hx, nat_of hy, q]
  · intro q; rw [q]
theorem own_mk_hit (c m1 m2 : Int32) : own_mk (m1 &&& 255) (m2 &&& 255) (c &&& 255).toNatClampNeg = if (c &&& 255) = (m1 &&& 255) then 1 else if (c &&& 255) = (m2 &&& 255) then 1 else 0 := by
  unfold own_mk
  simp only [own_nat_inj (own_bn _) (own_bn _)]
  by_cases q1 : (c &&& 255) = (m1 &&& 255) <;> by_cases q2 : (c &&& 255) = (m2 &&& 255) <;> simp [q1, q2]
theorem own_from (x n : Int32) (hn : 0 < n.toInt) : ∃ i : Nat, i < n.toInt ∧ (x &&& 2147483647) % n = Int32.ofNat i := by
  have a := c_and x 2147483647 (by decide)
  have e := (c_iremV (x &&& 2147483647) n).1 a.1 hn
  refine ⟨((x &&& 2147483647) % n).toInt.toNat, by omega, ?_⟩
  apply Int32.toInt_inj.mp
  have r := rng32 ((x &&& 2147483647) % n)
  rw [Int32.toInt_ofNat_small (by omega)]
  omega
set_option maxRecDepth 65536 in
set_option maxHeartbeats 40000000 in
theorem rm1 (l : Launch) (Z : State) (a0 : Array Value) (hw : ∀ d ∈ tables_1, d.before a0 Z = true) (o0 : Addr) (p1 : Int32) (h0 : Heap) (n0 : Nat) (Z0 : n0 ≤ h0.size) (E : Exa Z h0 o0 "com/example/ledgerline/ledgerline/TextBuffer") (FB : Fld Z h0 o0 "com/example/ledgerline/ledgerline/TextBuffer" "bytes" "[B" .null) (FL : Fld Z h0 o0 "com/example/ledgerline/ledgerline/TextBuffer" "length" "I" (.int (0 : Int32))) (g : n0 ≤ o0) (hp : p1 = 4) :
    own_C l (⟨"com/example/ledgerline/ledgerline/TextBuffer", "<init>", "(I)V"⟩ : MethodName) prog_39_method_2_code 2 none ({ frames := 1, cells := 1, slots := 4, locals := 12 } : Room) Z #[(.ref o0), (.int p1)] h0 (fun v h L => ∃ (ba : Addr) (kb : ClassId), v = none ∧ Fr n0 L ∧ Keep h0 h [o0] ∧ Exa Z h o0 "com/example/ledgerline/ledgerline/TextBuffer" ∧ Fld Z h o0 "com/example/ledgerline/ledgerline/TextBuffer" "bytes" "[B" (.ref ba) ∧ Fld Z h o0 "com/example/ledgerline/ledgerline/TextBuffer" "length" "I" (.int (0 : Int32)) ∧ own_Ar Z h ba kb .byte 4 (fun _ => .int (0 : Int32)) ∧ h0.size ≤ ba) := by
  refine own_enter pn_1 ?_
  intro p e s m below meth c s₁ X0 hx hby hml hown hnm hret hlk hZ e0
  replace hown : s.vm.findClass "com/example/ledgerline/ledgerline/TextBuffer" = some m.cls := hown
  have ef : entryFrame m #[(.ref o0), (.int p1)] 2 = mkF m 0 #[.val (.ref o0), .val (.int p1)] [] := by first | rfl | (simp [entryFrame, mkF, argsToLocals, Value.category, maxLocals]; done)
  refine own_cast ef ?_
  show own_Ends _ _ _ _ _ _ _ s₁ (mkF m 0 #[.val (.ref o0), .val (.int p1)] [])
  subst hp
  show own_Ends _ _ _ _ _ _ _ s₁ (mkF m 0 #[.val (.ref o0), .val (.int (4 : Int32))] [])
  have N0 := Fr.nil n0
  have K0 : Keep h0 h0 [o0] := Keep.refl _ _
  refine own_go (fun _ k => XS.aloadN X0.here hx rfl (hb hby d1_0) rfl rfl k) ?_
  show own_Ends _ _ _ _ _ _ _ s₁ (mkF m 1 #[.val (.ref o0), .val (.int (4 : Int32))] [(.ref o0)])
  obtain ⟨T1, X1, e1, st1⟩ := initO X0 hx hZ hown (hw _ (List.mem_of_getElem? (i := 8) rfl)) (hw _ (List.mem_of_getElem? (i := 9) rfl)) (hw _ (List.mem_of_getElem? (i := 10) rfl)) e0 (g := (mkF m 1 #[.val (.ref o0), .val (.int (4 : Int32))] [(.ref o0)])) rfl (by rw [hml]; rfl) rfl (hb hby d1_1) (by decide) (W := 0) (by show 2 * 0 + _ ≤ _; exact Nat.le_of_eq rfl) (by decide)
  refine own_go st1 ?_
  show own_Ends _ _ _ _ _ _ _ T1 (mkF m 4 #[.val (.ref o0), .val (.int (4 : Int32))] [])
  refine own_go (fun _ k => XS.aloadN X1.here hx rfl (hb hby d1_4) rfl rfl k) ?_
  show own_Ends _ _ _ _ _ _ _ T1 (mkF m 5 #[.val (.ref o0), .val (.int (4 : Int32))] [(.ref o0)])
  refine own_go (fun _ k => XS.iloadN X1.here hx rfl (hb hby d1_5) rfl k) ?_
  show own_Ends _ _ _ _ _ _ _ T1 (mkF m 6 #[.val (.ref o0), .val (.int (4 : Int32))] [(.int (4 : Int32)), (.ref o0)])
  obtain ⟨T2, h2, k2, X2, e2, E2, A2, st2⟩ := own_newP X1 hx hZ (aty := .byte) (hw _ (List.mem_of_getElem? (i := 11) rfl)) e1 (g := (mkF m 6 #[.val (.ref o0), .val (.int (4 : Int32))] [(.int (4 : Int32)), (.ref o0)])) rfl (hb hby d1_6) rfl (by decide) (n := 4) (by decide) (cap := 4) (by decide) (by decide) (by decide) (by decide)
  obtain ⟨ba, gq2⟩ : ∃ z, z = h0.size := ⟨_, rfl⟩
  rw [← gq2] at A2 st2
  have ne_o0_ba : o0 ≠ ba := Nat.ne_of_lt (Nat.lt_of_lt_of_le E.lt (Nat.le_of_eq gq2.symm))
  have sz_ba : h0.size ≤ ba := Nat.le_trans K0.1 (Nat.le_of_eq gq2.symm)
  have g_ba : n0 ≤ ba := Nat.le_trans Z0 sz_ba
  have K_2 := K0.ext E2
  have E_o0_2 := E.ext E2
  have F_o0_bytes_2 := FB.ext E2
  have F_o0_length_2 := FL.ext E2
  have V_ba : own_Ar Z h2 ba k2 .byte 4 (fun _ => (.int (0 : Int32))) := A2
  refine own_go st2 ?_
  show own_Ends _ _ _ _ _ _ _ T2 (mkF m 8 #[.val (.ref o0), .val (.int (4 : Int32))] [(.ref ba), (.ref o0)])
  obtain ⟨T3, h3, X3, e3, W3, st3⟩ := putF X2 hx hZ hown (host := "") (Or.inl (hw _ (List.mem_of_getElem? (i := 12) rfl))) Via.refl e2 F_o0_bytes_2 E_o0_2 (Or.inl (hw _ (List.mem_of_getElem? (i := 13) rfl))) (hw _ (List.mem_of_getElem? (i := 3) rfl)) (ty := (.array .byte)) (by decide) rfl rfl (g := (mkF m 8 #[.val (.ref o0), .val (.int (4 : Int32))] [(.ref ba), (.ref o0)])) rfl rfl (hb hby d1_8)
  have N3 := Fr.snoc X3 N0 g
  have K_3 := K_2.wr W3 (Or.inl (List.mem_of_getElem? (i := 0) rfl))
  have E_o0_3 := E_o0_2.wr W3
  have F_o0_bytes_3 := F_o0_bytes_2.same W3
  have F_o0_length_3 := F_o0_length_2.other W3 (Or.inr (slot_ne (Or.inl (hw _ (List.mem_of_getElem? (i := 24) rfl))) (Or.inl (hw _ (List.mem_of_getElem? (i := 13) rfl))) (by decide) (t := .int) (t' := (.array .byte)) (by decide) (by decide)))
  have V_ba_3 := V_ba.other W3 (Ne.symm ne_o0_ba)
  refine own_go st3 ?_
  show own_Ends _ _ _ _ _ _ _ T3 (mkF m 11 #[.val (.ref o0), .val (.int (4 : Int32))] [])
  exact own_retV X3 hx hlk hret (hb hby d1_11) (by decide) (by decide) (by rw [e3]; exact ⟨ba, k2, rfl, N3, K_3, E_o0_3, F_o0_bytes_3, F_o0_length_3, V_ba_3, sz_ba⟩)
theorem own_nb (x : Int32) : narrow .byte (.int x.toInt8.toInt32) = .int x.toInt8.toInt32 := by
  show Value.int x.toInt8.toInt32.toInt8.toInt32 = _
  simp
set_option maxRecDepth 65536 in
set_option maxHeartbeats 40000000 in
theorem rm5 (l : Launch) (Z : State) (a0 : Array Value) (hw : ∀ d ∈ tables_1, d.before a0 Z = true) (p0 : Int32) (h0 : Heap) (hp : ¬ (255 : Int32) < p0) :
    own_C l (⟨"com/example/ledgerline/ledgerline/TextBuffer", "latin1", "(C)B"⟩ : MethodName) prog_39_method_19_code 1 (some .byte) ({ frames := 0, cells := 0, slots := 0, locals := 0 } : Room) Z #[(.int p0)] h0 (fun v h L => v = some (.int p0.toInt8.toInt32) ∧ L = [] ∧ h = h0) := by
  refine own_enter pn_5 ?_
  intro p e s m below meth c s₁ X0 hx hby hml hown hnm hret hlk hZ e0
  replace hown : s.vm.findClass "com/example/ledgerline/ledgerline/TextBuffer" = some m.cls := hown
  have ef : entryFrame m #[(.int p0)] 1 = mkF m 0 #[.val (.int p0)] [] := by first | rfl | (simp [entryFrame, mkF, argsToLocals, Value.category, maxLocals]; done)
  refine own_cast ef ?_
  show own_Ends _ _ _ _ _ _ _ s₁ (mkF m 0 #[.val (.int p0)] [])
  refine own_go (fun _ k => XS.iloadN X0.here hx rfl (hb hby d5_0) rfl k) ?_
  show own_Ends _ _ _ _ _ _ _ s₁ (mkF m 1 #[.val (.int p0)] [(.int p0)])
  refine own_go (fun _ k => XS.sipush X0.here hx rfl (hb hby d5_1) k) ?_
  show own_Ends _ _ _ _ _ _ _ s₁ (mkF m 4 #[.val (.int p0)] [(.int (255 : Int32)), (.int p0)])
  refine own_go (fun _ k => XS.icmpYes X0.here hx rfl (pc0 := 4) (pc' := 31) rfl (hb hby d5_4) rfl (flt hp).2.2.2 (by decide) (by decide) k) ?_
  show own_Ends _ _ _ _ _ _ _ s₁ (mkF m 31 #[.val (.int p0)] [])
  refine own_go (fun _ k => XS.iloadN X0.here hx rfl (hb hby d5_31) rfl k) ?_
  show own_Ends _ _ _ _ _ _ _ s₁ (mkF m 32 #[.val (.int p0)] [(.int p0)])
  refine own_go (fun _ k => XS.i2b X0.here hx rfl (hb hby d5_32) rfl k) ?_
  show own_Ends _ _ _ _ _ _ _ s₁ (mkF m 33 #[.val (.int p0)] [(.int (p0.toInt8.toInt32))])
  exact own_ret X0 hx hlk hret (own_nb _) (Or.inl ⟨rfl, by simp, _, rfl⟩) (hb hby d5_33) (by decide) (by decide) ⟨rfl, rfl, e0⟩
set_option maxRecDepth 65536 in
set_option maxHeartbeats 40000000 in
theorem rm4_0 (l : Launch) (Z : State) (a0 : Array Value) (hw : ∀ d ∈ tables_1, d.before a0 Z = true) (o0 : Addr) (p1 : Int32) (h0 : Heap) (n0 : Nat) (ba : Addr) (kb : ClassId) (f : Nat → Value) (Z0 : n0 ≤ h0.size) (E : Exa Z h0 o0 "com/example/ledgerline/ledgerline/TextBuffer") (FB : Fld Z h0 o0 "com/example/ledgerline/ledgerline/TextBuffer" "bytes" "[B" (.ref ba)) (FL : Fld Z h0 o0 "com/example/ledgerline/ledgerline/TextBuffer" "length" "I" (.int (0 : Int32))) (A : own_Ar Z h0 ba kb .byte 4 f) (hne : o0 ≠ ba) (g : n0 ≤ o0) (gb : n0 ≤ ba) (hp : p1 = 1) :
    own_C l (⟨"com/example/ledgerline/ledgerline/TextBuffer", "reserve", "(I)V"⟩ : MethodName) prog_39_method_17_code 2 none ({ frames := 0, cells := 0, slots := 0, locals := 0 } : Room) Z #[(.ref o0), (.int p1)] h0 (fun v h L => v = none ∧ L = [] ∧ h = h0) := by
  refine own_enter pn_4 ?_
  intro p e s m below meth c s₁ X0 hx hby hml hown hnm hret hlk hZ e0
  replace hown : s.vm.findClass "com/example/ledgerline/ledgerline/TextBuffer" = some m.cls := hown
  have ef : entryFrame m #[(.ref o0), (.int p1)] 2 = mkF m 0 #[.val (.ref o0), .val (.int p1)] [] := by first | rfl | (simp [entryFrame, mkF, argsToLocals, Value.category, maxLocals]; done)
  refine own_cast ef ?_
  show own_Ends _ _ _ _ _ _ _ s₁ (mkF m 0 #[.val (.ref o0), .val (.int p1)] [])
  subst hp
  show own_Ends _ _ _ _ _ _ _ s₁ (mkF m 0 #[.val (.ref o0), .val (.int (1 : Int32))] [])
  refine own_go (fun _ k => XS.iloadN X0.here hx rfl (hb hby d4_0) rfl k) ?_
  show own_Ends _ _ _ _ _ _ _ s₁ (mkF m 1 #[.val (.ref o0), .val (.int (1 : Int32))] [(.int (1 : Int32))])
  refine own_go (fun _ k => XS.aloadN X0.here hx rfl (hb hby d4_1) rfl rfl k) ?_
  show own_Ends _ _ _ _ _ _ _ s₁ (mkF m 2 #[.val (.ref o0), .val (.int (1 : Int32))] [(.ref o0), (.int (1 : Int32))])
  obtain ⟨T4, X4, e4, st4⟩ := getF X0 hx hZ hown (host := "") (Or.inl (hw _ (List.mem_of_getElem? (i := 12) rfl))) Via.refl e0 FB (g := (mkF m 2 #[.val (.ref o0), .val (.int (1 : Int32))] [(.ref o0), (.int (1 : Int32))])) rfl rfl (hb hby d4_2)
  refine own_go st4 ?_
  show own_Ends _ _ _ _ _ _ _ T4 (mkF m 5 #[.val (.ref o0), .val (.int (1 : Int32))] [(.ref ba), (.int (1 : Int32))])
  refine own_go (fun _ k => own_len X4 hx hZ e4 A (z := (4 : Int32)) rfl (g := (mkF m 5 #[.val (.ref o0), .val (.int (1 : Int32))] [(.ref ba), (.int (1 : Int32))])) rfl rfl (hb hby d4_5) _ k) ?_
  show own_Ends _ _ _ _ _ _ _ T4 (mkF m 6 #[.val (.ref o0), .val (.int (1 : Int32))] [(.int (4 : Int32)), (.int (1 : Int32))])
  refine own_go (fun _ k => XS.aloadN X4.here hx rfl (hb hby d4_6) rfl rfl k) ?_
  show own_Ends _ _ _ _ _ _ _ T4 (mkF m 7 #[.val (.ref o0), .val (.int (1 : Int32))] [(.ref o0), (.int (4 : Int32)), (.int (1 : Int32))])
  obtain ⟨T5, X5, e5, st5⟩ := getF X4 hx hZ hown (host := "") (Or.inl (hw _ (List.mem_of_getElem? (i := 23) rfl))) Via.refl e4 FL (g := (mkF m 7 #[.val (.ref o0), .val (.int (1 : Int32))] [(.ref o0), (.int (4 : Int32)), (.int (1 : Int32))])) rfl rfl (hb hby d4_7)
  refine own_go st5 ?_
  show own_Ends _ _ _ _ _ _ _ T5 (mkF m 10 #[.val (.ref o0), .val (.int (1 : Int32))] [(.int (0 : Int32)), (.int (4 : Int32)), (.int (1 : Int32))])
  refine own_go (fun _ k => XS.isub X5.here hx rfl (hb hby d4_10) rfl k) ?_
  show own_Ends _ _ _ _ _ _ _ T5 (mkF m 11 #[.val (.ref o0), .val (.int (1 : Int32))] [(.int ((4 : Int32) - (0 : Int32))), (.int (1 : Int32))])
  refine own_go (fun _ k => XS.icmpYes X5.here hx rfl (pc0 := 11) (pc' := 19) rfl (hb hby d4_11) rfl (flt (by decide)).2.2.2 (by decide) (by decide) k) ?_
  show own_Ends _ _ _ _ _ _ _ T5 (mkF m 19 #[.val (.ref o0), .val (.int (1 : Int32))] [])
  exact own_retV X5 hx hlk hret (hb hby d4_19) (by decide) (by decide) ⟨rfl, rfl, e5⟩
set_option maxRecDepth 65536 in
set_option maxHeartbeats 40000000 in
theorem rm3_0 (l : Launch) (Z : State) (a0 : Array Value) (hw : ∀ d ∈ tables_1, d.before a0 Z = true) (o0 : Addr) (p1 : Int32) (h0 : Heap) (n0 : Nat) (ba : Addr) (kb : ClassId) (f : Nat → Value) (Z0 : n0 ≤ h0.size) (E : Exa Z h0 o0 "com/example/ledgerline/ledgerline/TextBuffer") (FB : Fld Z h0 o0 "com/example/ledgerline/ledgerline/TextBuffer" "bytes" "[B" (.ref ba)) (FL : Fld Z h0 o0 "com/example/ledgerline/ledgerline/TextBuffer" "length" "I" (.int (0 : Int32))) (A : own_Ar Z h0 ba kb .byte 4 f) (hne : o0 ≠ ba) (g : n0 ≤ o0) (gb : n0 ≤ ba) (hp : ¬ (255 : Int32) < p1) :
    own_C l (⟨"com/example/ledgerline/ledgerline/TextBuffer", "append", "(C)Lcom/example/ledgerline/ledgerline/TextBuffer;"⟩ : MethodName) prog_39_method_8_code 2 (some (.object "com/example/ledgerline/ledgerline/TextBuffer")) ({ frames := 1, cells := 0, slots := 0, locals := 40 } : Room) Z #[(.ref o0), (.int p1)] h0 (fun v h L => v = some (.ref o0) ∧ Fr n0 L ∧ Keep h0 h [o0, ba] ∧ Exa Z h o0 "com/example/ledgerline/ledgerline/TextBuffer" ∧ Fld Z h o0 "com/example/ledgerline/ledgerline/TextBuffer" "bytes" "[B" (.ref ba) ∧ Fld Z h o0 "com/example/ledgerline/ledgerline/TextBuffer" "length" "I" (.int (1 : Int32)) ∧ own_Ar Z h ba kb .byte 4 (fun j => if j = 0 then .int (own_by p1) else f j)) := by
  refine own_enter pn_3 ?_
  intro p e s m below meth c s₁ X0 hx hby hml hown hnm hret hlk hZ e0
  replace hown : s.vm.findClass "com/example/ledgerline/ledgerline/TextBuffer" = some m.cls := hown
  have ef : entryFrame m #[(.ref o0), (.int p1)] 2 = mkF m 0 #[.val (.ref o0), .val (.int p1)] [] := by first | rfl | (simp [entryFrame, mkF, argsToLocals, Value.category, maxLocals]; done)
  refine own_cast ef ?_
  show own_Ends _ _ _ _ _ _ _ s₁ (mkF m 0 #[.val (.ref o0), .val (.int p1)] [])
  have N0 := Fr.nil n0
  have K0 : Keep h0 h0 [o0, ba] := Keep.refl _ _
  refine own_go (fun _ k => XS.aloadN X0.here hx rfl (hb hby d3_0) rfl rfl k) ?_
  show own_Ends _ _ _ _ _ _ _ s₁ (mkF m 1 #[.val (.ref o0), .val (.int p1)] [(.ref o0)])
  refine own_go (fun _ k => XS.iconst X0.here hx rfl (hb hby d3_1) k) ?_
  show own_Ends _ _ _ _ _ _ _ s₁ (mkF m 2 #[.val (.ref o0), .val (.int p1)] [(.int (1 : Int32)), (.ref o0)])
  obtain ⟨v6, T6, L6, X6, hQ6, st6⟩ := own_callP X0 hx hZ hown (hw _ (List.mem_of_getElem? (i := 19) rfl)) (hw _ (List.mem_of_getElem? (i := 21) rfl)) (hw _ (List.mem_of_getElem? (i := 3) rfl)) (hw _ (List.mem_of_getElem? (i := 20) rfl)) (hw _ (List.mem_of_getElem? (i := 4) rfl)) (hw _ (List.mem_of_getElem? (i := 22) rfl)) (rm4_0 l Z a0 hw o0 1 h0 n0 ba kb f Z0 E FB FL A hne g gb rfl) e0 (g := (mkF m 2 #[.val (.ref o0), .val (.int p1)] [(.int (1 : Int32)), (.ref o0)])) rfl (by rw [hml]; rfl) (a := o0) (argsL := [(.int (1 : Int32))]) (rest := []) (E) (lenOf pd_0 rfl) rfl rfl (W := 0) (by show 2 * 0 + _ ≤ _; exact Nat.le_of_eq rfl) (hb hby d3_2) (by decide) (by decide) (by decide) (by decide) (by decide)
  obtain ⟨rfl, rfl, e6⟩ := hQ6
  refine own_go st6 ?_
  have N6 := Fr.app N0 (Fr.nil _)
  show own_Ends _ _ _ _ _ _ _ T6 (mkF m 5 #[.val (.ref o0), .val (.int p1)] [])
  refine own_go (fun _ k => XS.aloadN X6.here hx rfl (hb hby d3_5) rfl rfl k) ?_
  show own_Ends _ _ _ _ _ _ _ T6 (mkF m 6 #[.val (.ref o0), .val (.int p1)] [(.ref o0)])
  obtain ⟨T7, X7, e7, st7⟩ := getF X6 hx hZ hown (host := "") (Or.inl (hw _ (List.mem_of_getElem? (i := 12) rfl))) Via.refl e6 FB (g := (mkF m 6 #[.val (.ref o0), .val (.int p1)] [(.ref o0)])) rfl rfl (hb hby d3_6)
  refine own_go st7 ?_
  show own_Ends _ _ _ _ _ _ _ T7 (mkF m 9 #[.val (.ref o0), .val (.int p1)] [(.ref ba)])
  refine own_go (fun _ k => XS.aloadN X7.here hx rfl (hb hby d3_9) rfl rfl k) ?_
  show own_Ends _ _ _ _ _ _ _ T7 (mkF m 10 #[.val (.ref o0), .val (.int p1)] [(.ref o0), (.ref ba)])
  refine own_go (fun _ k => XS.dup X7.here hx rfl (hb hby d3_10) rfl rfl k) ?_
  show own_Ends _ _ _ _ _ _ _ T7 (mkF m 11 #[.val (.ref o0), .val (.int p1)] [(.ref o0), (.ref o0), (.ref ba)])
  obtain ⟨T8, X8, e8, st8⟩ := getF X7 hx hZ hown (host := "") (Or.inl (hw _ (List.mem_of_getElem? (i := 23) rfl))) Via.refl e7 FL (g := (mkF m 11 #[.val (.ref o0), .val (.int p1)] [(.ref o0), (.ref o0), (.ref ba)])) rfl rfl (hb hby d3_11)
  refine own_go st8 ?_
  show own_Ends _ _ _ _ _ _ _ T8 (mkF m 14 #[.val (.ref o0), .val (.int p1)] [(.int (0 : Int32)), (.ref o0), (.ref ba)])
  refine own_go (fun _ k => XS.dupX1 X8.here hx rfl (hb hby d3_14) rfl rfl rfl k) ?_
  show own_Ends _ _ _ _ _ _ _ T8 (mkF m 15 #[.val (.ref o0), .val (.int p1)] [(.int (0 : Int32)), (.ref o0), (.int (0 : Int32)), (.ref ba)])
  refine own_go (fun _ k => XS.iconst X8.here hx rfl (hb hby d3_15) k) ?_
  show own_Ends _ _ _ _ _ _ _ T8 (mkF m 16 #[.val (.ref o0), .val (.int p1)] [(.int (1 : Int32)), (.int (0 : Int32)), (.ref o0), (.int (0 : Int32)), (.ref ba)])
  refine own_go (fun _ k => XS.iadd X8.here hx rfl (hb hby d3_16) rfl k) ?_
  show own_Ends _ _ _ _ _ _ _ T8 (mkF m 17 #[.val (.ref o0), .val (.int p1)] [(.int ((0 : Int32) + (1 : Int32))), (.ref o0), (.int (0 : Int32)), (.ref ba)])
  obtain ⟨T9, h9, X9, e9, W9, st9⟩ := putF X8 hx hZ hown (host := "") (Or.inl (hw _ (List.mem_of_getElem? (i := 23) rfl))) Via.refl e8 FL E (Or.inl (hw _ (List.mem_of_getElem? (i := 24) rfl))) (hw _ (List.mem_of_getElem? (i := 3) rfl)) (ty := .int) (by decide) rfl rfl (g := (mkF m 17 #[.val (.ref o0), .val (.int p1)] [(.int ((0 : Int32) + (1 : Int32))), (.ref o0), (.int (0 : Int32)), (.ref ba)])) rfl rfl (hb hby d3_17)
  have N9 := Fr.snoc X9 N6 g
  have K_9 := K0.wr W9 (Or.inl (List.mem_of_getElem? (i := 0) rfl))
  have E_o0_9 := E.wr W9
  have F_o0_bytes_9 := FB.other W9 (Or.inr (slot_ne (Or.inl (hw _ (List.mem_of_getElem? (i := 13) rfl))) (Or.inl (hw _ (List.mem_of_getElem? (i := 24) rfl))) (by decide) (t := (.array .byte)) (t' := .int) (by decide) (by decide)))
  have F_o0_length_9 := FL.same W9
  have V_ba_9 := A.other W9 (Ne.symm hne)
  refine own_go st9 ?_
  show own_Ends _ _ _ _ _ _ _ T9 (mkF m 20 #[.val (.ref o0), .val (.int p1)] [(.int (0 : Int32)), (.ref ba)])
  refine own_go (fun _ k => XS.iloadN X9.here hx rfl (hb hby d3_20) rfl k) ?_
  show own_Ends _ _ _ _ _ _ _ T9 (mkF m 21 #[.val (.ref o0), .val (.int p1)] [(.int p1), (.int (0 : Int32)), (.ref ba)])
  obtain ⟨v10, T10, L10, X10, hQ10, st10⟩ := own_callS X9 hx hZ hown (hw _ (List.mem_of_getElem? (i := 25) rfl)) (hw _ (List.mem_of_getElem? (i := 26) rfl)) (hw _ (List.mem_of_getElem? (i := 4) rfl)) (hw _ (List.mem_of_getElem? (i := 27) rfl)) (rm5 l Z a0 hw p1 h9 hp) e9 (g := (mkF m 21 #[.val (.ref o0), .val (.int p1)] [(.int p1), (.int (0 : Int32)), (.ref ba)])) rfl (by rw [hml]; rfl) (argsL := [(.int p1)]) (rest := [(.int (0 : Int32)), (.ref ba)]) (lenOf pd_1 rfl) rfl rfl (W := 2) (by show 2 * 0 + _ ≤ _; exact Nat.le_of_eq rfl) (hb hby d3_21) (by decide) (by decide) (by decide) (by decide) (by decide)
  obtain ⟨rfl, rfl, e10⟩ := hQ10
  refine own_go st10 ?_
  have N10 := Fr.app N9 (Fr.nil _)
  show own_Ends _ _ _ _ _ _ _ T10 (mkF m 24 #[.val (.ref o0), .val (.int p1)] [(.int p1.toInt8.toInt32), (.int (0 : Int32)), (.ref ba)])
  obtain ⟨T11, h11, X11, e11, W11, V11, st11⟩ := own_stB X10 hx hZ e10 V_ba_9 (i := 0) (by decide) (by decide) (by decide) (g := (mkF m 24 #[.val (.ref o0), .val (.int p1)] [(.int p1.toInt8.toInt32), (.int (0 : Int32)), (.ref ba)])) rfl rfl (hb hby d3_24)
  have N11 := Fr.snoc X11 N10 gb
  have K_11 := K_9.wr W11 (Or.inl (List.mem_of_getElem? (i := 1) rfl))
  have E_o0_11 := E_o0_9.wr W11
  have F_o0_bytes_11 := F_o0_bytes_9.other W11 (Or.inl hne)
  have F_o0_length_11 := F_o0_length_9.other W11 (Or.inl hne)
  refine own_go st11 ?_
  show own_Ends _ _ _ _ _ _ _ T11 (mkF m 25 #[.val (.ref o0), .val (.int p1)] [])
  refine own_go (fun _ k => XS.aloadN X11.here hx rfl (hb hby d3_25) rfl rfl k) ?_
  show own_Ends _ _ _ _ _ _ _ T11 (mkF m 26 #[.val (.ref o0), .val (.int p1)] [(.ref o0)])
  exact own_retR X11 hx hlk hret rfl rfl rfl (hb hby d3_26) (by decide) (by decide) (by rw [e11]; exact ⟨rfl, N11, K_11, E_o0_11, F_o0_bytes_11, F_o0_length_11, V11⟩)
set_option maxRecDepth 65536 in
set_option maxHeartbeats 40000000 in
theorem rm4_1 (l : Launch) (Z : State) (a0 : Array Value) (hw : ∀ d ∈ tables_1, d.before a0 Z = true) (o0 : Addr) (p1 : Int32) (h0 : Heap) (n0 : Nat) (ba : Addr) (kb : ClassId) (f : Nat → Value) (Z0 : n0 ≤ h0.size) (E : Exa Z h0 o0 "com/example/ledgerline/ledgerline/TextBuffer") (FB : Fld Z h0 o0 "com/example/ledgerline/ledgerline/TextBuffer" "bytes" "[B" (.ref ba)) (FL : Fld Z h0 o0 "com/example/ledgerline/ledgerline/TextBuffer" "length" "I" (.int (1 : Int32))) (A : own_Ar Z h0 ba kb .byte 4 f) (hne : o0 ≠ ba) (g : n0 ≤ o0) (gb : n0 ≤ ba) (hp : p1 = 1) :
    own_C l (⟨"com/example/ledgerline/ledgerline/TextBuffer", "reserve", "(I)V"⟩ : MethodName) prog_39_method_17_code 2 none ({ frames := 0, cells := 0, slots := 0, locals := 0 } : Room) Z #[(.ref o0), (.int p1)] h0 (fun v h L => v = none ∧ L = [] ∧ h = h0) := by
  refine own_enter pn_4 ?_
  intro p e s m below meth c s₁ X0 hx hby hml hown hnm hret hlk hZ e0
  replace hown : s.vm.findClass "com/example/ledgerline/ledgerline/TextBuffer" = some m.cls := hown
  have ef : entryFrame m #[(.ref o0), (.int p1)] 2 = mkF m 0 #[.val (.ref o0), .val (.int p1)] [] := by first | rfl | (simp [entryFrame, mkF, argsToLocals, Value.category, maxLocals]; done)
  refine own_cast ef ?_
  show own_Ends _ _ _ _ _ _ _ s₁ (mkF m 0 #[.val (.ref o0), .val (.int p1)] [])
  subst hp
  show own_Ends _ _ _ _ _ _ _ s₁ (mkF m 0 #[.val (.ref o0), .val (.int (1 : Int32))] [])
  refine own_go (fun _ k => XS.iloadN X0.here hx rfl (hb hby d4_0) rfl k) ?_
  show own_Ends _ _ _ _ _ _ _ s₁ (mkF m 1 #[.val (.ref o0), .val (.int (1 : Int32))] [(.int (1 : Int32))])
  refine own_go (fun _ k => XS.aloadN X0.here hx rfl (hb hby d4_1) rfl rfl k) ?_
  show own_Ends _ _ _ _ _ _ _ s₁ (mkF m 2 #[.val (.ref o0), .val (.int (1 : Int32))] [(.ref o0), (.int (1 : Int32))])
  obtain ⟨T12, X12, e12, st12⟩ := getF X0 hx hZ hown (host := "") (Or.inl (hw _ (List.mem_of_getElem? (i := 12) rfl))) Via.refl e0 FB (g := (mkF m 2 #[.val (.ref o0), .val (.int (1 : Int32))] [(.ref o0), (.int (1 : Int32))])) rfl rfl (hb hby d4_2)
  refine own_go st12 ?_
  show own_Ends _ _ _ _ _ _ _ T12 (mkF m 5 #[.val (.ref o0), .val (.int (1 : Int32))] [(.ref ba), (.int (1 : Int32))])
  refine own_go (fun _ k => own_len X12 hx hZ e12 A (z := (4 : Int32)) rfl (g := (mkF m 5 #[.val (.ref o0), .val (.int (1 : Int32))] [(.ref ba), (.int (1 : Int32))])) rfl rfl (hb hby d4_5) _ k) ?_
  show own_Ends _ _ _ _ _ _ _ T12 (mkF m 6 #[.val (.ref o0), .val (.int (1 : Int32))] [(.int (4 : Int32)), (.int (1 : Int32))])
  refine own_go (fun _ k => XS.aloadN X12.here hx rfl (hb hby d4_6) rfl rfl k) ?_
  show own_Ends _ _ _ _ _ _ _ T12 (mkF m 7 #[.val (.ref o0), .val (.int (1 : Int32))] [(.ref o0), (.int (4 : Int32)), (.int (1 : Int32))])
  obtain ⟨T13, X13, e13, st13⟩ := getF X12 hx hZ hown (host := "") (Or.inl (hw _ (List.mem_of_getElem? (i := 23) rfl))) Via.refl e12 FL (g := (mkF m 7 #[.val (.ref o0), .val (.int (1 : Int32))] [(.ref o0), (.int (4 : Int32)), (.int (1 : Int32))])) rfl rfl (hb hby d4_7)
  refine own_go st13 ?_
  show own_Ends _ _ _ _ _ _ _ T13 (mkF m 10 #[.val (.ref o0), .val (.int (1 : Int32))] [(.int (1 : Int32)), (.int (4 : Int32)), (.int (1 : Int32))])
  refine own_go (fun _ k => XS.isub X13.here hx rfl (hb hby d4_10) rfl k) ?_
  show own_Ends _ _ _ _ _ _ _ T13 (mkF m 11 #[.val (.ref o0), .val (.int (1 : Int32))] [(.int ((4 : Int32) - (1 : Int32))), (.int (1 : Int32))])
  refine own_go (fun _ k => XS.icmpYes X13.here hx rfl (pc0 := 11) (pc' := 19) rfl (hb hby d4_11) rfl (flt (by decide)).2.2.2 (by decide) (by decide) k) ?_
  show own_Ends _ _ _ _ _ _ _ T13 (mkF m 19 #[.val (.ref o0), .val (.int (1 : Int32))] [])
  exact own_retV X13 hx hlk hret (hb hby d4_19) (by decide) (by decide) ⟨rfl, rfl, e13⟩
set_option maxRecDepth 65536 in
set_option maxHeartbeats 40000000 in
theorem rm3_1 (l : Launch) (Z : State) (a0 : Array Value) (hw : ∀ d ∈ tables_1, d.before a0 Z = true) (o0 : Addr) (p1 : Int32) (h0 : Heap) (n0 : Nat) (ba : Addr) (kb : ClassId) (f : Nat → Value) (Z0 : n0 ≤ h0.size) (E : Exa Z h0 o0 "com/example/ledgerline/ledgerline/TextBuffer") (FB : Fld Z h0 o0 "com/example/ledgerline/ledgerline/TextBuffer" "bytes" "[B" (.ref ba)) (FL : Fld Z h0 o0 "com/example/ledgerline/ledgerline/TextBuffer" "length" "I" (.int (1 : Int32))) (A : own_Ar Z h0 ba kb .byte 4 f) (hne : o0 ≠ ba) (g : n0 ≤ o0) (gb : n0 ≤ ba) (hp : ¬ (255 : Int32) < p1) :
    own_C l (⟨"com/example/ledgerline/ledgerline/TextBuffer", "append", "(C)Lcom/example/ledgerline/ledgerline/TextBuffer;"⟩ : MethodName) prog_39_method_8_code 2 (some (.object "com/example/ledgerline/ledgerline/TextBuffer")) ({ frames := 1, cells := 0, slots := 0, locals := 40 } : Room) Z #[(.ref o0), (.int p1)] h0 (fun v h L => v = some (.ref o0) ∧ Fr n0 L ∧ Keep h0 h [o0, ba] ∧ Exa Z h o0 "com/example/ledgerline/ledgerline/TextBuffer" ∧ Fld Z h o0 "com/example/ledgerline/ledgerline/TextBuffer" "bytes" "[B" (.ref ba) ∧ Fld Z h o0 "com/example/ledgerline/ledgerline/TextBuffer" "length" "I" (.int (2 : Int32)) ∧ own_Ar Z h ba kb .byte 4 (fun j => if j = 1 then .int (own_by p1) else f j)) := by
  refine own_enter pn_3 ?_
  intro p e s m below meth c s₁ X0 hx hby hml hown hnm hret hlk hZ e0
  replace hown : s.vm.findClass "com/example/ledgerline/ledgerline/TextBuffer" = some m.cls := hown
  have ef : entryFrame m #[(.ref o0), (.int p1)] 2 = mkF m 0 #[.val (.ref o0), .val (.int p1)] [] := by first | rfl | (simp [entryFrame, mkF, argsToLocals, Value.category, maxLocals]; done)
  refine own_cast ef ?_
  show own_Ends _ _ _ _ _ _ _ s₁ (mkF m 0 #[.val (.ref o0), .val (.int p1)] [])
  have N0 := Fr.nil n0
  have K0 : Keep h0 h0 [o0, ba] := Keep.refl _ _
  refine own_go (fun _ k => XS.aloadN X0.here hx rfl (hb hby d3_0) rfl rfl k) ?_
  show own_Ends _ _ _ _ _ _ _ s₁ (mkF m 1 #[.val (.ref o0), .val (.int p1)] [(.ref o0)])
  refine own_go (fun _ k => XS.iconst X0.here hx rfl (hb hby d3_1) k) ?_
  show own_Ends _ _ _ _ _ _ _ s₁ (mkF m 2 #[.val (.ref o0), .val (.int p1)] [(.int (1 : Int32)), (.ref o0)])
  obtain ⟨v14, T14, L14, X14, hQ14, st14⟩ := own_callP X0 hx hZ hown (hw _ (List.mem_of_getElem? (i := 19) rfl)) (hw _ (List.mem_of_getElem? (i := 21) rfl)) (hw _ (List.mem_of_getElem? (i := 3) rfl)) (hw _ (List.mem_of_getElem? (i := 20) rfl)) (hw _ (List.mem_of_getElem? (i := 4) rfl)) (hw _ (List.mem_of_getElem? (i := 22) rfl)) (rm4_1 l Z a0 hw o0 1 h0 n0 ba kb f Z0 E FB FL A hne g gb rfl) e0 (g := (mkF m 2 #[.val (.ref o0), .val (.int p1)] [(.int (1 : Int32)), (.ref o0)])) rfl (by rw [hml]; rfl) (a := o0) (argsL := [(.int (1 : Int32))]) (rest := []) (E) (lenOf pd_0 rfl) rfl rfl (W := 0) (by show 2 * 0 + _ ≤ _; exact Nat.le_of_eq rfl) (hb hby d3_2) (by decide) (by decide) (by decide) (by decide) (by decide)
  obtain ⟨rfl, rfl, e14⟩ := hQ14
  refine own_go st14 ?_
  have N14 := Fr.app N0 (Fr.nil _)
  show own_Ends _ _ _ _ _ _ _ T14 (mkF m 5 #[.val (.ref o0), .val (.int p1)] [])
  refine own_go (fun _ k => XS.aloadN X14.here hx rfl (hb hby d3_5) rfl rfl k) ?_
  show own_Ends _ _ _ _ _ _ _ T14 (mkF m 6 #[.val (.ref o0), .val (.int p1)] [(.ref o0)])
  obtain ⟨T15, X15, e15, st15⟩ := getF X14 hx hZ hown (host := "") (Or.inl (hw _ (List.mem_of_getElem? (i := 12) rfl))) Via.refl e14 FB (g := (mkF m 6 #[.val (.ref o0), .val (.int p1)] [(.ref o0)])) rfl rfl (hb hby d3_6)
  refine own_go st15 ?_
  show own_Ends _ _ _ _ _ _ _ T15 (mkF m 9 #[.val (.ref o0), .val (.int p1)] [(.ref ba)])
  refine own_go (fun _ k => XS.aloadN X15.here hx rfl (hb hby d3_9) rfl rfl k) ?_
  show own_Ends _ _ _ _ _ _ _ T15 (mkF m 10 #[.val (.ref o0), .val (.int p1)] [(.ref o0), (.ref ba)])
  refine own_go (fun _ k => XS.dup X15.here hx rfl (hb hby d3_10) rfl rfl k) ?_
  show own_Ends _ _ _ _ _ _ _ T15 (mkF m 11 #[.val (.ref o0), .val (.int p1)] [(.ref o0), (.ref o0), (.ref ba)])
  obtain ⟨T16, X16, e16, st16⟩ := getF X15 hx hZ hown (host := "") (Or.inl (hw _ (List.mem_of_getElem? (i := 23) rfl))) Via.refl e15 FL (g := (mkF m 11 #[.val (.ref o0), .val (.int p1)] [(.ref o0), (.ref o0), (.ref ba)])) rfl rfl (hb hby d3_11)
  refine own_go st16 ?_
  show own_Ends _ _ _ _ _ _ _ T16 (mkF m 14 #[.val (.ref o0), .val (.int p1)] [(.int (1 : Int32)), (.ref o0), (.ref ba)])
  refine own_go (fun _ k => XS.dupX1 X16.here hx rfl (hb hby d3_14) rfl rfl rfl k) ?_
  show own_Ends _ _ _ _ _ _ _ T16 (mkF m 15 #[.val (.ref o0), .val (.int p1)] [(.int (1 : Int32)), (.ref o0), (.int (1 : Int32)), (.ref ba)])
  refine own_go (fun _ k => XS.iconst X16.here hx rfl (hb hby d3_15) k) ?_
  show own_Ends _ _ _ _ _ _ _ T16 (mkF m 16 #[.val (.ref o0), .val (.int p1)] [(.int (1 : Int32)), (.int (1 : Int32)), (.ref o0), (.int (1 : Int32)), (.ref ba)])
  refine own_go (fun _ k => XS.iadd X16.here hx rfl (hb hby d3_16) rfl k) ?_
  show own_Ends _ _ _ _ _ _ _ T16 (mkF m 17 #[.val (.ref o0), .val (.int p1)] [(.int ((1 : Int32) + (1 : Int32))), (.ref o0), (.int (1 : Int32)), (.ref ba)])
  obtain ⟨T17, h17, X17, e17, W17, st17⟩ := putF X16 hx hZ hown (host := "") (Or.inl (hw _ (List.mem_of_getElem? (i := 23) rfl))) Via.refl e16 FL E (Or.inl (hw _ (List.mem_of_getElem? (i := 24) rfl))) (hw _ (List.mem_of_getElem? (i := 3) rfl)) (ty := .int) (by decide) rfl rfl (g := (mkF m 17 #[.val (.ref o0), .val (.int p1)] [(.int ((1 : Int32) + (1 : Int32))), (.ref o0), (.int (1 : Int32)), (.ref ba)])) rfl rfl (hb hby d3_17)
  have N17 := Fr.snoc X17 N14 g
  have K_17 := K0.wr W17 (Or.inl (List.mem_of_getElem? (i := 0) rfl))
  have E_o0_17 := E.wr W17
  have F_o0_bytes_17 := FB.other W17 (Or.inr (slot_ne (Or.inl (hw _ (List.mem_of_getElem? (i := 13) rfl))) (Or.inl (hw _ (List.mem_of_getElem? (i := 24) rfl))) (by decide) (t := (.array .byte)) (t' := .int) (by decide) (by decide)))
  have F_o0_length_17 := FL.same W17
  have V_ba_17 := A.other W17 (Ne.symm hne)
  refine own_go st17 ?_
  show own_Ends _ _ _ _ _ _ _ T17 (mkF m 20 #[.val (.ref o0), .val (.int p1)] [(.int (1 : Int32)), (.ref ba)])
  refine own_go (fun _ k => XS.iloadN X17.here hx rfl (hb hby d3_20) rfl k) ?_
  show own_Ends _ _ _ _ _ _ _ T17 (mkF m 21 #[.val (.ref o0), .val (.int p1)] [(.int p1), (.int (1 : Int32)), (.ref ba)])
  obtain ⟨v18, T18, L18, X18, hQ18, st18⟩ := own_callS X17 hx hZ hown (hw _ (List.mem_of_getElem? (i := 25) rfl)) (hw _ (List.mem_of_getElem? (i := 26) rfl)) (hw _ (List.mem_of_getElem? (i := 4) rfl)) (hw _ (List.mem_of_getElem? (i := 27) rfl)) (rm5 l Z a0 hw p1 h17 hp) e17 (g := (mkF m 21 #[.val (.ref o0), .val (.int p1)] [(.int p1), (.int (1 : Int32)), (.ref ba)])) rfl (by rw [hml]; rfl) (argsL := [(.int p1)]) (rest := [(.int (1 : Int32)), (.ref ba)]) (lenOf pd_1 rfl) rfl rfl (W := 2) (by show 2 * 0 + _ ≤ _; exact Nat.le_of_eq rfl) (hb hby d3_21) (by decide) (by decide) (by decide) (by decide) (by decide)
  obtain ⟨rfl, rfl, e18⟩ := hQ18
  refine own_go st18 ?_
  have N18 := Fr.app N17 (Fr.nil _)
  show own_Ends _ _ _ _ _ _ _ T18 (mkF m 24 #[.val (.ref o0), .val (.int p1)] [(.int p1.toInt8.toInt32), (.int (1 : Int32)), (.ref ba)])
  obtain ⟨T19, h19, X19, e19, W19, V19, st19⟩ := own_stB X18 hx hZ e18 V_ba_17 (i := 1) (by decide) (by decide) (by decide) (g := (mkF m 24 #[.val (.ref o0), .val (.int p1)] [(.int p1.toInt8.toInt32), (.int (1 : Int32)), (.ref ba)])) rfl rfl (hb hby d3_24)
  have N19 := Fr.snoc X19 N18 gb
  have K_19 := K_17.wr W19 (Or.inl (List.mem_of_getElem? (i := 1) rfl))
  have E_o0_19 := E_o0_17.wr W19
  have F_o0_bytes_19 := F_o0_bytes_17.other W19 (Or.inl hne)
  have F_o0_length_19 := F_o0_length_17.other W19 (Or.inl hne)
  refine own_go st19 ?_
  show own_Ends _ _ _ _ _ _ _ T19 (mkF m 25 #[.val (.ref o0), .val (.int p1)] [])
  refine own_go (fun _ k => XS.aloadN X19.here hx rfl (hb hby d3_25) rfl rfl k) ?_
  show own_Ends _ _ _ _ _ _ _ T19 (mkF m 26 #[.val (.ref o0), .val (.int p1)] [(.ref o0)])
  exact own_retR X19 hx hlk hret rfl rfl rfl (hb hby d3_26) (by decide) (by decide) (by rw [e19]; exact ⟨rfl, N19, K_19, E_o0_19, F_o0_bytes_19, F_o0_length_19, V19⟩)
set_option maxRecDepth 65536 in
set_option maxHeartbeats 40000000 in
theorem rm4_2 (l : Launch) (Z : State) (a0 : Array Value) (hw : ∀ d ∈ tables_1, d.before a0 Z = true) (o0 : Addr) (p1 : Int32) (h0 : Heap) (n0 : Nat) (ba : Addr) (kb : ClassId) (f : Nat → Value) (Z0 : n0 ≤ h0.size) (E : Exa Z h0 o0 "com/example/ledgerline/ledgerline/TextBuffer") (FB : Fld Z h0 o0 "com/example/ledgerline/ledgerline/TextBuffer" "bytes" "[B" (.ref ba)) (FL : Fld Z h0 o0 "com/example/ledgerline/ledgerline/TextBuffer" "length" "I" (.int (2 : Int32))) (A : own_Ar Z h0 ba kb .byte 4 f) (hne : o0 ≠ ba) (g : n0 ≤ o0) (gb : n0 ≤ ba) (hp : p1 = 1) :
    own_C l (⟨"com/example/ledgerline/ledgerline/TextBuffer", "reserve", "(I)V"⟩ : MethodName) prog_39_method_17_code 2 none ({ frames := 0, cells := 0, slots := 0, locals := 0 } : Room) Z #[(.ref o0), (.int p1)] h0 (fun v h L => v = none ∧ L = [] ∧ h = h0) := by
  refine own_enter pn_4 ?_
  intro p e s m below meth c s₁ X0 hx hby hml hown hnm hret hlk hZ e0
  replace hown : s.vm.findClass "com/example/ledgerline/ledgerline/TextBuffer" = some m.cls := hown
  have ef : entryFrame m #[(.ref o0), (.int p1)] 2 = mkF m 0 #[.val (.ref o0), .val (.int p1)] [] := by first | rfl | (simp [entryFrame, mkF, argsToLocals, Value.category, maxLocals]; done)
  refine own_cast ef ?_
  show own_Ends _ _ _ _ _ _ _ s₁ (mkF m 0 #[.val (.ref o0), .val (.int p1)] [])
  subst hp
  show own_Ends _ _ _ _ _ _ _ s₁ (mkF m 0 #[.val (.ref o0), .val (.int (1 : Int32))] [])
  refine own_go (fun _ k => XS.iloadN X0.here hx rfl (hb hby d4_0) rfl k) ?_
  show own_Ends _ _ _ _ _ _ _ s₁ (mkF m 1 #[.val (.ref o0), .val (.int (1 : Int32))] [(.int (1 : Int32))])
  refine own_go (fun _ k => XS.aloadN X0.here hx rfl (hb hby d4_1) rfl rfl k) ?_
  show own_Ends _ _ _ _ _ _ _ s₁ (mkF m 2 #[.val (.ref o0), .val (.int (1 : Int32))] [(.ref o0), (.int (1 : Int32))])
  obtain ⟨T20, X20, e20, st20⟩ := getF X0 hx hZ hown (host := "") (Or.inl (hw _ (List.mem_of_getElem? (i := 12) rfl))) Via.refl e0 FB (g := (mkF m 2 #[.val (.ref o0), .val (.int (1 : Int32))] [(.ref o0), (.int (1 : Int32))])) rfl rfl (hb hby d4_2)
  refine own_go st20 ?_
  show own_Ends _ _ _ _ _ _ _ T20 (mkF m 5 #[.val (.ref o0), .val (.int (1 : Int32))] [(.ref ba), (.int (1 : Int32))])
  refine own_go (fun _ k => own_len X20 hx hZ e20 A (z := (4 : Int32)) rfl (g := (mkF m 5 #[.val (.ref o0), .val (.int (1 : Int32))] [(.ref ba), (.int (1 : Int32))])) rfl rfl (hb hby d4_5) _ k) ?_
  show own_Ends _ _ _ _ _ _ _ T20 (mkF m 6 #[.val (.ref o0), .val (.int (1 : Int32))] [(.int (4 : Int32)), (.int (1 : Int32))])
  refine own_go (fun _ k => XS.aloadN X20.here hx rfl (hb hby d4_6) rfl rfl k) ?_
  show own_Ends _ _ _ _ _ _ _ T20 (mkF m 7 #[.val (.ref o0), .val (.int (1 : Int32))] [(.ref o0), (.int (4 : Int32)), (.int (1 : Int32))])
  obtain ⟨T21, X21, e21, st21⟩ := getF X20 hx hZ hown (host := "") (Or.inl (hw _ (List.mem_of_getElem? (i := 23) rfl))) Via.refl e20 FL (g := (mkF m 7 #[.val (.ref o0), .val (.int (1 : Int32))] [(.ref o0), (.int (4 : Int32)), (.int (1 : Int32))])) rfl rfl (hb hby d4_7)
  refine own_go st21 ?_
  show own_Ends _ _ _ _ _ _ _ T21 (mkF m 10 #[.val (.ref o0), .val (.int (1 : Int32))] [(.int (2 : Int32)), (.int (4 : Int32)), (.int (1 : Int32))])
  refine own_go (fun _ k => XS.isub X21.here hx rfl (hb hby d4_10) rfl k) ?_
  show own_Ends _ _ _ _ _ _ _ T21 (mkF m 11 #[.val (.ref o0), .val (.int (1 : Int32))] [(.int ((4 : Int32) - (2 : Int32))), (.int (1 : Int32))])
  refine own_go (fun _ k => XS.icmpYes X21.here hx rfl (pc0 := 11) (pc' := 19) rfl (hb hby d4_11) rfl (flt (by decide)).2.2.2 (by decide) (by decide) k) ?_
  show own_Ends _ _ _ _ _ _ _ T21 (mkF m 19 #[.val (.ref o0), .val (.int (1 : Int32))] [])
  exact own_retV X21 hx hlk hret (hb hby d4_19) (by decide) (by decide) ⟨rfl, rfl, e21⟩
set_option maxRecDepth 65536 in
set_option maxHeartbeats 40000000 in
theorem rm3_2 (l : Launch) (Z : State) (a0 : Array Value) (hw : ∀ d ∈ tables_1, d.before a0 Z = true) (o0 : Addr) (p1 : Int32) (h0 : Heap) (n0 : Nat) (ba : Addr) (kb : ClassId) (f : Nat → Value) (Z0 : n0 ≤ h0.size) (E : Exa Z h0 o0 "com/example/ledgerline/ledgerline/TextBuffer") (FB : Fld Z h0 o0 "com/example/ledgerline/ledgerline/TextBuffer" "bytes" "[B" (.ref ba)) (FL : Fld Z h0 o0 "com/example/ledgerline/ledgerline/TextBuffer" "length" "I" (.int (2 : Int32))) (A : own_Ar Z h0 ba kb .byte 4 f) (hne : o0 ≠ ba) (g : n0 ≤ o0) (gb : n0 ≤ ba) (hp : ¬ (255 : Int32) < p1) :
    own_C l (⟨"com/example/ledgerline/ledgerline/TextBuffer", "append", "(C)Lcom/example/ledgerline/ledgerline/TextBuffer;"⟩ : MethodName) prog_39_method_8_code 2 (some (.object "com/example/ledgerline/ledgerline/TextBuffer")) ({ frames := 1, cells := 0, slots := 0, locals := 40 } : Room) Z #[(.ref o0), (.int p1)] h0 (fun v h L => v = some (.ref o0) ∧ Fr n0 L ∧ Keep h0 h [o0, ba] ∧ Exa Z h o0 "com/example/ledgerline/ledgerline/TextBuffer" ∧ Fld Z h o0 "com/example/ledgerline/ledgerline/TextBuffer" "bytes" "[B" (.ref ba) ∧ Fld Z h o0 "com/example/ledgerline/ledgerline/TextBuffer" "length" "I" (.int (3 : Int32)) ∧ own_Ar Z h ba kb .byte 4 (fun j => if j = 2 then .int (own_by p1) else f j)) := by
  refine own_enter pn_3 ?_
  intro p e s m below meth c s₁ X0 hx hby hml hown hnm hret hlk hZ e0
  replace hown : s.vm.findClass "com/example/ledgerline/ledgerline/TextBuffer" = some m.cls := hown
  have ef : entryFrame m #[(.ref o0), (.int p1)] 2 = mkF m 0 #[.val (.ref o0), .val (.int p1)] [] := by first | rfl | (simp [entryFrame, mkF, argsToLocals, Value.category, maxLocals]; done)
  refine own_cast ef ?_
  show own_Ends _ _ _ _ _ _ _ s₁ (mkF m 0 #[.val (.ref o0), .val (.int p1)] [])
  have N0 := Fr.nil n0
  have K0 : Keep h0 h0 [o0, ba] := Keep.refl _ _
  refine own_go (fun _ k => XS.aloadN X0.here hx rfl (hb hby d3_0) rfl rfl k) ?_
  show own_Ends _ _ _ _ _ _ _ s₁ (mkF m 1 #[.val (.ref o0), .val (.int p1)] [(.ref o0)])
  refine own_go (fun _ k => XS.iconst X0.here hx rfl (hb hby d3_1) k) ?_
  show own_Ends _ _ _ _ _ _ _ s₁ (mkF m 2 #[.val (.ref o0), .val (.int p1)] [(.int (1 : Int32)), (.ref o0)])
  obtain ⟨v22, T22, L22, X22, hQ22, st22⟩ := own_callP X0 hx hZ hown (hw _ (List.mem_of_getElem? (i := 19) rfl)) (hw _ (List.mem_of_getElem? (i := 21) rfl)) (hw _ (List.mem_of_getElem? (i := 3) rfl)) (hw _ (List.mem_of_getElem? (i := 20) rfl)) (hw _ (List.mem_of_getElem? (i := 4) rfl)) (hw _ (List.mem_of_getElem? (i := 22) rfl)) (rm4_2 l Z a0 hw o0 1 h0 n0 ba kb f Z0 E FB FL A hne g gb rfl) e0 (g := (mkF m 2 #[.val (.ref o0), .val (.int p1)] [(.int (1 : Int32)), (.ref o0)])) rfl (by rw [hml]; rfl) (a := o0) (argsL := [(.int (1 : Int32))]) (rest := []) (E) (lenOf pd_0 rfl) rfl rfl (W := 0) (by show 2 * 0 + _ ≤ _; exact Nat.le_of_eq rfl) (hb hby d3_2) (by decide) (by decide) (by decide) (by decide) (by decide)
  obtain ⟨rfl, rfl, e22⟩ := hQ22
  refine own_go st22 ?_
  have N22 := Fr.app N0 (Fr.nil _)
  show own_Ends _ _ _ _ _ _ _ T22 (mkF m 5 #[.val (.ref o0), .val (.int p1)] [])
  refine own_go (fun _ k => XS.aloadN X22.here hx rfl (hb hby d3_5) rfl rfl k) ?_
  show own_Ends _ _ _ _ _ _ _ T22 (mkF m 6 #[.val (.ref o0), .val (.int p1)] [(.ref o0)])
  obtain ⟨T23, X23, e23, st23⟩ := getF X22 hx hZ hown (host := "") (Or.inl (hw _ (List.mem_of_getElem? (i := 12) rfl))) Via.refl e22 FB (g := (mkF m 6 #[.val (.ref o0), .val (.int p1)] [(.ref o0)])) rfl rfl (hb hby d3_6)
  refine own_go st23 ?_
  show own_Ends _ _ _ _ _ _ _ T23 (mkF m 9 #[.val (.ref o0), .val (.int p1)] [(.ref ba)])
  refine own_go (fun _ k => XS.aloadN X23.here hx rfl (hb hby d3_9) rfl rfl k) ?_
  show own_Ends _ _ _ _ _ _ _ T23 (mkF m 10 #[.val (.ref o0), .val (.int p1)] [(.ref o0), (.ref ba)])
  refine own_go (fun _ k => XS.dup X23.here hx rfl (hb hby d3_10) rfl rfl k) ?_
  show own_Ends _ _ _ _ _ _ _ T23 (mkF m 11 #[.val (.ref o0), .val (.int p1)] [(.ref o0), (.ref o0), (.ref ba)])
  obtain ⟨T24, X24, e24, st24⟩ := getF X23 hx hZ hown (host := "") (Or.inl (hw _ (List.mem_of_getElem? (i := 23) rfl))) Via.refl e23 FL (g := (mkF m 11 #[.val (.ref o0), .val (.int p1)] [(.ref o0), (.ref o0), (.ref ba)])) rfl rfl (hb hby d3_11)
  refine own_go st24 ?_
  show own_Ends _ _ _ _ _ _ _ T24 (mkF m 14 #[.val (.ref o0), .val (.int p1)] [(.int (2 : Int32)), (.ref o0), (.ref ba)])
  refine own_go (fun _ k => XS.dupX1 X24.here hx rfl (hb hby d3_14) rfl rfl rfl k) ?_
  show own_Ends _ _ _ _ _ _ _ T24 (mkF m 15 #[.val (.ref o0), .val (.int p1)] [(.int (2 : Int32)), (.ref o0), (.int (2 : Int32)), (.ref ba)])
  refine own_go (fun _ k => XS.iconst X24.here hx rfl (hb hby d3_15) k) ?_
  show own_Ends _ _ _ _ _ _ _ T24 (mkF m 16 #[.val (.ref o0), .val (.int p1)] [(.int (1 : Int32)), (.int (2 : Int32)), (.ref o0), (.int (2 : Int32)), (.ref ba)])
  refine own_go (fun _ k => XS.iadd X24.here hx rfl (hb hby d3_16) rfl k) ?_
  show own_Ends _ _ _ _ _ _ _ T24 (mkF m 17 #[.val (.ref o0), .val (.int p1)] [(.int ((2 : Int32) + (1 : Int32))), (.ref o0), (.int (2 : Int32)), (.ref ba)])
  obtain ⟨T25, h25, X25, e25, W25, st25⟩ := putF X24 hx hZ hown (host := "") (Or.inl (hw _ (List.mem_of_getElem? (i := 23) rfl))) Via.refl e24 FL E (Or.inl (hw _ (List.mem_of_getElem? (i := 24) rfl))) (hw _ (List.mem_of_getElem? (i := 3) rfl)) (ty := .int) (by decide) rfl rfl (g := (mkF m 17 #[.val (.ref o0), .val (.int p1)] [(.int ((2 : Int32) + (1 : Int32))), (.ref o0), (.int (2 : Int32)), (.ref ba)])) rfl rfl (hb hby d3_17)
  have N25 := Fr.snoc X25 N22 g
  have K_25 := K0.wr W25 (Or.inl (List.mem_of_getElem? (i := 0) rfl))
  have E_o0_25 := E.wr W25
  have F_o0_bytes_25 := FB.other W25 (Or.inr (slot_ne (Or.inl (hw _ (List.mem_of_getElem? (i := 13) rfl))) (Or.inl (hw _ (List.mem_of_getElem? (i := 24) rfl))) (by decide) (t := (.array .byte)) (t' := .int) (by decide) (by decide)))
  have F_o0_length_25 := FL.same W25
  have V_ba_25 := A.other W25 (Ne.symm hne)
  refine own_go st25 ?_
  show own_Ends _ _ _ _ _ _ _ T25 (mkF m 20 #[.val (.ref o0), .val (.int p1)] [(.int (2 : Int32)), (.ref ba)])
  refine own_go (fun _ k => XS.iloadN X25.here hx rfl (hb hby d3_20) rfl k) ?_
  show own_Ends _ _ _ _ _ _ _ T25 (mkF m 21 #[.val (.ref o0), .val (.int p1)] [(.int p1), (.int (2 : Int32)), (.ref ba)])
  obtain ⟨v26, T26, L26, X26, hQ26, st26⟩ := own_callS X25 hx hZ hown (hw _ (List.mem_of_getElem? (i := 25) rfl)) (hw _ (List.mem_of_getElem? (i := 26) rfl)) (hw _ (List.mem_of_getElem? (i := 4) rfl)) (hw _ (List.mem_of_getElem? (i := 27) rfl)) (rm5 l Z a0 hw p1 h25 hp) e25 (g := (mkF m 21 #[.val (.ref o0), .val (.int p1)] [(.int p1), (.int (2 : Int32)), (.ref ba)])) rfl (by rw [hml]; rfl) (argsL := [(.int p1)]) (rest := [(.int (2 : Int32)), (.ref ba)]) (lenOf pd_1 rfl) rfl rfl (W := 2) (by show 2 * 0 + _ ≤ _; exact Nat.le_of_eq rfl) (hb hby d3_21) (by decide) (by decide) (by decide) (by decide) (by decide)
  obtain ⟨rfl, rfl, e26⟩ := hQ26
  refine own_go st26 ?_
  have N26 := Fr.app N25 (Fr.nil _)
  show own_Ends _ _ _ _ _ _ _ T26 (mkF m 24 #[.val (.ref o0), .val (.int p1)] [(.int p1.toInt8.toInt32), (.int (2 : Int32)), (.ref ba)])
  obtain ⟨T27, h27, X27, e27, W27, V27, st27⟩ := own_stB X26 hx hZ e26 V_ba_25 (i := 2) (by decide) (by decide) (by decide) (g := (mkF m 24 #[.val (.ref o0), .val (.int p1)] [(.int p1.toInt8.toInt32), (.int (2 : Int32)), (.ref ba)])) rfl rfl (hb hby d3_24)
  have N27 := Fr.snoc X27 N26 gb
  have K_27 := K_25.wr W27 (Or.inl (List.mem_of_getElem? (i := 1) rfl))
  have E_o0_27 := E_o0_25.wr W27
  have F_o0_bytes_27 := F_o0_bytes_25.other W27 (Or.inl hne)
  have F_o0_length_27 := F_o0_length_25.other W27 (Or.inl hne)
  refine own_go st27 ?_
  show own_Ends _ _ _ _ _ _ _ T27 (mkF m 25 #[.val (.ref o0), .val (.int p1)] [])
  refine own_go (fun _ k => XS.aloadN X27.here hx rfl (hb hby d3_25) rfl rfl k) ?_
  show own_Ends _ _ _ _ _ _ _ T27 (mkF m 26 #[.val (.ref o0), .val (.int p1)] [(.ref o0)])
  exact own_retR X27 hx hlk hret rfl rfl rfl (hb hby d3_26) (by decide) (by decide) (by rw [e27]; exact ⟨rfl, N27, K_27, E_o0_27, F_o0_bytes_27, F_o0_length_27, V27⟩)
set_option maxRecDepth 65536 in
set_option maxHeartbeats 40000000 in
theorem rm6 (l : Launch) (Z : State) (a0 : Array Value) (hw : ∀ d ∈ tables_1, d.before a0 Z = true) (p0 : Int32) (p1 : Int32) (p2 : Int32) (p3 : Int32) (p4 : Int32) (p5 : Int32) (h0 : Heap) :
    own_C l (⟨"com/example/ledgerline/ledgerline/TextBufferHoldsAnyPinLaw", "hit", "(IIIIII)Z"⟩ : MethodName) method_3_code 6 (some .boolean) ({ frames := 0, cells := 0, slots := 0, locals := 0 } : Room) Z #[(.int p0), (.int p1), (.int p2), (.int p3), (.int p4), (.int p5)] h0 (fun v h L => v = some (.int (own_hit p0 p1 p2 p3 p4 p5)) ∧ L = [] ∧ h = h0) := by
  refine own_enter pn_6 ?_
  intro p e s m below meth c s₁ X0 hx hby hml hown hnm hret hlk hZ e0
  replace hown : s.vm.findClass "com/example/ledgerline/ledgerline/TextBufferHoldsAnyPinLaw" = some m.cls := hown
  have ef : entryFrame m #[(.int p0), (.int p1), (.int p2), (.int p3), (.int p4), (.int p5)] 6 = mkF m 0 #[.val (.int p0), .val (.int p1), .val (.int p2), .val (.int p3), .val (.int p4), .val (.int p5)] [] := by first | rfl | (simp [entryFrame, mkF, argsToLocals, Value.category, maxLocals]; done)
  refine own_cast ef ?_
  show own_Ends _ _ _ _ _ _ _ s₁ (mkF m 0 #[.val (.int p0), .val (.int p1), .val (.int p2), .val (.int p3), .val (.int p4), .val (.int p5)] [])
  refine own_go (fun _ k => XS.iloadN X0.here hx rfl (hb hby d6_0) rfl k) ?_
  show own_Ends _ _ _ _ _ _ _ s₁ (mkF m 1 #[.val (.int p0), .val (.int p1), .val (.int p2), .val (.int p3), .val (.int p4), .val (.int p5)] [(.int p3)])
  refine own_go (fun _ k => XS.iloadN X0.here hx rfl (hb hby d6_1) rfl k) ?_
  show own_Ends _ _ _ _ _ _ _ s₁ (mkF m 2 #[.val (.int p0), .val (.int p1), .val (.int p2), .val (.int p3), .val (.int p4), .val (.int p5)] [(.int p0), (.int p3)])
  by_cases h1 : p0 < p3
  · refine own_go (fun _ k => XS.icmpYes X0.here hx rfl (pc0 := 2) (pc' := 26) rfl (hb hby d6_2) rfl (tlt h1).2.2.1 (by decide) (by decide) k) ?_
    show own_Ends _ _ _ _ _ _ _ s₁ (mkF m 26 #[.val (.int p0), .val (.int p1), .val (.int p2), .val (.int p3), .val (.int p4), .val (.int p5)] [])
    refine own_go (fun _ k => XS.iconst X0.here hx rfl (hb hby d6_26) k) ?_
    show own_Ends _ _ _ _ _ _ _ s₁ (mkF m 27 #[.val (.int p0), .val (.int p1), .val (.int p2), .val (.int p3), .val (.int p4), .val (.int p5)] [(.int (0 : Int32))])
    exact own_retZ X0 hx hlk hret (by decide) (hb hby d6_27) (by decide) (by decide) ⟨by rw [own_hit, if_pos h1], rfl, e0⟩
  · refine own_go (fun _ k => XS.icmpNo X0.here hx rfl (hb hby d6_2) rfl (flt h1).2.2.1 k) ?_
    show own_Ends _ _ _ _ _ _ _ s₁ (mkF m 5 #[.val (.int p0), .val (.int p1), .val (.int p2), .val (.int p3), .val (.int p4), .val (.int p5)] [])
    refine own_go (fun _ k => XS.iloadN X0.here hx rfl (hb hby d6_5) rfl k) ?_
    show own_Ends _ _ _ _ _ _ _ s₁ (mkF m 6 #[.val (.int p0), .val (.int p1), .val (.int p2), .val (.int p3), .val (.int p4), .val (.int p5)] [(.int p0)])
    refine own_go (fun _ k => XS.iloadN X0.here hx rfl (hb hby d6_6) rfl k) ?_
    show own_Ends _ _ _ _ _ _ _ s₁ (mkF m 7 #[.val (.int p0), .val (.int p1), .val (.int p2), .val (.int p3), .val (.int p4), .val (.int p5)] [(.int p2), (.int p0)])
    by_cases h2 : p0 < p2
    · refine own_go (fun _ k => XS.icmpNo X0.here hx rfl (hb hby d6_7) rfl (tlt h2).2.1 k) ?_
      show own_Ends _ _ _ _ _ _ _ s₁ (mkF m 10 #[.val (.int p0), .val (.int p1), .val (.int p2), .val (.int p3), .val (.int p4), .val (.int p5)] [])
      refine own_go (fun _ k => XS.iloadN X0.here hx rfl (hb hby d6_10) rfl k) ?_
      show own_Ends _ _ _ _ _ _ _ s₁ (mkF m 11 #[.val (.int p0), .val (.int p1), .val (.int p2), .val (.int p3), .val (.int p4), .val (.int p5)] [(.int p1)])
      refine own_go (fun _ k => XS.iload X0.here hx rfl (hb hby d6_11) rfl k) ?_
      show own_Ends _ _ _ _ _ _ _ s₁ (mkF m 13 #[.val (.int p0), .val (.int p1), .val (.int p2), .val (.int p3), .val (.int p4), .val (.int p5)] [(.int p4), (.int p1)])
      by_cases h3 : p1 = p4
      · refine own_go (fun _ k => XS.icmpYes X0.here hx rfl (pc0 := 13) (pc' := 22) rfl (hb hby d6_13) rfl (teq h3).1 (by decide) (by decide) k) ?_
        show own_Ends _ _ _ _ _ _ _ s₁ (mkF m 22 #[.val (.int p0), .val (.int p1), .val (.int p2), .val (.int p3), .val (.int p4), .val (.int p5)] [])
        refine own_go (fun _ k => XS.iconst X0.here hx rfl (hb hby d6_22) k) ?_
        show own_Ends _ _ _ _ _ _ _ s₁ (mkF m 23 #[.val (.int p0), .val (.int p1), .val (.int p2), .val (.int p3), .val (.int p4), .val (.int p5)] [(.int (1 : Int32))])
        refine own_go (fun _ k => XS.goto X0.here hx rfl (pc0 := 23) (pc' := 27) rfl (hb hby d6_23) (by decide) (by decide) k) ?_
        show own_Ends _ _ _ _ _ _ _ s₁ (mkF m 27 #[.val (.int p0), .val (.int p1), .val (.int p2), .val (.int p3), .val (.int p4), .val (.int p5)] [(.int (1 : Int32))])
        exact own_retZ X0 hx hlk hret (by decide) (hb hby d6_27) (by decide) (by decide) ⟨by rw [own_hit, if_neg h1, if_pos h2, if_pos h3], rfl, e0⟩
      · refine own_go (fun _ k => XS.icmpNo X0.here hx rfl (hb hby d6_13) rfl (feq h3).1 k) ?_
        show own_Ends _ _ _ _ _ _ _ s₁ (mkF m 16 #[.val (.int p0), .val (.int p1), .val (.int p2), .val (.int p3), .val (.int p4), .val (.int p5)] [])
        refine own_go (fun _ k => XS.iloadN X0.here hx rfl (hb hby d6_16) rfl k) ?_
        show own_Ends _ _ _ _ _ _ _ s₁ (mkF m 17 #[.val (.int p0), .val (.int p1), .val (.int p2), .val (.int p3), .val (.int p4), .val (.int p5)] [(.int p1)])
        refine own_go (fun _ k => XS.iload X0.here hx rfl (hb hby d6_17) rfl k) ?_
        show own_Ends _ _ _ _ _ _ _ s₁ (mkF m 19 #[.val (.int p0), .val (.int p1), .val (.int p2), .val (.int p3), .val (.int p4), .val (.int p5)] [(.int p5), (.int p1)])
        by_cases h4 : p1 = p5
        · refine own_go (fun _ k => XS.icmpNo X0.here hx rfl (hb hby d6_19) rfl (teq h4).2 k) ?_
          show own_Ends _ _ _ _ _ _ _ s₁ (mkF m 22 #[.val (.int p0), .val (.int p1), .val (.int p2), .val (.int p3), .val (.int p4), .val (.int p5)] [])
          refine own_go (fun _ k => XS.iconst X0.here hx rfl (hb hby d6_22) k) ?_
          show own_Ends _ _ _ _ _ _ _ s₁ (mkF m 23 #[.val (.int p0), .val (.int p1), .val (.int p2), .val (.int p3), .val (.int p4), .val (.int p5)] [(.int (1 : Int32))])
          refine own_go (fun _ k => XS.goto X0.here hx rfl (pc0 := 23) (pc' := 27) rfl (hb hby d6_23) (by decide) (by decide) k) ?_
          show own_Ends _ _ _ _ _ _ _ s₁ (mkF m 27 #[.val (.int p0), .val (.int p1), .val (.int p2), .val (.int p3), .val (.int p4), .val (.int p5)] [(.int (1 : Int32))])
          exact own_retZ X0 hx hlk hret (by decide) (hb hby d6_27) (by decide) (by decide) ⟨by rw [own_hit, if_neg h1, if_pos h2, if_neg h3, if_pos h4], rfl, e0⟩
        · refine own_go (fun _ k => XS.icmpYes X0.here hx rfl (pc0 := 19) (pc' := 26) rfl (hb hby d6_19) rfl (feq h4).2 (by decide) (by decide) k) ?_
          show own_Ends _ _ _ _ _ _ _ s₁ (mkF m 26 #[.val (.int p0), .val (.int p1), .val (.int p2), .val (.int p3), .val (.int p4), .val (.int p5)] [])
          refine own_go (fun _ k => XS.iconst X0.here hx rfl (hb hby d6_26) k) ?_
          show own_Ends _ _ _ _ _ _ _ s₁ (mkF m 27 #[.val (.int p0), .val (.int p1), .val (.int p2), .val (.int p3), .val (.int p4), .val (.int p5)] [(.int (0 : Int32))])
          exact own_retZ X0 hx hlk hret (by decide) (hb hby d6_27) (by decide) (by decide) ⟨by rw [own_hit, if_neg h1, if_pos h2, if_neg h3, if_neg h4], rfl, e0⟩
    · refine own_go (fun _ k => XS.icmpYes X0.here hx rfl (pc0 := 7) (pc' := 26) rfl (hb hby d6_7) rfl (flt h2).2.1 (by decide) (by decide) k) ?_
      show own_Ends _ _ _ _ _ _ _ s₁ (mkF m 26 #[.val (.int p0), .val (.int p1), .val (.int p2), .val (.int p3), .val (.int p4), .val (.int p5)] [])
      refine own_go (fun _ k => XS.iconst X0.here hx rfl (hb hby d6_26) k) ?_
      show own_Ends _ _ _ _ _ _ _ s₁ (mkF m 27 #[.val (.int p0), .val (.int p1), .val (.int p2), .val (.int p3), .val (.int p4), .val (.int p5)] [(.int (0 : Int32))])
      exact own_retZ X0 hx hlk hret (by decide) (hb hby d6_27) (by decide) (by decide) ⟨by rw [own_hit, if_neg h1, if_neg h2], rfl, e0⟩
theorem own_ofNat {i : Nat} (h : i < 8) : (Int32.ofNat i).toInt = i := Int32.toInt_ofNat_small (by omega)
theorem own_ofNat_lt {i n : Nat} (hi : i < 8) (hn : n < 8) : Int32.ofNat i < Int32.ofNat n ↔ i < n := by
  rw [Int32.lt_iff_toInt_lt, own_ofNat hi, own_ofNat hn]; omega
theorem own_ofNat_nn {i : Nat} (hi : i < 8) : ¬ Int32.ofNat i < 0 := by
  intro q
  rw [Int32.lt_iff_toInt_lt, own_ofNat hi] at q
  have d : (0 : Int32).toInt = 0 := by decide
  omega
theorem own_ofNat_cl {i : Nat} (hi : i < 8) : (Int32.ofNat i).toNatClampNeg = i := by
  have := nat_of (own_ofNat_nn hi)
  rw [own_ofNat hi] at this
  omega
theorem own_ofNat_s {i : Nat} (hi : i + 1 < 8) : Int32.ofNat i + 1 = Int32.ofNat (i + 1) := by
  apply Int32.toInt_inj.mp
  have a := c_iadd (Int32.ofNat i) 1
  have r := rng32 (Int32.ofNat i + 1)
  rw [own_ofNat (by omega)] at a
  have d : (1 : Int32).toInt = 1 := by decide
  rw [own_ofNat hi]
  omega
set_option maxRecDepth 65536 in
set_option maxHeartbeats 40000000 in
theorem rm7 (l : Launch) (Z : State) (a0 : Array Value) (hw : ∀ d ∈ tables_1, d.before a0 Z = true) (o0 : Addr) (p1 : Int32) (r2 : Addr) (h0 : Heap) (ba : Addr) (kb : ClassId) (km : ClassId) (bv : Nat → Int32) (mk : Nat → Int32) (i0 : Nat) (nn : Nat) (FB : Fld Z h0 o0 "com/example/ledgerline/ledgerline/TextBuffer" "bytes" "[B" (.ref ba)) (FL : Fld Z h0 o0 "com/example/ledgerline/ledgerline/TextBuffer" "length" "I" (.int (Int32.ofNat nn))) (A : own_Ar Z h0 ba kb .byte 4 (fun j => .int (bv j))) (M : own_Ar Z h0 r2 km .boolean 256 (fun j => .int (mk j))) (hp : p1 = Int32.ofNat i0) (hi : i0 ≤ nn) (hn : nn ≤ 3) :
    own_C l (⟨"com/example/ledgerline/ledgerline/TextBuffer", "holdsAny", "(I[Z)Z"⟩ : MethodName) prog_39_method_6_code 4 (some .boolean) ({ frames := 0, cells := 0, slots := 0, locals := 0 } : Room) Z #[(.ref o0), (.int p1), (.ref r2)] h0 (fun v h L => v = some (.int (own_hol mk bv i0 (nn - i0))) ∧ L = [] ∧ h = h0) := by
  refine own_enter pn_7 ?_
  intro p e s m below meth c s₁ X0 hx hby hml hown hnm hret hlk hZ e0
  replace hown : s.vm.findClass "com/example/ledgerline/ledgerline/TextBuffer" = some m.cls := hown
  have ef : entryFrame m #[(.ref o0), (.int p1), (.ref r2)] 4 = mkF m 0 #[.val (.ref o0), .val (.int p1), .val (.ref r2), .unset] [] := by first | rfl | (simp [entryFrame, mkF, argsToLocals, Value.category, maxLocals]; done)
  refine own_cast ef ?_
  show own_Ends _ _ _ _ _ _ _ s₁ (mkF m 0 #[.val (.ref o0), .val (.int p1), .val (.ref r2), .unset] [])
  subst hp
  show own_Ends _ _ _ _ _ _ _ s₁ (mkF m 0 #[.val (.ref o0), .val (.int (Int32.ofNat i0)), .val (.ref r2), .unset] [])
  refine own_go (fun _ k => XS.iloadN X0.here hx rfl (hb hby d7_0) rfl k) ?_
  show own_Ends _ _ _ _ _ _ _ s₁ (mkF m 1 #[.val (.ref o0), .val (.int (Int32.ofNat i0)), .val (.ref r2), .unset] [(.int (Int32.ofNat i0))])
  refine own_go (fun _ k => XS.istoreN X0.here hx rfl (hb hby d7_1) rfl (l' := #[.val (.ref o0), .val (.int (Int32.ofNat i0)), .val (.ref r2), .val (.int (Int32.ofNat i0))]) rfl k) ?_
  show own_Ends _ _ _ _ _ _ _ s₁ (mkF m 2 #[.val (.ref o0), .val (.int (Int32.ofNat i0)), .val (.ref r2), .val (.int (Int32.ofNat i0))] [])
  have K : ∀ (k i : Nat) (T : State), Stand p l e ({ frames := 0, cells := 0, slots := 0, locals := 0 } : Room) s m #[(.ref o0), (.int (Int32.ofNat i0)), (.ref r2)] below meth c T [] 0 0 → T.heap = h0 → i + k = nn → own_Ends p e s below ({ frames := 0, cells := 0, slots := 0, locals := 0 } : Room).cells ({ frames := 0, cells := 0, slots := 0, locals := 0 } : Room).slots (fun v h L => v = some (.int (own_hol mk bv i k)) ∧ L = [] ∧ h = h0) T (mkF m 2 #[.val (.ref o0), .val (.int (Int32.ofNat i0)), .val (.ref r2), .val (.int (Int32.ofNat i))] []) := by
    intro k
    induction k with
    | zero =>
      intro i T X eT hik
      refine own_go (fun _ k => XS.iloadN X.here hx rfl (hb hby d7_2) rfl k) ?_
      show own_Ends _ _ _ _ _ _ _ T (mkF m 3 #[.val (.ref o0), .val (.int (Int32.ofNat i0)), .val (.ref r2), .val (.int (Int32.ofNat i))] [(.int (Int32.ofNat i))])
      refine own_go (fun _ k => XS.aloadN X.here hx rfl (hb hby d7_3) rfl rfl k) ?_
      show own_Ends _ _ _ _ _ _ _ T (mkF m 4 #[.val (.ref o0), .val (.int (Int32.ofNat i0)), .val (.ref r2), .val (.int (Int32.ofNat i))] [(.ref o0), (.int (Int32.ofNat i))])
      obtain ⟨T28, X28, e28, st28⟩ := getF X hx hZ hown (host := "") (Or.inl (hw _ (List.mem_of_getElem? (i := 23) rfl))) Via.refl eT FL (g := (mkF m 4 #[.val (.ref o0), .val (.int (Int32.ofNat i0)), .val (.ref r2), .val (.int (Int32.ofNat i))] [(.ref o0), (.int (Int32.ofNat i))])) rfl rfl (hb hby d7_4)
      refine own_go st28 ?_
      show own_Ends _ _ _ _ _ _ _ T28 (mkF m 7 #[.val (.ref o0), .val (.int (Int32.ofNat i0)), .val (.ref r2), .val (.int (Int32.ofNat i))] [(.int (Int32.ofNat nn)), (.int (Int32.ofNat i))])
      have hc : ¬ Int32.ofNat i < Int32.ofNat nn := fun q => by rw [own_ofNat_lt (by omega) (by omega)] at q; omega
      refine own_go (fun _ k => XS.icmpYes X28.here hx rfl (pc0 := 7) (pc' := 33) rfl (hb hby d7_7) rfl (flt hc).2.1 (by decide) (by decide) k) ?_
      show own_Ends _ _ _ _ _ _ _ T28 (mkF m 33 #[.val (.ref o0), .val (.int (Int32.ofNat i0)), .val (.ref r2), .val (.int (Int32.ofNat i))] [])
      refine own_go (fun _ k => XS.iconst X28.here hx rfl (hb hby d7_33) k) ?_
      show own_Ends _ _ _ _ _ _ _ T28 (mkF m 34 #[.val (.ref o0), .val (.int (Int32.ofNat i0)), .val (.ref r2), .val (.int (Int32.ofNat i))] [(.int (0 : Int32))])
      exact own_retZ X28 hx hlk hret (by decide) (hb hby d7_34) (by decide) (by decide) ⟨rfl, rfl, e28⟩
    | succ k ih =>
      intro i T X eT hik
      refine own_go (fun _ k => XS.iloadN X.here hx rfl (hb hby d7_2) rfl k) ?_
      show own_Ends _ _ _ _ _ _ _ T (mkF m 3 #[.val (.ref o0), .val (.int (Int32.ofNat i0)), .val (.ref r2), .val (.int (Int32.ofNat i))] [(.int (Int32.ofNat i))])
      refine own_go (fun _ k => XS.aloadN X.here hx rfl (hb hby d7_3) rfl rfl k) ?_
      show own_Ends _ _ _ _ _ _ _ T (mkF m 4 #[.val (.ref o0), .val (.int (Int32.ofNat i0)), .val (.ref r2), .val (.int (Int32.ofNat i))] [(.ref o0), (.int (Int32.ofNat i))])
      obtain ⟨T29, X29, e29, st29⟩ := getF X hx hZ hown (host := "") (Or.inl (hw _ (List.mem_of_getElem? (i := 23) rfl))) Via.refl eT FL (g := (mkF m 4 #[.val (.ref o0), .val (.int (Int32.ofNat i0)), .val (.ref r2), .val (.int (Int32.ofNat i))] [(.ref o0), (.int (Int32.ofNat i))])) rfl rfl (hb hby d7_4)
      refine own_go st29 ?_
      show own_Ends _ _ _ _ _ _ _ T29 (mkF m 7 #[.val (.ref o0), .val (.int (Int32.ofNat i0)), .val (.ref r2), .val (.int (Int32.ofNat i))] [(.int (Int32.ofNat nn)), (.int (Int32.ofNat i))])
      have hc : Int32.ofNat i < Int32.ofNat nn := (own_ofNat_lt (by omega) (by omega)).mpr (by omega)
      refine own_go (fun _ k => XS.icmpNo X29.here hx rfl (hb hby d7_7) rfl (tlt hc).2.1 k) ?_
      show own_Ends _ _ _ _ _ _ _ T29 (mkF m 10 #[.val (.ref o0), .val (.int (Int32.ofNat i0)), .val (.ref r2), .val (.int (Int32.ofNat i))] [])
      refine own_go (fun _ k => XS.aloadN X29.here hx rfl (hb hby d7_10) rfl rfl k) ?_
      show own_Ends _ _ _ _ _ _ _ T29 (mkF m 11 #[.val (.ref o0), .val (.int (Int32.ofNat i0)), .val (.ref r2), .val (.int (Int32.ofNat i))] [(.ref r2)])
      refine own_go (fun _ k => XS.aloadN X29.here hx rfl (hb hby d7_11) rfl rfl k) ?_
      show own_Ends _ _ _ _ _ _ _ T29 (mkF m 12 #[.val (.ref o0), .val (.int (Int32.ofNat i0)), .val (.ref r2), .val (.int (Int32.ofNat i))] [(.ref o0), (.ref r2)])
      obtain ⟨T30, X30, e30, st30⟩ := getF X29 hx hZ hown (host := "") (Or.inl (hw _ (List.mem_of_getElem? (i := 12) rfl))) Via.refl e29 FB (g := (mkF m 12 #[.val (.ref o0), .val (.int (Int32.ofNat i0)), .val (.ref r2), .val (.int (Int32.ofNat i))] [(.ref o0), (.ref r2)])) rfl rfl (hb hby d7_12)
      refine own_go st30 ?_
      show own_Ends _ _ _ _ _ _ _ T30 (mkF m 15 #[.val (.ref o0), .val (.int (Int32.ofNat i0)), .val (.ref r2), .val (.int (Int32.ofNat i))] [(.ref ba), (.ref r2)])
      refine own_go (fun _ k => XS.iloadN X30.here hx rfl (hb hby d7_15) rfl k) ?_
      show own_Ends _ _ _ _ _ _ _ T30 (mkF m 16 #[.val (.ref o0), .val (.int (Int32.ofNat i0)), .val (.ref r2), .val (.int (Int32.ofNat i))] [(.int (Int32.ofNat i)), (.ref ba), (.ref r2)])
      refine own_go (fun _ k => own_ldB X30 hx hZ e30 A (i := i) (v := (.int (bv i))) (own_ofNat_nn (by omega)) (own_ofNat_cl (by omega)) (by omega) rfl (g := (mkF m 16 #[.val (.ref o0), .val (.int (Int32.ofNat i0)), .val (.ref r2), .val (.int (Int32.ofNat i))] [(.int (Int32.ofNat i)), (.ref ba), (.ref r2)])) rfl rfl (hb hby d7_16) _ k) ?_
      show own_Ends _ _ _ _ _ _ _ T30 (mkF m 17 #[.val (.ref o0), .val (.int (Int32.ofNat i0)), .val (.ref r2), .val (.int (Int32.ofNat i))] [(.int (bv i)), (.ref r2)])
      refine own_go (fun _ k => XS.sipush X30.here hx rfl (hb hby d7_17) k) ?_
      show own_Ends _ _ _ _ _ _ _ T30 (mkF m 20 #[.val (.ref o0), .val (.int (Int32.ofNat i0)), .val (.ref r2), .val (.int (Int32.ofNat i))] [(.int (255 : Int32)), (.int (bv i)), (.ref r2)])
      refine own_go (fun _ k => XS.iand X30.here hx rfl (hb hby d7_20) rfl k) ?_
      show own_Ends _ _ _ _ _ _ _ T30 (mkF m 21 #[.val (.ref o0), .val (.int (Int32.ofNat i0)), .val (.ref r2), .val (.int (Int32.ofNat i))] [(.int ((bv i) &&& (255 : Int32))), (.ref r2)])
      refine own_go (fun _ k => own_ldZ X30 hx hZ e30 M (i := ((bv i) &&& (255 : Int32)).toNatClampNeg) (v := (.int (mk ((bv i) &&& (255 : Int32)).toNatClampNeg))) (own_bn _) rfl (own_b256 _) rfl (g := (mkF m 21 #[.val (.ref o0), .val (.int (Int32.ofNat i0)), .val (.ref r2), .val (.int (Int32.ofNat i))] [(.int ((bv i) &&& (255 : Int32))), (.ref r2)])) rfl rfl (hb hby d7_21) _ k) ?_
      show own_Ends _ _ _ _ _ _ _ T30 (mkF m 22 #[.val (.ref o0), .val (.int (Int32.ofNat i0)), .val (.ref r2), .val (.int (Int32.ofNat i))] [(.int (mk ((bv i) &&& (255 : Int32)).toNatClampNeg))])
      by_cases h1 : (mk ((bv i) &&& (255 : Int32)).toNatClampNeg) = (0 : Int32)
      · refine own_go (fun _ k => XS.ifYes X30.here hx rfl (pc0 := 22) (pc' := 27) rfl (hb hby d7_22) rfl ((if0 _ _).trans (teq h1).1) (by decide) (by decide) k) ?_
        show own_Ends _ _ _ _ _ _ _ T30 (mkF m 27 #[.val (.ref o0), .val (.int (Int32.ofNat i0)), .val (.ref r2), .val (.int (Int32.ofNat i))] [])
        refine own_go (fun _ k => XS.iinc X30.here hx rfl (hb hby d7_27) rfl (l' := #[.val (.ref o0), .val (.int (Int32.ofNat i0)), .val (.ref r2), .val (.int ((Int32.ofNat i) + (1 : Int32)))]) rfl k) ?_
        show own_Ends _ _ _ _ _ _ _ T30 (mkF m 30 #[.val (.ref o0), .val (.int (Int32.ofNat i0)), .val (.ref r2), .val (.int ((Int32.ofNat i) + (1 : Int32)))] [])
        refine own_go (fun _ k => XS.goto X30.here hx rfl (pc0 := 30) (pc' := 2) rfl (hb hby d7_30) (by decide) (by decide) k) ?_
        show own_Ends _ _ _ _ _ _ _ T30 (mkF m 2 #[.val (.ref o0), .val (.int (Int32.ofNat i0)), .val (.ref r2), .val (.int ((Int32.ofNat i) + (1 : Int32)))] [])
        rw [show own_hol mk bv i (k + 1) = own_hol mk bv (i + 1) k from if_pos h1]
        rw [own_ofNat_s (by omega)]
        exact ih (i + 1) _ X30 e30 (by omega)
      · refine own_go (fun _ k => XS.ifNo X30.here hx rfl (hb hby d7_22) rfl ((if0 _ _).trans (feq h1).1) k) ?_
        show own_Ends _ _ _ _ _ _ _ T30 (mkF m 25 #[.val (.ref o0), .val (.int (Int32.ofNat i0)), .val (.ref r2), .val (.int (Int32.ofNat i))] [])
        refine own_go (fun _ k => XS.iconst X30.here hx rfl (hb hby d7_25) k) ?_
        show own_Ends _ _ _ _ _ _ _ T30 (mkF m 26 #[.val (.ref o0), .val (.int (Int32.ofNat i0)), .val (.ref r2), .val (.int (Int32.ofNat i))] [(.int (1 : Int32))])
        rw [show own_hol mk bv i (k + 1) = 1 from if_neg h1]
        exact own_retZ X30 hx hlk hret (by decide) (hb hby d7_26) (by decide) (by decide) ⟨rfl, rfl, e30⟩
  exact K (nn - i0) i0 _ X0 e0 (by omega)
def own_exp (a b c : Int32) : Int32 := if a = 0 then (if b = 0 then (if c = 0 then 0 else 1) else 1) else 1
theorem own_fin0 (p0 x1 x2 p1 y2 : Int32) (i0 : Nat) (hi : i0 ≤ 0) (z : Int32) (hz : own_exp (own_hit (0 : Int32) (p0 &&& (255 : Int32)) (0 : Int32) (Int32.ofNat i0) (p1 &&& (255 : Int32)) (y2 &&& (255 : Int32))) (own_hit (1 : Int32) (x1 &&& (255 : Int32)) (0 : Int32) (Int32.ofNat i0) (p1 &&& (255 : Int32)) (y2 &&& (255 : Int32))) (own_hit (2 : Int32) (x2 &&& (255 : Int32)) (0 : Int32) (Int32.ofNat i0) (p1 &&& (255 : Int32)) (y2 &&& (255 : Int32))) = z) : own_hol (own_mk (p1 &&& (255 : Int32)) (y2 &&& (255 : Int32))) (fun j =>  (0 : Int32)) i0 (0 - i0) = z := by
  rw [← hz]
  have seg : i0 = 0 := by omega
  rcases seg with rfl
  · simp [own_hol, own_hit, own_exp, own_by255, own_mk_hit]
    all_goals (repeat' split) <;> simp_all
theorem own_fin1 (p0 x1 x2 p1 y2 : Int32) (i0 : Nat) (hi : i0 ≤ 1) (z : Int32) (hz : own_exp (own_hit (0 : Int32) (p0 &&& (255 : Int32)) (1 : Int32) (Int32.ofNat i0) (p1 &&& (255 : Int32)) (y2 &&& (255 : Int32))) (own_hit (1 : Int32) (x1 &&& (255 : Int32)) (1 : Int32) (Int32.ofNat i0) (p1 &&& (255 : Int32)) (y2 &&& (255 : Int32))) (own_hit (2 : Int32) (x2 &&& (255 : Int32)) (1 : Int32) (Int32.ofNat i0) (p1 &&& (255 : Int32)) (y2 &&& (255 : Int32))) = z) : own_hol (own_mk (p1 &&& (255 : Int32)) (y2 &&& (255 : Int32))) (fun j => if j = 0 then own_by (p0 &&& (255 : Int32)) else (0 : Int32)) i0 (1 - i0) = z := by
  rw [← hz]
  have seg : i0 = 0 ∨ i0 = 1 := by omega
  rcases seg with rfl | rfl
  · simp [own_hol, own_hit, own_exp, own_by255, own_mk_hit]
    all_goals (repeat' split) <;> simp_all
  · simp [own_hol, own_hit, own_exp, own_by255, own_mk_hit]
    all_goals (repeat' split) <;> simp_all
theorem own_fin2 (p0 x1 x2 p1 y2 : Int32) (i0 : Nat) (hi : i0 ≤ 2) (z : Int32) (hz : own_exp (own_hit (0 : Int32) (p0 &&& (255 : Int32)) (2 : Int32) (Int32.ofNat i0) (p1 &&& (255 : Int32)) (y2 &&& (255 : Int32))) (own_hit (1 : Int32) (x1 &&& (255 : Int32)) (2 : Int32) (Int32.ofNat i0) (p1 &&& (255 : Int32)) (y2 &&& (255 : Int32))) (own_hit (2 : Int32) (x2 &&& (255 : Int32)) (2 : Int32) (Int32.ofNat i0) (p1 &&& (255 : Int32)) (y2 &&& (255 : Int32))) = z) : own_hol (own_mk (p1 &&& (255 : Int32)) (y2 &&& (255 : Int32))) (fun j => if j = 1 then own_by (x1 &&& (255 : Int32)) else if j = 0 then own_by (p0 &&& (255 : Int32)) else (0 : Int32)) i0 (2 - i0) = z := by
  rw [← hz]
  have seg : i0 = 0 ∨ i0 = 1 ∨ i0 = 2 := by omega
  rcases seg with rfl | rfl | rfl
  · simp [own_hol, own_hit, own_exp, own_by255, own_mk_hit]
    all_goals (repeat' split) <;> simp_all
  · simp [own_hol, own_hit, own_exp, own_by255, own_mk_hit]
    all_goals (repeat' split) <;> simp_all
  · simp [own_hol, own_hit, own_exp, own_by255, own_mk_hit]
    all_goals (repeat' split) <;> simp_all
theorem own_fin3 (p0 x1 x2 p1 y2 : Int32) (i0 : Nat) (hi : i0 ≤ 3) (z : Int32) (hz : own_exp (own_hit (0 : Int32) (p0 &&& (255 : Int32)) (3 : Int32) (Int32.ofNat i0) (p1 &&& (255 : Int32)) (y2 &&& (255 : Int32))) (own_hit (1 : Int32) (x1 &&& (255 : Int32)) (3 : Int32) (Int32.ofNat i0) (p1 &&& (255 : Int32)) (y2 &&& (255 : Int32))) (own_hit (2 : Int32) (x2 &&& (255 : Int32)) (3 : Int32) (Int32.ofNat i0) (p1 &&& (255 : Int32)) (y2 &&& (255 : Int32))) = z) : own_hol (own_mk (p1 &&& (255 : Int32)) (y2 &&& (255 : Int32))) (fun j => if j = 2 then own_by (x2 &&& (255 : Int32)) else if j = 1 then own_by (x1 &&& (255 : Int32)) else if j = 0 then own_by (p0 &&& (255 : Int32)) else (0 : Int32)) i0 (3 - i0) = z := by
  rw [← hz]
  have seg : i0 = 0 ∨ i0 = 1 ∨ i0 = 2 ∨ i0 = 3 := by omega
  rcases seg with rfl | rfl | rfl | rfl
  · simp [own_hol, own_hit, own_exp, own_by255, own_mk_hit]
    all_goals (repeat' split) <;> simp_all
  · simp [own_hol, own_hit, own_exp, own_by255, own_mk_hit]
    all_goals (repeat' split) <;> simp_all
  · simp [own_hol, own_hit, own_exp, own_by255, own_mk_hit]
    all_goals (repeat' split) <;> simp_all
  · simp [own_hol, own_hit, own_exp, own_by255, own_mk_hit]
    all_goals (repeat' split) <;> simp_all
set_option maxRecDepth 65536 in
set_option maxHeartbeats 40000000 in
theorem rm0 (l : Launch) (Z : State) (a0 : Array Value) (hw : ∀ d ∈ tables_1, d.before a0 Z = true) (p0 : Int32) (p1 : Int32) (p2 : Int32) (p3 : Int32) (h0 : Heap) :
    own_C l x code maxLocals ret room_1 Z #[(.int p0), (.int p1), (.int p2), (.int p3)] h0 (fun v h L => v = some (.int 1) ∧ Fr h0.size L) := by
  refine own_enter pn_0 ?_
  intro p e s m below meth c s₁ X0 hx hby hml hown hnm hret hlk hZ e0
  have hml : c.maxLocals = 14 := hml
  replace hown : s.vm.findClass "com/example/ledgerline/ledgerline/TextBufferHoldsAnyPinLaw" = some m.cls := hown
  have ef : entryFrame m #[(.int p0), (.int p1), (.int p2), (.int p3)] maxLocals = mkF m 0 #[.val (.int p0), .val (.int p1), .val (.int p2), .val (.int p3), .unset, .unset, .unset, .unset, .unset, .unset, .unset, .unset, .unset, .unset] [] := by first | rfl | (simp [entryFrame, mkF, argsToLocals, Value.category, maxLocals]; done)
  refine own_cast ef ?_
  show own_Ends _ _ _ _ _ _ _ s₁ (mkF m 0 #[.val (.int p0), .val (.int p1), .val (.int p2), .val (.int p3), .unset, .unset, .unset, .unset, .unset, .unset, .unset, .unset, .unset, .unset] [])
  have N0 := Fr.nil h0.size
  have K0 : Keep h0 h0 [] := Keep.refl _ _
  refine own_go (fun _ k => XS.iloadN X0.here hx rfl (hb hby at_0) rfl k) ?_
  show own_Ends _ _ _ _ _ _ _ s₁ (mkF m 1 #[.val (.int p0), .val (.int p1), .val (.int p2), .val (.int p3), .unset, .unset, .unset, .unset, .unset, .unset, .unset, .unset, .unset, .unset] [(.int p2)])
  refine own_go (fun _ k => XS.iconst X0.here hx rfl (hb hby at_1) k) ?_
  show own_Ends _ _ _ _ _ _ _ s₁ (mkF m 2 #[.val (.int p0), .val (.int p1), .val (.int p2), .val (.int p3), .unset, .unset, .unset, .unset, .unset, .unset, .unset, .unset, .unset, .unset] [(.int (3 : Int32)), (.int p2)])
  refine own_go (fun _ k => XS.iand X0.here hx rfl (hb hby at_2) rfl k) ?_
  show own_Ends _ _ _ _ _ _ _ s₁ (mkF m 3 #[.val (.int p0), .val (.int p1), .val (.int p2), .val (.int p3), .unset, .unset, .unset, .unset, .unset, .unset, .unset, .unset, .unset, .unset] [(.int (p2 &&& (3 : Int32)))])
  refine own_go (fun _ k => XS.istore X0.here hx rfl (hb hby at_3) rfl (l' := #[.val (.int p0), .val (.int p1), .val (.int p2), .val (.int p3), .val (.int (p2 &&& (3 : Int32))), .unset, .unset, .unset, .unset, .unset, .unset, .unset, .unset, .unset]) rfl k) ?_
  show own_Ends _ _ _ _ _ _ _ s₁ (mkF m 5 #[.val (.int p0), .val (.int p1), .val (.int p2), .val (.int p3), .val (.int (p2 &&& (3 : Int32))), .unset, .unset, .unset, .unset, .unset, .unset, .unset, .unset, .unset] [])
  refine own_go (fun _ k => XS.iloadN X0.here hx rfl (hb hby at_5) rfl k) ?_
  show own_Ends _ _ _ _ _ _ _ s₁ (mkF m 6 #[.val (.int p0), .val (.int p1), .val (.int p2), .val (.int p3), .val (.int (p2 &&& (3 : Int32))), .unset, .unset, .unset, .unset, .unset, .unset, .unset, .unset, .unset] [(.int p0)])
  refine own_go (fun _ k => XS.sipush X0.here hx rfl (hb hby at_6) k) ?_
  show own_Ends _ _ _ _ _ _ _ s₁ (mkF m 9 #[.val (.int p0), .val (.int p1), .val (.int p2), .val (.int p3), .val (.int (p2 &&& (3 : Int32))), .unset, .unset, .unset, .unset, .unset, .unset, .unset, .unset, .unset] [(.int (255 : Int32)), (.int p0)])
  refine own_go (fun _ k => XS.iand X0.here hx rfl (hb hby at_9) rfl k) ?_
  show own_Ends _ _ _ _ _ _ _ s₁ (mkF m 10 #[.val (.int p0), .val (.int p1), .val (.int p2), .val (.int p3), .val (.int (p2 &&& (3 : Int32))), .unset, .unset, .unset, .unset, .unset, .unset, .unset, .unset, .unset] [(.int (p0 &&& (255 : Int32)))])
  refine own_go (fun _ k => XS.istore X0.here hx rfl (hb hby at_10) rfl (l' := #[.val (.int p0), .val (.int p1), .val (.int p2), .val (.int p3), .val (.int (p2 &&& (3 : Int32))), .val (.int (p0 &&& (255 : Int32))), .unset, .unset, .unset, .unset, .unset, .unset, .unset, .unset]) rfl k) ?_
  show own_Ends _ _ _ _ _ _ _ s₁ (mkF m 12 #[.val (.int p0), .val (.int p1), .val (.int p2), .val (.int p3), .val (.int (p2 &&& (3 : Int32))), .val (.int (p0 &&& (255 : Int32))), .unset, .unset, .unset, .unset, .unset, .unset, .unset, .unset] [])
  refine own_go (fun _ k => XS.iloadN X0.here hx rfl (hb hby at_12) rfl k) ?_
  show own_Ends _ _ _ _ _ _ _ s₁ (mkF m 13 #[.val (.int p0), .val (.int p1), .val (.int p2), .val (.int p3), .val (.int (p2 &&& (3 : Int32))), .val (.int (p0 &&& (255 : Int32))), .unset, .unset, .unset, .unset, .unset, .unset, .unset, .unset] [(.int p0)])
  refine own_go (fun _ k => XS.bipush X0.here hx rfl (hb hby at_13) k) ?_
  show own_Ends _ _ _ _ _ _ _ s₁ (mkF m 15 #[.val (.int p0), .val (.int p1), .val (.int p2), .val (.int p3), .val (.int (p2 &&& (3 : Int32))), .val (.int (p0 &&& (255 : Int32))), .unset, .unset, .unset, .unset, .unset, .unset, .unset, .unset] [(.int (8 : Int32)), (.int p0)])
  refine own_go (fun _ k => XS.iushr X0.here hx rfl (hb hby at_15) rfl k) ?_
  show own_Ends _ _ _ _ _ _ _ s₁ (mkF m 16 #[.val (.int p0), .val (.int p1), .val (.int p2), .val (.int p3), .val (.int (p2 &&& (3 : Int32))), .val (.int (p0 &&& (255 : Int32))), .unset, .unset, .unset, .unset, .unset, .unset, .unset, .unset] [(.int ((p0.toUInt32 >>> ((8 : Int32) &&& 31).toUInt32).toInt32))])
  refine own_go (fun _ k => XS.sipush X0.here hx rfl (hb hby at_16) k) ?_
  show own_Ends _ _ _ _ _ _ _ s₁ (mkF m 19 #[.val (.int p0), .val (.int p1), .val (.int p2), .val (.int p3), .val (.int (p2 &&& (3 : Int32))), .val (.int (p0 &&& (255 : Int32))), .unset, .unset, .unset, .unset, .unset, .unset, .unset, .unset] [(.int (255 : Int32)), (.int ((p0.toUInt32 >>> ((8 : Int32) &&& 31).toUInt32).toInt32))])
  refine own_go (fun _ k => XS.iand X0.here hx rfl (hb hby at_19) rfl k) ?_
  show own_Ends _ _ _ _ _ _ _ s₁ (mkF m 20 #[.val (.int p0), .val (.int p1), .val (.int p2), .val (.int p3), .val (.int (p2 &&& (3 : Int32))), .val (.int (p0 &&& (255 : Int32))), .unset, .unset, .unset, .unset, .unset, .unset, .unset, .unset] [(.int (((p0.toUInt32 >>> ((8 : Int32) &&& 31).toUInt32).toInt32) &&& (255 : Int32)))])
  refine own_go (fun _ k => XS.istore X0.here hx rfl (hb hby at_20) rfl (l' := #[.val (.int p0), .val (.int p1), .val (.int p2), .val (.int p3), .val (.int (p2 &&& (3 : Int32))), .val (.int (p0 &&& (255 : Int32))), .val (.int (((p0.toUInt32 >>> ((8 : Int32) &&& 31).toUInt32).toInt32) &&& (255 : Int32))), .unset, .unset, .unset, .unset, .unset, .unset, .unset]) rfl k) ?_
  show own_Ends _ _ _ _ _ _ _ s₁ (mkF m 22 #[.val (.int p0), .val (.int p1), .val (.int p2), .val (.int p3), .val (.int (p2 &&& (3 : Int32))), .val (.int (p0 &&& (255 : Int32))), .val (.int (((p0.toUInt32 >>> ((8 : Int32) &&& 31).toUInt32).toInt32) &&& (255 : Int32))), .unset, .unset, .unset, .unset, .unset, .unset, .unset] [])
  refine own_go (fun _ k => XS.iloadN X0.here hx rfl (hb hby at_22) rfl k) ?_
  show own_Ends _ _ _ _ _ _ _ s₁ (mkF m 23 #[.val (.int p0), .val (.int p1), .val (.int p2), .val (.int p3), .val (.int (p2 &&& (3 : Int32))), .val (.int (p0 &&& (255 : Int32))), .val (.int (((p0.toUInt32 >>> ((8 : Int32) &&& 31).toUInt32).toInt32) &&& (255 : Int32))), .unset, .unset, .unset, .unset, .unset, .unset, .unset] [(.int p0)])
  refine own_go (fun _ k => XS.bipush X0.here hx rfl (hb hby at_23) k) ?_
  show own_Ends _ _ _ _ _ _ _ s₁ (mkF m 25 #[.val (.int p0), .val (.int p1), .val (.int p2), .val (.int p3), .val (.int (p2 &&& (3 : Int32))), .val (.int (p0 &&& (255 : Int32))), .val (.int (((p0.toUInt32 >>> ((8 : Int32) &&& 31).toUInt32).toInt32) &&& (255 : Int32))), .unset, .unset, .unset, .unset, .unset, .unset, .unset] [(.int (16 : Int32)), (.int p0)])
  refine own_go (fun _ k => XS.iushr X0.here hx rfl (hb hby at_25) rfl k) ?_
  show own_Ends _ _ _ _ _ _ _ s₁ (mkF m 26 #[.val (.int p0), .val (.int p1), .val (.int p2), .val (.int p3), .val (.int (p2 &&& (3 : Int32))), .val (.int (p0 &&& (255 : Int32))), .val (.int (((p0.toUInt32 >>> ((8 : Int32) &&& 31).toUInt32).toInt32) &&& (255 : Int32))), .unset, .unset, .unset, .unset, .unset, .unset, .unset] [(.int ((p0.toUInt32 >>> ((16 : Int32) &&& 31).toUInt32).toInt32))])
  refine own_go (fun _ k => XS.sipush X0.here hx rfl (hb hby at_26) k) ?_
  show own_Ends _ _ _ _ _ _ _ s₁ (mkF m 29 #[.val (.int p0), .val (.int p1), .val (.int p2), .val (.int p3), .val (.int (p2 &&& (3 : Int32))), .val (.int (p0 &&& (255 : Int32))), .val (.int (((p0.toUInt32 >>> ((8 : Int32) &&& 31).toUInt32).toInt32) &&& (255 : Int32))), .unset, .unset, .unset, .unset, .unset, .unset, .unset] [(.int (255 : Int32)), (.int ((p0.toUInt32 >>> ((16 : Int32) &&& 31).toUInt32).toInt32))])
  refine own_go (fun _ k => XS.iand X0.here hx rfl (hb hby at_29) rfl k) ?_
  show own_Ends _ _ _ _ _ _ _ s₁ (mkF m 30 #[.val (.int p0), .val (.int p1), .val (.int p2), .val (.int p3), .val (.int (p2 &&& (3 : Int32))), .val (.int (p0 &&& (255 : Int32))), .val (.int (((p0.toUInt32 >>> ((8 : Int32) &&& 31).toUInt32).toInt32) &&& (255 : Int32))), .unset, .unset, .unset, .unset, .unset, .unset, .unset] [(.int (((p0.toUInt32 >>> ((16 : Int32) &&& 31).toUInt32).toInt32) &&& (255 : Int32)))])
  refine own_go (fun _ k => XS.istore X0.here hx rfl (hb hby at_30) rfl (l' := #[.val (.int p0), .val (.int p1), .val (.int p2), .val (.int p3), .val (.int (p2 &&& (3 : Int32))), .val (.int (p0 &&& (255 : Int32))), .val (.int (((p0.toUInt32 >>> ((8 : Int32) &&& 31).toUInt32).toInt32) &&& (255 : Int32))), .val (.int (((p0.toUInt32 >>> ((16 : Int32) &&& 31).toUInt32).toInt32) &&& (255 : Int32))), .unset, .unset, .unset, .unset, .unset, .unset]) rfl k) ?_
  show own_Ends _ _ _ _ _ _ _ s₁ (mkF m 32 #[.val (.int p0), .val (.int p1), .val (.int p2), .val (.int p3), .val (.int (p2 &&& (3 : Int32))), .val (.int (p0 &&& (255 : Int32))), .val (.int (((p0.toUInt32 >>> ((8 : Int32) &&& 31).toUInt32).toInt32) &&& (255 : Int32))), .val (.int (((p0.toUInt32 >>> ((16 : Int32) &&& 31).toUInt32).toInt32) &&& (255 : Int32))), .unset, .unset, .unset, .unset, .unset, .unset] [])
  refine own_go (fun _ k => XS.iloadN X0.here hx rfl (hb hby at_32) rfl k) ?_
  show own_Ends _ _ _ _ _ _ _ s₁ (mkF m 33 #[.val (.int p0), .val (.int p1), .val (.int p2), .val (.int p3), .val (.int (p2 &&& (3 : Int32))), .val (.int (p0 &&& (255 : Int32))), .val (.int (((p0.toUInt32 >>> ((8 : Int32) &&& 31).toUInt32).toInt32) &&& (255 : Int32))), .val (.int (((p0.toUInt32 >>> ((16 : Int32) &&& 31).toUInt32).toInt32) &&& (255 : Int32))), .unset, .unset, .unset, .unset, .unset, .unset] [(.int p1)])
  refine own_go (fun _ k => XS.sipush X0.here hx rfl (hb hby at_33) k) ?_
  show own_Ends _ _ _ _ _ _ _ s₁ (mkF m 36 #[.val (.int p0), .val (.int p1), .val (.int p2), .val (.int p3), .val (.int (p2 &&& (3 : Int32))), .val (.int (p0 &&& (255 : Int32))), .val (.int (((p0.toUInt32 >>> ((8 : Int32) &&& 31).toUInt32).toInt32) &&& (255 : Int32))), .val (.int (((p0.toUInt32 >>> ((16 : Int32) &&& 31).toUInt32).toInt32) &&& (255 : Int32))), .unset, .unset, .unset, .unset, .unset, .unset] [(.int (255 : Int32)), (.int p1)])
  refine own_go (fun _ k => XS.iand X0.here hx rfl (hb hby at_36) rfl k) ?_
  show own_Ends _ _ _ _ _ _ _ s₁ (mkF m 37 #[.val (.int p0), .val (.int p1), .val (.int p2), .val (.int p3), .val (.int (p2 &&& (3 : Int32))), .val (.int (p0 &&& (255 : Int32))), .val (.int (((p0.toUInt32 >>> ((8 : Int32) &&& 31).toUInt32).toInt32) &&& (255 : Int32))), .val (.int (((p0.toUInt32 >>> ((16 : Int32) &&& 31).toUInt32).toInt32) &&& (255 : Int32))), .unset, .unset, .unset, .unset, .unset, .unset] [(.int (p1 &&& (255 : Int32)))])
  refine own_go (fun _ k => XS.istore X0.here hx rfl (hb hby at_37) rfl (l' := #[.val (.int p0), .val (.int p1), .val (.int p2), .val (.int p3), .val (.int (p2 &&& (3 : Int32))), .val (.int (p0 &&& (255 : Int32))), .val (.int (((p0.toUInt32 >>> ((8 : Int32) &&& 31).toUInt32).toInt32) &&& (255 : Int32))), .val (.int (((p0.toUInt32 >>> ((16 : Int32) &&& 31).toUInt32).toInt32) &&& (255 : Int32))), .val (.int (p1 &&& (255 : Int32))), .unset, .unset, .unset, .unset, .unset]) rfl k) ?_
  show own_Ends _ _ _ _ _ _ _ s₁ (mkF m 39 #[.val (.int p0), .val (.int p1), .val (.int p2), .val (.int p3), .val (.int (p2 &&& (3 : Int32))), .val (.int (p0 &&& (255 : Int32))), .val (.int (((p0.toUInt32 >>> ((8 : Int32) &&& 31).toUInt32).toInt32) &&& (255 : Int32))), .val (.int (((p0.toUInt32 >>> ((16 : Int32) &&& 31).toUInt32).toInt32) &&& (255 : Int32))), .val (.int (p1 &&& (255 : Int32))), .unset, .unset, .unset, .unset, .unset] [])
  refine own_go (fun _ k => XS.iloadN X0.here hx rfl (hb hby at_39) rfl k) ?_
  show own_Ends _ _ _ _ _ _ _ s₁ (mkF m 40 #[.val (.int p0), .val (.int p1), .val (.int p2), .val (.int p3), .val (.int (p2 &&& (3 : Int32))), .val (.int (p0 &&& (255 : Int32))), .val (.int (((p0.toUInt32 >>> ((8 : Int32) &&& 31).toUInt32).toInt32) &&& (255 : Int32))), .val (.int (((p0.toUInt32 >>> ((16 : Int32) &&& 31).toUInt32).toInt32) &&& (255 : Int32))), .val (.int (p1 &&& (255 : Int32))), .unset, .unset, .unset, .unset, .unset] [(.int p1)])
  refine own_go (fun _ k => XS.bipush X0.here hx rfl (hb hby at_40) k) ?_
  show own_Ends _ _ _ _ _ _ _ s₁ (mkF m 42 #[.val (.int p0), .val (.int p1), .val (.int p2), .val (.int p3), .val (.int (p2 &&& (3 : Int32))), .val (.int (p0 &&& (255 : Int32))), .val (.int (((p0.toUInt32 >>> ((8 : Int32) &&& 31).toUInt32).toInt32) &&& (255 : Int32))), .val (.int (((p0.toUInt32 >>> ((16 : Int32) &&& 31).toUInt32).toInt32) &&& (255 : Int32))), .val (.int (p1 &&& (255 : Int32))), .unset, .unset, .unset, .unset, .unset] [(.int (8 : Int32)), (.int p1)])
  refine own_go (fun _ k => XS.iushr X0.here hx rfl (hb hby at_42) rfl k) ?_
  show own_Ends _ _ _ _ _ _ _ s₁ (mkF m 43 #[.val (.int p0), .val (.int p1), .val (.int p2), .val (.int p3), .val (.int (p2 &&& (3 : Int32))), .val (.int (p0 &&& (255 : Int32))), .val (.int (((p0.toUInt32 >>> ((8 : Int32) &&& 31).toUInt32).toInt32) &&& (255 : Int32))), .val (.int (((p0.toUInt32 >>> ((16 : Int32) &&& 31).toUInt32).toInt32) &&& (255 : Int32))), .val (.int (p1 &&& (255 : Int32))), .unset, .unset, .unset, .unset, .unset] [(.int ((p1.toUInt32 >>> ((8 : Int32) &&& 31).toUInt32).toInt32))])
  refine own_go (fun _ k => XS.sipush X0.here hx rfl (hb hby at_43) k) ?_
  show own_Ends _ _ _ _ _ _ _ s₁ (mkF m 46 #[.val (.int p0), .val (.int p1), .val (.int p2), .val (.int p3), .val (.int (p2 &&& (3 : Int32))), .val (.int (p0 &&& (255 : Int32))), .val (.int (((p0.toUInt32 >>> ((8 : Int32) &&& 31).toUInt32).toInt32) &&& (255 : Int32))), .val (.int (((p0.toUInt32 >>> ((16 : Int32) &&& 31).toUInt32).toInt32) &&& (255 : Int32))), .val (.int (p1 &&& (255 : Int32))), .unset, .unset, .unset, .unset, .unset] [(.int (255 : Int32)), (.int ((p1.toUInt32 >>> ((8 : Int32) &&& 31).toUInt32).toInt32))])
  refine own_go (fun _ k => XS.iand X0.here hx rfl (hb hby at_46) rfl k) ?_
  show own_Ends _ _ _ _ _ _ _ s₁ (mkF m 47 #[.val (.int p0), .val (.int p1), .val (.int p2), .val (.int p3), .val (.int (p2 &&& (3 : Int32))), .val (.int (p0 &&& (255 : Int32))), .val (.int (((p0.toUInt32 >>> ((8 : Int32) &&& 31).toUInt32).toInt32) &&& (255 : Int32))), .val (.int (((p0.toUInt32 >>> ((16 : Int32) &&& 31).toUInt32).toInt32) &&& (255 : Int32))), .val (.int (p1 &&& (255 : Int32))), .unset, .unset, .unset, .unset, .unset] [(.int (((p1.toUInt32 >>> ((8 : Int32) &&& 31).toUInt32).toInt32) &&& (255 : Int32)))])
  refine own_go (fun _ k => XS.istore X0.here hx rfl (hb hby at_47) rfl (l' := #[.val (.int p0), .val (.int p1), .val (.int p2), .val (.int p3), .val (.int (p2 &&& (3 : Int32))), .val (.int (p0 &&& (255 : Int32))), .val (.int (((p0.toUInt32 >>> ((8 : Int32) &&& 31).toUInt32).toInt32) &&& (255 : Int32))), .val (.int (((p0.toUInt32 >>> ((16 : Int32) &&& 31).toUInt32).toInt32) &&& (255 : Int32))), .val (.int (p1 &&& (255 : Int32))), .val (.int (((p1.toUInt32 >>> ((8 : Int32) &&& 31).toUInt32).toInt32) &&& (255 : Int32))), .unset, .unset, .unset, .unset]) rfl k) ?_
  show own_Ends _ _ _ _ _ _ _ s₁ (mkF m 49 #[.val (.int p0), .val (.int p1), .val (.int p2), .val (.int p3), .val (.int (p2 &&& (3 : Int32))), .val (.int (p0 &&& (255 : Int32))), .val (.int (((p0.toUInt32 >>> ((8 : Int32) &&& 31).toUInt32).toInt32) &&& (255 : Int32))), .val (.int (((p0.toUInt32 >>> ((16 : Int32) &&& 31).toUInt32).toInt32) &&& (255 : Int32))), .val (.int (p1 &&& (255 : Int32))), .val (.int (((p1.toUInt32 >>> ((8 : Int32) &&& 31).toUInt32).toInt32) &&& (255 : Int32))), .unset, .unset, .unset, .unset] [])
  refine own_go (fun _ k => XS.iloadN X0.here hx rfl (hb hby at_49) rfl k) ?_
  show own_Ends _ _ _ _ _ _ _ s₁ (mkF m 50 #[.val (.int p0), .val (.int p1), .val (.int p2), .val (.int p3), .val (.int (p2 &&& (3 : Int32))), .val (.int (p0 &&& (255 : Int32))), .val (.int (((p0.toUInt32 >>> ((8 : Int32) &&& 31).toUInt32).toInt32) &&& (255 : Int32))), .val (.int (((p0.toUInt32 >>> ((16 : Int32) &&& 31).toUInt32).toInt32) &&& (255 : Int32))), .val (.int (p1 &&& (255 : Int32))), .val (.int (((p1.toUInt32 >>> ((8 : Int32) &&& 31).toUInt32).toInt32) &&& (255 : Int32))), .unset, .unset, .unset, .unset] [(.int p3)])
  refine own_go (fun _ k => X0.ldcInt hx hown (mvT hZ (hw _ (List.mem_of_getElem? (i := 0) rfl))) (g := (mkF m 50 #[.val (.int p0), .val (.int p1), .val (.int p2), .val (.int p3), .val (.int (p2 &&& (3 : Int32))), .val (.int (p0 &&& (255 : Int32))), .val (.int (((p0.toUInt32 >>> ((8 : Int32) &&& 31).toUInt32).toInt32) &&& (255 : Int32))), .val (.int (((p0.toUInt32 >>> ((16 : Int32) &&& 31).toUInt32).toInt32) &&& (255 : Int32))), .val (.int (p1 &&& (255 : Int32))), .val (.int (((p1.toUInt32 >>> ((8 : Int32) &&& 31).toUInt32).toInt32) &&& (255 : Int32))), .unset, .unset, .unset, .unset] [(.int p3)])) rfl (hb hby at_50) _ k) ?_
  show own_Ends _ _ _ _ _ _ _ s₁ (mkF m 52 #[.val (.int p0), .val (.int p1), .val (.int p2), .val (.int p3), .val (.int (p2 &&& (3 : Int32))), .val (.int (p0 &&& (255 : Int32))), .val (.int (((p0.toUInt32 >>> ((8 : Int32) &&& 31).toUInt32).toInt32) &&& (255 : Int32))), .val (.int (((p0.toUInt32 >>> ((16 : Int32) &&& 31).toUInt32).toInt32) &&& (255 : Int32))), .val (.int (p1 &&& (255 : Int32))), .val (.int (((p1.toUInt32 >>> ((8 : Int32) &&& 31).toUInt32).toInt32) &&& (255 : Int32))), .unset, .unset, .unset, .unset] [(.int (2147483647 : Int32)), (.int p3)])
  refine own_go (fun _ k => XS.iand X0.here hx rfl (hb hby at_52) rfl k) ?_
  show own_Ends _ _ _ _ _ _ _ s₁ (mkF m 53 #[.val (.int p0), .val (.int p1), .val (.int p2), .val (.int p3), .val (.int (p2 &&& (3 : Int32))), .val (.int (p0 &&& (255 : Int32))), .val (.int (((p0.toUInt32 >>> ((8 : Int32) &&& 31).toUInt32).toInt32) &&& (255 : Int32))), .val (.int (((p0.toUInt32 >>> ((16 : Int32) &&& 31).toUInt32).toInt32) &&& (255 : Int32))), .val (.int (p1 &&& (255 : Int32))), .val (.int (((p1.toUInt32 >>> ((8 : Int32) &&& 31).toUInt32).toInt32) &&& (255 : Int32))), .unset, .unset, .unset, .unset] [(.int (p3 &&& (2147483647 : Int32)))])
  refine own_go (fun _ k => XS.iload X0.here hx rfl (hb hby at_53) rfl k) ?_
  show own_Ends _ _ _ _ _ _ _ s₁ (mkF m 55 #[.val (.int p0), .val (.int p1), .val (.int p2), .val (.int p3), .val (.int (p2 &&& (3 : Int32))), .val (.int (p0 &&& (255 : Int32))), .val (.int (((p0.toUInt32 >>> ((8 : Int32) &&& 31).toUInt32).toInt32) &&& (255 : Int32))), .val (.int (((p0.toUInt32 >>> ((16 : Int32) &&& 31).toUInt32).toInt32) &&& (255 : Int32))), .val (.int (p1 &&& (255 : Int32))), .val (.int (((p1.toUInt32 >>> ((8 : Int32) &&& 31).toUInt32).toInt32) &&& (255 : Int32))), .unset, .unset, .unset, .unset] [(.int (p2 &&& (3 : Int32))), (.int (p3 &&& (2147483647 : Int32)))])
  refine own_go (fun _ k => XS.iconst X0.here hx rfl (hb hby at_55) k) ?_
  show own_Ends _ _ _ _ _ _ _ s₁ (mkF m 56 #[.val (.int p0), .val (.int p1), .val (.int p2), .val (.int p3), .val (.int (p2 &&& (3 : Int32))), .val (.int (p0 &&& (255 : Int32))), .val (.int (((p0.toUInt32 >>> ((8 : Int32) &&& 31).toUInt32).toInt32) &&& (255 : Int32))), .val (.int (((p0.toUInt32 >>> ((16 : Int32) &&& 31).toUInt32).toInt32) &&& (255 : Int32))), .val (.int (p1 &&& (255 : Int32))), .val (.int (((p1.toUInt32 >>> ((8 : Int32) &&& 31).toUInt32).toInt32) &&& (255 : Int32))), .unset, .unset, .unset, .unset] [(.int (1 : Int32)), (.int (p2 &&& (3 : Int32))), (.int (p3 &&& (2147483647 : Int32)))])
  refine own_go (fun _ k => XS.iadd X0.here hx rfl (hb hby at_56) rfl k) ?_
  show own_Ends _ _ _ _ _ _ _ s₁ (mkF m 57 #[.val (.int p0), .val (.int p1), .val (.int p2), .val (.int p3), .val (.int (p2 &&& (3 : Int32))), .val (.int (p0 &&& (255 : Int32))), .val (.int (((p0.toUInt32 >>> ((8 : Int32) &&& 31).toUInt32).toInt32) &&& (255 : Int32))), .val (.int (((p0.toUInt32 >>> ((16 : Int32) &&& 31).toUInt32).toInt32) &&& (255 : Int32))), .val (.int (p1 &&& (255 : Int32))), .val (.int (((p1.toUInt32 >>> ((8 : Int32) &&& 31).toUInt32).toInt32) &&& (255 : Int32))), .unset, .unset, .unset, .unset] [(.int ((p2 &&& (3 : Int32)) + (1 : Int32))), (.int (p3 &&& (2147483647 : Int32)))])
  generalize hh_x1 : ((p0.toUInt32 >>> ((8 : Int32) &&& 31).toUInt32).toInt32) = x1
  show own_Ends _ _ _ _ _ _ _ s₁ (mkF m 57 #[.val (.int p0), .val (.int p1), .val (.int p2), .val (.int p3), .val (.int (p2 &&& (3 : Int32))), .val (.int (p0 &&& (255 : Int32))), .val (.int (x1 &&& (255 : Int32))), .val (.int (((p0.toUInt32 >>> ((16 : Int32) &&& 31).toUInt32).toInt32) &&& (255 : Int32))), .val (.int (p1 &&& (255 : Int32))), .val (.int (((p1.toUInt32 >>> ((8 : Int32) &&& 31).toUInt32).toInt32) &&& (255 : Int32))), .unset, .unset, .unset, .unset] [(.int ((p2 &&& (3 : Int32)) + (1 : Int32))), (.int (p3 &&& (2147483647 : Int32)))])
  generalize hh_x2 : ((p0.toUInt32 >>> ((16 : Int32) &&& 31).toUInt32).toInt32) = x2
  show own_Ends _ _ _ _ _ _ _ s₁ (mkF m 57 #[.val (.int p0), .val (.int p1), .val (.int p2), .val (.int p3), .val (.int (p2 &&& (3 : Int32))), .val (.int (p0 &&& (255 : Int32))), .val (.int (x1 &&& (255 : Int32))), .val (.int (x2 &&& (255 : Int32))), .val (.int (p1 &&& (255 : Int32))), .val (.int (((p1.toUInt32 >>> ((8 : Int32) &&& 31).toUInt32).toInt32) &&& (255 : Int32))), .unset, .unset, .unset, .unset] [(.int ((p2 &&& (3 : Int32)) + (1 : Int32))), (.int (p3 &&& (2147483647 : Int32)))])
  generalize hh_y2 : ((p1.toUInt32 >>> ((8 : Int32) &&& 31).toUInt32).toInt32) = y2
  show own_Ends _ _ _ _ _ _ _ s₁ (mkF m 57 #[.val (.int p0), .val (.int p1), .val (.int p2), .val (.int p3), .val (.int (p2 &&& (3 : Int32))), .val (.int (p0 &&& (255 : Int32))), .val (.int (x1 &&& (255 : Int32))), .val (.int (x2 &&& (255 : Int32))), .val (.int (p1 &&& (255 : Int32))), .val (.int (y2 &&& (255 : Int32))), .unset, .unset, .unset, .unset] [(.int ((p2 &&& (3 : Int32)) + (1 : Int32))), (.int (p3 &&& (2147483647 : Int32)))])
  rcases own_and3 p2 with hn | hn | hn | hn
  · rw [show (p2 &&& (3 : Int32)) = (0 : Int32) from hn]
    show own_Ends _ _ _ _ _ _ _ s₁ (mkF m 57 #[.val (.int p0), .val (.int p1), .val (.int p2), .val (.int p3), .val (.int (0 : Int32)), .val (.int (p0 &&& (255 : Int32))), .val (.int (x1 &&& (255 : Int32))), .val (.int (x2 &&& (255 : Int32))), .val (.int (p1 &&& (255 : Int32))), .val (.int (y2 &&& (255 : Int32))), .unset, .unset, .unset, .unset] [(.int ((0 : Int32) + (1 : Int32))), (.int (p3 &&& (2147483647 : Int32)))])
    refine own_go (fun _ k => iremM X0 hx rfl (hb hby at_57) rfl (by decide) k) ?_
    show own_Ends _ _ _ _ _ _ _ s₁ (mkF m 58 #[.val (.int p0), .val (.int p1), .val (.int p2), .val (.int p3), .val (.int (0 : Int32)), .val (.int (p0 &&& (255 : Int32))), .val (.int (x1 &&& (255 : Int32))), .val (.int (x2 &&& (255 : Int32))), .val (.int (p1 &&& (255 : Int32))), .val (.int (y2 &&& (255 : Int32))), .unset, .unset, .unset, .unset] [(.int ((p3 &&& (2147483647 : Int32)) % ((0 : Int32) + (1 : Int32))))])
    obtain ⟨i0, hi0, hfr⟩ := own_from p3 ((0 : Int32) + (1 : Int32)) (by decide)
    have hd1 : ((0 : Int32) + (1 : Int32)).toInt = 1 := by decide
    have hi1 : i0 ≤ 0 := by omega
    rw [show ((p3 &&& (2147483647 : Int32)) % ((0 : Int32) + (1 : Int32))) = (Int32.ofNat i0) from hfr]
    show own_Ends _ _ _ _ _ _ _ s₁ (mkF m 58 #[.val (.int p0), .val (.int p1), .val (.int p2), .val (.int p3), .val (.int (0 : Int32)), .val (.int (p0 &&& (255 : Int32))), .val (.int (x1 &&& (255 : Int32))), .val (.int (x2 &&& (255 : Int32))), .val (.int (p1 &&& (255 : Int32))), .val (.int (y2 &&& (255 : Int32))), .unset, .unset, .unset, .unset] [(.int (Int32.ofNat i0))])
    refine own_go (fun _ k => XS.istore X0.here hx rfl (hb hby at_58) rfl (l' := #[.val (.int p0), .val (.int p1), .val (.int p2), .val (.int p3), .val (.int (0 : Int32)), .val (.int (p0 &&& (255 : Int32))), .val (.int (x1 &&& (255 : Int32))), .val (.int (x2 &&& (255 : Int32))), .val (.int (p1 &&& (255 : Int32))), .val (.int (y2 &&& (255 : Int32))), .val (.int (Int32.ofNat i0)), .unset, .unset, .unset]) rfl k) ?_
    show own_Ends _ _ _ _ _ _ _ s₁ (mkF m 60 #[.val (.int p0), .val (.int p1), .val (.int p2), .val (.int p3), .val (.int (0 : Int32)), .val (.int (p0 &&& (255 : Int32))), .val (.int (x1 &&& (255 : Int32))), .val (.int (x2 &&& (255 : Int32))), .val (.int (p1 &&& (255 : Int32))), .val (.int (y2 &&& (255 : Int32))), .val (.int (Int32.ofNat i0)), .unset, .unset, .unset] [])
    refine own_go (fun _ k => XS.sipush X0.here hx rfl (hb hby at_60) k) ?_
    show own_Ends _ _ _ _ _ _ _ s₁ (mkF m 63 #[.val (.int p0), .val (.int p1), .val (.int p2), .val (.int p3), .val (.int (0 : Int32)), .val (.int (p0 &&& (255 : Int32))), .val (.int (x1 &&& (255 : Int32))), .val (.int (x2 &&& (255 : Int32))), .val (.int (p1 &&& (255 : Int32))), .val (.int (y2 &&& (255 : Int32))), .val (.int (Int32.ofNat i0)), .unset, .unset, .unset] [(.int (256 : Int32))])
    obtain ⟨T31, h31, k31, X31, e31, E31, A31, st31⟩ := own_newP X0 hx hZ (aty := .boolean) (hw _ (List.mem_of_getElem? (i := 1) rfl)) e0 (g := (mkF m 63 #[.val (.int p0), .val (.int p1), .val (.int p2), .val (.int p3), .val (.int (0 : Int32)), .val (.int (p0 &&& (255 : Int32))), .val (.int (x1 &&& (255 : Int32))), .val (.int (x2 &&& (255 : Int32))), .val (.int (p1 &&& (255 : Int32))), .val (.int (y2 &&& (255 : Int32))), .val (.int (Int32.ofNat i0)), .unset, .unset, .unset] [(.int (256 : Int32))])) rfl (hb hby at_63) rfl (by decide) (n := 256) (by decide) (cap := 256) (by decide) (by decide) (by decide) (by decide)
    obtain ⟨bm, gq31⟩ : ∃ z, z = h0.size := ⟨_, rfl⟩
    rw [← gq31] at A31 st31
    have sz_bm : h0.size ≤ bm := Nat.le_trans K0.1 (Nat.le_of_eq gq31.symm)
    have g_bm : h0.size ≤ bm := Nat.le_trans (Nat.le_refl _) sz_bm
    have K_31 := K0.ext E31
    have V_bm : own_Ar Z h31 bm k31 .boolean 256 (fun _ => (.int (0 : Int32))) := A31
    refine own_go st31 ?_
    show own_Ends _ _ _ _ _ _ _ T31 (mkF m 65 #[.val (.int p0), .val (.int p1), .val (.int p2), .val (.int p3), .val (.int (0 : Int32)), .val (.int (p0 &&& (255 : Int32))), .val (.int (x1 &&& (255 : Int32))), .val (.int (x2 &&& (255 : Int32))), .val (.int (p1 &&& (255 : Int32))), .val (.int (y2 &&& (255 : Int32))), .val (.int (Int32.ofNat i0)), .unset, .unset, .unset] [(.ref bm)])
    refine own_go (fun _ k => XS.astore X31.here hx rfl (hb hby at_65) rfl rfl (l' := #[.val (.int p0), .val (.int p1), .val (.int p2), .val (.int p3), .val (.int (0 : Int32)), .val (.int (p0 &&& (255 : Int32))), .val (.int (x1 &&& (255 : Int32))), .val (.int (x2 &&& (255 : Int32))), .val (.int (p1 &&& (255 : Int32))), .val (.int (y2 &&& (255 : Int32))), .val (.int (Int32.ofNat i0)), .val (.ref bm), .unset, .unset]) rfl k) ?_
    show own_Ends _ _ _ _ _ _ _ T31 (mkF m 67 #[.val (.int p0), .val (.int p1), .val (.int p2), .val (.int p3), .val (.int (0 : Int32)), .val (.int (p0 &&& (255 : Int32))), .val (.int (x1 &&& (255 : Int32))), .val (.int (x2 &&& (255 : Int32))), .val (.int (p1 &&& (255 : Int32))), .val (.int (y2 &&& (255 : Int32))), .val (.int (Int32.ofNat i0)), .val (.ref bm), .unset, .unset] [])
    refine own_go (fun _ k => XS.aload X31.here hx rfl (hb hby at_67) rfl rfl k) ?_
    show own_Ends _ _ _ _ _ _ _ T31 (mkF m 69 #[.val (.int p0), .val (.int p1), .val (.int p2), .val (.int p3), .val (.int (0 : Int32)), .val (.int (p0 &&& (255 : Int32))), .val (.int (x1 &&& (255 : Int32))), .val (.int (x2 &&& (255 : Int32))), .val (.int (p1 &&& (255 : Int32))), .val (.int (y2 &&& (255 : Int32))), .val (.int (Int32.ofNat i0)), .val (.ref bm), .unset, .unset] [(.ref bm)])
    refine own_go (fun _ k => XS.iload X31.here hx rfl (hb hby at_69) rfl k) ?_
    show own_Ends _ _ _ _ _ _ _ T31 (mkF m 71 #[.val (.int p0), .val (.int p1), .val (.int p2), .val (.int p3), .val (.int (0 : Int32)), .val (.int (p0 &&& (255 : Int32))), .val (.int (x1 &&& (255 : Int32))), .val (.int (x2 &&& (255 : Int32))), .val (.int (p1 &&& (255 : Int32))), .val (.int (y2 &&& (255 : Int32))), .val (.int (Int32.ofNat i0)), .val (.ref bm), .unset, .unset] [(.int (p1 &&& (255 : Int32))), (.ref bm)])
    refine own_go (fun _ k => XS.iconst X31.here hx rfl (hb hby at_71) k) ?_
    show own_Ends _ _ _ _ _ _ _ T31 (mkF m 72 #[.val (.int p0), .val (.int p1), .val (.int p2), .val (.int p3), .val (.int (0 : Int32)), .val (.int (p0 &&& (255 : Int32))), .val (.int (x1 &&& (255 : Int32))), .val (.int (x2 &&& (255 : Int32))), .val (.int (p1 &&& (255 : Int32))), .val (.int (y2 &&& (255 : Int32))), .val (.int (Int32.ofNat i0)), .val (.ref bm), .unset, .unset] [(.int (1 : Int32)), (.int (p1 &&& (255 : Int32))), (.ref bm)])
    obtain ⟨T32, h32, X32, e32, W32, V32, st32⟩ := own_stZ X31 hx hZ e31 V_bm (i := (p1 &&& (255 : Int32)).toNatClampNeg) (own_bn _) rfl (own_b256 _) (g := (mkF m 72 #[.val (.int p0), .val (.int p1), .val (.int p2), .val (.int p3), .val (.int (0 : Int32)), .val (.int (p0 &&& (255 : Int32))), .val (.int (x1 &&& (255 : Int32))), .val (.int (x2 &&& (255 : Int32))), .val (.int (p1 &&& (255 : Int32))), .val (.int (y2 &&& (255 : Int32))), .val (.int (Int32.ofNat i0)), .val (.ref bm), .unset, .unset] [(.int (1 : Int32)), (.int (p1 &&& (255 : Int32))), (.ref bm)])) rfl rfl (hb hby at_72)
    have N32 := Fr.snoc X32 N0 g_bm
    have K_32 := K_31.wr W32 (Or.inr sz_bm)
    refine own_go st32 ?_
    show own_Ends _ _ _ _ _ _ _ T32 (mkF m 73 #[.val (.int p0), .val (.int p1), .val (.int p2), .val (.int p3), .val (.int (0 : Int32)), .val (.int (p0 &&& (255 : Int32))), .val (.int (x1 &&& (255 : Int32))), .val (.int (x2 &&& (255 : Int32))), .val (.int (p1 &&& (255 : Int32))), .val (.int (y2 &&& (255 : Int32))), .val (.int (Int32.ofNat i0)), .val (.ref bm), .unset, .unset] [])
    refine own_go (fun _ k => XS.aload X32.here hx rfl (hb hby at_73) rfl rfl k) ?_
    show own_Ends _ _ _ _ _ _ _ T32 (mkF m 75 #[.val (.int p0), .val (.int p1), .val (.int p2), .val (.int p3), .val (.int (0 : Int32)), .val (.int (p0 &&& (255 : Int32))), .val (.int (x1 &&& (255 : Int32))), .val (.int (x2 &&& (255 : Int32))), .val (.int (p1 &&& (255 : Int32))), .val (.int (y2 &&& (255 : Int32))), .val (.int (Int32.ofNat i0)), .val (.ref bm), .unset, .unset] [(.ref bm)])
    refine own_go (fun _ k => XS.iload X32.here hx rfl (hb hby at_75) rfl k) ?_
    show own_Ends _ _ _ _ _ _ _ T32 (mkF m 77 #[.val (.int p0), .val (.int p1), .val (.int p2), .val (.int p3), .val (.int (0 : Int32)), .val (.int (p0 &&& (255 : Int32))), .val (.int (x1 &&& (255 : Int32))), .val (.int (x2 &&& (255 : Int32))), .val (.int (p1 &&& (255 : Int32))), .val (.int (y2 &&& (255 : Int32))), .val (.int (Int32.ofNat i0)), .val (.ref bm), .unset, .unset] [(.int (y2 &&& (255 : Int32))), (.ref bm)])
    refine own_go (fun _ k => XS.iconst X32.here hx rfl (hb hby at_77) k) ?_
    show own_Ends _ _ _ _ _ _ _ T32 (mkF m 78 #[.val (.int p0), .val (.int p1), .val (.int p2), .val (.int p3), .val (.int (0 : Int32)), .val (.int (p0 &&& (255 : Int32))), .val (.int (x1 &&& (255 : Int32))), .val (.int (x2 &&& (255 : Int32))), .val (.int (p1 &&& (255 : Int32))), .val (.int (y2 &&& (255 : Int32))), .val (.int (Int32.ofNat i0)), .val (.ref bm), .unset, .unset] [(.int (1 : Int32)), (.int (y2 &&& (255 : Int32))), (.ref bm)])
    obtain ⟨T33, h33, X33, e33, W33, V33, st33⟩ := own_stZ X32 hx hZ e32 V32 (i := (y2 &&& (255 : Int32)).toNatClampNeg) (own_bn _) rfl (own_b256 _) (g := (mkF m 78 #[.val (.int p0), .val (.int p1), .val (.int p2), .val (.int p3), .val (.int (0 : Int32)), .val (.int (p0 &&& (255 : Int32))), .val (.int (x1 &&& (255 : Int32))), .val (.int (x2 &&& (255 : Int32))), .val (.int (p1 &&& (255 : Int32))), .val (.int (y2 &&& (255 : Int32))), .val (.int (Int32.ofNat i0)), .val (.ref bm), .unset, .unset] [(.int (1 : Int32)), (.int (y2 &&& (255 : Int32))), (.ref bm)])) rfl rfl (hb hby at_78)
    have N33 := Fr.snoc X33 N32 g_bm
    have K_33 := K_32.wr W33 (Or.inr sz_bm)
    have Vf33 : own_Ar Z h33 bm k31 .boolean 256 (fun j => .int (own_mk (p1 &&& (255 : Int32)) (y2 &&& (255 : Int32)) j)) := V33.cong (fun i _ => by
      unfold own_mk
      show (if _ then _ else if _ then _ else _) = _
      split
      · rfl
      · split <;> rfl)
    refine own_go st33 ?_
    show own_Ends _ _ _ _ _ _ _ T33 (mkF m 79 #[.val (.int p0), .val (.int p1), .val (.int p2), .val (.int p3), .val (.int (0 : Int32)), .val (.int (p0 &&& (255 : Int32))), .val (.int (x1 &&& (255 : Int32))), .val (.int (x2 &&& (255 : Int32))), .val (.int (p1 &&& (255 : Int32))), .val (.int (y2 &&& (255 : Int32))), .val (.int (Int32.ofNat i0)), .val (.ref bm), .unset, .unset] [])
    obtain ⟨T34, h34, X34, e34, E34, A34, D34, -, st34⟩ := newO X33 hx hZ hown (hw _ (List.mem_of_getElem? (i := 2) rfl)) (hw _ (List.mem_of_getElem? (i := 3) rfl)) (hw _ (List.mem_of_getElem? (i := 4) rfl)) e33 (g := (mkF m 79 #[.val (.int p0), .val (.int p1), .val (.int p2), .val (.int p3), .val (.int (0 : Int32)), .val (.int (p0 &&& (255 : Int32))), .val (.int (x1 &&& (255 : Int32))), .val (.int (x2 &&& (255 : Int32))), .val (.int (p1 &&& (255 : Int32))), .val (.int (y2 &&& (255 : Int32))), .val (.int (Int32.ofNat i0)), .val (.ref bm), .unset, .unset] [])) rfl (hb hby at_79) (by decide) (by decide)
    obtain ⟨bb, gq34⟩ : ∃ z, z = h33.size := ⟨_, rfl⟩
    rw [← gq34] at A34 D34 st34
    have ne_bm_bb : bm ≠ bb := Nat.ne_of_lt (Nat.lt_of_lt_of_le Vf33.lt (Nat.le_of_eq gq34.symm))
    have sz_bb : h0.size ≤ bb := Nat.le_trans K_33.1 (Nat.le_of_eq gq34.symm)
    have g_bb : h0.size ≤ bb := Nat.le_trans (Nat.le_refl _) sz_bb
    have K_34 := K_33.ext E34
    have V_bm_34 := Vf33.ext E34
    have F_bytes_bb : Fld Z h34 bb "com/example/ledgerline/ledgerline/TextBuffer" "bytes" "[B" .null := D34 (Or.inl (hw _ (List.mem_of_getElem? (i := 13) rfl))) (ty := (.array .byte)) (by decide)
    have F_length_bb : Fld Z h34 bb "com/example/ledgerline/ledgerline/TextBuffer" "length" "I" (.int (0 : Int32)) := D34 (Or.inl (hw _ (List.mem_of_getElem? (i := 24) rfl))) (ty := .int) (by decide)
    refine own_go st34 ?_
    show own_Ends _ _ _ _ _ _ _ T34 (mkF m 82 #[.val (.int p0), .val (.int p1), .val (.int p2), .val (.int p3), .val (.int (0 : Int32)), .val (.int (p0 &&& (255 : Int32))), .val (.int (x1 &&& (255 : Int32))), .val (.int (x2 &&& (255 : Int32))), .val (.int (p1 &&& (255 : Int32))), .val (.int (y2 &&& (255 : Int32))), .val (.int (Int32.ofNat i0)), .val (.ref bm), .unset, .unset] [(.ref bb)])
    refine own_go (fun _ k => XS.dup X34.here hx rfl (hb hby at_82) rfl rfl k) ?_
    show own_Ends _ _ _ _ _ _ _ T34 (mkF m 83 #[.val (.int p0), .val (.int p1), .val (.int p2), .val (.int p3), .val (.int (0 : Int32)), .val (.int (p0 &&& (255 : Int32))), .val (.int (x1 &&& (255 : Int32))), .val (.int (x2 &&& (255 : Int32))), .val (.int (p1 &&& (255 : Int32))), .val (.int (y2 &&& (255 : Int32))), .val (.int (Int32.ofNat i0)), .val (.ref bm), .unset, .unset] [(.ref bb), (.ref bb)])
    refine own_go (fun _ k => XS.iconst X34.here hx rfl (hb hby at_83) k) ?_
    show own_Ends _ _ _ _ _ _ _ T34 (mkF m 84 #[.val (.int p0), .val (.int p1), .val (.int p2), .val (.int p3), .val (.int (0 : Int32)), .val (.int (p0 &&& (255 : Int32))), .val (.int (x1 &&& (255 : Int32))), .val (.int (x2 &&& (255 : Int32))), .val (.int (p1 &&& (255 : Int32))), .val (.int (y2 &&& (255 : Int32))), .val (.int (Int32.ofNat i0)), .val (.ref bm), .unset, .unset] [(.int (4 : Int32)), (.ref bb), (.ref bb)])
    obtain ⟨v35, T35, L35, X35, hQ35, st35⟩ := own_callI X34 hx hZ hown rfl (hw _ (List.mem_of_getElem? (i := 5) rfl)) (hw _ (List.mem_of_getElem? (i := 6) rfl)) (hw _ (List.mem_of_getElem? (i := 4) rfl)) (hw _ (List.mem_of_getElem? (i := 7) rfl)) (rm1 l Z a0 hw bb 4 h34 h0.size K_34.1 A34 F_bytes_bb F_length_bb g_bb rfl) e34 (g := (mkF m 84 #[.val (.int p0), .val (.int p1), .val (.int p2), .val (.int p3), .val (.int (0 : Int32)), .val (.int (p0 &&& (255 : Int32))), .val (.int (x1 &&& (255 : Int32))), .val (.int (x2 &&& (255 : Int32))), .val (.int (p1 &&& (255 : Int32))), .val (.int (y2 &&& (255 : Int32))), .val (.int (Int32.ofNat i0)), .val (.ref bm), .unset, .unset] [(.int (4 : Int32)), (.ref bb), (.ref bb)])) rfl (by rw [hml]; rfl) (a := bb) (argsL := [(.int (4 : Int32))]) (rest := [(.ref bb)]) (lenOf pd_0 rfl) rfl rfl (W := 1) (by show 2 * 0 + _ ≤ _; exact Nat.le_of_eq rfl) (hb hby at_84) (by decide) (by decide) (by decide) (by decide) (by decide)
    obtain ⟨ba, kb, rfl, N35q, K35, E35, B35, G35, A35, s35⟩ := hQ35
    refine own_go st35 ?_
    have N35 := Fr.app N33 N35q
    show own_Ends _ _ _ _ _ _ _ T35 (mkF m 87 #[.val (.int p0), .val (.int p1), .val (.int p2), .val (.int p3), .val (.int (0 : Int32)), .val (.int (p0 &&& (255 : Int32))), .val (.int (x1 &&& (255 : Int32))), .val (.int (x2 &&& (255 : Int32))), .val (.int (p1 &&& (255 : Int32))), .val (.int (y2 &&& (255 : Int32))), .val (.int (Int32.ofNat i0)), .val (.ref bm), .unset, .unset] [(.ref bb)])
    have ne_bb_ba : bb ≠ ba := Nat.ne_of_lt (Nat.lt_of_lt_of_le A34.lt s35)
    have ne_bm_ba : bm ≠ ba := Nat.ne_of_lt (Nat.lt_of_lt_of_le V_bm_34.lt s35)
    have sz_ba : h0.size ≤ ba := Nat.le_trans K_34.1 s35
    have K_35 := K_34.trans K35 (allS (Or.inr sz_bb) all0)
    have V_bm_35 := V_bm_34.keep K35 (ninS ne_bm_bb nin0)
    have E_bb_35 := A34.keep K35
    show own_Ends _ _ _ _ _ _ _ T35 (mkF m 87 #[.val (.int p0), .val (.int p1), .val (.int p2), .val (.int p3), .val (.int (0 : Int32)), .val (.int (p0 &&& (255 : Int32))), .val (.int (x1 &&& (255 : Int32))), .val (.int (x2 &&& (255 : Int32))), .val (.int (p1 &&& (255 : Int32))), .val (.int (y2 &&& (255 : Int32))), .val (.int (Int32.ofNat i0)), .val (.ref bm), .unset, .unset] [(.ref bb)])
    refine own_go (fun _ k => XS.astore X35.here hx rfl (hb hby at_87) rfl rfl (l' := #[.val (.int p0), .val (.int p1), .val (.int p2), .val (.int p3), .val (.int (0 : Int32)), .val (.int (p0 &&& (255 : Int32))), .val (.int (x1 &&& (255 : Int32))), .val (.int (x2 &&& (255 : Int32))), .val (.int (p1 &&& (255 : Int32))), .val (.int (y2 &&& (255 : Int32))), .val (.int (Int32.ofNat i0)), .val (.ref bm), .val (.ref bb), .unset]) rfl k) ?_
    show own_Ends _ _ _ _ _ _ _ T35 (mkF m 89 #[.val (.int p0), .val (.int p1), .val (.int p2), .val (.int p3), .val (.int (0 : Int32)), .val (.int (p0 &&& (255 : Int32))), .val (.int (x1 &&& (255 : Int32))), .val (.int (x2 &&& (255 : Int32))), .val (.int (p1 &&& (255 : Int32))), .val (.int (y2 &&& (255 : Int32))), .val (.int (Int32.ofNat i0)), .val (.ref bm), .val (.ref bb), .unset] [])
    refine own_go (fun _ k => XS.iload X35.here hx rfl (hb hby at_89) rfl k) ?_
    show own_Ends _ _ _ _ _ _ _ T35 (mkF m 91 #[.val (.int p0), .val (.int p1), .val (.int p2), .val (.int p3), .val (.int (0 : Int32)), .val (.int (p0 &&& (255 : Int32))), .val (.int (x1 &&& (255 : Int32))), .val (.int (x2 &&& (255 : Int32))), .val (.int (p1 &&& (255 : Int32))), .val (.int (y2 &&& (255 : Int32))), .val (.int (Int32.ofNat i0)), .val (.ref bm), .val (.ref bb), .unset] [(.int (0 : Int32))])
    refine own_go (fun _ k => XS.ifYes X35.here hx rfl (pc0 := 91) (pc' := 103) rfl (hb hby at_91) rfl ((if0 _ _).trans (flt (by decide)).2.2.2) (by decide) (by decide) k) ?_
    show own_Ends _ _ _ _ _ _ _ T35 (mkF m 103 #[.val (.int p0), .val (.int p1), .val (.int p2), .val (.int p3), .val (.int (0 : Int32)), .val (.int (p0 &&& (255 : Int32))), .val (.int (x1 &&& (255 : Int32))), .val (.int (x2 &&& (255 : Int32))), .val (.int (p1 &&& (255 : Int32))), .val (.int (y2 &&& (255 : Int32))), .val (.int (Int32.ofNat i0)), .val (.ref bm), .val (.ref bb), .unset] [])
    refine own_go (fun _ k => XS.iload X35.here hx rfl (hb hby at_103) rfl k) ?_
    show own_Ends _ _ _ _ _ _ _ T35 (mkF m 105 #[.val (.int p0), .val (.int p1), .val (.int p2), .val (.int p3), .val (.int (0 : Int32)), .val (.int (p0 &&& (255 : Int32))), .val (.int (x1 &&& (255 : Int32))), .val (.int (x2 &&& (255 : Int32))), .val (.int (p1 &&& (255 : Int32))), .val (.int (y2 &&& (255 : Int32))), .val (.int (Int32.ofNat i0)), .val (.ref bm), .val (.ref bb), .unset] [(.int (0 : Int32))])
    refine own_go (fun _ k => XS.iconst X35.here hx rfl (hb hby at_105) k) ?_
    show own_Ends _ _ _ _ _ _ _ T35 (mkF m 106 #[.val (.int p0), .val (.int p1), .val (.int p2), .val (.int p3), .val (.int (0 : Int32)), .val (.int (p0 &&& (255 : Int32))), .val (.int (x1 &&& (255 : Int32))), .val (.int (x2 &&& (255 : Int32))), .val (.int (p1 &&& (255 : Int32))), .val (.int (y2 &&& (255 : Int32))), .val (.int (Int32.ofNat i0)), .val (.ref bm), .val (.ref bb), .unset] [(.int (1 : Int32)), (.int (0 : Int32))])
    refine own_go (fun _ k => XS.icmpYes X35.here hx rfl (pc0 := 106) (pc' := 118) rfl (hb hby at_106) rfl (flt (by decide)).2.2.2 (by decide) (by decide) k) ?_
    show own_Ends _ _ _ _ _ _ _ T35 (mkF m 118 #[.val (.int p0), .val (.int p1), .val (.int p2), .val (.int p3), .val (.int (0 : Int32)), .val (.int (p0 &&& (255 : Int32))), .val (.int (x1 &&& (255 : Int32))), .val (.int (x2 &&& (255 : Int32))), .val (.int (p1 &&& (255 : Int32))), .val (.int (y2 &&& (255 : Int32))), .val (.int (Int32.ofNat i0)), .val (.ref bm), .val (.ref bb), .unset] [])
    refine own_go (fun _ k => XS.iload X35.here hx rfl (hb hby at_118) rfl k) ?_
    show own_Ends _ _ _ _ _ _ _ T35 (mkF m 120 #[.val (.int p0), .val (.int p1), .val (.int p2), .val (.int p3), .val (.int (0 : Int32)), .val (.int (p0 &&& (255 : Int32))), .val (.int (x1 &&& (255 : Int32))), .val (.int (x2 &&& (255 : Int32))), .val (.int (p1 &&& (255 : Int32))), .val (.int (y2 &&& (255 : Int32))), .val (.int (Int32.ofNat i0)), .val (.ref bm), .val (.ref bb), .unset] [(.int (0 : Int32))])
    refine own_go (fun _ k => XS.iconst X35.here hx rfl (hb hby at_120) k) ?_
    show own_Ends _ _ _ _ _ _ _ T35 (mkF m 121 #[.val (.int p0), .val (.int p1), .val (.int p2), .val (.int p3), .val (.int (0 : Int32)), .val (.int (p0 &&& (255 : Int32))), .val (.int (x1 &&& (255 : Int32))), .val (.int (x2 &&& (255 : Int32))), .val (.int (p1 &&& (255 : Int32))), .val (.int (y2 &&& (255 : Int32))), .val (.int (Int32.ofNat i0)), .val (.ref bm), .val (.ref bb), .unset] [(.int (2 : Int32)), (.int (0 : Int32))])
    refine own_go (fun _ k => XS.icmpYes X35.here hx rfl (pc0 := 121) (pc' := 133) rfl (hb hby at_121) rfl (flt (by decide)).2.2.2 (by decide) (by decide) k) ?_
    show own_Ends _ _ _ _ _ _ _ T35 (mkF m 133 #[.val (.int p0), .val (.int p1), .val (.int p2), .val (.int p3), .val (.int (0 : Int32)), .val (.int (p0 &&& (255 : Int32))), .val (.int (x1 &&& (255 : Int32))), .val (.int (x2 &&& (255 : Int32))), .val (.int (p1 &&& (255 : Int32))), .val (.int (y2 &&& (255 : Int32))), .val (.int (Int32.ofNat i0)), .val (.ref bm), .val (.ref bb), .unset] [])
    refine own_go (fun _ k => XS.iconst X35.here hx rfl (hb hby at_133) k) ?_
    show own_Ends _ _ _ _ _ _ _ T35 (mkF m 134 #[.val (.int p0), .val (.int p1), .val (.int p2), .val (.int p3), .val (.int (0 : Int32)), .val (.int (p0 &&& (255 : Int32))), .val (.int (x1 &&& (255 : Int32))), .val (.int (x2 &&& (255 : Int32))), .val (.int (p1 &&& (255 : Int32))), .val (.int (y2 &&& (255 : Int32))), .val (.int (Int32.ofNat i0)), .val (.ref bm), .val (.ref bb), .unset] [(.int (0 : Int32))])
    refine own_go (fun _ k => XS.iload X35.here hx rfl (hb hby at_134) rfl k) ?_
    show own_Ends _ _ _ _ _ _ _ T35 (mkF m 136 #[.val (.int p0), .val (.int p1), .val (.int p2), .val (.int p3), .val (.int (0 : Int32)), .val (.int (p0 &&& (255 : Int32))), .val (.int (x1 &&& (255 : Int32))), .val (.int (x2 &&& (255 : Int32))), .val (.int (p1 &&& (255 : Int32))), .val (.int (y2 &&& (255 : Int32))), .val (.int (Int32.ofNat i0)), .val (.ref bm), .val (.ref bb), .unset] [(.int (p0 &&& (255 : Int32))), (.int (0 : Int32))])
    refine own_go (fun _ k => XS.iload X35.here hx rfl (hb hby at_136) rfl k) ?_
    show own_Ends _ _ _ _ _ _ _ T35 (mkF m 138 #[.val (.int p0), .val (.int p1), .val (.int p2), .val (.int p3), .val (.int (0 : Int32)), .val (.int (p0 &&& (255 : Int32))), .val (.int (x1 &&& (255 : Int32))), .val (.int (x2 &&& (255 : Int32))), .val (.int (p1 &&& (255 : Int32))), .val (.int (y2 &&& (255 : Int32))), .val (.int (Int32.ofNat i0)), .val (.ref bm), .val (.ref bb), .unset] [(.int (0 : Int32)), (.int (p0 &&& (255 : Int32))), (.int (0 : Int32))])
    refine own_go (fun _ k => XS.iload X35.here hx rfl (hb hby at_138) rfl k) ?_
    show own_Ends _ _ _ _ _ _ _ T35 (mkF m 140 #[.val (.int p0), .val (.int p1), .val (.int p2), .val (.int p3), .val (.int (0 : Int32)), .val (.int (p0 &&& (255 : Int32))), .val (.int (x1 &&& (255 : Int32))), .val (.int (x2 &&& (255 : Int32))), .val (.int (p1 &&& (255 : Int32))), .val (.int (y2 &&& (255 : Int32))), .val (.int (Int32.ofNat i0)), .val (.ref bm), .val (.ref bb), .unset] [(.int (Int32.ofNat i0)), (.int (0 : Int32)), (.int (p0 &&& (255 : Int32))), (.int (0 : Int32))])
    refine own_go (fun _ k => XS.iload X35.here hx rfl (hb hby at_140) rfl k) ?_
    show own_Ends _ _ _ _ _ _ _ T35 (mkF m 142 #[.val (.int p0), .val (.int p1), .val (.int p2), .val (.int p3), .val (.int (0 : Int32)), .val (.int (p0 &&& (255 : Int32))), .val (.int (x1 &&& (255 : Int32))), .val (.int (x2 &&& (255 : Int32))), .val (.int (p1 &&& (255 : Int32))), .val (.int (y2 &&& (255 : Int32))), .val (.int (Int32.ofNat i0)), .val (.ref bm), .val (.ref bb), .unset] [(.int (p1 &&& (255 : Int32))), (.int (Int32.ofNat i0)), (.int (0 : Int32)), (.int (p0 &&& (255 : Int32))), (.int (0 : Int32))])
    refine own_go (fun _ k => XS.iload X35.here hx rfl (hb hby at_142) rfl k) ?_
    show own_Ends _ _ _ _ _ _ _ T35 (mkF m 144 #[.val (.int p0), .val (.int p1), .val (.int p2), .val (.int p3), .val (.int (0 : Int32)), .val (.int (p0 &&& (255 : Int32))), .val (.int (x1 &&& (255 : Int32))), .val (.int (x2 &&& (255 : Int32))), .val (.int (p1 &&& (255 : Int32))), .val (.int (y2 &&& (255 : Int32))), .val (.int (Int32.ofNat i0)), .val (.ref bm), .val (.ref bb), .unset] [(.int (y2 &&& (255 : Int32))), (.int (p1 &&& (255 : Int32))), (.int (Int32.ofNat i0)), (.int (0 : Int32)), (.int (p0 &&& (255 : Int32))), (.int (0 : Int32))])
    have VB : own_Ar Z T35.heap ba kb .byte 4 (fun j => .int ((fun j =>  (0 : Int32)) j)) := A35.cong (fun i _ => by
      rfl)
    have VM : own_Ar Z T35.heap bm k31 .boolean 256 (fun j => .int (own_mk (p1 &&& (255 : Int32)) (y2 &&& (255 : Int32)) j)) := V_bm_35
    obtain ⟨v36, T36, L36, X36, hQ36, st36⟩ := own_callS X35 hx hZ hown (hw _ (List.mem_of_getElem? (i := 28) rfl)) (hw _ (List.mem_of_getElem? (i := 29) rfl)) (hw _ (List.mem_of_getElem? (i := 30) rfl)) (hw _ (List.mem_of_getElem? (i := 31) rfl)) (rm6 l Z a0 hw (0 : Int32) (p0 &&& (255 : Int32)) (0 : Int32) (Int32.ofNat i0) (p1 &&& (255 : Int32)) (y2 &&& (255 : Int32)) T35.heap) rfl (g := (mkF m 144 #[.val (.int p0), .val (.int p1), .val (.int p2), .val (.int p3), .val (.int (0 : Int32)), .val (.int (p0 &&& (255 : Int32))), .val (.int (x1 &&& (255 : Int32))), .val (.int (x2 &&& (255 : Int32))), .val (.int (p1 &&& (255 : Int32))), .val (.int (y2 &&& (255 : Int32))), .val (.int (Int32.ofNat i0)), .val (.ref bm), .val (.ref bb), .unset] [(.int (y2 &&& (255 : Int32))), (.int (p1 &&& (255 : Int32))), (.int (Int32.ofNat i0)), (.int (0 : Int32)), (.int (p0 &&& (255 : Int32))), (.int (0 : Int32))])) rfl (by rw [hml]; rfl) (argsL := [(.int (0 : Int32)), (.int (p0 &&& (255 : Int32))), (.int (0 : Int32)), (.int (Int32.ofNat i0)), (.int (p1 &&& (255 : Int32))), (.int (y2 &&& (255 : Int32)))]) (rest := []) (lenOf pd_2 rfl) rfl rfl (W := 0) (by show 2 * 0 + _ ≤ _; exact Nat.le_of_eq rfl) (hb hby at_144) (by decide) (by decide) (by decide) (by decide) (by decide)
    obtain ⟨rfl, rfl, e36⟩ := hQ36
    refine own_go st36 ?_
    have N36 := Fr.app N35 (Fr.nil _)
    show own_Ends _ _ _ _ _ _ _ T36 (mkF m 147 #[.val (.int p0), .val (.int p1), .val (.int p2), .val (.int p3), .val (.int (0 : Int32)), .val (.int (p0 &&& (255 : Int32))), .val (.int (x1 &&& (255 : Int32))), .val (.int (x2 &&& (255 : Int32))), .val (.int (p1 &&& (255 : Int32))), .val (.int (y2 &&& (255 : Int32))), .val (.int (Int32.ofNat i0)), .val (.ref bm), .val (.ref bb), .unset] [(.int (own_hit (0 : Int32) (p0 &&& (255 : Int32)) (0 : Int32) (Int32.ofNat i0) (p1 &&& (255 : Int32)) (y2 &&& (255 : Int32))))])
    by_cases t0 : (own_hit (0 : Int32) (p0 &&& (255 : Int32)) (0 : Int32) (Int32.ofNat i0) (p1 &&& (255 : Int32)) (y2 &&& (255 : Int32))) = (0 : Int32)
    · refine own_go (fun _ k => XS.ifNo X36.here hx rfl (hb hby at_147) rfl ((if0 _ _).trans (teq t0).2) k) ?_
      show own_Ends _ _ _ _ _ _ _ T36 (mkF m 150 #[.val (.int p0), .val (.int p1), .val (.int p2), .val (.int p3), .val (.int (0 : Int32)), .val (.int (p0 &&& (255 : Int32))), .val (.int (x1 &&& (255 : Int32))), .val (.int (x2 &&& (255 : Int32))), .val (.int (p1 &&& (255 : Int32))), .val (.int (y2 &&& (255 : Int32))), .val (.int (Int32.ofNat i0)), .val (.ref bm), .val (.ref bb), .unset] [])
      refine own_go (fun _ k => XS.iconst X36.here hx rfl (hb hby at_150) k) ?_
      show own_Ends _ _ _ _ _ _ _ T36 (mkF m 151 #[.val (.int p0), .val (.int p1), .val (.int p2), .val (.int p3), .val (.int (0 : Int32)), .val (.int (p0 &&& (255 : Int32))), .val (.int (x1 &&& (255 : Int32))), .val (.int (x2 &&& (255 : Int32))), .val (.int (p1 &&& (255 : Int32))), .val (.int (y2 &&& (255 : Int32))), .val (.int (Int32.ofNat i0)), .val (.ref bm), .val (.ref bb), .unset] [(.int (1 : Int32))])
      refine own_go (fun _ k => XS.iload X36.here hx rfl (hb hby at_151) rfl k) ?_
      show own_Ends _ _ _ _ _ _ _ T36 (mkF m 153 #[.val (.int p0), .val (.int p1), .val (.int p2), .val (.int p3), .val (.int (0 : Int32)), .val (.int (p0 &&& (255 : Int32))), .val (.int (x1 &&& (255 : Int32))), .val (.int (x2 &&& (255 : Int32))), .val (.int (p1 &&& (255 : Int32))), .val (.int (y2 &&& (255 : Int32))), .val (.int (Int32.ofNat i0)), .val (.ref bm), .val (.ref bb), .unset] [(.int (x1 &&& (255 : Int32))), (.int (1 : Int32))])
      refine own_go (fun _ k => XS.iload X36.here hx rfl (hb hby at_153) rfl k) ?_
      show own_Ends _ _ _ _ _ _ _ T36 (mkF m 155 #[.val (.int p0), .val (.int p1), .val (.int p2), .val (.int p3), .val (.int (0 : Int32)), .val (.int (p0 &&& (255 : Int32))), .val (.int (x1 &&& (255 : Int32))), .val (.int (x2 &&& (255 : Int32))), .val (.int (p1 &&& (255 : Int32))), .val (.int (y2 &&& (255 : Int32))), .val (.int (Int32.ofNat i0)), .val (.ref bm), .val (.ref bb), .unset] [(.int (0 : Int32)), (.int (x1 &&& (255 : Int32))), (.int (1 : Int32))])
      refine own_go (fun _ k => XS.iload X36.here hx rfl (hb hby at_155) rfl k) ?_
      show own_Ends _ _ _ _ _ _ _ T36 (mkF m 157 #[.val (.int p0), .val (.int p1), .val (.int p2), .val (.int p3), .val (.int (0 : Int32)), .val (.int (p0 &&& (255 : Int32))), .val (.int (x1 &&& (255 : Int32))), .val (.int (x2 &&& (255 : Int32))), .val (.int (p1 &&& (255 : Int32))), .val (.int (y2 &&& (255 : Int32))), .val (.int (Int32.ofNat i0)), .val (.ref bm), .val (.ref bb), .unset] [(.int (Int32.ofNat i0)), (.int (0 : Int32)), (.int (x1 &&& (255 : Int32))), (.int (1 : Int32))])
      refine own_go (fun _ k => XS.iload X36.here hx rfl (hb hby at_157) rfl k) ?_
      show own_Ends _ _ _ _ _ _ _ T36 (mkF m 159 #[.val (.int p0), .val (.int p1), .val (.int p2), .val (.int p3), .val (.int (0 : Int32)), .val (.int (p0 &&& (255 : Int32))), .val (.int (x1 &&& (255 : Int32))), .val (.int (x2 &&& (255 : Int32))), .val (.int (p1 &&& (255 : Int32))), .val (.int (y2 &&& (255 : Int32))), .val (.int (Int32.ofNat i0)), .val (.ref bm), .val (.ref bb), .unset] [(.int (p1 &&& (255 : Int32))), (.int (Int32.ofNat i0)), (.int (0 : Int32)), (.int (x1 &&& (255 : Int32))), (.int (1 : Int32))])
      refine own_go (fun _ k => XS.iload X36.here hx rfl (hb hby at_159) rfl k) ?_
      show own_Ends _ _ _ _ _ _ _ T36 (mkF m 161 #[.val (.int p0), .val (.int p1), .val (.int p2), .val (.int p3), .val (.int (0 : Int32)), .val (.int (p0 &&& (255 : Int32))), .val (.int (x1 &&& (255 : Int32))), .val (.int (x2 &&& (255 : Int32))), .val (.int (p1 &&& (255 : Int32))), .val (.int (y2 &&& (255 : Int32))), .val (.int (Int32.ofNat i0)), .val (.ref bm), .val (.ref bb), .unset] [(.int (y2 &&& (255 : Int32))), (.int (p1 &&& (255 : Int32))), (.int (Int32.ofNat i0)), (.int (0 : Int32)), (.int (x1 &&& (255 : Int32))), (.int (1 : Int32))])
      obtain ⟨v38, T38, L38, X38, hQ38, st38⟩ := own_callS X36 hx hZ hown (hw _ (List.mem_of_getElem? (i := 28) rfl)) (hw _ (List.mem_of_getElem? (i := 29) rfl)) (hw _ (List.mem_of_getElem? (i := 30) rfl)) (hw _ (List.mem_of_getElem? (i := 31) rfl)) (rm6 l Z a0 hw (1 : Int32) (x1 &&& (255 : Int32)) (0 : Int32) (Int32.ofNat i0) (p1 &&& (255 : Int32)) (y2 &&& (255 : Int32)) T35.heap) e36 (g := (mkF m 161 #[.val (.int p0), .val (.int p1), .val (.int p2), .val (.int p3), .val (.int (0 : Int32)), .val (.int (p0 &&& (255 : Int32))), .val (.int (x1 &&& (255 : Int32))), .val (.int (x2 &&& (255 : Int32))), .val (.int (p1 &&& (255 : Int32))), .val (.int (y2 &&& (255 : Int32))), .val (.int (Int32.ofNat i0)), .val (.ref bm), .val (.ref bb), .unset] [(.int (y2 &&& (255 : Int32))), (.int (p1 &&& (255 : Int32))), (.int (Int32.ofNat i0)), (.int (0 : Int32)), (.int (x1 &&& (255 : Int32))), (.int (1 : Int32))])) rfl (by rw [hml]; rfl) (argsL := [(.int (1 : Int32)), (.int (x1 &&& (255 : Int32))), (.int (0 : Int32)), (.int (Int32.ofNat i0)), (.int (p1 &&& (255 : Int32))), (.int (y2 &&& (255 : Int32)))]) (rest := []) (lenOf pd_2 rfl) rfl rfl (W := 0) (by show 2 * 0 + _ ≤ _; exact Nat.le_of_eq rfl) (hb hby at_161) (by decide) (by decide) (by decide) (by decide) (by decide)
      obtain ⟨rfl, rfl, e38⟩ := hQ38
      refine own_go st38 ?_
      have N38 := Fr.app N36 (Fr.nil _)
      show own_Ends _ _ _ _ _ _ _ T38 (mkF m 164 #[.val (.int p0), .val (.int p1), .val (.int p2), .val (.int p3), .val (.int (0 : Int32)), .val (.int (p0 &&& (255 : Int32))), .val (.int (x1 &&& (255 : Int32))), .val (.int (x2 &&& (255 : Int32))), .val (.int (p1 &&& (255 : Int32))), .val (.int (y2 &&& (255 : Int32))), .val (.int (Int32.ofNat i0)), .val (.ref bm), .val (.ref bb), .unset] [(.int (own_hit (1 : Int32) (x1 &&& (255 : Int32)) (0 : Int32) (Int32.ofNat i0) (p1 &&& (255 : Int32)) (y2 &&& (255 : Int32))))])
      by_cases t1 : (own_hit (1 : Int32) (x1 &&& (255 : Int32)) (0 : Int32) (Int32.ofNat i0) (p1 &&& (255 : Int32)) (y2 &&& (255 : Int32))) = (0 : Int32)
      · refine own_go (fun _ k => XS.ifNo X38.here hx rfl (hb hby at_164) rfl ((if0 _ _).trans (teq t1).2) k) ?_
        show own_Ends _ _ _ _ _ _ _ T38 (mkF m 167 #[.val (.int p0), .val (.int p1), .val (.int p2), .val (.int p3), .val (.int (0 : Int32)), .val (.int (p0 &&& (255 : Int32))), .val (.int (x1 &&& (255 : Int32))), .val (.int (x2 &&& (255 : Int32))), .val (.int (p1 &&& (255 : Int32))), .val (.int (y2 &&& (255 : Int32))), .val (.int (Int32.ofNat i0)), .val (.ref bm), .val (.ref bb), .unset] [])
        refine own_go (fun _ k => XS.iconst X38.here hx rfl (hb hby at_167) k) ?_
        show own_Ends _ _ _ _ _ _ _ T38 (mkF m 168 #[.val (.int p0), .val (.int p1), .val (.int p2), .val (.int p3), .val (.int (0 : Int32)), .val (.int (p0 &&& (255 : Int32))), .val (.int (x1 &&& (255 : Int32))), .val (.int (x2 &&& (255 : Int32))), .val (.int (p1 &&& (255 : Int32))), .val (.int (y2 &&& (255 : Int32))), .val (.int (Int32.ofNat i0)), .val (.ref bm), .val (.ref bb), .unset] [(.int (2 : Int32))])
        refine own_go (fun _ k => XS.iload X38.here hx rfl (hb hby at_168) rfl k) ?_
        show own_Ends _ _ _ _ _ _ _ T38 (mkF m 170 #[.val (.int p0), .val (.int p1), .val (.int p2), .val (.int p3), .val (.int (0 : Int32)), .val (.int (p0 &&& (255 : Int32))), .val (.int (x1 &&& (255 : Int32))), .val (.int (x2 &&& (255 : Int32))), .val (.int (p1 &&& (255 : Int32))), .val (.int (y2 &&& (255 : Int32))), .val (.int (Int32.ofNat i0)), .val (.ref bm), .val (.ref bb), .unset] [(.int (x2 &&& (255 : Int32))), (.int (2 : Int32))])
        refine own_go (fun _ k => XS.iload X38.here hx rfl (hb hby at_170) rfl k) ?_
        show own_Ends _ _ _ _ _ _ _ T38 (mkF m 172 #[.val (.int p0), .val (.int p1), .val (.int p2), .val (.int p3), .val (.int (0 : Int32)), .val (.int (p0 &&& (255 : Int32))), .val (.int (x1 &&& (255 : Int32))), .val (.int (x2 &&& (255 : Int32))), .val (.int (p1 &&& (255 : Int32))), .val (.int (y2 &&& (255 : Int32))), .val (.int (Int32.ofNat i0)), .val (.ref bm), .val (.ref bb), .unset] [(.int (0 : Int32)), (.int (x2 &&& (255 : Int32))), (.int (2 : Int32))])
        refine own_go (fun _ k => XS.iload X38.here hx rfl (hb hby at_172) rfl k) ?_
        show own_Ends _ _ _ _ _ _ _ T38 (mkF m 174 #[.val (.int p0), .val (.int p1), .val (.int p2), .val (.int p3), .val (.int (0 : Int32)), .val (.int (p0 &&& (255 : Int32))), .val (.int (x1 &&& (255 : Int32))), .val (.int (x2 &&& (255 : Int32))), .val (.int (p1 &&& (255 : Int32))), .val (.int (y2 &&& (255 : Int32))), .val (.int (Int32.ofNat i0)), .val (.ref bm), .val (.ref bb), .unset] [(.int (Int32.ofNat i0)), (.int (0 : Int32)), (.int (x2 &&& (255 : Int32))), (.int (2 : Int32))])
        refine own_go (fun _ k => XS.iload X38.here hx rfl (hb hby at_174) rfl k) ?_
        show own_Ends _ _ _ _ _ _ _ T38 (mkF m 176 #[.val (.int p0), .val (.int p1), .val (.int p2), .val (.int p3), .val (.int (0 : Int32)), .val (.int (p0 &&& (255 : Int32))), .val (.int (x1 &&& (255 : Int32))), .val (.int (x2 &&& (255 : Int32))), .val (.int (p1 &&& (255 : Int32))), .val (.int (y2 &&& (255 : Int32))), .val (.int (Int32.ofNat i0)), .val (.ref bm), .val (.ref bb), .unset] [(.int (p1 &&& (255 : Int32))), (.int (Int32.ofNat i0)), (.int (0 : Int32)), (.int (x2 &&& (255 : Int32))), (.int (2 : Int32))])
        refine own_go (fun _ k => XS.iload X38.here hx rfl (hb hby at_176) rfl k) ?_
        show own_Ends _ _ _ _ _ _ _ T38 (mkF m 178 #[.val (.int p0), .val (.int p1), .val (.int p2), .val (.int p3), .val (.int (0 : Int32)), .val (.int (p0 &&& (255 : Int32))), .val (.int (x1 &&& (255 : Int32))), .val (.int (x2 &&& (255 : Int32))), .val (.int (p1 &&& (255 : Int32))), .val (.int (y2 &&& (255 : Int32))), .val (.int (Int32.ofNat i0)), .val (.ref bm), .val (.ref bb), .unset] [(.int (y2 &&& (255 : Int32))), (.int (p1 &&& (255 : Int32))), (.int (Int32.ofNat i0)), (.int (0 : Int32)), (.int (x2 &&& (255 : Int32))), (.int (2 : Int32))])
        obtain ⟨v40, T40, L40, X40, hQ40, st40⟩ := own_callS X38 hx hZ hown (hw _ (List.mem_of_getElem? (i := 28) rfl)) (hw _ (List.mem_of_getElem? (i := 29) rfl)) (hw _ (List.mem_of_getElem? (i := 30) rfl)) (hw _ (List.mem_of_getElem? (i := 31) rfl)) (rm6 l Z a0 hw (2 : Int32) (x2 &&& (255 : Int32)) (0 : Int32) (Int32.ofNat i0) (p1 &&& (255 : Int32)) (y2 &&& (255 : Int32)) T35.heap) e38 (g := (mkF m 178 #[.val (.int p0), .val (.int p1), .val (.int p2), .val (.int p3), .val (.int (0 : Int32)), .val (.int (p0 &&& (255 : Int32))), .val (.int (x1 &&& (255 : Int32))), .val (.int (x2 &&& (255 : Int32))), .val (.int (p1 &&& (255 : Int32))), .val (.int (y2 &&& (255 : Int32))), .val (.int (Int32.ofNat i0)), .val (.ref bm), .val (.ref bb), .unset] [(.int (y2 &&& (255 : Int32))), (.int (p1 &&& (255 : Int32))), (.int (Int32.ofNat i0)), (.int (0 : Int32)), (.int (x2 &&& (255 : Int32))), (.int (2 : Int32))])) rfl (by rw [hml]; rfl) (argsL := [(.int (2 : Int32)), (.int (x2 &&& (255 : Int32))), (.int (0 : Int32)), (.int (Int32.ofNat i0)), (.int (p1 &&& (255 : Int32))), (.int (y2 &&& (255 : Int32)))]) (rest := []) (lenOf pd_2 rfl) rfl rfl (W := 0) (by show 2 * 0 + _ ≤ _; exact Nat.le_of_eq rfl) (hb hby at_178) (by decide) (by decide) (by decide) (by decide) (by decide)
        obtain ⟨rfl, rfl, e40⟩ := hQ40
        refine own_go st40 ?_
        have N40 := Fr.app N38 (Fr.nil _)
        show own_Ends _ _ _ _ _ _ _ T40 (mkF m 181 #[.val (.int p0), .val (.int p1), .val (.int p2), .val (.int p3), .val (.int (0 : Int32)), .val (.int (p0 &&& (255 : Int32))), .val (.int (x1 &&& (255 : Int32))), .val (.int (x2 &&& (255 : Int32))), .val (.int (p1 &&& (255 : Int32))), .val (.int (y2 &&& (255 : Int32))), .val (.int (Int32.ofNat i0)), .val (.ref bm), .val (.ref bb), .unset] [(.int (own_hit (2 : Int32) (x2 &&& (255 : Int32)) (0 : Int32) (Int32.ofNat i0) (p1 &&& (255 : Int32)) (y2 &&& (255 : Int32))))])
        by_cases t2 : (own_hit (2 : Int32) (x2 &&& (255 : Int32)) (0 : Int32) (Int32.ofNat i0) (p1 &&& (255 : Int32)) (y2 &&& (255 : Int32))) = (0 : Int32)
        · refine own_go (fun _ k => XS.ifYes X40.here hx rfl (pc0 := 181) (pc' := 188) rfl (hb hby at_181) rfl ((if0 _ _).trans (teq t2).1) (by decide) (by decide) k) ?_
          show own_Ends _ _ _ _ _ _ _ T40 (mkF m 188 #[.val (.int p0), .val (.int p1), .val (.int p2), .val (.int p3), .val (.int (0 : Int32)), .val (.int (p0 &&& (255 : Int32))), .val (.int (x1 &&& (255 : Int32))), .val (.int (x2 &&& (255 : Int32))), .val (.int (p1 &&& (255 : Int32))), .val (.int (y2 &&& (255 : Int32))), .val (.int (Int32.ofNat i0)), .val (.ref bm), .val (.ref bb), .unset] [])
          refine own_go (fun _ k => XS.iconst X40.here hx rfl (hb hby at_188) k) ?_
          show own_Ends _ _ _ _ _ _ _ T40 (mkF m 189 #[.val (.int p0), .val (.int p1), .val (.int p2), .val (.int p3), .val (.int (0 : Int32)), .val (.int (p0 &&& (255 : Int32))), .val (.int (x1 &&& (255 : Int32))), .val (.int (x2 &&& (255 : Int32))), .val (.int (p1 &&& (255 : Int32))), .val (.int (y2 &&& (255 : Int32))), .val (.int (Int32.ofNat i0)), .val (.ref bm), .val (.ref bb), .unset] [(.int (0 : Int32))])
          refine own_go (fun _ k => XS.istore X40.here hx rfl (hb hby at_189) rfl (l' := #[.val (.int p0), .val (.int p1), .val (.int p2), .val (.int p3), .val (.int (0 : Int32)), .val (.int (p0 &&& (255 : Int32))), .val (.int (x1 &&& (255 : Int32))), .val (.int (x2 &&& (255 : Int32))), .val (.int (p1 &&& (255 : Int32))), .val (.int (y2 &&& (255 : Int32))), .val (.int (Int32.ofNat i0)), .val (.ref bm), .val (.ref bb), .val (.int (0 : Int32))]) rfl k) ?_
          show own_Ends _ _ _ _ _ _ _ T40 (mkF m 191 #[.val (.int p0), .val (.int p1), .val (.int p2), .val (.int p3), .val (.int (0 : Int32)), .val (.int (p0 &&& (255 : Int32))), .val (.int (x1 &&& (255 : Int32))), .val (.int (x2 &&& (255 : Int32))), .val (.int (p1 &&& (255 : Int32))), .val (.int (y2 &&& (255 : Int32))), .val (.int (Int32.ofNat i0)), .val (.ref bm), .val (.ref bb), .val (.int (0 : Int32))] [])
          refine own_go (fun _ k => XS.aload X40.here hx rfl (hb hby at_191) rfl rfl k) ?_
          show own_Ends _ _ _ _ _ _ _ T40 (mkF m 193 #[.val (.int p0), .val (.int p1), .val (.int p2), .val (.int p3), .val (.int (0 : Int32)), .val (.int (p0 &&& (255 : Int32))), .val (.int (x1 &&& (255 : Int32))), .val (.int (x2 &&& (255 : Int32))), .val (.int (p1 &&& (255 : Int32))), .val (.int (y2 &&& (255 : Int32))), .val (.int (Int32.ofNat i0)), .val (.ref bm), .val (.ref bb), .val (.int (0 : Int32))] [(.ref bb)])
          refine own_go (fun _ k => XS.iload X40.here hx rfl (hb hby at_193) rfl k) ?_
          show own_Ends _ _ _ _ _ _ _ T40 (mkF m 195 #[.val (.int p0), .val (.int p1), .val (.int p2), .val (.int p3), .val (.int (0 : Int32)), .val (.int (p0 &&& (255 : Int32))), .val (.int (x1 &&& (255 : Int32))), .val (.int (x2 &&& (255 : Int32))), .val (.int (p1 &&& (255 : Int32))), .val (.int (y2 &&& (255 : Int32))), .val (.int (Int32.ofNat i0)), .val (.ref bm), .val (.ref bb), .val (.int (0 : Int32))] [(.int (Int32.ofNat i0)), (.ref bb)])
          refine own_go (fun _ k => XS.aload X40.here hx rfl (hb hby at_195) rfl rfl k) ?_
          show own_Ends _ _ _ _ _ _ _ T40 (mkF m 197 #[.val (.int p0), .val (.int p1), .val (.int p2), .val (.int p3), .val (.int (0 : Int32)), .val (.int (p0 &&& (255 : Int32))), .val (.int (x1 &&& (255 : Int32))), .val (.int (x2 &&& (255 : Int32))), .val (.int (p1 &&& (255 : Int32))), .val (.int (y2 &&& (255 : Int32))), .val (.int (Int32.ofNat i0)), .val (.ref bm), .val (.ref bb), .val (.int (0 : Int32))] [(.ref bm), (.int (Int32.ofNat i0)), (.ref bb)])
          obtain ⟨v41, T41, L41, X41, hQ41, st41⟩ := own_callV X40 hx hZ hown (hw _ (List.mem_of_getElem? (i := 32) rfl)) (hw _ (List.mem_of_getElem? (i := 33) rfl)) (hw _ (List.mem_of_getElem? (i := 35) rfl)) (hw _ (List.mem_of_getElem? (i := 34) rfl)) (hw _ (List.mem_of_getElem? (i := 4) rfl)) (hw _ (List.mem_of_getElem? (i := 36) rfl)) (rm7 l Z a0 hw bb (Int32.ofNat i0) bm T35.heap ba kb k31 (fun j =>  (0 : Int32)) (own_mk (p1 &&& (255 : Int32)) (y2 &&& (255 : Int32))) i0 0 B35 G35 VB VM rfl hi1 (by decide)) e40 (g := (mkF m 197 #[.val (.int p0), .val (.int p1), .val (.int p2), .val (.int p3), .val (.int (0 : Int32)), .val (.int (p0 &&& (255 : Int32))), .val (.int (x1 &&& (255 : Int32))), .val (.int (x2 &&& (255 : Int32))), .val (.int (p1 &&& (255 : Int32))), .val (.int (y2 &&& (255 : Int32))), .val (.int (Int32.ofNat i0)), .val (.ref bm), .val (.ref bb), .val (.int (0 : Int32))] [(.ref bm), (.int (Int32.ofNat i0)), (.ref bb)])) rfl (by rw [hml]; rfl) (a := bb) (argsL := [(.int (Int32.ofNat i0)), (.ref bm)]) (rest := []) (E_bb_35) (lenOf pd_3 rfl) rfl rfl (W := 0) (by show 2 * 0 + _ ≤ _; exact Nat.le_of_eq rfl) (hb hby at_197) (by decide) (by decide) (by decide) (by decide) (by decide)
          obtain ⟨rfl, rfl, e41⟩ := hQ41
          refine own_go st41 ?_
          have N41 := Fr.app N40 (Fr.nil _)
          show own_Ends _ _ _ _ _ _ _ T41 (mkF m 200 #[.val (.int p0), .val (.int p1), .val (.int p2), .val (.int p3), .val (.int (0 : Int32)), .val (.int (p0 &&& (255 : Int32))), .val (.int (x1 &&& (255 : Int32))), .val (.int (x2 &&& (255 : Int32))), .val (.int (p1 &&& (255 : Int32))), .val (.int (y2 &&& (255 : Int32))), .val (.int (Int32.ofNat i0)), .val (.ref bm), .val (.ref bb), .val (.int (0 : Int32))] [(.int (own_hol (own_mk (p1 &&& (255 : Int32)) (y2 &&& (255 : Int32))) (fun j =>  (0 : Int32)) i0 (0 - i0)))])
          refine own_go (fun _ k => XS.iload X41.here hx rfl (hb hby at_200) rfl k) ?_
          show own_Ends _ _ _ _ _ _ _ T41 (mkF m 202 #[.val (.int p0), .val (.int p1), .val (.int p2), .val (.int p3), .val (.int (0 : Int32)), .val (.int (p0 &&& (255 : Int32))), .val (.int (x1 &&& (255 : Int32))), .val (.int (x2 &&& (255 : Int32))), .val (.int (p1 &&& (255 : Int32))), .val (.int (y2 &&& (255 : Int32))), .val (.int (Int32.ofNat i0)), .val (.ref bm), .val (.ref bb), .val (.int (0 : Int32))] [(.int (0 : Int32)), (.int (own_hol (own_mk (p1 &&& (255 : Int32)) (y2 &&& (255 : Int32))) (fun j =>  (0 : Int32)) i0 (0 - i0)))])
          refine own_go (fun _ k => XS.icmpNo X41.here hx rfl (hb hby at_202) rfl (teq (own_fin0 p0 x1 x2 p1 y2 i0 hi1 0 (by rw [own_exp, if_pos t0, if_pos t1, if_pos t2]))).2 k) ?_
          show own_Ends _ _ _ _ _ _ _ T41 (mkF m 205 #[.val (.int p0), .val (.int p1), .val (.int p2), .val (.int p3), .val (.int (0 : Int32)), .val (.int (p0 &&& (255 : Int32))), .val (.int (x1 &&& (255 : Int32))), .val (.int (x2 &&& (255 : Int32))), .val (.int (p1 &&& (255 : Int32))), .val (.int (y2 &&& (255 : Int32))), .val (.int (Int32.ofNat i0)), .val (.ref bm), .val (.ref bb), .val (.int (0 : Int32))] [])
          refine own_go (fun _ k => XS.iconst X41.here hx rfl (hb hby at_205) k) ?_
          show own_Ends _ _ _ _ _ _ _ T41 (mkF m 206 #[.val (.int p0), .val (.int p1), .val (.int p2), .val (.int p3), .val (.int (0 : Int32)), .val (.int (p0 &&& (255 : Int32))), .val (.int (x1 &&& (255 : Int32))), .val (.int (x2 &&& (255 : Int32))), .val (.int (p1 &&& (255 : Int32))), .val (.int (y2 &&& (255 : Int32))), .val (.int (Int32.ofNat i0)), .val (.ref bm), .val (.ref bb), .val (.int (0 : Int32))] [(.int (1 : Int32))])
          refine own_go (fun _ k => XS.goto X41.here hx rfl (pc0 := 206) (pc' := 210) rfl (hb hby at_206) (by decide) (by decide) k) ?_
          show own_Ends _ _ _ _ _ _ _ T41 (mkF m 210 #[.val (.int p0), .val (.int p1), .val (.int p2), .val (.int p3), .val (.int (0 : Int32)), .val (.int (p0 &&& (255 : Int32))), .val (.int (x1 &&& (255 : Int32))), .val (.int (x2 &&& (255 : Int32))), .val (.int (p1 &&& (255 : Int32))), .val (.int (y2 &&& (255 : Int32))), .val (.int (Int32.ofNat i0)), .val (.ref bm), .val (.ref bb), .val (.int (0 : Int32))] [(.int (1 : Int32))])
          exact own_retZ X41 hx hlk hret (by decide) (hb hby at_210) (by decide) (by decide) ⟨rfl, N41⟩
        · refine own_go (fun _ k => XS.ifNo X40.here hx rfl (hb hby at_181) rfl ((if0 _ _).trans (feq t2).1) k) ?_
          show own_Ends _ _ _ _ _ _ _ T40 (mkF m 184 #[.val (.int p0), .val (.int p1), .val (.int p2), .val (.int p3), .val (.int (0 : Int32)), .val (.int (p0 &&& (255 : Int32))), .val (.int (x1 &&& (255 : Int32))), .val (.int (x2 &&& (255 : Int32))), .val (.int (p1 &&& (255 : Int32))), .val (.int (y2 &&& (255 : Int32))), .val (.int (Int32.ofNat i0)), .val (.ref bm), .val (.ref bb), .unset] [])
          refine own_go (fun _ k => XS.iconst X40.here hx rfl (hb hby at_184) k) ?_
          show own_Ends _ _ _ _ _ _ _ T40 (mkF m 185 #[.val (.int p0), .val (.int p1), .val (.int p2), .val (.int p3), .val (.int (0 : Int32)), .val (.int (p0 &&& (255 : Int32))), .val (.int (x1 &&& (255 : Int32))), .val (.int (x2 &&& (255 : Int32))), .val (.int (p1 &&& (255 : Int32))), .val (.int (y2 &&& (255 : Int32))), .val (.int (Int32.ofNat i0)), .val (.ref bm), .val (.ref bb), .unset] [(.int (1 : Int32))])
          refine own_go (fun _ k => XS.goto X40.here hx rfl (pc0 := 185) (pc' := 189) rfl (hb hby at_185) (by decide) (by decide) k) ?_
          show own_Ends _ _ _ _ _ _ _ T40 (mkF m 189 #[.val (.int p0), .val (.int p1), .val (.int p2), .val (.int p3), .val (.int (0 : Int32)), .val (.int (p0 &&& (255 : Int32))), .val (.int (x1 &&& (255 : Int32))), .val (.int (x2 &&& (255 : Int32))), .val (.int (p1 &&& (255 : Int32))), .val (.int (y2 &&& (255 : Int32))), .val (.int (Int32.ofNat i0)), .val (.ref bm), .val (.ref bb), .unset] [(.int (1 : Int32))])
          refine own_go (fun _ k => XS.istore X40.here hx rfl (hb hby at_189) rfl (l' := #[.val (.int p0), .val (.int p1), .val (.int p2), .val (.int p3), .val (.int (0 : Int32)), .val (.int (p0 &&& (255 : Int32))), .val (.int (x1 &&& (255 : Int32))), .val (.int (x2 &&& (255 : Int32))), .val (.int (p1 &&& (255 : Int32))), .val (.int (y2 &&& (255 : Int32))), .val (.int (Int32.ofNat i0)), .val (.ref bm), .val (.ref bb), .val (.int (1 : Int32))]) rfl k) ?_
          show own_Ends _ _ _ _ _ _ _ T40 (mkF m 191 #[.val (.int p0), .val (.int p1), .val (.int p2), .val (.int p3), .val (.int (0 : Int32)), .val (.int (p0 &&& (255 : Int32))), .val (.int (x1 &&& (255 : Int32))), .val (.int (x2 &&& (255 : Int32))), .val (.int (p1 &&& (255 : Int32))), .val (.int (y2 &&& (255 : Int32))), .val (.int (Int32.ofNat i0)), .val (.ref bm), .val (.ref bb), .val (.int (1 : Int32))] [])
          refine own_go (fun _ k => XS.aload X40.here hx rfl (hb hby at_191) rfl rfl k) ?_
          show own_Ends _ _ _ _ _ _ _ T40 (mkF m 193 #[.val (.int p0), .val (.int p1), .val (.int p2), .val (.int p3), .val (.int (0 : Int32)), .val (.int (p0 &&& (255 : Int32))), .val (.int (x1 &&& (255 : Int32))), .val (.int (x2 &&& (255 : Int32))), .val (.int (p1 &&& (255 : Int32))), .val (.int (y2 &&& (255 : Int32))), .val (.int (Int32.ofNat i0)), .val (.ref bm), .val (.ref bb), .val (.int (1 : Int32))] [(.ref bb)])
          refine own_go (fun _ k => XS.iload X40.here hx rfl (hb hby at_193) rfl k) ?_
          show own_Ends _ _ _ _ _ _ _ T40 (mkF m 195 #[.val (.int p0), .val (.int p1), .val (.int p2), .val (.int p3), .val (.int (0 : Int32)), .val (.int (p0 &&& (255 : Int32))), .val (.int (x1 &&& (255 : Int32))), .val (.int (x2 &&& (255 : Int32))), .val (.int (p1 &&& (255 : Int32))), .val (.int (y2 &&& (255 : Int32))), .val (.int (Int32.ofNat i0)), .val (.ref bm), .val (.ref bb), .val (.int (1 : Int32))] [(.int (Int32.ofNat i0)), (.ref bb)])
          refine own_go (fun _ k => XS.aload X40.here hx rfl (hb hby at_195) rfl rfl k) ?_
          show own_Ends _ _ _ _ _ _ _ T40 (mkF m 197 #[.val (.int p0), .val (.int p1), .val (.int p2), .val (.int p3), .val (.int (0 : Int32)), .val (.int (p0 &&& (255 : Int32))), .val (.int (x1 &&& (255 : Int32))), .val (.int (x2 &&& (255 : Int32))), .val (.int (p1 &&& (255 : Int32))), .val (.int (y2 &&& (255 : Int32))), .val (.int (Int32.ofNat i0)), .val (.ref bm), .val (.ref bb), .val (.int (1 : Int32))] [(.ref bm), (.int (Int32.ofNat i0)), (.ref bb)])
          obtain ⟨v42, T42, L42, X42, hQ42, st42⟩ := own_callV X40 hx hZ hown (hw _ (List.mem_of_getElem? (i := 32) rfl)) (hw _ (List.mem_of_getElem? (i := 33) rfl)) (hw _ (List.mem_of_getElem? (i := 35) rfl)) (hw _ (List.mem_of_getElem? (i := 34) rfl)) (hw _ (List.mem_of_getElem? (i := 4) rfl)) (hw _ (List.mem_of_getElem? (i := 36) rfl)) (rm7 l Z a0 hw bb (Int32.ofNat i0) bm T35.heap ba kb k31 (fun j =>  (0 : Int32)) (own_mk (p1 &&& (255 : Int32)) (y2 &&& (255 : Int32))) i0 0 B35 G35 VB VM rfl hi1 (by decide)) e40 (g := (mkF m 197 #[.val (.int p0), .val (.int p1), .val (.int p2), .val (.int p3), .val (.int (0 : Int32)), .val (.int (p0 &&& (255 : Int32))), .val (.int (x1 &&& (255 : Int32))), .val (.int (x2 &&& (255 : Int32))), .val (.int (p1 &&& (255 : Int32))), .val (.int (y2 &&& (255 : Int32))), .val (.int (Int32.ofNat i0)), .val (.ref bm), .val (.ref bb), .val (.int (1 : Int32))] [(.ref bm), (.int (Int32.ofNat i0)), (.ref bb)])) rfl (by rw [hml]; rfl) (a := bb) (argsL := [(.int (Int32.ofNat i0)), (.ref bm)]) (rest := []) (E_bb_35) (lenOf pd_3 rfl) rfl rfl (W := 0) (by show 2 * 0 + _ ≤ _; exact Nat.le_of_eq rfl) (hb hby at_197) (by decide) (by decide) (by decide) (by decide) (by decide)
          obtain ⟨rfl, rfl, e42⟩ := hQ42
          refine own_go st42 ?_
          have N42 := Fr.app N40 (Fr.nil _)
          show own_Ends _ _ _ _ _ _ _ T42 (mkF m 200 #[.val (.int p0), .val (.int p1), .val (.int p2), .val (.int p3), .val (.int (0 : Int32)), .val (.int (p0 &&& (255 : Int32))), .val (.int (x1 &&& (255 : Int32))), .val (.int (x2 &&& (255 : Int32))), .val (.int (p1 &&& (255 : Int32))), .val (.int (y2 &&& (255 : Int32))), .val (.int (Int32.ofNat i0)), .val (.ref bm), .val (.ref bb), .val (.int (1 : Int32))] [(.int (own_hol (own_mk (p1 &&& (255 : Int32)) (y2 &&& (255 : Int32))) (fun j =>  (0 : Int32)) i0 (0 - i0)))])
          refine own_go (fun _ k => XS.iload X42.here hx rfl (hb hby at_200) rfl k) ?_
          show own_Ends _ _ _ _ _ _ _ T42 (mkF m 202 #[.val (.int p0), .val (.int p1), .val (.int p2), .val (.int p3), .val (.int (0 : Int32)), .val (.int (p0 &&& (255 : Int32))), .val (.int (x1 &&& (255 : Int32))), .val (.int (x2 &&& (255 : Int32))), .val (.int (p1 &&& (255 : Int32))), .val (.int (y2 &&& (255 : Int32))), .val (.int (Int32.ofNat i0)), .val (.ref bm), .val (.ref bb), .val (.int (1 : Int32))] [(.int (1 : Int32)), (.int (own_hol (own_mk (p1 &&& (255 : Int32)) (y2 &&& (255 : Int32))) (fun j =>  (0 : Int32)) i0 (0 - i0)))])
          refine own_go (fun _ k => XS.icmpNo X42.here hx rfl (hb hby at_202) rfl (teq (own_fin0 p0 x1 x2 p1 y2 i0 hi1 1 (by rw [own_exp, if_pos t0, if_pos t1, if_neg t2]))).2 k) ?_
          show own_Ends _ _ _ _ _ _ _ T42 (mkF m 205 #[.val (.int p0), .val (.int p1), .val (.int p2), .val (.int p3), .val (.int (0 : Int32)), .val (.int (p0 &&& (255 : Int32))), .val (.int (x1 &&& (255 : Int32))), .val (.int (x2 &&& (255 : Int32))), .val (.int (p1 &&& (255 : Int32))), .val (.int (y2 &&& (255 : Int32))), .val (.int (Int32.ofNat i0)), .val (.ref bm), .val (.ref bb), .val (.int (1 : Int32))] [])
          refine own_go (fun _ k => XS.iconst X42.here hx rfl (hb hby at_205) k) ?_
          show own_Ends _ _ _ _ _ _ _ T42 (mkF m 206 #[.val (.int p0), .val (.int p1), .val (.int p2), .val (.int p3), .val (.int (0 : Int32)), .val (.int (p0 &&& (255 : Int32))), .val (.int (x1 &&& (255 : Int32))), .val (.int (x2 &&& (255 : Int32))), .val (.int (p1 &&& (255 : Int32))), .val (.int (y2 &&& (255 : Int32))), .val (.int (Int32.ofNat i0)), .val (.ref bm), .val (.ref bb), .val (.int (1 : Int32))] [(.int (1 : Int32))])
          refine own_go (fun _ k => XS.goto X42.here hx rfl (pc0 := 206) (pc' := 210) rfl (hb hby at_206) (by decide) (by decide) k) ?_
          show own_Ends _ _ _ _ _ _ _ T42 (mkF m 210 #[.val (.int p0), .val (.int p1), .val (.int p2), .val (.int p3), .val (.int (0 : Int32)), .val (.int (p0 &&& (255 : Int32))), .val (.int (x1 &&& (255 : Int32))), .val (.int (x2 &&& (255 : Int32))), .val (.int (p1 &&& (255 : Int32))), .val (.int (y2 &&& (255 : Int32))), .val (.int (Int32.ofNat i0)), .val (.ref bm), .val (.ref bb), .val (.int (1 : Int32))] [(.int (1 : Int32))])
          exact own_retZ X42 hx hlk hret (by decide) (hb hby at_210) (by decide) (by decide) ⟨rfl, N42⟩
      · refine own_go (fun _ k => XS.ifYes X38.here hx rfl (pc0 := 164) (pc' := 184) rfl (hb hby at_164) rfl ((if0 _ _).trans (feq t1).2) (by decide) (by decide) k) ?_
        show own_Ends _ _ _ _ _ _ _ T38 (mkF m 184 #[.val (.int p0), .val (.int p1), .val (.int p2), .val (.int p3), .val (.int (0 : Int32)), .val (.int (p0 &&& (255 : Int32))), .val (.int (x1 &&& (255 : Int32))), .val (.int (x2 &&& (255 : Int32))), .val (.int (p1 &&& (255 : Int32))), .val (.int (y2 &&& (255 : Int32))), .val (.int (Int32.ofNat i0)), .val (.ref bm), .val (.ref bb), .unset] [])
        refine own_go (fun _ k => XS.iconst X38.here hx rfl (hb hby at_184) k) ?_
        show own_Ends _ _ _ _ _ _ _ T38 (mkF m 185 #[.val (.int p0), .val (.int p1), .val (.int p2), .val (.int p3), .val (.int (0 : Int32)), .val (.int (p0 &&& (255 : Int32))), .val (.int (x1 &&& (255 : Int32))), .val (.int (x2 &&& (255 : Int32))), .val (.int (p1 &&& (255 : Int32))), .val (.int (y2 &&& (255 : Int32))), .val (.int (Int32.ofNat i0)), .val (.ref bm), .val (.ref bb), .unset] [(.int (1 : Int32))])
        refine own_go (fun _ k => XS.goto X38.here hx rfl (pc0 := 185) (pc' := 189) rfl (hb hby at_185) (by decide) (by decide) k) ?_
        show own_Ends _ _ _ _ _ _ _ T38 (mkF m 189 #[.val (.int p0), .val (.int p1), .val (.int p2), .val (.int p3), .val (.int (0 : Int32)), .val (.int (p0 &&& (255 : Int32))), .val (.int (x1 &&& (255 : Int32))), .val (.int (x2 &&& (255 : Int32))), .val (.int (p1 &&& (255 : Int32))), .val (.int (y2 &&& (255 : Int32))), .val (.int (Int32.ofNat i0)), .val (.ref bm), .val (.ref bb), .unset] [(.int (1 : Int32))])
        refine own_go (fun _ k => XS.istore X38.here hx rfl (hb hby at_189) rfl (l' := #[.val (.int p0), .val (.int p1), .val (.int p2), .val (.int p3), .val (.int (0 : Int32)), .val (.int (p0 &&& (255 : Int32))), .val (.int (x1 &&& (255 : Int32))), .val (.int (x2 &&& (255 : Int32))), .val (.int (p1 &&& (255 : Int32))), .val (.int (y2 &&& (255 : Int32))), .val (.int (Int32.ofNat i0)), .val (.ref bm), .val (.ref bb), .val (.int (1 : Int32))]) rfl k) ?_
        show own_Ends _ _ _ _ _ _ _ T38 (mkF m 191 #[.val (.int p0), .val (.int p1), .val (.int p2), .val (.int p3), .val (.int (0 : Int32)), .val (.int (p0 &&& (255 : Int32))), .val (.int (x1 &&& (255 : Int32))), .val (.int (x2 &&& (255 : Int32))), .val (.int (p1 &&& (255 : Int32))), .val (.int (y2 &&& (255 : Int32))), .val (.int (Int32.ofNat i0)), .val (.ref bm), .val (.ref bb), .val (.int (1 : Int32))] [])
        refine own_go (fun _ k => XS.aload X38.here hx rfl (hb hby at_191) rfl rfl k) ?_
        show own_Ends _ _ _ _ _ _ _ T38 (mkF m 193 #[.val (.int p0), .val (.int p1), .val (.int p2), .val (.int p3), .val (.int (0 : Int32)), .val (.int (p0 &&& (255 : Int32))), .val (.int (x1 &&& (255 : Int32))), .val (.int (x2 &&& (255 : Int32))), .val (.int (p1 &&& (255 : Int32))), .val (.int (y2 &&& (255 : Int32))), .val (.int (Int32.ofNat i0)), .val (.ref bm), .val (.ref bb), .val (.int (1 : Int32))] [(.ref bb)])
        refine own_go (fun _ k => XS.iload X38.here hx rfl (hb hby at_193) rfl k) ?_
        show own_Ends _ _ _ _ _ _ _ T38 (mkF m 195 #[.val (.int p0), .val (.int p1), .val (.int p2), .val (.int p3), .val (.int (0 : Int32)), .val (.int (p0 &&& (255 : Int32))), .val (.int (x1 &&& (255 : Int32))), .val (.int (x2 &&& (255 : Int32))), .val (.int (p1 &&& (255 : Int32))), .val (.int (y2 &&& (255 : Int32))), .val (.int (Int32.ofNat i0)), .val (.ref bm), .val (.ref bb), .val (.int (1 : Int32))] [(.int (Int32.ofNat i0)), (.ref bb)])
        refine own_go (fun _ k => XS.aload X38.here hx rfl (hb hby at_195) rfl rfl k) ?_
        show own_Ends _ _ _ _ _ _ _ T38 (mkF m 197 #[.val (.int p0), .val (.int p1), .val (.int p2), .val (.int p3), .val (.int (0 : Int32)), .val (.int (p0 &&& (255 : Int32))), .val (.int (x1 &&& (255 : Int32))), .val (.int (x2 &&& (255 : Int32))), .val (.int (p1 &&& (255 : Int32))), .val (.int (y2 &&& (255 : Int32))), .val (.int (Int32.ofNat i0)), .val (.ref bm), .val (.ref bb), .val (.int (1 : Int32))] [(.ref bm), (.int (Int32.ofNat i0)), (.ref bb)])
        obtain ⟨v39, T39, L39, X39, hQ39, st39⟩ := own_callV X38 hx hZ hown (hw _ (List.mem_of_getElem? (i := 32) rfl)) (hw _ (List.mem_of_getElem? (i := 33) rfl)) (hw _ (List.mem_of_getElem? (i := 35) rfl)) (hw _ (List.mem_of_getElem? (i := 34) rfl)) (hw _ (List.mem_of_getElem? (i := 4) rfl)) (hw _ (List.mem_of_getElem? (i := 36) rfl)) (rm7 l Z a0 hw bb (Int32.ofNat i0) bm T35.heap ba kb k31 (fun j =>  (0 : Int32)) (own_mk (p1 &&& (255 : Int32)) (y2 &&& (255 : Int32))) i0 0 B35 G35 VB VM rfl hi1 (by decide)) e38 (g := (mkF m 197 #[.val (.int p0), .val (.int p1), .val (.int p2), .val (.int p3), .val (.int (0 : Int32)), .val (.int (p0 &&& (255 : Int32))), .val (.int (x1 &&& (255 : Int32))), .val (.int (x2 &&& (255 : Int32))), .val (.int (p1 &&& (255 : Int32))), .val (.int (y2 &&& (255 : Int32))), .val (.int (Int32.ofNat i0)), .val (.ref bm), .val (.ref bb), .val (.int (1 : Int32))] [(.ref bm), (.int (Int32.ofNat i0)), (.ref bb)])) rfl (by rw [hml]; rfl) (a := bb) (argsL := [(.int (Int32.ofNat i0)), (.ref bm)]) (rest := []) (E_bb_35) (lenOf pd_3 rfl) rfl rfl (W := 0) (by show 2 * 0 + _ ≤ _; exact Nat.le_of_eq rfl) (hb hby at_197) (by decide) (by decide) (by decide) (by decide) (by decide)
        obtain ⟨rfl, rfl, e39⟩ := hQ39
        refine own_go st39 ?_
        have N39 := Fr.app N38 (Fr.nil _)
        show own_Ends _ _ _ _ _ _ _ T39 (mkF m 200 #[.val (.int p0), .val (.int p1), .val (.int p2), .val (.int p3), .val (.int (0 : Int32)), .val (.int (p0 &&& (255 : Int32))), .val (.int (x1 &&& (255 : Int32))), .val (.int (x2 &&& (255 : Int32))), .val (.int (p1 &&& (255 : Int32))), .val (.int (y2 &&& (255 : Int32))), .val (.int (Int32.ofNat i0)), .val (.ref bm), .val (.ref bb), .val (.int (1 : Int32))] [(.int (own_hol (own_mk (p1 &&& (255 : Int32)) (y2 &&& (255 : Int32))) (fun j =>  (0 : Int32)) i0 (0 - i0)))])
        refine own_go (fun _ k => XS.iload X39.here hx rfl (hb hby at_200) rfl k) ?_
        show own_Ends _ _ _ _ _ _ _ T39 (mkF m 202 #[.val (.int p0), .val (.int p1), .val (.int p2), .val (.int p3), .val (.int (0 : Int32)), .val (.int (p0 &&& (255 : Int32))), .val (.int (x1 &&& (255 : Int32))), .val (.int (x2 &&& (255 : Int32))), .val (.int (p1 &&& (255 : Int32))), .val (.int (y2 &&& (255 : Int32))), .val (.int (Int32.ofNat i0)), .val (.ref bm), .val (.ref bb), .val (.int (1 : Int32))] [(.int (1 : Int32)), (.int (own_hol (own_mk (p1 &&& (255 : Int32)) (y2 &&& (255 : Int32))) (fun j =>  (0 : Int32)) i0 (0 - i0)))])
        refine own_go (fun _ k => XS.icmpNo X39.here hx rfl (hb hby at_202) rfl (teq (own_fin0 p0 x1 x2 p1 y2 i0 hi1 1 (by rw [own_exp, if_pos t0, if_neg t1]))).2 k) ?_
        show own_Ends _ _ _ _ _ _ _ T39 (mkF m 205 #[.val (.int p0), .val (.int p1), .val (.int p2), .val (.int p3), .val (.int (0 : Int32)), .val (.int (p0 &&& (255 : Int32))), .val (.int (x1 &&& (255 : Int32))), .val (.int (x2 &&& (255 : Int32))), .val (.int (p1 &&& (255 : Int32))), .val (.int (y2 &&& (255 : Int32))), .val (.int (Int32.ofNat i0)), .val (.ref bm), .val (.ref bb), .val (.int (1 : Int32))] [])
        refine own_go (fun _ k => XS.iconst X39.here hx rfl (hb hby at_205) k) ?_
        show own_Ends _ _ _ _ _ _ _ T39 (mkF m 206 #[.val (.int p0), .val (.int p1), .val (.int p2), .val (.int p3), .val (.int (0 : Int32)), .val (.int (p0 &&& (255 : Int32))), .val (.int (x1 &&& (255 : Int32))), .val (.int (x2 &&& (255 : Int32))), .val (.int (p1 &&& (255 : Int32))), .val (.int (y2 &&& (255 : Int32))), .val (.int (Int32.ofNat i0)), .val (.ref bm), .val (.ref bb), .val (.int (1 : Int32))] [(.int (1 : Int32))])
        refine own_go (fun _ k => XS.goto X39.here hx rfl (pc0 := 206) (pc' := 210) rfl (hb hby at_206) (by decide) (by decide) k) ?_
        show own_Ends _ _ _ _ _ _ _ T39 (mkF m 210 #[.val (.int p0), .val (.int p1), .val (.int p2), .val (.int p3), .val (.int (0 : Int32)), .val (.int (p0 &&& (255 : Int32))), .val (.int (x1 &&& (255 : Int32))), .val (.int (x2 &&& (255 : Int32))), .val (.int (p1 &&& (255 : Int32))), .val (.int (y2 &&& (255 : Int32))), .val (.int (Int32.ofNat i0)), .val (.ref bm), .val (.ref bb), .val (.int (1 : Int32))] [(.int (1 : Int32))])
        exact own_retZ X39 hx hlk hret (by decide) (hb hby at_210) (by decide) (by decide) ⟨rfl, N39⟩
    · refine own_go (fun _ k => XS.ifYes X36.here hx rfl (pc0 := 147) (pc' := 184) rfl (hb hby at_147) rfl ((if0 _ _).trans (feq t0).2) (by decide) (by decide) k) ?_
      show own_Ends _ _ _ _ _ _ _ T36 (mkF m 184 #[.val (.int p0), .val (.int p1), .val (.int p2), .val (.int p3), .val (.int (0 : Int32)), .val (.int (p0 &&& (255 : Int32))), .val (.int (x1 &&& (255 : Int32))), .val (.int (x2 &&& (255 : Int32))), .val (.int (p1 &&& (255 : Int32))), .val (.int (y2 &&& (255 : Int32))), .val (.int (Int32.ofNat i0)), .val (.ref bm), .val (.ref bb), .unset] [])
      refine own_go (fun _ k => XS.iconst X36.here hx rfl (hb hby at_184) k) ?_
      show own_Ends _ _ _ _ _ _ _ T36 (mkF m 185 #[.val (.int p0), .val (.int p1), .val (.int p2), .val (.int p3), .val (.int (0 : Int32)), .val (.int (p0 &&& (255 : Int32))), .val (.int (x1 &&& (255 : Int32))), .val (.int (x2 &&& (255 : Int32))), .val (.int (p1 &&& (255 : Int32))), .val (.int (y2 &&& (255 : Int32))), .val (.int (Int32.ofNat i0)), .val (.ref bm), .val (.ref bb), .unset] [(.int (1 : Int32))])
      refine own_go (fun _ k => XS.goto X36.here hx rfl (pc0 := 185) (pc' := 189) rfl (hb hby at_185) (by decide) (by decide) k) ?_
      show own_Ends _ _ _ _ _ _ _ T36 (mkF m 189 #[.val (.int p0), .val (.int p1), .val (.int p2), .val (.int p3), .val (.int (0 : Int32)), .val (.int (p0 &&& (255 : Int32))), .val (.int (x1 &&& (255 : Int32))), .val (.int (x2 &&& (255 : Int32))), .val (.int (p1 &&& (255 : Int32))), .val (.int (y2 &&& (255 : Int32))), .val (.int (Int32.ofNat i0)), .val (.ref bm), .val (.ref bb), .unset] [(.int (1 : Int32))])
      refine own_go (fun _ k => XS.istore X36.here hx rfl (hb hby at_189) rfl (l' := #[.val (.int p0), .val (.int p1), .val (.int p2), .val (.int p3), .val (.int (0 : Int32)), .val (.int (p0 &&& (255 : Int32))), .val (.int (x1 &&& (255 : Int32))), .val (.int (x2 &&& (255 : Int32))), .val (.int (p1 &&& (255 : Int32))), .val (.int (y2 &&& (255 : Int32))), .val (.int (Int32.ofNat i0)), .val (.ref bm), .val (.ref bb), .val (.int (1 : Int32))]) rfl k) ?_
      show own_Ends _ _ _ _ _ _ _ T36 (mkF m 191 #[.val (.int p0), .val (.int p1), .val (.int p2), .val (.int p3), .val (.int (0 : Int32)), .val (.int (p0 &&& (255 : Int32))), .val (.int (x1 &&& (255 : Int32))), .val (.int (x2 &&& (255 : Int32))), .val (.int (p1 &&& (255 : Int32))), .val (.int (y2 &&& (255 : Int32))), .val (.int (Int32.ofNat i0)), .val (.ref bm), .val (.ref bb), .val (.int (1 : Int32))] [])
      refine own_go (fun _ k => XS.aload X36.here hx rfl (hb hby at_191) rfl rfl k) ?_
      show own_Ends _ _ _ _ _ _ _ T36 (mkF m 193 #[.val (.int p0), .val (.int p1), .val (.int p2), .val (.int p3), .val (.int (0 : Int32)), .val (.int (p0 &&& (255 : Int32))), .val (.int (x1 &&& (255 : Int32))), .val (.int (x2 &&& (255 : Int32))), .val (.int (p1 &&& (255 : Int32))), .val (.int (y2 &&& (255 : Int32))), .val (.int (Int32.ofNat i0)), .val (.ref bm), .val (.ref bb), .val (.int (1 : Int32))] [(.ref bb)])
      refine own_go (fun _ k => XS.iload X36.here hx rfl (hb hby at_193) rfl k) ?_
      show own_Ends _ _ _ _ _ _ _ T36 (mkF m 195 #[.val (.int p0), .val (.int p1), .val (.int p2), .val (.int p3), .val (.int (0 : Int32)), .val (.int (p0 &&& (255 : Int32))), .val (.int (x1 &&& (255 : Int32))), .val (.int (x2 &&& (255 : Int32))), .val (.int (p1 &&& (255 : Int32))), .val (.int (y2 &&& (255 : Int32))), .val (.int (Int32.ofNat i0)), .val (.ref bm), .val (.ref bb), .val (.int (1 : Int32))] [(.int (Int32.ofNat i0)), (.ref bb)])
      refine own_go (fun _ k => XS.aload X36.here hx rfl (hb hby at_195) rfl rfl k) ?_
      show own_Ends _ _ _ _ _ _ _ T36 (mkF m 197 #[.val (.int p0), .val (.int p1), .val (.int p2), .val (.int p3), .val (.int (0 : Int32)), .val (.int (p0 &&& (255 : Int32))), .val (.int (x1 &&& (255 : Int32))), .val (.int (x2 &&& (255 : Int32))), .val (.int (p1 &&& (255 : Int32))), .val (.int (y2 &&& (255 : Int32))), .val (.int (Int32.ofNat i0)), .val (.ref bm), .val (.ref bb), .val (.int (1 : Int32))] [(.ref bm), (.int (Int32.ofNat i0)), (.ref bb)])
      obtain ⟨v37, T37, L37, X37, hQ37, st37⟩ := own_callV X36 hx hZ hown (hw _ (List.mem_of_getElem? (i := 32) rfl)) (hw _ (List.mem_of_getElem? (i := 33) rfl)) (hw _ (List.mem_of_getElem? (i := 35) rfl)) (hw _ (List.mem_of_getElem? (i := 34) rfl)) (hw _ (List.mem_of_getElem? (i := 4) rfl)) (hw _ (List.mem_of_getElem? (i := 36) rfl)) (rm7 l Z a0 hw bb (Int32.ofNat i0) bm T35.heap ba kb k31 (fun j =>  (0 : Int32)) (own_mk (p1 &&& (255 : Int32)) (y2 &&& (255 : Int32))) i0 0 B35 G35 VB VM rfl hi1 (by decide)) e36 (g := (mkF m 197 #[.val (.int p0), .val (.int p1), .val (.int p2), .val (.int p3), .val (.int (0 : Int32)), .val (.int (p0 &&& (255 : Int32))), .val (.int (x1 &&& (255 : Int32))), .val (.int (x2 &&& (255 : Int32))), .val (.int (p1 &&& (255 : Int32))), .val (.int (y2 &&& (255 : Int32))), .val (.int (Int32.ofNat i0)), .val (.ref bm), .val (.ref bb), .val (.int (1 : Int32))] [(.ref bm), (.int (Int32.ofNat i0)), (.ref bb)])) rfl (by rw [hml]; rfl) (a := bb) (argsL := [(.int (Int32.ofNat i0)), (.ref bm)]) (rest := []) (E_bb_35) (lenOf pd_3 rfl) rfl rfl (W := 0) (by show 2 * 0 + _ ≤ _; exact Nat.le_of_eq rfl) (hb hby at_197) (by decide) (by decide) (by decide) (by decide) (by decide)
      obtain ⟨rfl, rfl, e37⟩ := hQ37
      refine own_go st37 ?_
      have N37 := Fr.app N36 (Fr.nil _)
      show own_Ends _ _ _ _ _ _ _ T37 (mkF m 200 #[.val (.int p0), .val (.int p1), .val (.int p2), .val (.int p3), .val (.int (0 : Int32)), .val (.int (p0 &&& (255 : Int32))), .val (.int (x1 &&& (255 : Int32))), .val (.int (x2 &&& (255 : Int32))), .val (.int (p1 &&& (255 : Int32))), .val (.int (y2 &&& (255 : Int32))), .val (.int (Int32.ofNat i0)), .val (.ref bm), .val (.ref bb), .val (.int (1 : Int32))] [(.int (own_hol (own_mk (p1 &&& (255 : Int32)) (y2 &&& (255 : Int32))) (fun j =>  (0 : Int32)) i0 (0 - i0)))])
      refine own_go (fun _ k => XS.iload X37.here hx rfl (hb hby at_200) rfl k) ?_
      show own_Ends _ _ _ _ _ _ _ T37 (mkF m 202 #[.val (.int p0), .val (.int p1), .val (.int p2), .val (.int p3), .val (.int (0 : Int32)), .val (.int (p0 &&& (255 : Int32))), .val (.int (x1 &&& (255 : Int32))), .val (.int (x2 &&& (255 : Int32))), .val (.int (p1 &&& (255 : Int32))), .val (.int (y2 &&& (255 : Int32))), .val (.int (Int32.ofNat i0)), .val (.ref bm), .val (.ref bb), .val (.int (1 : Int32))] [(.int (1 : Int32)), (.int (own_hol (own_mk (p1 &&& (255 : Int32)) (y2 &&& (255 : Int32))) (fun j =>  (0 : Int32)) i0 (0 - i0)))])
      refine own_go (fun _ k => XS.icmpNo X37.here hx rfl (hb hby at_202) rfl (teq (own_fin0 p0 x1 x2 p1 y2 i0 hi1 1 (by rw [own_exp, if_neg t0]))).2 k) ?_
      show own_Ends _ _ _ _ _ _ _ T37 (mkF m 205 #[.val (.int p0), .val (.int p1), .val (.int p2), .val (.int p3), .val (.int (0 : Int32)), .val (.int (p0 &&& (255 : Int32))), .val (.int (x1 &&& (255 : Int32))), .val (.int (x2 &&& (255 : Int32))), .val (.int (p1 &&& (255 : Int32))), .val (.int (y2 &&& (255 : Int32))), .val (.int (Int32.ofNat i0)), .val (.ref bm), .val (.ref bb), .val (.int (1 : Int32))] [])
      refine own_go (fun _ k => XS.iconst X37.here hx rfl (hb hby at_205) k) ?_
      show own_Ends _ _ _ _ _ _ _ T37 (mkF m 206 #[.val (.int p0), .val (.int p1), .val (.int p2), .val (.int p3), .val (.int (0 : Int32)), .val (.int (p0 &&& (255 : Int32))), .val (.int (x1 &&& (255 : Int32))), .val (.int (x2 &&& (255 : Int32))), .val (.int (p1 &&& (255 : Int32))), .val (.int (y2 &&& (255 : Int32))), .val (.int (Int32.ofNat i0)), .val (.ref bm), .val (.ref bb), .val (.int (1 : Int32))] [(.int (1 : Int32))])
      refine own_go (fun _ k => XS.goto X37.here hx rfl (pc0 := 206) (pc' := 210) rfl (hb hby at_206) (by decide) (by decide) k) ?_
      show own_Ends _ _ _ _ _ _ _ T37 (mkF m 210 #[.val (.int p0), .val (.int p1), .val (.int p2), .val (.int p3), .val (.int (0 : Int32)), .val (.int (p0 &&& (255 : Int32))), .val (.int (x1 &&& (255 : Int32))), .val (.int (x2 &&& (255 : Int32))), .val (.int (p1 &&& (255 : Int32))), .val (.int (y2 &&& (255 : Int32))), .val (.int (Int32.ofNat i0)), .val (.ref bm), .val (.ref bb), .val (.int (1 : Int32))] [(.int (1 : Int32))])
      exact own_retZ X37 hx hlk hret (by decide) (hb hby at_210) (by decide) (by decide) ⟨rfl, N37⟩
  · rw [show (p2 &&& (3 : Int32)) = (1 : Int32) from hn]
    show own_Ends _ _ _ _ _ _ _ s₁ (mkF m 57 #[.val (.int p0), .val (.int p1), .val (.int p2), .val (.int p3), .val (.int (1 : Int32)), .val (.int (p0 &&& (255 : Int32))), .val (.int (x1 &&& (255 : Int32))), .val (.int (x2 &&& (255 : Int32))), .val (.int (p1 &&& (255 : Int32))), .val (.int (y2 &&& (255 : Int32))), .unset, .unset, .unset, .unset] [(.int ((1 : Int32) + (1 : Int32))), (.int (p3 &&& (2147483647 : Int32)))])
    refine own_go (fun _ k => iremM X0 hx rfl (hb hby at_57) rfl (by decide) k) ?_
    show own_Ends _ _ _ _ _ _ _ s₁ (mkF m 58 #[.val (.int p0), .val (.int p1), .val (.int p2), .val (.int p3), .val (.int (1 : Int32)), .val (.int (p0 &&& (255 : Int32))), .val (.int (x1 &&& (255 : Int32))), .val (.int (x2 &&& (255 : Int32))), .val (.int (p1 &&& (255 : Int32))), .val (.int (y2 &&& (255 : Int32))), .unset, .unset, .unset, .unset] [(.int ((p3 &&& (2147483647 : Int32)) % ((1 : Int32) + (1 : Int32))))])
    obtain ⟨i0, hi0, hfr⟩ := own_from p3 ((1 : Int32) + (1 : Int32)) (by decide)
    have hd1 : ((1 : Int32) + (1 : Int32)).toInt = 2 := by decide
    have hi1 : i0 ≤ 1 := by omega
    rw [show ((p3 &&& (2147483647 : Int32)) % ((1 : Int32) + (1 : Int32))) = (Int32.ofNat i0) from hfr]
    show own_Ends _ _ _ _ _ _ _ s₁ (mkF m 58 #[.val (.int p0), .val (.int p1), .val (.int p2), .val (.int p3), .val (.int (1 : Int32)), .val (.int (p0 &&& (255 : Int32))), .val (.int (x1 &&& (255 : Int32))), .val (.int (x2 &&& (255 : Int32))), .val (.int (p1 &&& (255 : Int32))), .val (.int (y2 &&& (255 : Int32))), .unset, .unset, .unset, .unset] [(.int (Int32.ofNat i0))])
    refine own_go (fun _ k => XS.istore X0.here hx rfl (hb hby at_58) rfl (l' := #[.val (.int p0), .val (.int p1), .val (.int p2), .val (.int p3), .val (.int (1 : Int32)), .val (.int (p0 &&& (255 : Int32))), .val (.int (x1 &&& (255 : Int32))), .val (.int (x2 &&& (255 : Int32))), .val (.int (p1 &&& (255 : Int32))), .val (.int (y2 &&& (255 : Int32))), .val (.int (Int32.ofNat i0)), .unset, .unset, .unset]) rfl k) ?_
    show own_Ends _ _ _ _ _ _ _ s₁ (mkF m 60 #[.val (.int p0), .val (.int p1), .val (.int p2), .val (.int p3), .val (.int (1 : Int32)), .val (.int (p0 &&& (255 : Int32))), .val (.int (x1 &&& (255 : Int32))), .val (.int (x2 &&& (255 : Int32))), .val (.int (p1 &&& (255 : Int32))), .val (.int (y2 &&& (255 : Int32))), .val (.int (Int32.ofNat i0)), .unset, .unset, .unset] [])
    refine own_go (fun _ k => XS.sipush X0.here hx rfl (hb hby at_60) k) ?_
    show own_Ends _ _ _ _ _ _ _ s₁ (mkF m 63 #[.val (.int p0), .val (.int p1), .val (.int p2), .val (.int p3), .val (.int (1 : Int32)), .val (.int (p0 &&& (255 : Int32))), .val (.int (x1 &&& (255 : Int32))), .val (.int (x2 &&& (255 : Int32))), .val (.int (p1 &&& (255 : Int32))), .val (.int (y2 &&& (255 : Int32))), .val (.int (Int32.ofNat i0)), .unset, .unset, .unset] [(.int (256 : Int32))])
    obtain ⟨T43, h43, k43, X43, e43, E43, A43, st43⟩ := own_newP X0 hx hZ (aty := .boolean) (hw _ (List.mem_of_getElem? (i := 1) rfl)) e0 (g := (mkF m 63 #[.val (.int p0), .val (.int p1), .val (.int p2), .val (.int p3), .val (.int (1 : Int32)), .val (.int (p0 &&& (255 : Int32))), .val (.int (x1 &&& (255 : Int32))), .val (.int (x2 &&& (255 : Int32))), .val (.int (p1 &&& (255 : Int32))), .val (.int (y2 &&& (255 : Int32))), .val (.int (Int32.ofNat i0)), .unset, .unset, .unset] [(.int (256 : Int32))])) rfl (hb hby at_63) rfl (by decide) (n := 256) (by decide) (cap := 256) (by decide) (by decide) (by decide) (by decide)
    obtain ⟨bm, gq43⟩ : ∃ z, z = h0.size := ⟨_, rfl⟩
    rw [← gq43] at A43 st43
    have sz_bm : h0.size ≤ bm := Nat.le_trans K0.1 (Nat.le_of_eq gq43.symm)
    have g_bm : h0.size ≤ bm := Nat.le_trans (Nat.le_refl _) sz_bm
    have K_43 := K0.ext E43
    have V_bm : own_Ar Z h43 bm k43 .boolean 256 (fun _ => (.int (0 : Int32))) := A43
    refine own_go st43 ?_
    show own_Ends _ _ _ _ _ _ _ T43 (mkF m 65 #[.val (.int p0), .val (.int p1), .val (.int p2), .val (.int p3), .val (.int (1 : Int32)), .val (.int (p0 &&& (255 : Int32))), .val (.int (x1 &&& (255 : Int32))), .val (.int (x2 &&& (255 : Int32))), .val (.int (p1 &&& (255 : Int32))), .val (.int (y2 &&& (255 : Int32))), .val (.int (Int32.ofNat i0)), .unset, .unset, .unset] [(.ref bm)])
    refine own_go (fun _ k => XS.astore X43.here hx rfl (hb hby at_65) rfl rfl (l' := #[.val (.int p0), .val (.int p1), .val (.int p2), .val (.int p3), .val (.int (1 : Int32)), .val (.int (p0 &&& (255 : Int32))), .val (.int (x1 &&& (255 : Int32))), .val (.int (x2 &&& (255 : Int32))), .val (.int (p1 &&& (255 : Int32))), .val (.int (y2 &&& (255 : Int32))), .val (.int (Int32.ofNat i0)), .val (.ref bm), .unset, .unset]) rfl k) ?_
    show own_Ends _ _ _ _ _ _ _ T43 (mkF m 67 #[.val (.int p0), .val (.int p1), .val (.int p2), .val (.int p3), .val (.int (1 : Int32)), .val (.int (p0 &&& (255 : Int32))), .val (.int (x1 &&& (255 : Int32))), .val (.int (x2 &&& (255 : Int32))), .val (.int (p1 &&& (255 : Int32))), .val (.int (y2 &&& (255 : Int32))), .val (.int (Int32.ofNat i0)), .val (.ref bm), .unset, .unset] [])
    refine own_go (fun _ k => XS.aload X43.here hx rfl (hb hby at_67) rfl rfl k) ?_
    show own_Ends _ _ _ _ _ _ _ T43 (mkF m 69 #[.val (.int p0), .val (.int p1), .val (.int p2), .val (.int p3), .val (.int (1 : Int32)), .val (.int (p0 &&& (255 : Int32))), .val (.int (x1 &&& (255 : Int32))), .val (.int (x2 &&& (255 : Int32))), .val (.int (p1 &&& (255 : Int32))), .val (.int (y2 &&& (255 : Int32))), .val (.int (Int32.ofNat i0)), .val (.ref bm), .unset, .unset] [(.ref bm)])
    refine own_go (fun _ k => XS.iload X43.here hx rfl (hb hby at_69) rfl k) ?_
    show own_Ends _ _ _ _ _ _ _ T43 (mkF m 71 #[.val (.int p0), .val (.int p1), .val (.int p2), .val (.int p3), .val (.int (1 : Int32)), .val (.int (p0 &&& (255 : Int32))), .val (.int (x1 &&& (255 : Int32))), .val (.int (x2 &&& (255 : Int32))), .val (.int (p1 &&& (255 : Int32))), .val (.int (y2 &&& (255 : Int32))), .val (.int (Int32.ofNat i0)), .val (.ref bm), .unset, .unset] [(.int (p1 &&& (255 : Int32))), (.ref bm)])
    refine own_go (fun _ k => XS.iconst X43.here hx rfl (hb hby at_71) k) ?_
    show own_Ends _ _ _ _ _ _ _ T43 (mkF m 72 #[.val (.int p0), .val (.int p1), .val (.int p2), .val (.int p3), .val (.int (1 : Int32)), .val (.int (p0 &&& (255 : Int32))), .val (.int (x1 &&& (255 : Int32))), .val (.int (x2 &&& (255 : Int32))), .val (.int (p1 &&& (255 : Int32))), .val (.int (y2 &&& (255 : Int32))), .val (.int (Int32.ofNat i0)), .val (.ref bm), .unset, .unset] [(.int (1 : Int32)), (.int (p1 &&& (255 : Int32))), (.ref bm)])
    obtain ⟨T44, h44, X44, e44, W44, V44, st44⟩ := own_stZ X43 hx hZ e43 V_bm (i := (p1 &&& (255 : Int32)).toNatClampNeg) (own_bn _) rfl (own_b256 _) (g := (mkF m 72 #[.val (.int p0), .val (.int p1), .val (.int p2), .val (.int p3), .val (.int (1 : Int32)), .val (.int (p0 &&& (255 : Int32))), .val (.int (x1 &&& (255 : Int32))), .val (.int (x2 &&& (255 : Int32))), .val (.int (p1 &&& (255 : Int32))), .val (.int (y2 &&& (255 : Int32))), .val (.int (Int32.ofNat i0)), .val (.ref bm), .unset, .unset] [(.int (1 : Int32)), (.int (p1 &&& (255 : Int32))), (.ref bm)])) rfl rfl (hb hby at_72)
    have N44 := Fr.snoc X44 N0 g_bm
    have K_44 := K_43.wr W44 (Or.inr sz_bm)
    refine own_go st44 ?_
    show own_Ends _ _ _ _ _ _ _ T44 (mkF m 73 #[.val (.int p0), .val (.int p1), .val (.int p2), .val (.int p3), .val (.int (1 : Int32)), .val (.int (p0 &&& (255 : Int32))), .val (.int (x1 &&& (255 : Int32))), .val (.int (x2 &&& (255 : Int32))), .val (.int (p1 &&& (255 : Int32))), .val (.int (y2 &&& (255 : Int32))), .val (.int (Int32.ofNat i0)), .val (.ref bm), .unset, .unset] [])
    refine own_go (fun _ k => XS.aload X44.here hx rfl (hb hby at_73) rfl rfl k) ?_
    show own_Ends _ _ _ _ _ _ _ T44 (mkF m 75 #[.val (.int p0), .val (.int p1), .val (.int p2), .val (.int p3), .val (.int (1 : Int32)), .val (.int (p0 &&& (255 : Int32))), .val (.int (x1 &&& (255 : Int32))), .val (.int (x2 &&& (255 : Int32))), .val (.int (p1 &&& (255 : Int32))), .val (.int (y2 &&& (255 : Int32))), .val (.int (Int32.ofNat i0)), .val (.ref bm), .unset, .unset] [(.ref bm)])
    refine own_go (fun _ k => XS.iload X44.here hx rfl (hb hby at_75) rfl k) ?_
    show own_Ends _ _ _ _ _ _ _ T44 (mkF m 77 #[.val (.int p0), .val (.int p1), .val (.int p2), .val (.int p3), .val (.int (1 : Int32)), .val (.int (p0 &&& (255 : Int32))), .val (.int (x1 &&& (255 : Int32))), .val (.int (x2 &&& (255 : Int32))), .val (.int (p1 &&& (255 : Int32))), .val (.int (y2 &&& (255 : Int32))), .val (.int (Int32.ofNat i0)), .val (.ref bm), .unset, .unset] [(.int (y2 &&& (255 : Int32))), (.ref bm)])
    refine own_go (fun _ k => XS.iconst X44.here hx rfl (hb hby at_77) k) ?_
    show own_Ends _ _ _ _ _ _ _ T44 (mkF m 78 #[.val (.int p0), .val (.int p1), .val (.int p2), .val (.int p3), .val (.int (1 : Int32)), .val (.int (p0 &&& (255 : Int32))), .val (.int (x1 &&& (255 : Int32))), .val (.int (x2 &&& (255 : Int32))), .val (.int (p1 &&& (255 : Int32))), .val (.int (y2 &&& (255 : Int32))), .val (.int (Int32.ofNat i0)), .val (.ref bm), .unset, .unset] [(.int (1 : Int32)), (.int (y2 &&& (255 : Int32))), (.ref bm)])
    obtain ⟨T45, h45, X45, e45, W45, V45, st45⟩ := own_stZ X44 hx hZ e44 V44 (i := (y2 &&& (255 : Int32)).toNatClampNeg) (own_bn _) rfl (own_b256 _) (g := (mkF m 78 #[.val (.int p0), .val (.int p1), .val (.int p2), .val (.int p3), .val (.int (1 : Int32)), .val (.int (p0 &&& (255 : Int32))), .val (.int (x1 &&& (255 : Int32))), .val (.int (x2 &&& (255 : Int32))), .val (.int (p1 &&& (255 : Int32))), .val (.int (y2 &&& (255 : Int32))), .val (.int (Int32.ofNat i0)), .val (.ref bm), .unset, .unset] [(.int (1 : Int32)), (.int (y2 &&& (255 : Int32))), (.ref bm)])) rfl rfl (hb hby at_78)
    have N45 := Fr.snoc X45 N44 g_bm
    have K_45 := K_44.wr W45 (Or.inr sz_bm)
    have Vf45 : own_Ar Z h45 bm k43 .boolean 256 (fun j => .int (own_mk (p1 &&& (255 : Int32)) (y2 &&& (255 : Int32)) j)) := V45.cong (fun i _ => by
      unfold own_mk
      show (if _ then _ else if _ then _ else _) = _
      split
      · rfl
      · split <;> rfl)
    refine own_go st45 ?_
    show own_Ends _ _ _ _ _ _ _ T45 (mkF m 79 #[.val (.int p0), .val (.int p1), .val (.int p2), .val (.int p3), .val (.int (1 : Int32)), .val (.int (p0 &&& (255 : Int32))), .val (.int (x1 &&& (255 : Int32))), .val (.int (x2 &&& (255 : Int32))), .val (.int (p1 &&& (255 : Int32))), .val (.int (y2 &&& (255 : Int32))), .val (.int (Int32.ofNat i0)), .val (.ref bm), .unset, .unset] [])
    obtain ⟨T46, h46, X46, e46, E46, A46, D46, -, st46⟩ := newO X45 hx hZ hown (hw _ (List.mem_of_getElem? (i := 2) rfl)) (hw _ (List.mem_of_getElem? (i := 3) rfl)) (hw _ (List.mem_of_getElem? (i := 4) rfl)) e45 (g := (mkF m 79 #[.val (.int p0), .val (.int p1), .val (.int p2), .val (.int p3), .val (.int (1 : Int32)), .val (.int (p0 &&& (255 : Int32))), .val (.int (x1 &&& (255 : Int32))), .val (.int (x2 &&& (255 : Int32))), .val (.int (p1 &&& (255 : Int32))), .val (.int (y2 &&& (255 : Int32))), .val (.int (Int32.ofNat i0)), .val (.ref bm), .unset, .unset] [])) rfl (hb hby at_79) (by decide) (by decide)
    obtain ⟨bb, gq46⟩ : ∃ z, z = h45.size := ⟨_, rfl⟩
    rw [← gq46] at A46 D46 st46
    have ne_bm_bb : bm ≠ bb := Nat.ne_of_lt (Nat.lt_of_lt_of_le Vf45.lt (Nat.le_of_eq gq46.symm))
    have sz_bb : h0.size ≤ bb := Nat.le_trans K_45.1 (Nat.le_of_eq gq46.symm)
    have g_bb : h0.size ≤ bb := Nat.le_trans (Nat.le_refl _) sz_bb
    have K_46 := K_45.ext E46
    have V_bm_46 := Vf45.ext E46
    have F_bytes_bb : Fld Z h46 bb "com/example/ledgerline/ledgerline/TextBuffer" "bytes" "[B" .null := D46 (Or.inl (hw _ (List.mem_of_getElem? (i := 13) rfl))) (ty := (.array .byte)) (by decide)
    have F_length_bb : Fld Z h46 bb "com/example/ledgerline/ledgerline/TextBuffer" "length" "I" (.int (0 : Int32)) := D46 (Or.inl (hw _ (List.mem_of_getElem? (i := 24) rfl))) (ty := .int) (by decide)
    refine own_go st46 ?_
    show own_Ends _ _ _ _ _ _ _ T46 (mkF m 82 #[.val (.int p0), .val (.int p1), .val (.int p2), .val (.int p3), .val (.int (1 : Int32)), .val (.int (p0 &&& (255 : Int32))), .val (.int (x1 &&& (255 : Int32))), .val (.int (x2 &&& (255 : Int32))), .val (.int (p1 &&& (255 : Int32))), .val (.int (y2 &&& (255 : Int32))), .val (.int (Int32.ofNat i0)), .val (.ref bm), .unset, .unset] [(.ref bb)])
    refine own_go (fun _ k => XS.dup X46.here hx rfl (hb hby at_82) rfl rfl k) ?_
    show own_Ends _ _ _ _ _ _ _ T46 (mkF m 83 #[.val (.int p0), .val (.int p1), .val (.int p2), .val (.int p3), .val (.int (1 : Int32)), .val (.int (p0 &&& (255 : Int32))), .val (.int (x1 &&& (255 : Int32))), .val (.int (x2 &&& (255 : Int32))), .val (.int (p1 &&& (255 : Int32))), .val (.int (y2 &&& (255 : Int32))), .val (.int (Int32.ofNat i0)), .val (.ref bm), .unset, .unset] [(.ref bb), (.ref bb)])
    refine own_go (fun _ k => XS.iconst X46.here hx rfl (hb hby at_83) k) ?_
    show own_Ends _ _ _ _ _ _ _ T46 (mkF m 84 #[.val (.int p0), .val (.int p1), .val (.int p2), .val (.int p3), .val (.int (1 : Int32)), .val (.int (p0 &&& (255 : Int32))), .val (.int (x1 &&& (255 : Int32))), .val (.int (x2 &&& (255 : Int32))), .val (.int (p1 &&& (255 : Int32))), .val (.int (y2 &&& (255 : Int32))), .val (.int (Int32.ofNat i0)), .val (.ref bm), .unset, .unset] [(.int (4 : Int32)), (.ref bb), (.ref bb)])
    obtain ⟨v47, T47, L47, X47, hQ47, st47⟩ := own_callI X46 hx hZ hown rfl (hw _ (List.mem_of_getElem? (i := 5) rfl)) (hw _ (List.mem_of_getElem? (i := 6) rfl)) (hw _ (List.mem_of_getElem? (i := 4) rfl)) (hw _ (List.mem_of_getElem? (i := 7) rfl)) (rm1 l Z a0 hw bb 4 h46 h0.size K_46.1 A46 F_bytes_bb F_length_bb g_bb rfl) e46 (g := (mkF m 84 #[.val (.int p0), .val (.int p1), .val (.int p2), .val (.int p3), .val (.int (1 : Int32)), .val (.int (p0 &&& (255 : Int32))), .val (.int (x1 &&& (255 : Int32))), .val (.int (x2 &&& (255 : Int32))), .val (.int (p1 &&& (255 : Int32))), .val (.int (y2 &&& (255 : Int32))), .val (.int (Int32.ofNat i0)), .val (.ref bm), .unset, .unset] [(.int (4 : Int32)), (.ref bb), (.ref bb)])) rfl (by rw [hml]; rfl) (a := bb) (argsL := [(.int (4 : Int32))]) (rest := [(.ref bb)]) (lenOf pd_0 rfl) rfl rfl (W := 1) (by show 2 * 0 + _ ≤ _; exact Nat.le_of_eq rfl) (hb hby at_84) (by decide) (by decide) (by decide) (by decide) (by decide)
    obtain ⟨ba, kb, rfl, N47q, K47, E47, B47, G47, A47, s47⟩ := hQ47
    refine own_go st47 ?_
    have N47 := Fr.app N45 N47q
    show own_Ends _ _ _ _ _ _ _ T47 (mkF m 87 #[.val (.int p0), .val (.int p1), .val (.int p2), .val (.int p3), .val (.int (1 : Int32)), .val (.int (p0 &&& (255 : Int32))), .val (.int (x1 &&& (255 : Int32))), .val (.int (x2 &&& (255 : Int32))), .val (.int (p1 &&& (255 : Int32))), .val (.int (y2 &&& (255 : Int32))), .val (.int (Int32.ofNat i0)), .val (.ref bm), .unset, .unset] [(.ref bb)])
    have ne_bb_ba : bb ≠ ba := Nat.ne_of_lt (Nat.lt_of_lt_of_le A46.lt s47)
    have ne_bm_ba : bm ≠ ba := Nat.ne_of_lt (Nat.lt_of_lt_of_le V_bm_46.lt s47)
    have sz_ba : h0.size ≤ ba := Nat.le_trans K_46.1 s47
    have K_47 := K_46.trans K47 (allS (Or.inr sz_bb) all0)
    have V_bm_47 := V_bm_46.keep K47 (ninS ne_bm_bb nin0)
    have E_bb_47 := A46.keep K47
    show own_Ends _ _ _ _ _ _ _ T47 (mkF m 87 #[.val (.int p0), .val (.int p1), .val (.int p2), .val (.int p3), .val (.int (1 : Int32)), .val (.int (p0 &&& (255 : Int32))), .val (.int (x1 &&& (255 : Int32))), .val (.int (x2 &&& (255 : Int32))), .val (.int (p1 &&& (255 : Int32))), .val (.int (y2 &&& (255 : Int32))), .val (.int (Int32.ofNat i0)), .val (.ref bm), .unset, .unset] [(.ref bb)])
    refine own_go (fun _ k => XS.astore X47.here hx rfl (hb hby at_87) rfl rfl (l' := #[.val (.int p0), .val (.int p1), .val (.int p2), .val (.int p3), .val (.int (1 : Int32)), .val (.int (p0 &&& (255 : Int32))), .val (.int (x1 &&& (255 : Int32))), .val (.int (x2 &&& (255 : Int32))), .val (.int (p1 &&& (255 : Int32))), .val (.int (y2 &&& (255 : Int32))), .val (.int (Int32.ofNat i0)), .val (.ref bm), .val (.ref bb), .unset]) rfl k) ?_
    show own_Ends _ _ _ _ _ _ _ T47 (mkF m 89 #[.val (.int p0), .val (.int p1), .val (.int p2), .val (.int p3), .val (.int (1 : Int32)), .val (.int (p0 &&& (255 : Int32))), .val (.int (x1 &&& (255 : Int32))), .val (.int (x2 &&& (255 : Int32))), .val (.int (p1 &&& (255 : Int32))), .val (.int (y2 &&& (255 : Int32))), .val (.int (Int32.ofNat i0)), .val (.ref bm), .val (.ref bb), .unset] [])
    refine own_go (fun _ k => XS.iload X47.here hx rfl (hb hby at_89) rfl k) ?_
    show own_Ends _ _ _ _ _ _ _ T47 (mkF m 91 #[.val (.int p0), .val (.int p1), .val (.int p2), .val (.int p3), .val (.int (1 : Int32)), .val (.int (p0 &&& (255 : Int32))), .val (.int (x1 &&& (255 : Int32))), .val (.int (x2 &&& (255 : Int32))), .val (.int (p1 &&& (255 : Int32))), .val (.int (y2 &&& (255 : Int32))), .val (.int (Int32.ofNat i0)), .val (.ref bm), .val (.ref bb), .unset] [(.int (1 : Int32))])
    refine own_go (fun _ k => XS.ifNo X47.here hx rfl (hb hby at_91) rfl ((if0 _ _).trans (tlt (by decide)).2.2.2) k) ?_
    show own_Ends _ _ _ _ _ _ _ T47 (mkF m 94 #[.val (.int p0), .val (.int p1), .val (.int p2), .val (.int p3), .val (.int (1 : Int32)), .val (.int (p0 &&& (255 : Int32))), .val (.int (x1 &&& (255 : Int32))), .val (.int (x2 &&& (255 : Int32))), .val (.int (p1 &&& (255 : Int32))), .val (.int (y2 &&& (255 : Int32))), .val (.int (Int32.ofNat i0)), .val (.ref bm), .val (.ref bb), .unset] [])
    refine own_go (fun _ k => XS.aload X47.here hx rfl (hb hby at_94) rfl rfl k) ?_
    show own_Ends _ _ _ _ _ _ _ T47 (mkF m 96 #[.val (.int p0), .val (.int p1), .val (.int p2), .val (.int p3), .val (.int (1 : Int32)), .val (.int (p0 &&& (255 : Int32))), .val (.int (x1 &&& (255 : Int32))), .val (.int (x2 &&& (255 : Int32))), .val (.int (p1 &&& (255 : Int32))), .val (.int (y2 &&& (255 : Int32))), .val (.int (Int32.ofNat i0)), .val (.ref bm), .val (.ref bb), .unset] [(.ref bb)])
    refine own_go (fun _ k => XS.iload X47.here hx rfl (hb hby at_96) rfl k) ?_
    show own_Ends _ _ _ _ _ _ _ T47 (mkF m 98 #[.val (.int p0), .val (.int p1), .val (.int p2), .val (.int p3), .val (.int (1 : Int32)), .val (.int (p0 &&& (255 : Int32))), .val (.int (x1 &&& (255 : Int32))), .val (.int (x2 &&& (255 : Int32))), .val (.int (p1 &&& (255 : Int32))), .val (.int (y2 &&& (255 : Int32))), .val (.int (Int32.ofNat i0)), .val (.ref bm), .val (.ref bb), .unset] [(.int (p0 &&& (255 : Int32))), (.ref bb)])
    refine own_go (fun _ k => XS.i2c X47.here hx rfl (hb hby at_98) rfl k) ?_
    show own_Ends _ _ _ _ _ _ _ T47 (mkF m 99 #[.val (.int p0), .val (.int p1), .val (.int p2), .val (.int p3), .val (.int (1 : Int32)), .val (.int (p0 &&& (255 : Int32))), .val (.int (x1 &&& (255 : Int32))), .val (.int (x2 &&& (255 : Int32))), .val (.int (p1 &&& (255 : Int32))), .val (.int (y2 &&& (255 : Int32))), .val (.int (Int32.ofNat i0)), .val (.ref bm), .val (.ref bb), .unset] [(.int ((p0 &&& (255 : Int32)).toUInt32.toUInt16.toUInt32.toInt32)), (.ref bb)])
    rw [show ((p0 &&& (255 : Int32)).toUInt32.toUInt16.toUInt32.toInt32) = (p0 &&& (255 : Int32)) from i2c_mask _]
    show own_Ends _ _ _ _ _ _ _ T47 (mkF m 99 #[.val (.int p0), .val (.int p1), .val (.int p2), .val (.int p3), .val (.int (1 : Int32)), .val (.int (p0 &&& (255 : Int32))), .val (.int (x1 &&& (255 : Int32))), .val (.int (x2 &&& (255 : Int32))), .val (.int (p1 &&& (255 : Int32))), .val (.int (y2 &&& (255 : Int32))), .val (.int (Int32.ofNat i0)), .val (.ref bm), .val (.ref bb), .unset] [(.int (p0 &&& (255 : Int32))), (.ref bb)])
    obtain ⟨v48, T48, L48, X48, hQ48, st48⟩ := own_callV X47 hx hZ hown (hw _ (List.mem_of_getElem? (i := 14) rfl)) (hw _ (List.mem_of_getElem? (i := 15) rfl)) (hw _ (List.mem_of_getElem? (i := 17) rfl)) (hw _ (List.mem_of_getElem? (i := 16) rfl)) (hw _ (List.mem_of_getElem? (i := 4) rfl)) (hw _ (List.mem_of_getElem? (i := 18) rfl)) (rm3_0 l Z a0 hw bb (p0 &&& (255 : Int32)) T47.heap h0.size ba kb (fun _ => .int (0 : Int32)) K_47.1 E_bb_47 B47 G47 A47 ne_bb_ba g_bb sz_ba (own_b255 _)) rfl (g := (mkF m 99 #[.val (.int p0), .val (.int p1), .val (.int p2), .val (.int p3), .val (.int (1 : Int32)), .val (.int (p0 &&& (255 : Int32))), .val (.int (x1 &&& (255 : Int32))), .val (.int (x2 &&& (255 : Int32))), .val (.int (p1 &&& (255 : Int32))), .val (.int (y2 &&& (255 : Int32))), .val (.int (Int32.ofNat i0)), .val (.ref bm), .val (.ref bb), .unset] [(.int (p0 &&& (255 : Int32))), (.ref bb)])) rfl (by rw [hml]; rfl) (a := bb) (argsL := [(.int (p0 &&& (255 : Int32)))]) (rest := []) (E_bb_47) (lenOf pd_4 rfl) rfl rfl (W := 0) (by show 2 * 0 + _ ≤ _; exact Nat.le_of_eq rfl) (hb hby at_99) (by decide) (by decide) (by decide) (by decide) (by decide)
    obtain ⟨rfl, N48q, K48, E48, B48, G48, A48⟩ := hQ48
    refine own_go st48 ?_
    have N48 := Fr.app N47 N48q
    have K_48 := K_47.trans K48 (allS (Or.inr sz_bb) (allS (Or.inr sz_ba) all0))
    have V_bm_48 := V_bm_47.keep K48 (ninS ne_bm_bb (ninS ne_bm_ba nin0))
    have E_bb_48 := E_bb_47.keep K48
    show own_Ends _ _ _ _ _ _ _ T48 (mkF m 102 #[.val (.int p0), .val (.int p1), .val (.int p2), .val (.int p3), .val (.int (1 : Int32)), .val (.int (p0 &&& (255 : Int32))), .val (.int (x1 &&& (255 : Int32))), .val (.int (x2 &&& (255 : Int32))), .val (.int (p1 &&& (255 : Int32))), .val (.int (y2 &&& (255 : Int32))), .val (.int (Int32.ofNat i0)), .val (.ref bm), .val (.ref bb), .unset] [(.ref bb)])
    refine own_go (fun _ k => XS.pop X48.here hx rfl (hb hby at_102) rfl rfl k) ?_
    show own_Ends _ _ _ _ _ _ _ T48 (mkF m 103 #[.val (.int p0), .val (.int p1), .val (.int p2), .val (.int p3), .val (.int (1 : Int32)), .val (.int (p0 &&& (255 : Int32))), .val (.int (x1 &&& (255 : Int32))), .val (.int (x2 &&& (255 : Int32))), .val (.int (p1 &&& (255 : Int32))), .val (.int (y2 &&& (255 : Int32))), .val (.int (Int32.ofNat i0)), .val (.ref bm), .val (.ref bb), .unset] [])
    refine own_go (fun _ k => XS.iload X48.here hx rfl (hb hby at_103) rfl k) ?_
    show own_Ends _ _ _ _ _ _ _ T48 (mkF m 105 #[.val (.int p0), .val (.int p1), .val (.int p2), .val (.int p3), .val (.int (1 : Int32)), .val (.int (p0 &&& (255 : Int32))), .val (.int (x1 &&& (255 : Int32))), .val (.int (x2 &&& (255 : Int32))), .val (.int (p1 &&& (255 : Int32))), .val (.int (y2 &&& (255 : Int32))), .val (.int (Int32.ofNat i0)), .val (.ref bm), .val (.ref bb), .unset] [(.int (1 : Int32))])
    refine own_go (fun _ k => XS.iconst X48.here hx rfl (hb hby at_105) k) ?_
    show own_Ends _ _ _ _ _ _ _ T48 (mkF m 106 #[.val (.int p0), .val (.int p1), .val (.int p2), .val (.int p3), .val (.int (1 : Int32)), .val (.int (p0 &&& (255 : Int32))), .val (.int (x1 &&& (255 : Int32))), .val (.int (x2 &&& (255 : Int32))), .val (.int (p1 &&& (255 : Int32))), .val (.int (y2 &&& (255 : Int32))), .val (.int (Int32.ofNat i0)), .val (.ref bm), .val (.ref bb), .unset] [(.int (1 : Int32)), (.int (1 : Int32))])
    refine own_go (fun _ k => XS.icmpYes X48.here hx rfl (pc0 := 106) (pc' := 118) rfl (hb hby at_106) rfl (flt (by decide)).2.2.2 (by decide) (by decide) k) ?_
    show own_Ends _ _ _ _ _ _ _ T48 (mkF m 118 #[.val (.int p0), .val (.int p1), .val (.int p2), .val (.int p3), .val (.int (1 : Int32)), .val (.int (p0 &&& (255 : Int32))), .val (.int (x1 &&& (255 : Int32))), .val (.int (x2 &&& (255 : Int32))), .val (.int (p1 &&& (255 : Int32))), .val (.int (y2 &&& (255 : Int32))), .val (.int (Int32.ofNat i0)), .val (.ref bm), .val (.ref bb), .unset] [])
    refine own_go (fun _ k => XS.iload X48.here hx rfl (hb hby at_118) rfl k) ?_
    show own_Ends _ _ _ _ _ _ _ T48 (mkF m 120 #[.val (.int p0), .val (.int p1), .val (.int p2), .val (.int p3), .val (.int (1 : Int32)), .val (.int (p0 &&& (255 : Int32))), .val (.int (x1 &&& (255 : Int32))), .val (.int (x2 &&& (255 : Int32))), .val (.int (p1 &&& (255 : Int32))), .val (.int (y2 &&& (255 : Int32))), .val (.int (Int32.ofNat i0)), .val (.ref bm), .val (.ref bb), .unset] [(.int (1 : Int32))])
    refine own_go (fun _ k => XS.iconst X48.here hx rfl (hb hby at_120) k) ?_
    show own_Ends _ _ _ _ _ _ _ T48 (mkF m 121 #[.val (.int p0), .val (.int p1), .val (.int p2), .val (.int p3), .val (.int (1 : Int32)), .val (.int (p0 &&& (255 : Int32))), .val (.int (x1 &&& (255 : Int32))), .val (.int (x2 &&& (255 : Int32))), .val (.int (p1 &&& (255 : Int32))), .val (.int (y2 &&& (255 : Int32))), .val (.int (Int32.ofNat i0)), .val (.ref bm), .val (.ref bb), .unset] [(.int (2 : Int32)), (.int (1 : Int32))])
    refine own_go (fun _ k => XS.icmpYes X48.here hx rfl (pc0 := 121) (pc' := 133) rfl (hb hby at_121) rfl (flt (by decide)).2.2.2 (by decide) (by decide) k) ?_
    show own_Ends _ _ _ _ _ _ _ T48 (mkF m 133 #[.val (.int p0), .val (.int p1), .val (.int p2), .val (.int p3), .val (.int (1 : Int32)), .val (.int (p0 &&& (255 : Int32))), .val (.int (x1 &&& (255 : Int32))), .val (.int (x2 &&& (255 : Int32))), .val (.int (p1 &&& (255 : Int32))), .val (.int (y2 &&& (255 : Int32))), .val (.int (Int32.ofNat i0)), .val (.ref bm), .val (.ref bb), .unset] [])
    refine own_go (fun _ k => XS.iconst X48.here hx rfl (hb hby at_133) k) ?_
    show own_Ends _ _ _ _ _ _ _ T48 (mkF m 134 #[.val (.int p0), .val (.int p1), .val (.int p2), .val (.int p3), .val (.int (1 : Int32)), .val (.int (p0 &&& (255 : Int32))), .val (.int (x1 &&& (255 : Int32))), .val (.int (x2 &&& (255 : Int32))), .val (.int (p1 &&& (255 : Int32))), .val (.int (y2 &&& (255 : Int32))), .val (.int (Int32.ofNat i0)), .val (.ref bm), .val (.ref bb), .unset] [(.int (0 : Int32))])
    refine own_go (fun _ k => XS.iload X48.here hx rfl (hb hby at_134) rfl k) ?_
    show own_Ends _ _ _ _ _ _ _ T48 (mkF m 136 #[.val (.int p0), .val (.int p1), .val (.int p2), .val (.int p3), .val (.int (1 : Int32)), .val (.int (p0 &&& (255 : Int32))), .val (.int (x1 &&& (255 : Int32))), .val (.int (x2 &&& (255 : Int32))), .val (.int (p1 &&& (255 : Int32))), .val (.int (y2 &&& (255 : Int32))), .val (.int (Int32.ofNat i0)), .val (.ref bm), .val (.ref bb), .unset] [(.int (p0 &&& (255 : Int32))), (.int (0 : Int32))])
    refine own_go (fun _ k => XS.iload X48.here hx rfl (hb hby at_136) rfl k) ?_
    show own_Ends _ _ _ _ _ _ _ T48 (mkF m 138 #[.val (.int p0), .val (.int p1), .val (.int p2), .val (.int p3), .val (.int (1 : Int32)), .val (.int (p0 &&& (255 : Int32))), .val (.int (x1 &&& (255 : Int32))), .val (.int (x2 &&& (255 : Int32))), .val (.int (p1 &&& (255 : Int32))), .val (.int (y2 &&& (255 : Int32))), .val (.int (Int32.ofNat i0)), .val (.ref bm), .val (.ref bb), .unset] [(.int (1 : Int32)), (.int (p0 &&& (255 : Int32))), (.int (0 : Int32))])
    refine own_go (fun _ k => XS.iload X48.here hx rfl (hb hby at_138) rfl k) ?_
    show own_Ends _ _ _ _ _ _ _ T48 (mkF m 140 #[.val (.int p0), .val (.int p1), .val (.int p2), .val (.int p3), .val (.int (1 : Int32)), .val (.int (p0 &&& (255 : Int32))), .val (.int (x1 &&& (255 : Int32))), .val (.int (x2 &&& (255 : Int32))), .val (.int (p1 &&& (255 : Int32))), .val (.int (y2 &&& (255 : Int32))), .val (.int (Int32.ofNat i0)), .val (.ref bm), .val (.ref bb), .unset] [(.int (Int32.ofNat i0)), (.int (1 : Int32)), (.int (p0 &&& (255 : Int32))), (.int (0 : Int32))])
    refine own_go (fun _ k => XS.iload X48.here hx rfl (hb hby at_140) rfl k) ?_
    show own_Ends _ _ _ _ _ _ _ T48 (mkF m 142 #[.val (.int p0), .val (.int p1), .val (.int p2), .val (.int p3), .val (.int (1 : Int32)), .val (.int (p0 &&& (255 : Int32))), .val (.int (x1 &&& (255 : Int32))), .val (.int (x2 &&& (255 : Int32))), .val (.int (p1 &&& (255 : Int32))), .val (.int (y2 &&& (255 : Int32))), .val (.int (Int32.ofNat i0)), .val (.ref bm), .val (.ref bb), .unset] [(.int (p1 &&& (255 : Int32))), (.int (Int32.ofNat i0)), (.int (1 : Int32)), (.int (p0 &&& (255 : Int32))), (.int (0 : Int32))])
    refine own_go (fun _ k => XS.iload X48.here hx rfl (hb hby at_142) rfl k) ?_
    show own_Ends _ _ _ _ _ _ _ T48 (mkF m 144 #[.val (.int p0), .val (.int p1), .val (.int p2), .val (.int p3), .val (.int (1 : Int32)), .val (.int (p0 &&& (255 : Int32))), .val (.int (x1 &&& (255 : Int32))), .val (.int (x2 &&& (255 : Int32))), .val (.int (p1 &&& (255 : Int32))), .val (.int (y2 &&& (255 : Int32))), .val (.int (Int32.ofNat i0)), .val (.ref bm), .val (.ref bb), .unset] [(.int (y2 &&& (255 : Int32))), (.int (p1 &&& (255 : Int32))), (.int (Int32.ofNat i0)), (.int (1 : Int32)), (.int (p0 &&& (255 : Int32))), (.int (0 : Int32))])
    have VB : own_Ar Z T48.heap ba kb .byte 4 (fun j => .int ((fun j => if j = 0 then own_by (p0 &&& (255 : Int32)) else (0 : Int32)) j)) := A48.cong (fun i _ => by
      by_cases q0 : i = 0 <;> simp [q0])
    have VM : own_Ar Z T48.heap bm k43 .boolean 256 (fun j => .int (own_mk (p1 &&& (255 : Int32)) (y2 &&& (255 : Int32)) j)) := V_bm_48
    obtain ⟨v49, T49, L49, X49, hQ49, st49⟩ := own_callS X48 hx hZ hown (hw _ (List.mem_of_getElem? (i := 28) rfl)) (hw _ (List.mem_of_getElem? (i := 29) rfl)) (hw _ (List.mem_of_getElem? (i := 30) rfl)) (hw _ (List.mem_of_getElem? (i := 31) rfl)) (rm6 l Z a0 hw (0 : Int32) (p0 &&& (255 : Int32)) (1 : Int32) (Int32.ofNat i0) (p1 &&& (255 : Int32)) (y2 &&& (255 : Int32)) T48.heap) rfl (g := (mkF m 144 #[.val (.int p0), .val (.int p1), .val (.int p2), .val (.int p3), .val (.int (1 : Int32)), .val (.int (p0 &&& (255 : Int32))), .val (.int (x1 &&& (255 : Int32))), .val (.int (x2 &&& (255 : Int32))), .val (.int (p1 &&& (255 : Int32))), .val (.int (y2 &&& (255 : Int32))), .val (.int (Int32.ofNat i0)), .val (.ref bm), .val (.ref bb), .unset] [(.int (y2 &&& (255 : Int32))), (.int (p1 &&& (255 : Int32))), (.int (Int32.ofNat i0)), (.int (1 : Int32)), (.int (p0 &&& (255 : Int32))), (.int (0 : Int32))])) rfl (by rw [hml]; rfl) (argsL := [(.int (0 : Int32)), (.int (p0 &&& (255 : Int32))), (.int (1 : Int32)), (.int (Int32.ofNat i0)), (.int (p1 &&& (255 : Int32))), (.int (y2 &&& (255 : Int32)))]) (rest := []) (lenOf pd_2 rfl) rfl rfl (W := 0) (by show 2 * 0 + _ ≤ _; exact Nat.le_of_eq rfl) (hb hby at_144) (by decide) (by decide) (by decide) (by decide) (by decide)
    obtain ⟨rfl, rfl, e49⟩ := hQ49
    refine own_go st49 ?_
    have N49 := Fr.app N48 (Fr.nil _)
    show own_Ends _ _ _ _ _ _ _ T49 (mkF m 147 #[.val (.int p0), .val (.int p1), .val (.int p2), .val (.int p3), .val (.int (1 : Int32)), .val (.int (p0 &&& (255 : Int32))), .val (.int (x1 &&& (255 : Int32))), .val (.int (x2 &&& (255 : Int32))), .val (.int (p1 &&& (255 : Int32))), .val (.int (y2 &&& (255 : Int32))), .val (.int (Int32.ofNat i0)), .val (.ref bm), .val (.ref bb), .unset] [(.int (own_hit (0 : Int32) (p0 &&& (255 : Int32)) (1 : Int32) (Int32.ofNat i0) (p1 &&& (255 : Int32)) (y2 &&& (255 : Int32))))])
    by_cases t0 : (own_hit (0 : Int32) (p0 &&& (255 : Int32)) (1 : Int32) (Int32.ofNat i0) (p1 &&& (255 : Int32)) (y2 &&& (255 : Int32))) = (0 : Int32)
    · refine own_go (fun _ k => XS.ifNo X49.here hx rfl (hb hby at_147) rfl ((if0 _ _).trans (teq t0).2) k) ?_
      show own_Ends _ _ _ _ _ _ _ T49 (mkF m 150 #[.val (.int p0), .val (.int p1), .val (.int p2), .val (.int p3), .val (.int (1 : Int32)), .val (.int (p0 &&& (255 : Int32))), .val (.int (x1 &&& (255 : Int32))), .val (.int (x2 &&& (255 : Int32))), .val (.int (p1 &&& (255 : Int32))), .val (.int (y2 &&& (255 : Int32))), .val (.int (Int32.ofNat i0)), .val (.ref bm), .val (.ref bb), .unset] [])
      refine own_go (fun _ k => XS.iconst X49.here hx rfl (hb hby at_150) k) ?_
      show own_Ends _ _ _ _ _ _ _ T49 (mkF m 151 #[.val (.int p0), .val (.int p1), .val (.int p2), .val (.int p3), .val (.int (1 : Int32)), .val (.int (p0 &&& (255 : Int32))), .val (.int (x1 &&& (255 : Int32))), .val (.int (x2 &&& (255 : Int32))), .val (.int (p1 &&& (255 : Int32))), .val (.int (y2 &&& (255 : Int32))), .val (.int (Int32.ofNat i0)), .val (.ref bm), .val (.ref bb), .unset] [(.int (1 : Int32))])
      refine own_go (fun _ k => XS.iload X49.here hx rfl (hb hby at_151) rfl k) ?_
      show own_Ends _ _ _ _ _ _ _ T49 (mkF m 153 #[.val (.int p0), .val (.int p1), .val (.int p2), .val (.int p3), .val (.int (1 : Int32)), .val (.int (p0 &&& (255 : Int32))), .val (.int (x1 &&& (255 : Int32))), .val (.int (x2 &&& (255 : Int32))), .val (.int (p1 &&& (255 : Int32))), .val (.int (y2 &&& (255 : Int32))), .val (.int (Int32.ofNat i0)), .val (.ref bm), .val (.ref bb), .unset] [(.int (x1 &&& (255 : Int32))), (.int (1 : Int32))])
      refine own_go (fun _ k => XS.iload X49.here hx rfl (hb hby at_153) rfl k) ?_
      show own_Ends _ _ _ _ _ _ _ T49 (mkF m 155 #[.val (.int p0), .val (.int p1), .val (.int p2), .val (.int p3), .val (.int (1 : Int32)), .val (.int (p0 &&& (255 : Int32))), .val (.int (x1 &&& (255 : Int32))), .val (.int (x2 &&& (255 : Int32))), .val (.int (p1 &&& (255 : Int32))), .val (.int (y2 &&& (255 : Int32))), .val (.int (Int32.ofNat i0)), .val (.ref bm), .val (.ref bb), .unset] [(.int (1 : Int32)), (.int (x1 &&& (255 : Int32))), (.int (1 : Int32))])
      refine own_go (fun _ k => XS.iload X49.here hx rfl (hb hby at_155) rfl k) ?_
      show own_Ends _ _ _ _ _ _ _ T49 (mkF m 157 #[.val (.int p0), .val (.int p1), .val (.int p2), .val (.int p3), .val (.int (1 : Int32)), .val (.int (p0 &&& (255 : Int32))), .val (.int (x1 &&& (255 : Int32))), .val (.int (x2 &&& (255 : Int32))), .val (.int (p1 &&& (255 : Int32))), .val (.int (y2 &&& (255 : Int32))), .val (.int (Int32.ofNat i0)), .val (.ref bm), .val (.ref bb), .unset] [(.int (Int32.ofNat i0)), (.int (1 : Int32)), (.int (x1 &&& (255 : Int32))), (.int (1 : Int32))])
      refine own_go (fun _ k => XS.iload X49.here hx rfl (hb hby at_157) rfl k) ?_
      show own_Ends _ _ _ _ _ _ _ T49 (mkF m 159 #[.val (.int p0), .val (.int p1), .val (.int p2), .val (.int p3), .val (.int (1 : Int32)), .val (.int (p0 &&& (255 : Int32))), .val (.int (x1 &&& (255 : Int32))), .val (.int (x2 &&& (255 : Int32))), .val (.int (p1 &&& (255 : Int32))), .val (.int (y2 &&& (255 : Int32))), .val (.int (Int32.ofNat i0)), .val (.ref bm), .val (.ref bb), .unset] [(.int (p1 &&& (255 : Int32))), (.int (Int32.ofNat i0)), (.int (1 : Int32)), (.int (x1 &&& (255 : Int32))), (.int (1 : Int32))])
      refine own_go (fun _ k => XS.iload X49.here hx rfl (hb hby at_159) rfl k) ?_
      show own_Ends _ _ _ _ _ _ _ T49 (mkF m 161 #[.val (.int p0), .val (.int p1), .val (.int p2), .val (.int p3), .val (.int (1 : Int32)), .val (.int (p0 &&& (255 : Int32))), .val (.int (x1 &&& (255 : Int32))), .val (.int (x2 &&& (255 : Int32))), .val (.int (p1 &&& (255 : Int32))), .val (.int (y2 &&& (255 : Int32))), .val (.int (Int32.ofNat i0)), .val (.ref bm), .val (.ref bb), .unset] [(.int (y2 &&& (255 : Int32))), (.int (p1 &&& (255 : Int32))), (.int (Int32.ofNat i0)), (.int (1 : Int32)), (.int (x1 &&& (255 : Int32))), (.int (1 : Int32))])
      obtain ⟨v51, T51, L51, X51, hQ51, st51⟩ := own_callS X49 hx hZ hown (hw _ (List.mem_of_getElem? (i := 28) rfl)) (hw _ (List.mem_of_getElem? (i := 29) rfl)) (hw _ (List.mem_of_getElem? (i := 30) rfl)) (hw _ (List.mem_of_getElem? (i := 31) rfl)) (rm6 l Z a0 hw (1 : Int32) (x1 &&& (255 : Int32)) (1 : Int32) (Int32.ofNat i0) (p1 &&& (255 : Int32)) (y2 &&& (255 : Int32)) T48.heap) e49 (g := (mkF m 161 #[.val (.int p0), .val (.int p1), .val (.int p2), .val (.int p3), .val (.int (1 : Int32)), .val (.int (p0 &&& (255 : Int32))), .val (.int (x1 &&& (255 : Int32))), .val (.int (x2 &&& (255 : Int32))), .val (.int (p1 &&& (255 : Int32))), .val (.int (y2 &&& (255 : Int32))), .val (.int (Int32.ofNat i0)), .val (.ref bm), .val (.ref bb), .unset] [(.int (y2 &&& (255 : Int32))), (.int (p1 &&& (255 : Int32))), (.int (Int32.ofNat i0)), (.int (1 : Int32)), (.int (x1 &&& (255 : Int32))), (.int (1 : Int32))])) rfl (by rw [hml]; rfl) (argsL := [(.int (1 : Int32)), (.int (x1 &&& (255 : Int32))), (.int (1 : Int32)), (.int (Int32.ofNat i0)), (.int (p1 &&& (255 : Int32))), (.int (y2 &&& (255 : Int32)))]) (rest := []) (lenOf pd_2 rfl) rfl rfl (W := 0) (by show 2 * 0 + _ ≤ _; exact Nat.le_of_eq rfl) (hb hby at_161) (by decide) (by decide) (by decide) (by decide) (by decide)
      obtain ⟨rfl, rfl, e51⟩ := hQ51
      refine own_go st51 ?_
      have N51 := Fr.app N49 (Fr.nil _)
      show own_Ends _ _ _ _ _ _ _ T51 (mkF m 164 #[.val (.int p0), .val (.int p1), .val (.int p2), .val (.int p3), .val (.int (1 : Int32)), .val (.int (p0 &&& (255 : Int32))), .val (.int (x1 &&& (255 : Int32))), .val (.int (x2 &&& (255 : Int32))), .val (.int (p1 &&& (255 : Int32))), .val (.int (y2 &&& (255 : Int32))), .val (.int (Int32.ofNat i0)), .val (.ref bm), .val (.ref bb), .unset] [(.int (own_hit (1 : Int32) (x1 &&& (255 : Int32)) (1 : Int32) (Int32.ofNat i0) (p1 &&& (255 : Int32)) (y2 &&& (255 : Int32))))])
      by_cases t1 : (own_hit (1 : Int32) (x1 &&& (255 : Int32)) (1 : Int32) (Int32.ofNat i0) (p1 &&& (255 : Int32)) (y2 &&& (255 : Int32))) = (0 : Int32)
      · refine own_go (fun _ k => XS.ifNo X51.here hx rfl (hb hby at_164) rfl ((if0 _ _).trans (teq t1).2) k) ?_
        show own_Ends _ _ _ _ _ _ _ T51 (mkF m 167 #[.val (.int p0), .val (.int p1), .val (.int p2), .val (.int p3), .val (.int (1 : Int32)), .val (.int (p0 &&& (255 : Int32))), .val (.int (x1 &&& (255 : Int32))), .val (.int (x2 &&& (255 : Int32))), .val (.int (p1 &&& (255 : Int32))), .val (.int (y2 &&& (255 : Int32))), .val (.int (Int32.ofNat i0)), .val (.ref bm), .val (.ref bb), .unset] [])
        refine own_go (fun _ k => XS.iconst X51.here hx rfl (hb hby at_167) k) ?_
        show own_Ends _ _ _ _ _ _ _ T51 (mkF m 168 #[.val (.int p0), .val (.int p1), .val (.int p2), .val (.int p3), .val (.int (1 : Int32)), .val (.int (p0 &&& (255 : Int32))), .val (.int (x1 &&& (255 : Int32))), .val (.int (x2 &&& (255 : Int32))), .val (.int (p1 &&& (255 : Int32))), .val (.int (y2 &&& (255 : Int32))), .val (.int (Int32.ofNat i0)), .val (.ref bm), .val (.ref bb), .unset] [(.int (2 : Int32))])
        refine own_go (fun _ k => XS.iload X51.here hx rfl (hb hby at_168) rfl k) ?_
        show own_Ends _ _ _ _ _ _ _ T51 (mkF m 170 #[.val (.int p0), .val (.int p1), .val (.int p2), .val (.int p3), .val (.int (1 : Int32)), .val (.int (p0 &&& (255 : Int32))), .val (.int (x1 &&& (255 : Int32))), .val (.int (x2 &&& (255 : Int32))), .val (.int (p1 &&& (255 : Int32))), .val (.int (y2 &&& (255 : Int32))), .val (.int (Int32.ofNat i0)), .val (.ref bm), .val (.ref bb), .unset] [(.int (x2 &&& (255 : Int32))), (.int (2 : Int32))])
        refine own_go (fun _ k => XS.iload X51.here hx rfl (hb hby at_170) rfl k) ?_
        show own_Ends _ _ _ _ _ _ _ T51 (mkF m 172 #[.val (.int p0), .val (.int p1), .val (.int p2), .val (.int p3), .val (.int (1 : Int32)), .val (.int (p0 &&& (255 : Int32))), .val (.int (x1 &&& (255 : Int32))), .val (.int (x2 &&& (255 : Int32))), .val (.int (p1 &&& (255 : Int32))), .val (.int (y2 &&& (255 : Int32))), .val (.int (Int32.ofNat i0)), .val (.ref bm), .val (.ref bb), .unset] [(.int (1 : Int32)), (.int (x2 &&& (255 : Int32))), (.int (2 : Int32))])
        refine own_go (fun _ k => XS.iload X51.here hx rfl (hb hby at_172) rfl k) ?_
        show own_Ends _ _ _ _ _ _ _ T51 (mkF m 174 #[.val (.int p0), .val (.int p1), .val (.int p2), .val (.int p3), .val (.int (1 : Int32)), .val (.int (p0 &&& (255 : Int32))), .val (.int (x1 &&& (255 : Int32))), .val (.int (x2 &&& (255 : Int32))), .val (.int (p1 &&& (255 : Int32))), .val (.int (y2 &&& (255 : Int32))), .val (.int (Int32.ofNat i0)), .val (.ref bm), .val (.ref bb), .unset] [(.int (Int32.ofNat i0)), (.int (1 : Int32)), (.int (x2 &&& (255 : Int32))), (.int (2 : Int32))])
        refine own_go (fun _ k => XS.iload X51.here hx rfl (hb hby at_174) rfl k) ?_
        show own_Ends _ _ _ _ _ _ _ T51 (mkF m 176 #[.val (.int p0), .val (.int p1), .val (.int p2), .val (.int p3), .val (.int (1 : Int32)), .val (.int (p0 &&& (255 : Int32))), .val (.int (x1 &&& (255 : Int32))), .val (.int (x2 &&& (255 : Int32))), .val (.int (p1 &&& (255 : Int32))), .val (.int (y2 &&& (255 : Int32))), .val (.int (Int32.ofNat i0)), .val (.ref bm), .val (.ref bb), .unset] [(.int (p1 &&& (255 : Int32))), (.int (Int32.ofNat i0)), (.int (1 : Int32)), (.int (x2 &&& (255 : Int32))), (.int (2 : Int32))])
        refine own_go (fun _ k => XS.iload X51.here hx rfl (hb hby at_176) rfl k) ?_
        show own_Ends _ _ _ _ _ _ _ T51 (mkF m 178 #[.val (.int p0), .val (.int p1), .val (.int p2), .val (.int p3), .val (.int (1 : Int32)), .val (.int (p0 &&& (255 : Int32))), .val (.int (x1 &&& (255 : Int32))), .val (.int (x2 &&& (255 : Int32))), .val (.int (p1 &&& (255 : Int32))), .val (.int (y2 &&& (255 : Int32))), .val (.int (Int32.ofNat i0)), .val (.ref bm), .val (.ref bb), .unset] [(.int (y2 &&& (255 : Int32))), (.int (p1 &&& (255 : Int32))), (.int (Int32.ofNat i0)), (.int (1 : Int32)), (.int (x2 &&& (255 : Int32))), (.int (2 : Int32))])
        obtain ⟨v53, T53, L53, X53, hQ53, st53⟩ := own_callS X51 hx hZ hown (hw _ (List.mem_of_getElem? (i := 28) rfl)) (hw _ (List.mem_of_getElem? (i := 29) rfl)) (hw _ (List.mem_of_getElem? (i := 30) rfl)) (hw _ (List.mem_of_getElem? (i := 31) rfl)) (rm6 l Z a0 hw (2 : Int32) (x2 &&& (255 : Int32)) (1 : Int32) (Int32.ofNat i0) (p1 &&& (255 : Int32)) (y2 &&& (255 : Int32)) T48.heap) e51 (g := (mkF m 178 #[.val (.int p0), .val (.int p1), .val (.int p2), .val (.int p3), .val (.int (1 : Int32)), .val (.int (p0 &&& (255 : Int32))), .val (.int (x1 &&& (255 : Int32))), .val (.int (x2 &&& (255 : Int32))), .val (.int (p1 &&& (255 : Int32))), .val (.int (y2 &&& (255 : Int32))), .val (.int (Int32.ofNat i0)), .val (.ref bm), .val (.ref bb), .unset] [(.int (y2 &&& (255 : Int32))), (.int (p1 &&& (255 : Int32))), (.int (Int32.ofNat i0)), (.int (1 : Int32)), (.int (x2 &&& (255 : Int32))), (.int (2 : Int32))])) rfl (by rw [hml]; rfl) (argsL := [(.int (2 : Int32)), (.int (x2 &&& (255 : Int32))), (.int (1 : Int32)), (.int (Int32.ofNat i0)), (.int (p1 &&& (255 : Int32))), (.int (y2 &&& (255 : Int32)))]) (rest := []) (lenOf pd_2 rfl) rfl rfl (W := 0) (by show 2 * 0 + _ ≤ _; exact Nat.le_of_eq rfl) (hb hby at_178) (by decide) (by decide) (by decide) (by decide) (by decide)
        obtain ⟨rfl, rfl, e53⟩ := hQ53
        refine own_go st53 ?_
        have N53 := Fr.app N51 (Fr.nil _)
        show own_Ends _ _ _ _ _ _ _ T53 (mkF m 181 #[.val (.int p0), .val (.int p1), .val (.int p2), .val (.int p3), .val (.int (1 : Int32)), .val (.int (p0 &&& (255 : Int32))), .val (.int (x1 &&& (255 : Int32))), .val (.int (x2 &&& (255 : Int32))), .val (.int (p1 &&& (255 : Int32))), .val (.int (y2 &&& (255 : Int32))), .val (.int (Int32.ofNat i0)), .val (.ref bm), .val (.ref bb), .unset] [(.int (own_hit (2 : Int32) (x2 &&& (255 : Int32)) (1 : Int32) (Int32.ofNat i0) (p1 &&& (255 : Int32)) (y2 &&& (255 : Int32))))])
        by_cases t2 : (own_hit (2 : Int32) (x2 &&& (255 : Int32)) (1 : Int32) (Int32.ofNat i0) (p1 &&& (255 : Int32)) (y2 &&& (255 : Int32))) = (0 : Int32)
        · refine own_go (fun _ k => XS.ifYes X53.here hx rfl (pc0 := 181) (pc' := 188) rfl (hb hby at_181) rfl ((if0 _ _).trans (teq t2).1) (by decide) (by decide) k) ?_
          show own_Ends _ _ _ _ _ _ _ T53 (mkF m 188 #[.val (.int p0), .val (.int p1), .val (.int p2), .val (.int p3), .val (.int (1 : Int32)), .val (.int (p0 &&& (255 : Int32))), .val (.int (x1 &&& (255 : Int32))), .val (.int (x2 &&& (255 : Int32))), .val (.int (p1 &&& (255 : Int32))), .val (.int (y2 &&& (255 : Int32))), .val (.int (Int32.ofNat i0)), .val (.ref bm), .val (.ref bb), .unset] [])
          refine own_go (fun _ k => XS.iconst X53.here hx rfl (hb hby at_188) k) ?_
          show own_Ends _ _ _ _ _ _ _ T53 (mkF m 189 #[.val (.int p0), .val (.int p1), .val (.int p2), .val (.int p3), .val (.int (1 : Int32)), .val (.int (p0 &&& (255 : Int32))), .val (.int (x1 &&& (255 : Int32))), .val (.int (x2 &&& (255 : Int32))), .val (.int (p1 &&& (255 : Int32))), .val (.int (y2 &&& (255 : Int32))), .val (.int (Int32.ofNat i0)), .val (.ref bm), .val (.ref bb), .unset] [(.int (0 : Int32))])
          refine own_go (fun _ k => XS.istore X53.here hx rfl (hb hby at_189) rfl (l' := #[.val (.int p0), .val (.int p1), .val (.int p2), .val (.int p3), .val (.int (1 : Int32)), .val (.int (p0 &&& (255 : Int32))), .val (.int (x1 &&& (255 : Int32))), .val (.int (x2 &&& (255 : Int32))), .val (.int (p1 &&& (255 : Int32))), .val (.int (y2 &&& (255 : Int32))), .val (.int (Int32.ofNat i0)), .val (.ref bm), .val (.ref bb), .val (.int (0 : Int32))]) rfl k) ?_
          show own_Ends _ _ _ _ _ _ _ T53 (mkF m 191 #[.val (.int p0), .val (.int p1), .val (.int p2), .val (.int p3), .val (.int (1 : Int32)), .val (.int (p0 &&& (255 : Int32))), .val (.int (x1 &&& (255 : Int32))), .val (.int (x2 &&& (255 : Int32))), .val (.int (p1 &&& (255 : Int32))), .val (.int (y2 &&& (255 : Int32))), .val (.int (Int32.ofNat i0)), .val (.ref bm), .val (.ref bb), .val (.int (0 : Int32))] [])
          refine own_go (fun _ k => XS.aload X53.here hx rfl (hb hby at_191) rfl rfl k) ?_
          show own_Ends _ _ _ _ _ _ _ T53 (mkF m 193 #[.val (.int p0), .val (.int p1), .val (.int p2), .val (.int p3), .val (.int (1 : Int32)), .val (.int (p0 &&& (255 : Int32))), .val (.int (x1 &&& (255 : Int32))), .val (.int (x2 &&& (255 : Int32))), .val (.int (p1 &&& (255 : Int32))), .val (.int (y2 &&& (255 : Int32))), .val (.int (Int32.ofNat i0)), .val (.ref bm), .val (.ref bb), .val (.int (0 : Int32))] [(.ref bb)])
          refine own_go (fun _ k => XS.iload X53.here hx rfl (hb hby at_193) rfl k) ?_
          show own_Ends _ _ _ _ _ _ _ T53 (mkF m 195 #[.val (.int p0), .val (.int p1), .val (.int p2), .val (.int p3), .val (.int (1 : Int32)), .val (.int (p0 &&& (255 : Int32))), .val (.int (x1 &&& (255 : Int32))), .val (.int (x2 &&& (255 : Int32))), .val (.int (p1 &&& (255 : Int32))), .val (.int (y2 &&& (255 : Int32))), .val (.int (Int32.ofNat i0)), .val (.ref bm), .val (.ref bb), .val (.int (0 : Int32))] [(.int (Int32.ofNat i0)), (.ref bb)])
          refine own_go (fun _ k => XS.aload X53.here hx rfl (hb hby at_195) rfl rfl k) ?_
          show own_Ends _ _ _ _ _ _ _ T53 (mkF m 197 #[.val (.int p0), .val (.int p1), .val (.int p2), .val (.int p3), .val (.int (1 : Int32)), .val (.int (p0 &&& (255 : Int32))), .val (.int (x1 &&& (255 : Int32))), .val (.int (x2 &&& (255 : Int32))), .val (.int (p1 &&& (255 : Int32))), .val (.int (y2 &&& (255 : Int32))), .val (.int (Int32.ofNat i0)), .val (.ref bm), .val (.ref bb), .val (.int (0 : Int32))] [(.ref bm), (.int (Int32.ofNat i0)), (.ref bb)])
          obtain ⟨v54, T54, L54, X54, hQ54, st54⟩ := own_callV X53 hx hZ hown (hw _ (List.mem_of_getElem? (i := 32) rfl)) (hw _ (List.mem_of_getElem? (i := 33) rfl)) (hw _ (List.mem_of_getElem? (i := 35) rfl)) (hw _ (List.mem_of_getElem? (i := 34) rfl)) (hw _ (List.mem_of_getElem? (i := 4) rfl)) (hw _ (List.mem_of_getElem? (i := 36) rfl)) (rm7 l Z a0 hw bb (Int32.ofNat i0) bm T48.heap ba kb k43 (fun j => if j = 0 then own_by (p0 &&& (255 : Int32)) else (0 : Int32)) (own_mk (p1 &&& (255 : Int32)) (y2 &&& (255 : Int32))) i0 1 B48 G48 VB VM rfl hi1 (by decide)) e53 (g := (mkF m 197 #[.val (.int p0), .val (.int p1), .val (.int p2), .val (.int p3), .val (.int (1 : Int32)), .val (.int (p0 &&& (255 : Int32))), .val (.int (x1 &&& (255 : Int32))), .val (.int (x2 &&& (255 : Int32))), .val (.int (p1 &&& (255 : Int32))), .val (.int (y2 &&& (255 : Int32))), .val (.int (Int32.ofNat i0)), .val (.ref bm), .val (.ref bb), .val (.int (0 : Int32))] [(.ref bm), (.int (Int32.ofNat i0)), (.ref bb)])) rfl (by rw [hml]; rfl) (a := bb) (argsL := [(.int (Int32.ofNat i0)), (.ref bm)]) (rest := []) (E_bb_48) (lenOf pd_3 rfl) rfl rfl (W := 0) (by show 2 * 0 + _ ≤ _; exact Nat.le_of_eq rfl) (hb hby at_197) (by decide) (by decide) (by decide) (by decide) (by decide)
          obtain ⟨rfl, rfl, e54⟩ := hQ54
          refine own_go st54 ?_
          have N54 := Fr.app N53 (Fr.nil _)
          show own_Ends _ _ _ _ _ _ _ T54 (mkF m 200 #[.val (.int p0), .val (.int p1), .val (.int p2), .val (.int p3), .val (.int (1 : Int32)), .val (.int (p0 &&& (255 : Int32))), .val (.int (x1 &&& (255 : Int32))), .val (.int (x2 &&& (255 : Int32))), .val (.int (p1 &&& (255 : Int32))), .val (.int (y2 &&& (255 : Int32))), .val (.int (Int32.ofNat i0)), .val (.ref bm), .val (.ref bb), .val (.int (0 : Int32))] [(.int (own_hol (own_mk (p1 &&& (255 : Int32)) (y2 &&& (255 : Int32))) (fun j => if j = 0 then own_by (p0 &&& (255 : Int32)) else (0 : Int32)) i0 (1 - i0)))])
          refine own_go (fun _ k => XS.iload X54.here hx rfl (hb hby at_200) rfl k) ?_
          show own_Ends _ _ _ _ _ _ _ T54 (mkF m 202 #[.val (.int p0), .val (.int p1), .val (.int p2), .val (.int p3), .val (.int (1 : Int32)), .val (.int (p0 &&& (255 : Int32))), .val (.int (x1 &&& (255 : Int32))), .val (.int (x2 &&& (255 : Int32))), .val (.int (p1 &&& (255 : Int32))), .val (.int (y2 &&& (255 : Int32))), .val (.int (Int32.ofNat i0)), .val (.ref bm), .val (.ref bb), .val (.int (0 : Int32))] [(.int (0 : Int32)), (.int (own_hol (own_mk (p1 &&& (255 : Int32)) (y2 &&& (255 : Int32))) (fun j => if j = 0 then own_by (p0 &&& (255 : Int32)) else (0 : Int32)) i0 (1 - i0)))])
          refine own_go (fun _ k => XS.icmpNo X54.here hx rfl (hb hby at_202) rfl (teq (own_fin1 p0 x1 x2 p1 y2 i0 hi1 0 (by rw [own_exp, if_pos t0, if_pos t1, if_pos t2]))).2 k) ?_
          show own_Ends _ _ _ _ _ _ _ T54 (mkF m 205 #[.val (.int p0), .val (.int p1), .val (.int p2), .val (.int p3), .val (.int (1 : Int32)), .val (.int (p0 &&& (255 : Int32))), .val (.int (x1 &&& (255 : Int32))), .val (.int (x2 &&& (255 : Int32))), .val (.int (p1 &&& (255 : Int32))), .val (.int (y2 &&& (255 : Int32))), .val (.int (Int32.ofNat i0)), .val (.ref bm), .val (.ref bb), .val (.int (0 : Int32))] [])
          refine own_go (fun _ k => XS.iconst X54.here hx rfl (hb hby at_205) k) ?_
          show own_Ends _ _ _ _ _ _ _ T54 (mkF m 206 #[.val (.int p0), .val (.int p1), .val (.int p2), .val (.int p3), .val (.int (1 : Int32)), .val (.int (p0 &&& (255 : Int32))), .val (.int (x1 &&& (255 : Int32))), .val (.int (x2 &&& (255 : Int32))), .val (.int (p1 &&& (255 : Int32))), .val (.int (y2 &&& (255 : Int32))), .val (.int (Int32.ofNat i0)), .val (.ref bm), .val (.ref bb), .val (.int (0 : Int32))] [(.int (1 : Int32))])
          refine own_go (fun _ k => XS.goto X54.here hx rfl (pc0 := 206) (pc' := 210) rfl (hb hby at_206) (by decide) (by decide) k) ?_
          show own_Ends _ _ _ _ _ _ _ T54 (mkF m 210 #[.val (.int p0), .val (.int p1), .val (.int p2), .val (.int p3), .val (.int (1 : Int32)), .val (.int (p0 &&& (255 : Int32))), .val (.int (x1 &&& (255 : Int32))), .val (.int (x2 &&& (255 : Int32))), .val (.int (p1 &&& (255 : Int32))), .val (.int (y2 &&& (255 : Int32))), .val (.int (Int32.ofNat i0)), .val (.ref bm), .val (.ref bb), .val (.int (0 : Int32))] [(.int (1 : Int32))])
          exact own_retZ X54 hx hlk hret (by decide) (hb hby at_210) (by decide) (by decide) ⟨rfl, N54⟩
        · refine own_go (fun _ k => XS.ifNo X53.here hx rfl (hb hby at_181) rfl ((if0 _ _).trans (feq t2).1) k) ?_
          show own_Ends _ _ _ _ _ _ _ T53 (mkF m 184 #[.val (.int p0), .val (.int p1), .val (.int p2), .val (.int p3), .val (.int (1 : Int32)), .val (.int (p0 &&& (255 : Int32))), .val (.int (x1 &&& (255 : Int32))), .val (.int (x2 &&& (255 : Int32))), .val (.int (p1 &&& (255 : Int32))), .val (.int (y2 &&& (255 : Int32))), .val (.int (Int32.ofNat i0)), .val (.ref bm), .val (.ref bb), .unset] [])
          refine own_go (fun _ k => XS.iconst X53.here hx rfl (hb hby at_184) k) ?_
          show own_Ends _ _ _ _ _ _ _ T53 (mkF m 185 #[.val (.int p0), .val (.int p1), .val (.int p2), .val (.int p3), .val (.int (1 : Int32)), .val (.int (p0 &&& (255 : Int32))), .val (.int (x1 &&& (255 : Int32))), .val (.int (x2 &&& (255 : Int32))), .val (.int (p1 &&& (255 : Int32))), .val (.int (y2 &&& (255 : Int32))), .val (.int (Int32.ofNat i0)), .val (.ref bm), .val (.ref bb), .unset] [(.int (1 : Int32))])
          refine own_go (fun _ k => XS.goto X53.here hx rfl (pc0 := 185) (pc' := 189) rfl (hb hby at_185) (by decide) (by decide) k) ?_
          show own_Ends _ _ _ _ _ _ _ T53 (mkF m 189 #[.val (.int p0), .val (.int p1), .val (.int p2), .val (.int p3), .val (.int (1 : Int32)), .val (.int (p0 &&& (255 : Int32))), .val (.int (x1 &&& (255 : Int32))), .val (.int (x2 &&& (255 : Int32))), .val (.int (p1 &&& (255 : Int32))), .val (.int (y2 &&& (255 : Int32))), .val (.int (Int32.ofNat i0)), .val (.ref bm), .val (.ref bb), .unset] [(.int (1 : Int32))])
          refine own_go (fun _ k => XS.istore X53.here hx rfl (hb hby at_189) rfl (l' := #[.val (.int p0), .val (.int p1), .val (.int p2), .val (.int p3), .val (.int (1 : Int32)), .val (.int (p0 &&& (255 : Int32))), .val (.int (x1 &&& (255 : Int32))), .val (.int (x2 &&& (255 : Int32))), .val (.int (p1 &&& (255 : Int32))), .val (.int (y2 &&& (255 : Int32))), .val (.int (Int32.ofNat i0)), .val (.ref bm), .val (.ref bb), .val (.int (1 : Int32))]) rfl k) ?_
          show own_Ends _ _ _ _ _ _ _ T53 (mkF m 191 #[.val (.int p0), .val (.int p1), .val (.int p2), .val (.int p3), .val (.int (1 : Int32)), .val (.int (p0 &&& (255 : Int32))), .val (.int (x1 &&& (255 : Int32))), .val (.int (x2 &&& (255 : Int32))), .val (.int (p1 &&& (255 : Int32))), .val (.int (y2 &&& (255 : Int32))), .val (.int (Int32.ofNat i0)), .val (.ref bm), .val (.ref bb), .val (.int (1 : Int32))] [])
          refine own_go (fun _ k => XS.aload X53.here hx rfl (hb hby at_191) rfl rfl k) ?_
          show own_Ends _ _ _ _ _ _ _ T53 (mkF m 193 #[.val (.int p0), .val (.int p1), .val (.int p2), .val (.int p3), .val (.int (1 : Int32)), .val (.int (p0 &&& (255 : Int32))), .val (.int (x1 &&& (255 : Int32))), .val (.int (x2 &&& (255 : Int32))), .val (.int (p1 &&& (255 : Int32))), .val (.int (y2 &&& (255 : Int32))), .val (.int (Int32.ofNat i0)), .val (.ref bm), .val (.ref bb), .val (.int (1 : Int32))] [(.ref bb)])
          refine own_go (fun _ k => XS.iload X53.here hx rfl (hb hby at_193) rfl k) ?_
          show own_Ends _ _ _ _ _ _ _ T53 (mkF m 195 #[.val (.int p0), .val (.int p1), .val (.int p2), .val (.int p3), .val (.int (1 : Int32)), .val (.int (p0 &&& (255 : Int32))), .val (.int (x1 &&& (255 : Int32))), .val (.int (x2 &&& (255 : Int32))), .val (.int (p1 &&& (255 : Int32))), .val (.int (y2 &&& (255 : Int32))), .val (.int (Int32.ofNat i0)), .val (.ref bm), .val (.ref bb), .val (.int (1 : Int32))] [(.int (Int32.ofNat i0)), (.ref bb)])
          refine own_go (fun _ k => XS.aload X53.here hx rfl (hb hby at_195) rfl rfl k) ?_
          show own_Ends _ _ _ _ _ _ _ T53 (mkF m 197 #[.val (.int p0), .val (.int p1), .val (.int p2), .val (.int p3), .val (.int (1 : Int32)), .val (.int (p0 &&& (255 : Int32))), .val (.int (x1 &&& (255 : Int32))), .val (.int (x2 &&& (255 : Int32))), .val (.int (p1 &&& (255 : Int32))), .val (.int (y2 &&& (255 : Int32))), .val (.int (Int32.ofNat i0)), .val (.ref bm), .val (.ref bb), .val (.int (1 : Int32))] [(.ref bm), (.int (Int32.ofNat i0)), (.ref bb)])
          obtain ⟨v55, T55, L55, X55, hQ55, st55⟩ := own_callV X53 hx hZ hown (hw _ (List.mem_of_getElem? (i := 32) rfl)) (hw _ (List.mem_of_getElem? (i := 33) rfl)) (hw _ (List.mem_of_getElem? (i := 35) rfl)) (hw _ (List.mem_of_getElem? (i := 34) rfl)) (hw _ (List.mem_of_getElem? (i := 4) rfl)) (hw _ (List.mem_of_getElem? (i := 36) rfl)) (rm7 l Z a0 hw bb (Int32.ofNat i0) bm T48.heap ba kb k43 (fun j => if j = 0 then own_by (p0 &&& (255 : Int32)) else (0 : Int32)) (own_mk (p1 &&& (255 : Int32)) (y2 &&& (255 : Int32))) i0 1 B48 G48 VB VM rfl hi1 (by decide)) e53 (g := (mkF m 197 #[.val (.int p0), .val (.int p1), .val (.int p2), .val (.int p3), .val (.int (1 : Int32)), .val (.int (p0 &&& (255 : Int32))), .val (.int (x1 &&& (255 : Int32))), .val (.int (x2 &&& (255 : Int32))), .val (.int (p1 &&& (255 : Int32))), .val (.int (y2 &&& (255 : Int32))), .val (.int (Int32.ofNat i0)), .val (.ref bm), .val (.ref bb), .val (.int (1 : Int32))] [(.ref bm), (.int (Int32.ofNat i0)), (.ref bb)])) rfl (by rw [hml]; rfl) (a := bb) (argsL := [(.int (Int32.ofNat i0)), (.ref bm)]) (rest := []) (E_bb_48) (lenOf pd_3 rfl) rfl rfl (W := 0) (by show 2 * 0 + _ ≤ _; exact Nat.le_of_eq rfl) (hb hby at_197) (by decide) (by decide) (by decide) (by decide) (by decide)
          obtain ⟨rfl, rfl, e55⟩ := hQ55
          refine own_go st55 ?_
          have N55 := Fr.app N53 (Fr.nil _)
          show own_Ends _ _ _ _ _ _ _ T55 (mkF m 200 #[.val (.int p0), .val (.int p1), .val (.int p2), .val (.int p3), .val (.int (1 : Int32)), .val (.int (p0 &&& (255 : Int32))), .val (.int (x1 &&& (255 : Int32))), .val (.int (x2 &&& (255 : Int32))), .val (.int (p1 &&& (255 : Int32))), .val (.int (y2 &&& (255 : Int32))), .val (.int (Int32.ofNat i0)), .val (.ref bm), .val (.ref bb), .val (.int (1 : Int32))] [(.int (own_hol (own_mk (p1 &&& (255 : Int32)) (y2 &&& (255 : Int32))) (fun j => if j = 0 then own_by (p0 &&& (255 : Int32)) else (0 : Int32)) i0 (1 - i0)))])
          refine own_go (fun _ k => XS.iload X55.here hx rfl (hb hby at_200) rfl k) ?_
          show own_Ends _ _ _ _ _ _ _ T55 (mkF m 202 #[.val (.int p0), .val (.int p1), .val (.int p2), .val (.int p3), .val (.int (1 : Int32)), .val (.int (p0 &&& (255 : Int32))), .val (.int (x1 &&& (255 : Int32))), .val (.int (x2 &&& (255 : Int32))), .val (.int (p1 &&& (255 : Int32))), .val (.int (y2 &&& (255 : Int32))), .val (.int (Int32.ofNat i0)), .val (.ref bm), .val (.ref bb), .val (.int (1 : Int32))] [(.int (1 : Int32)), (.int (own_hol (own_mk (p1 &&& (255 : Int32)) (y2 &&& (255 : Int32))) (fun j => if j = 0 then own_by (p0 &&& (255 : Int32)) else (0 : Int32)) i0 (1 - i0)))])
          refine own_go (fun _ k => XS.icmpNo X55.here hx rfl (hb hby at_202) rfl (teq (own_fin1 p0 x1 x2 p1 y2 i0 hi1 1 (by rw [own_exp, if_pos t0, if_pos t1, if_neg t2]))).2 k) ?_
          show own_Ends _ _ _ _ _ _ _ T55 (mkF m 205 #[.val (.int p0), .val (.int p1), .val (.int p2), .val (.int p3), .val (.int (1 : Int32)), .val (.int (p0 &&& (255 : Int32))), .val (.int (x1 &&& (255 : Int32))), .val (.int (x2 &&& (255 : Int32))), .val (.int (p1 &&& (255 : Int32))), .val (.int (y2 &&& (255 : Int32))), .val (.int (Int32.ofNat i0)), .val (.ref bm), .val (.ref bb), .val (.int (1 : Int32))] [])
          refine own_go (fun _ k => XS.iconst X55.here hx rfl (hb hby at_205) k) ?_
          show own_Ends _ _ _ _ _ _ _ T55 (mkF m 206 #[.val (.int p0), .val (.int p1), .val (.int p2), .val (.int p3), .val (.int (1 : Int32)), .val (.int (p0 &&& (255 : Int32))), .val (.int (x1 &&& (255 : Int32))), .val (.int (x2 &&& (255 : Int32))), .val (.int (p1 &&& (255 : Int32))), .val (.int (y2 &&& (255 : Int32))), .val (.int (Int32.ofNat i0)), .val (.ref bm), .val (.ref bb), .val (.int (1 : Int32))] [(.int (1 : Int32))])
          refine own_go (fun _ k => XS.goto X55.here hx rfl (pc0 := 206) (pc' := 210) rfl (hb hby at_206) (by decide) (by decide) k) ?_
          show own_Ends _ _ _ _ _ _ _ T55 (mkF m 210 #[.val (.int p0), .val (.int p1), .val (.int p2), .val (.int p3), .val (.int (1 : Int32)), .val (.int (p0 &&& (255 : Int32))), .val (.int (x1 &&& (255 : Int32))), .val (.int (x2 &&& (255 : Int32))), .val (.int (p1 &&& (255 : Int32))), .val (.int (y2 &&& (255 : Int32))), .val (.int (Int32.ofNat i0)), .val (.ref bm), .val (.ref bb), .val (.int (1 : Int32))] [(.int (1 : Int32))])
          exact own_retZ X55 hx hlk hret (by decide) (hb hby at_210) (by decide) (by decide) ⟨rfl, N55⟩
      · refine own_go (fun _ k => XS.ifYes X51.here hx rfl (pc0 := 164) (pc' := 184) rfl (hb hby at_164) rfl ((if0 _ _).trans (feq t1).2) (by decide) (by decide) k) ?_
        show own_Ends _ _ _ _ _ _ _ T51 (mkF m 184 #[.val (.int p0), .val (.int p1), .val (.int p2), .val (.int p3), .val (.int (1 : Int32)), .val (.int (p0 &&& (255 : Int32))), .val (.int (x1 &&& (255 : Int32))), .val (.int (x2 &&& (255 : Int32))), .val (.int (p1 &&& (255 : Int32))), .val (.int (y2 &&& (255 : Int32))), .val (.int (Int32.ofNat i0)), .val (.ref bm), .val (.ref bb), .unset] [])
        refine own_go (fun _ k => XS.iconst X51.here hx rfl (hb hby at_184) k) ?_
        show own_Ends _ _ _ _ _ _ _ T51 (mkF m 185 #[.val (.int p0), .val (.int p1), .val (.int p2), .val (.int p3), .val (.int (1 : Int32)), .val (.int (p0 &&& (255 : Int32))), .val (.int (x1 &&& (255 : Int32))), .val (.int (x2 &&& (255 : Int32))), .val (.int (p1 &&& (255 : Int32))), .val (.int (y2 &&& (255 : Int32))), .val (.int (Int32.ofNat i0)), .val (.ref bm), .val (.ref bb), .unset] [(.int (1 : Int32))])
        refine own_go (fun _ k => XS.goto X51.here hx rfl (pc0 := 185) (pc' := 189) rfl (hb hby at_185) (by decide) (by decide) k) ?_
        show own_Ends _ _ _ _ _ _ _ T51 (mkF m 189 #[.val (.int p0), .val (.int p1), .val (.int p2), .val (.int p3), .val (.int (1 : Int32)), .val (.int (p0 &&& (255 : Int32))), .val (.int (x1 &&& (255 : Int32))), .val (.int (x2 &&& (255 : Int32))), .val (.int (p1 &&& (255 : Int32))), .val (.int (y2 &&& (255 : Int32))), .val (.int (Int32.ofNat i0)), .val (.ref bm), .val (.ref bb), .unset] [(.int (1 : Int32))])
        refine own_go (fun _ k => XS.istore X51.here hx rfl (hb hby at_189) rfl (l' := #[.val (.int p0), .val (.int p1), .val (.int p2), .val (.int p3), .val (.int (1 : Int32)), .val (.int (p0 &&& (255 : Int32))), .val (.int (x1 &&& (255 : Int32))), .val (.int (x2 &&& (255 : Int32))), .val (.int (p1 &&& (255 : Int32))), .val (.int (y2 &&& (255 : Int32))), .val (.int (Int32.ofNat i0)), .val (.ref bm), .val (.ref bb), .val (.int (1 : Int32))]) rfl k) ?_
        show own_Ends _ _ _ _ _ _ _ T51 (mkF m 191 #[.val (.int p0), .val (.int p1), .val (.int p2), .val (.int p3), .val (.int (1 : Int32)), .val (.int (p0 &&& (255 : Int32))), .val (.int (x1 &&& (255 : Int32))), .val (.int (x2 &&& (255 : Int32))), .val (.int (p1 &&& (255 : Int32))), .val (.int (y2 &&& (255 : Int32))), .val (.int (Int32.ofNat i0)), .val (.ref bm), .val (.ref bb), .val (.int (1 : Int32))] [])
        refine own_go (fun _ k => XS.aload X51.here hx rfl (hb hby at_191) rfl rfl k) ?_
        show own_Ends _ _ _ _ _ _ _ T51 (mkF m 193 #[.val (.int p0), .val (.int p1), .val (.int p2), .val (.int p3), .val (.int (1 : Int32)), .val (.int (p0 &&& (255 : Int32))), .val (.int (x1 &&& (255 : Int32))), .val (.int (x2 &&& (255 : Int32))), .val (.int (p1 &&& (255 : Int32))), .val (.int (y2 &&& (255 : Int32))), .val (.int (Int32.ofNat i0)), .val (.ref bm), .val (.ref bb), .val (.int (1 : Int32))] [(.ref bb)])
        refine own_go (fun _ k => XS.iload X51.here hx rfl (hb hby at_193) rfl k) ?_
        show own_Ends _ _ _ _ _ _ _ T51 (mkF m 195 #[.val (.int p0), .val (.int p1), .val (.int p2), .val (.int p3), .val (.int (1 : Int32)), .val (.int (p0 &&& (255 : Int32))), .val (.int (x1 &&& (255 : Int32))), .val (.int (x2 &&& (255 : Int32))), .val (.int (p1 &&& (255 : Int32))), .val (.int (y2 &&& (255 : Int32))), .val (.int (Int32.ofNat i0)), .val (.ref bm), .val (.ref bb), .val (.int (1 : Int32))] [(.int (Int32.ofNat i0)), (.ref bb)])
        refine own_go (fun _ k => XS.aload X51.here hx rfl (hb hby at_195) rfl rfl k) ?_
        show own_Ends _ _ _ _ _ _ _ T51 (mkF m 197 #[.val (.int p0), .val (.int p1), .val (.int p2), .val (.int p3), .val (.int (1 : Int32)), .val (.int (p0 &&& (255 : Int32))), .val (.int (x1 &&& (255 : Int32))), .val (.int (x2 &&& (255 : Int32))), .val (.int (p1 &&& (255 : Int32))), .val (.int (y2 &&& (255 : Int32))), .val (.int (Int32.ofNat i0)), .val (.ref bm), .val (.ref bb), .val (.int (1 : Int32))] [(.ref bm), (.int (Int32.ofNat i0)), (.ref bb)])
        obtain ⟨v52, T52, L52, X52, hQ52, st52⟩ := own_callV X51 hx hZ hown (hw _ (List.mem_of_getElem? (i := 32) rfl)) (hw _ (List.mem_of_getElem? (i := 33) rfl)) (hw _ (List.mem_of_getElem? (i := 35) rfl)) (hw _ (List.mem_of_getElem? (i := 34) rfl)) (hw _ (List.mem_of_getElem? (i := 4) rfl)) (hw _ (List.mem_of_getElem? (i := 36) rfl)) (rm7 l Z a0 hw bb (Int32.ofNat i0) bm T48.heap ba kb k43 (fun j => if j = 0 then own_by (p0 &&& (255 : Int32)) else (0 : Int32)) (own_mk (p1 &&& (255 : Int32)) (y2 &&& (255 : Int32))) i0 1 B48 G48 VB VM rfl hi1 (by decide)) e51 (g := (mkF m 197 #[.val (.int p0), .val (.int p1), .val (.int p2), .val (.int p3), .val (.int (1 : Int32)), .val (.int (p0 &&& (255 : Int32))), .val (.int (x1 &&& (255 : Int32))), .val (.int (x2 &&& (255 : Int32))), .val (.int (p1 &&& (255 : Int32))), .val (.int (y2 &&& (255 : Int32))), .val (.int (Int32.ofNat i0)), .val (.ref bm), .val (.ref bb), .val (.int (1 : Int32))] [(.ref bm), (.int (Int32.ofNat i0)), (.ref bb)])) rfl (by rw [hml]; rfl) (a := bb) (argsL := [(.int (Int32.ofNat i0)), (.ref bm)]) (rest := []) (E_bb_48) (lenOf pd_3 rfl) rfl rfl (W := 0) (by show 2 * 0 + _ ≤ _; exact Nat.le_of_eq rfl) (hb hby at_197) (by decide) (by decide) (by decide) (by decide) (by decide)
        obtain ⟨rfl, rfl, e52⟩ := hQ52
        refine own_go st52 ?_
        have N52 := Fr.app N51 (Fr.nil _)
        show own_Ends _ _ _ _ _ _ _ T52 (mkF m 200 #[.val (.int p0), .val (.int p1), .val (.int p2), .val (.int p3), .val (.int (1 : Int32)), .val (.int (p0 &&& (255 : Int32))), .val (.int (x1 &&& (255 : Int32))), .val (.int (x2 &&& (255 : Int32))), .val (.int (p1 &&& (255 : Int32))), .val (.int (y2 &&& (255 : Int32))), .val (.int (Int32.ofNat i0)), .val (.ref bm), .val (.ref bb), .val (.int (1 : Int32))] [(.int (own_hol (own_mk (p1 &&& (255 : Int32)) (y2 &&& (255 : Int32))) (fun j => if j = 0 then own_by (p0 &&& (255 : Int32)) else (0 : Int32)) i0 (1 - i0)))])
        refine own_go (fun _ k => XS.iload X52.here hx rfl (hb hby at_200) rfl k) ?_
        show own_Ends _ _ _ _ _ _ _ T52 (mkF m 202 #[.val (.int p0), .val (.int p1), .val (.int p2), .val (.int p3), .val (.int (1 : Int32)), .val (.int (p0 &&& (255 : Int32))), .val (.int (x1 &&& (255 : Int32))), .val (.int (x2 &&& (255 : Int32))), .val (.int (p1 &&& (255 : Int32))), .val (.int (y2 &&& (255 : Int32))), .val (.int (Int32.ofNat i0)), .val (.ref bm), .val (.ref bb), .val (.int (1 : Int32))] [(.int (1 : Int32)), (.int (own_hol (own_mk (p1 &&& (255 : Int32)) (y2 &&& (255 : Int32))) (fun j => if j = 0 then own_by (p0 &&& (255 : Int32)) else (0 : Int32)) i0 (1 - i0)))])
        refine own_go (fun _ k => XS.icmpNo X52.here hx rfl (hb hby at_202) rfl (teq (own_fin1 p0 x1 x2 p1 y2 i0 hi1 1 (by rw [own_exp, if_pos t0, if_neg t1]))).2 k) ?_
        show own_Ends _ _ _ _ _ _ _ T52 (mkF m 205 #[.val (.int p0), .val (.int p1), .val (.int p2), .val (.int p3), .val (.int (1 : Int32)), .val (.int (p0 &&& (255 : Int32))), .val (.int (x1 &&& (255 : Int32))), .val (.int (x2 &&& (255 : Int32))), .val (.int (p1 &&& (255 : Int32))), .val (.int (y2 &&& (255 : Int32))), .val (.int (Int32.ofNat i0)), .val (.ref bm), .val (.ref bb), .val (.int (1 : Int32))] [])
        refine own_go (fun _ k => XS.iconst X52.here hx rfl (hb hby at_205) k) ?_
        show own_Ends _ _ _ _ _ _ _ T52 (mkF m 206 #[.val (.int p0), .val (.int p1), .val (.int p2), .val (.int p3), .val (.int (1 : Int32)), .val (.int (p0 &&& (255 : Int32))), .val (.int (x1 &&& (255 : Int32))), .val (.int (x2 &&& (255 : Int32))), .val (.int (p1 &&& (255 : Int32))), .val (.int (y2 &&& (255 : Int32))), .val (.int (Int32.ofNat i0)), .val (.ref bm), .val (.ref bb), .val (.int (1 : Int32))] [(.int (1 : Int32))])
        refine own_go (fun _ k => XS.goto X52.here hx rfl (pc0 := 206) (pc' := 210) rfl (hb hby at_206) (by decide) (by decide) k) ?_
        show own_Ends _ _ _ _ _ _ _ T52 (mkF m 210 #[.val (.int p0), .val (.int p1), .val (.int p2), .val (.int p3), .val (.int (1 : Int32)), .val (.int (p0 &&& (255 : Int32))), .val (.int (x1 &&& (255 : Int32))), .val (.int (x2 &&& (255 : Int32))), .val (.int (p1 &&& (255 : Int32))), .val (.int (y2 &&& (255 : Int32))), .val (.int (Int32.ofNat i0)), .val (.ref bm), .val (.ref bb), .val (.int (1 : Int32))] [(.int (1 : Int32))])
        exact own_retZ X52 hx hlk hret (by decide) (hb hby at_210) (by decide) (by decide) ⟨rfl, N52⟩
    · refine own_go (fun _ k => XS.ifYes X49.here hx rfl (pc0 := 147) (pc' := 184) rfl (hb hby at_147) rfl ((if0 _ _).trans (feq t0).2) (by decide) (by decide) k) ?_
      show own_Ends _ _ _ _ _ _ _ T49 (mkF m 184 #[.val (.int p0), .val (.int p1), .val (.int p2), .val (.int p3), .val (.int (1 : Int32)), .val (.int (p0 &&& (255 : Int32))), .val (.int (x1 &&& (255 : Int32))), .val (.int (x2 &&& (255 : Int32))), .val (.int (p1 &&& (255 : Int32))), .val (.int (y2 &&& (255 : Int32))), .val (.int (Int32.ofNat i0)), .val (.ref bm), .val (.ref bb), .unset] [])
      refine own_go (fun _ k => XS.iconst X49.here hx rfl (hb hby at_184) k) ?_
      show own_Ends _ _ _ _ _ _ _ T49 (mkF m 185 #[.val (.int p0), .val (.int p1), .val (.int p2), .val (.int p3), .val (.int (1 : Int32)), .val (.int (p0 &&& (255 : Int32))), .val (.int (x1 &&& (255 : Int32))), .val (.int (x2 &&& (255 : Int32))), .val (.int (p1 &&& (255 : Int32))), .val (.int (y2 &&& (255 : Int32))), .val (.int (Int32.ofNat i0)), .val (.ref bm), .val (.ref bb), .unset] [(.int (1 : Int32))])
      refine own_go (fun _ k => XS.goto X49.here hx rfl (pc0 := 185) (pc' := 189) rfl (hb hby at_185) (by decide) (by decide) k) ?_
      show own_Ends _ _ _ _ _ _ _ T49 (mkF m 189 #[.val (.int p0), .val (.int p1), .val (.int p2), .val (.int p3), .val (.int (1 : Int32)), .val (.int (p0 &&& (255 : Int32))), .val (.int (x1 &&& (255 : Int32))), .val (.int (x2 &&& (255 : Int32))), .val (.int (p1 &&& (255 : Int32))), .val (.int (y2 &&& (255 : Int32))), .val (.int (Int32.ofNat i0)), .val (.ref bm), .val (.ref bb), .unset] [(.int (1 : Int32))])
      refine own_go (fun _ k => XS.istore X49.here hx rfl (hb hby at_189) rfl (l' := #[.val (.int p0), .val (.int p1), .val (.int p2), .val (.int p3), .val (.int (1 : Int32)), .val (.int (p0 &&& (255 : Int32))), .val (.int (x1 &&& (255 : Int32))), .val (.int (x2 &&& (255 : Int32))), .val (.int (p1 &&& (255 : Int32))), .val (.int (y2 &&& (255 : Int32))), .val (.int (Int32.ofNat i0)), .val (.ref bm), .val (.ref bb), .val (.int (1 : Int32))]) rfl k) ?_
      show own_Ends _ _ _ _ _ _ _ T49 (mkF m 191 #[.val (.int p0), .val (.int p1), .val (.int p2), .val (.int p3), .val (.int (1 : Int32)), .val (.int (p0 &&& (255 : Int32))), .val (.int (x1 &&& (255 : Int32))), .val (.int (x2 &&& (255 : Int32))), .val (.int (p1 &&& (255 : Int32))), .val (.int (y2 &&& (255 : Int32))), .val (.int (Int32.ofNat i0)), .val (.ref bm), .val (.ref bb), .val (.int (1 : Int32))] [])
      refine own_go (fun _ k => XS.aload X49.here hx rfl (hb hby at_191) rfl rfl k) ?_
      show own_Ends _ _ _ _ _ _ _ T49 (mkF m 193 #[.val (.int p0), .val (.int p1), .val (.int p2), .val (.int p3), .val (.int (1 : Int32)), .val (.int (p0 &&& (255 : Int32))), .val (.int (x1 &&& (255 : Int32))), .val (.int (x2 &&& (255 : Int32))), .val (.int (p1 &&& (255 : Int32))), .val (.int (y2 &&& (255 : Int32))), .val (.int (Int32.ofNat i0)), .val (.ref bm), .val (.ref bb), .val (.int (1 : Int32))] [(.ref bb)])
      refine own_go (fun _ k => XS.iload X49.here hx rfl (hb hby at_193) rfl k) ?_
      show own_Ends _ _ _ _ _ _ _ T49 (mkF m 195 #[.val (.int p0), .val (.int p1), .val (.int p2), .val (.int p3), .val (.int (1 : Int32)), .val (.int (p0 &&& (255 : Int32))), .val (.int (x1 &&& (255 : Int32))), .val (.int (x2 &&& (255 : Int32))), .val (.int (p1 &&& (255 : Int32))), .val (.int (y2 &&& (255 : Int32))), .val (.int (Int32.ofNat i0)), .val (.ref bm), .val (.ref bb), .val (.int (1 : Int32))] [(.int (Int32.ofNat i0)), (.ref bb)])
      refine own_go (fun _ k => XS.aload X49.here hx rfl (hb hby at_195) rfl rfl k) ?_
      show own_Ends _ _ _ _ _ _ _ T49 (mkF m 197 #[.val (.int p0), .val (.int p1), .val (.int p2), .val (.int p3), .val (.int (1 : Int32)), .val (.int (p0 &&& (255 : Int32))), .val (.int (x1 &&& (255 : Int32))), .val (.int (x2 &&& (255 : Int32))), .val (.int (p1 &&& (255 : Int32))), .val (.int (y2 &&& (255 : Int32))), .val (.int (Int32.ofNat i0)), .val (.ref bm), .val (.ref bb), .val (.int (1 : Int32))] [(.ref bm), (.int (Int32.ofNat i0)), (.ref bb)])
      obtain ⟨v50, T50, L50, X50, hQ50, st50⟩ := own_callV X49 hx hZ hown (hw _ (List.mem_of_getElem? (i := 32) rfl)) (hw _ (List.mem_of_getElem? (i := 33) rfl)) (hw _ (List.mem_of_getElem? (i := 35) rfl)) (hw _ (List.mem_of_getElem? (i := 34) rfl)) (hw _ (List.mem_of_getElem? (i := 4) rfl)) (hw _ (List.mem_of_getElem? (i := 36) rfl)) (rm7 l Z a0 hw bb (Int32.ofNat i0) bm T48.heap ba kb k43 (fun j => if j = 0 then own_by (p0 &&& (255 : Int32)) else (0 : Int32)) (own_mk (p1 &&& (255 : Int32)) (y2 &&& (255 : Int32))) i0 1 B48 G48 VB VM rfl hi1 (by decide)) e49 (g := (mkF m 197 #[.val (.int p0), .val (.int p1), .val (.int p2), .val (.int p3), .val (.int (1 : Int32)), .val (.int (p0 &&& (255 : Int32))), .val (.int (x1 &&& (255 : Int32))), .val (.int (x2 &&& (255 : Int32))), .val (.int (p1 &&& (255 : Int32))), .val (.int (y2 &&& (255 : Int32))), .val (.int (Int32.ofNat i0)), .val (.ref bm), .val (.ref bb), .val (.int (1 : Int32))] [(.ref bm), (.int (Int32.ofNat i0)), (.ref bb)])) rfl (by rw [hml]; rfl) (a := bb) (argsL := [(.int (Int32.ofNat i0)), (.ref bm)]) (rest := []) (E_bb_48) (lenOf pd_3 rfl) rfl rfl (W := 0) (by show 2 * 0 + _ ≤ _; exact Nat.le_of_eq rfl) (hb hby at_197) (by decide) (by decide) (by decide) (by decide) (by decide)
      obtain ⟨rfl, rfl, e50⟩ := hQ50
      refine own_go st50 ?_
      have N50 := Fr.app N49 (Fr.nil _)
      show own_Ends _ _ _ _ _ _ _ T50 (mkF m 200 #[.val (.int p0), .val (.int p1), .val (.int p2), .val (.int p3), .val (.int (1 : Int32)), .val (.int (p0 &&& (255 : Int32))), .val (.int (x1 &&& (255 : Int32))), .val (.int (x2 &&& (255 : Int32))), .val (.int (p1 &&& (255 : Int32))), .val (.int (y2 &&& (255 : Int32))), .val (.int (Int32.ofNat i0)), .val (.ref bm), .val (.ref bb), .val (.int (1 : Int32))] [(.int (own_hol (own_mk (p1 &&& (255 : Int32)) (y2 &&& (255 : Int32))) (fun j => if j = 0 then own_by (p0 &&& (255 : Int32)) else (0 : Int32)) i0 (1 - i0)))])
      refine own_go (fun _ k => XS.iload X50.here hx rfl (hb hby at_200) rfl k) ?_
      show own_Ends _ _ _ _ _ _ _ T50 (mkF m 202 #[.val (.int p0), .val (.int p1), .val (.int p2), .val (.int p3), .val (.int (1 : Int32)), .val (.int (p0 &&& (255 : Int32))), .val (.int (x1 &&& (255 : Int32))), .val (.int (x2 &&& (255 : Int32))), .val (.int (p1 &&& (255 : Int32))), .val (.int (y2 &&& (255 : Int32))), .val (.int (Int32.ofNat i0)), .val (.ref bm), .val (.ref bb), .val (.int (1 : Int32))] [(.int (1 : Int32)), (.int (own_hol (own_mk (p1 &&& (255 : Int32)) (y2 &&& (255 : Int32))) (fun j => if j = 0 then own_by (p0 &&& (255 : Int32)) else (0 : Int32)) i0 (1 - i0)))])
      refine own_go (fun _ k => XS.icmpNo X50.here hx rfl (hb hby at_202) rfl (teq (own_fin1 p0 x1 x2 p1 y2 i0 hi1 1 (by rw [own_exp, if_neg t0]))).2 k) ?_
      show own_Ends _ _ _ _ _ _ _ T50 (mkF m 205 #[.val (.int p0), .val (.int p1), .val (.int p2), .val (.int p3), .val (.int (1 : Int32)), .val (.int (p0 &&& (255 : Int32))), .val (.int (x1 &&& (255 : Int32))), .val (.int (x2 &&& (255 : Int32))), .val (.int (p1 &&& (255 : Int32))), .val (.int (y2 &&& (255 : Int32))), .val (.int (Int32.ofNat i0)), .val (.ref bm), .val (.ref bb), .val (.int (1 : Int32))] [])
      refine own_go (fun _ k => XS.iconst X50.here hx rfl (hb hby at_205) k) ?_
      show own_Ends _ _ _ _ _ _ _ T50 (mkF m 206 #[.val (.int p0), .val (.int p1), .val (.int p2), .val (.int p3), .val (.int (1 : Int32)), .val (.int (p0 &&& (255 : Int32))), .val (.int (x1 &&& (255 : Int32))), .val (.int (x2 &&& (255 : Int32))), .val (.int (p1 &&& (255 : Int32))), .val (.int (y2 &&& (255 : Int32))), .val (.int (Int32.ofNat i0)), .val (.ref bm), .val (.ref bb), .val (.int (1 : Int32))] [(.int (1 : Int32))])
      refine own_go (fun _ k => XS.goto X50.here hx rfl (pc0 := 206) (pc' := 210) rfl (hb hby at_206) (by decide) (by decide) k) ?_
      show own_Ends _ _ _ _ _ _ _ T50 (mkF m 210 #[.val (.int p0), .val (.int p1), .val (.int p2), .val (.int p3), .val (.int (1 : Int32)), .val (.int (p0 &&& (255 : Int32))), .val (.int (x1 &&& (255 : Int32))), .val (.int (x2 &&& (255 : Int32))), .val (.int (p1 &&& (255 : Int32))), .val (.int (y2 &&& (255 : Int32))), .val (.int (Int32.ofNat i0)), .val (.ref bm), .val (.ref bb), .val (.int (1 : Int32))] [(.int (1 : Int32))])
      exact own_retZ X50 hx hlk hret (by decide) (hb hby at_210) (by decide) (by decide) ⟨rfl, N50⟩
  · rw [show (p2 &&& (3 : Int32)) = (2 : Int32) from hn]
    show own_Ends _ _ _ _ _ _ _ s₁ (mkF m 57 #[.val (.int p0), .val (.int p1), .val (.int p2), .val (.int p3), .val (.int (2 : Int32)), .val (.int (p0 &&& (255 : Int32))), .val (.int (x1 &&& (255 : Int32))), .val (.int (x2 &&& (255 : Int32))), .val (.int (p1 &&& (255 : Int32))), .val (.int (y2 &&& (255 : Int32))), .unset, .unset, .unset, .unset] [(.int ((2 : Int32) + (1 : Int32))), (.int (p3 &&& (2147483647 : Int32)))])
    refine own_go (fun _ k => iremM X0 hx rfl (hb hby at_57) rfl (by decide) k) ?_
    show own_Ends _ _ _ _ _ _ _ s₁ (mkF m 58 #[.val (.int p0), .val (.int p1), .val (.int p2), .val (.int p3), .val (.int (2 : Int32)), .val (.int (p0 &&& (255 : Int32))), .val (.int (x1 &&& (255 : Int32))), .val (.int (x2 &&& (255 : Int32))), .val (.int (p1 &&& (255 : Int32))), .val (.int (y2 &&& (255 : Int32))), .unset, .unset, .unset, .unset] [(.int ((p3 &&& (2147483647 : Int32)) % ((2 : Int32) + (1 : Int32))))])
    obtain ⟨i0, hi0, hfr⟩ := own_from p3 ((2 : Int32) + (1 : Int32)) (by decide)
    have hd1 : ((2 : Int32) + (1 : Int32)).toInt = 3 := by decide
    have hi1 : i0 ≤ 2 := by omega
    rw [show ((p3 &&& (2147483647 : Int32)) % ((2 : Int32) + (1 : Int32))) = (Int32.ofNat i0) from hfr]
    show own_Ends _ _ _ _ _ _ _ s₁ (mkF m 58 #[.val (.int p0), .val (.int p1), .val (.int p2), .val (.int p3), .val (.int (2 : Int32)), .val (.int (p0 &&& (255 : Int32))), .val (.int (x1 &&& (255 : Int32))), .val (.int (x2 &&& (255 : Int32))), .val (.int (p1 &&& (255 : Int32))), .val (.int (y2 &&& (255 : Int32))), .unset, .unset, .unset, .unset] [(.int (Int32.ofNat i0))])
    refine own_go (fun _ k => XS.istore X0.here hx rfl (hb hby at_58) rfl (l' := #[.val (.int p0), .val (.int p1), .val (.int p2), .val (.int p3), .val (.int (2 : Int32)), .val (.int (p0 &&& (255 : Int32))), .val (.int (x1 &&& (255 : Int32))), .val (.int (x2 &&& (255 : Int32))), .val (.int (p1 &&& (255 : Int32))), .val (.int (y2 &&& (255 : Int32))), .val (.int (Int32.ofNat i0)), .unset, .unset, .unset]) rfl k) ?_
    show own_Ends _ _ _ _ _ _ _ s₁ (mkF m 60 #[.val (.int p0), .val (.int p1), .val (.int p2), .val (.int p3), .val (.int (2 : Int32)), .val (.int (p0 &&& (255 : Int32))), .val (.int (x1 &&& (255 : Int32))), .val (.int (x2 &&& (255 : Int32))), .val (.int (p1 &&& (255 : Int32))), .val (.int (y2 &&& (255 : Int32))), .val (.int (Int32.ofNat i0)), .unset, .unset, .unset] [])
    refine own_go (fun _ k => XS.sipush X0.here hx rfl (hb hby at_60) k) ?_
    show own_Ends _ _ _ _ _ _ _ s₁ (mkF m 63 #[.val (.int p0), .val (.int p1), .val (.int p2), .val (.int p3), .val (.int (2 : Int32)), .val (.int (p0 &&& (255 : Int32))), .val (.int (x1 &&& (255 : Int32))), .val (.int (x2 &&& (255 : Int32))), .val (.int (p1 &&& (255 : Int32))), .val (.int (y2 &&& (255 : Int32))), .val (.int (Int32.ofNat i0)), .unset, .unset, .unset] [(.int (256 : Int32))])
    obtain ⟨T56, h56, k56, X56, e56, E56, A56, st56⟩ := own_newP X0 hx hZ (aty := .boolean) (hw _ (List.mem_of_getElem? (i := 1) rfl)) e0 (g := (mkF m 63 #[.val (.int p0), .val (.int p1), .val (.int p2), .val (.int p3), .val (.int (2 : Int32)), .val (.int (p0 &&& (255 : Int32))), .val (.int (x1 &&& (255 : Int32))), .val (.int (x2 &&& (255 : Int32))), .val (.int (p1 &&& (255 : Int32))), .val (.int (y2 &&& (255 : Int32))), .val (.int (Int32.ofNat i0)), .unset, .unset, .unset] [(.int (256 : Int32))])) rfl (hb hby at_63) rfl (by decide) (n := 256) (by decide) (cap := 256) (by decide) (by decide) (by decide) (by decide)
    obtain ⟨bm, gq56⟩ : ∃ z, z = h0.size := ⟨_, rfl⟩
    rw [← gq56] at A56 st56
    have sz_bm : h0.size ≤ bm := Nat.le_trans K0.1 (Nat.le_of_eq gq56.symm)
    have g_bm : h0.size ≤ bm := Nat.le_trans (Nat.le_refl _) sz_bm
    have K_56 := K0.ext E56
    have V_bm : own_Ar Z h56 bm k56 .boolean 256 (fun _ => (.int (0 : Int32))) := A56
    refine own_go st56 ?_
    show own_Ends _ _ _ _ _ _ _ T56 (mkF m 65 #[.val (.int p0), .val (.int p1), .val (.int p2), .val (.int p3), .val (.int (2 : Int32)), .val (.int (p0 &&& (255 : Int32))), .val (.int (x1 &&& (255 : Int32))), .val (.int (x2 &&& (255 : Int32))), .val (.int (p1 &&& (255 : Int32))), .val (.int (y2 &&& (255 : Int32))), .val (.int (Int32.ofNat i0)), .unset, .unset, .unset] [(.ref bm)])
    refine own_go (fun _ k => XS.astore X56.here hx rfl (hb hby at_65) rfl rfl (l' := #[.val (.int p0), .val (.int p1), .val (.int p2), .val (.int p3), .val (.int (2 : Int32)), .val (.int (p0 &&& (255 : Int32))), .val (.int (x1 &&& (255 : Int32))), .val (.int (x2 &&& (255 : Int32))), .val (.int (p1 &&& (255 : Int32))), .val (.int (y2 &&& (255 : Int32))), .val (.int (Int32.ofNat i0)), .val (.ref bm), .unset, .unset]) rfl k) ?_
    show own_Ends _ _ _ _ _ _ _ T56 (mkF m 67 #[.val (.int p0), .val (.int p1), .val (.int p2), .val (.int p3), .val (.int (2 : Int32)), .val (.int (p0 &&& (255 : Int32))), .val (.int (x1 &&& (255 : Int32))), .val (.int (x2 &&& (255 : Int32))), .val (.int (p1 &&& (255 : Int32))), .val (.int (y2 &&& (255 : Int32))), .val (.int (Int32.ofNat i0)), .val (.ref bm), .unset, .unset] [])
    refine own_go (fun _ k => XS.aload X56.here hx rfl (hb hby at_67) rfl rfl k) ?_
    show own_Ends _ _ _ _ _ _ _ T56 (mkF m 69 #[.val (.int p0), .val (.int p1), .val (.int p2), .val (.int p3), .val (.int (2 : Int32)), .val (.int (p0 &&& (255 : Int32))), .val (.int (x1 &&& (255 : Int32))), .val (.int (x2 &&& (255 : Int32))), .val (.int (p1 &&& (255 : Int32))), .val (.int (y2 &&& (255 : Int32))), .val (.int (Int32.ofNat i0)), .val (.ref bm), .unset, .unset] [(.ref bm)])
    refine own_go (fun _ k => XS.iload X56.here hx rfl (hb hby at_69) rfl k) ?_
    show own_Ends _ _ _ _ _ _ _ T56 (mkF m 71 #[.val (.int p0), .val (.int p1), .val (.int p2), .val (.int p3), .val (.int (2 : Int32)), .val (.int (p0 &&& (255 : Int32))), .val (.int (x1 &&& (255 : Int32))), .val (.int (x2 &&& (255 : Int32))), .val (.int (p1 &&& (255 : Int32))), .val (.int (y2 &&& (255 : Int32))), .val (.int (Int32.ofNat i0)), .val (.ref bm), .unset, .unset] [(.int (p1 &&& (255 : Int32))), (.ref bm)])
    refine own_go (fun _ k => XS.iconst X56.here hx rfl (hb hby at_71) k) ?_
    show own_Ends _ _ _ _ _ _ _ T56 (mkF m 72 #[.val (.int p0), .val (.int p1), .val (.int p2), .val (.int p3), .val (.int (2 : Int32)), .val (.int (p0 &&& (255 : Int32))), .val (.int (x1 &&& (255 : Int32))), .val (.int (x2 &&& (255 : Int32))), .val (.int (p1 &&& (255 : Int32))), .val (.int (y2 &&& (255 : Int32))), .val (.int (Int32.ofNat i0)), .val (.ref bm), .unset, .unset] [(.int (1 : Int32)), (.int (p1 &&& (255 : Int32))), (.ref bm)])
    obtain ⟨T57, h57, X57, e57, W57, V57, st57⟩ := own_stZ X56 hx hZ e56 V_bm (i := (p1 &&& (255 : Int32)).toNatClampNeg) (own_bn _) rfl (own_b256 _) (g := (mkF m 72 #[.val (.int p0), .val (.int p1), .val (.int p2), .val (.int p3), .val (.int (2 : Int32)), .val (.int (p0 &&& (255 : Int32))), .val (.int (x1 &&& (255 : Int32))), .val (.int (x2 &&& (255 : Int32))), .val (.int (p1 &&& (255 : Int32))), .val (.int (y2 &&& (255 : Int32))), .val (.int (Int32.ofNat i0)), .val (.ref bm), .unset, .unset] [(.int (1 : Int32)), (.int (p1 &&& (255 : Int32))), (.ref bm)])) rfl rfl (hb hby at_72)
    have N57 := Fr.snoc X57 N0 g_bm
    have K_57 := K_56.wr W57 (Or.inr sz_bm)
    refine own_go st57 ?_
    show own_Ends _ _ _ _ _ _ _ T57 (mkF m 73 #[.val (.int p0), .val (.int p1), .val (.int p2), .val (.int p3), .val (.int (2 : Int32)), .val (.int (p0 &&& (255 : Int32))), .val (.int (x1 &&& (255 : Int32))), .val (.int (x2 &&& (255 : Int32))), .val (.int (p1 &&& (255 : Int32))), .val (.int (y2 &&& (255 : Int32))), .val (.int (Int32.ofNat i0)), .val (.ref bm), .unset, .unset] [])
    refine own_go (fun _ k => XS.aload X57.here hx rfl (hb hby at_73) rfl rfl k) ?_
    show own_Ends _ _ _ _ _ _ _ T57 (mkF m 75 #[.val (.int p0), .val (.int p1), .val (.int p2), .val (.int p3), .val (.int (2 : Int32)), .val (.int (p0 &&& (255 : Int32))), .val (.int (x1 &&& (255 : Int32))), .val (.int (x2 &&& (255 : Int32))), .val (.int (p1 &&& (255 : Int32))), .val (.int (y2 &&& (255 : Int32))), .val (.int (Int32.ofNat i0)), .val (.ref bm), .unset, .unset] [(.ref bm)])
    refine own_go (fun _ k => XS.iload X57.here hx rfl (hb hby at_75) rfl k) ?_
    show own_Ends _ _ _ _ _ _ _ T57 (mkF m 77 #[.val (.int p0), .val (.int p1), .val (.int p2), .val (.int p3), .val (.int (2 : Int32)), .val (.int (p0 &&& (255 : Int32))), .val (.int (x1 &&& (255 : Int32))), .val (.int (x2 &&& (255 : Int32))), .val (.int (p1 &&& (255 : Int32))), .val (.int (y2 &&& (255 : Int32))), .val (.int (Int32.ofNat i0)), .val (.ref bm), .unset, .unset] [(.int (y2 &&& (255 : Int32))), (.ref bm)])
    refine own_go (fun _ k => XS.iconst X57.here hx rfl (hb hby at_77) k) ?_
    show own_Ends _ _ _ _ _ _ _ T57 (mkF m 78 #[.val (.int p0), .val (.int p1), .val (.int p2), .val (.int p3), .val (.int (2 : Int32)), .val (.int (p0 &&& (255 : Int32))), .val (.int (x1 &&& (255 : Int32))), .val (.int (x2 &&& (255 : Int32))), .val (.int (p1 &&& (255 : Int32))), .val (.int (y2 &&& (255 : Int32))), .val (.int (Int32.ofNat i0)), .val (.ref bm), .unset, .unset] [(.int (1 : Int32)), (.int (y2 &&& (255 : Int32))), (.ref bm)])
    obtain ⟨T58, h58, X58, e58, W58, V58, st58⟩ := own_stZ X57 hx hZ e57 V57 (i := (y2 &&& (255 : Int32)).toNatClampNeg) (own_bn _) rfl (own_b256 _) (g := (mkF m 78 #[.val (.int p0), .val (.int p1), .val (.int p2), .val (.int p3), .val (.int (2 : Int32)), .val (.int (p0 &&& (255 : Int32))), .val (.int (x1 &&& (255 : Int32))), .val (.int (x2 &&& (255 : Int32))), .val (.int (p1 &&& (255 : Int32))), .val (.int (y2 &&& (255 : Int32))), .val (.int (Int32.ofNat i0)), .val (.ref bm), .unset, .unset] [(.int (1 : Int32)), (.int (y2 &&& (255 : Int32))), (.ref bm)])) rfl rfl (hb hby at_78)
    have N58 := Fr.snoc X58 N57 g_bm
    have K_58 := K_57.wr W58 (Or.inr sz_bm)
    have Vf58 : own_Ar Z h58 bm k56 .boolean 256 (fun j => .int (own_mk (p1 &&& (255 : Int32)) (y2 &&& (255 : Int32)) j)) := V58.cong (fun i _ => by
      unfold own_mk
      show (if _ then _ else if _ then _ else _) = _
      split
      · rfl
      · split <;> rfl)
    refine own_go st58 ?_
    show own_Ends _ _ _ _ _ _ _ T58 (mkF m 79 #[.val (.int p0), .val (.int p1), .val (.int p2), .val (.int p3), .val (.int (2 : Int32)), .val (.int (p0 &&& (255 : Int32))), .val (.int (x1 &&& (255 : Int32))), .val (.int (x2 &&& (255 : Int32))), .val (.int (p1 &&& (255 : Int32))), .val (.int (y2 &&& (255 : Int32))), .val (.int (Int32.ofNat i0)), .val (.ref bm), .unset, .unset] [])
    obtain ⟨T59, h59, X59, e59, E59, A59, D59, -, st59⟩ := newO X58 hx hZ hown (hw _ (List.mem_of_getElem? (i := 2) rfl)) (hw _ (List.mem_of_getElem? (i := 3) rfl)) (hw _ (List.mem_of_getElem? (i := 4) rfl)) e58 (g := (mkF m 79 #[.val (.int p0), .val (.int p1), .val (.int p2), .val (.int p3), .val (.int (2 : Int32)), .val (.int (p0 &&& (255 : Int32))), .val (.int (x1 &&& (255 : Int32))), .val (.int (x2 &&& (255 : Int32))), .val (.int (p1 &&& (255 : Int32))), .val (.int (y2 &&& (255 : Int32))), .val (.int (Int32.ofNat i0)), .val (.ref bm), .unset, .unset] [])) rfl (hb hby at_79) (by decide) (by decide)
    obtain ⟨bb, gq59⟩ : ∃ z, z = h58.size := ⟨_, rfl⟩
    rw [← gq59] at A59 D59 st59
    have ne_bm_bb : bm ≠ bb := Nat.ne_of_lt (Nat.lt_of_lt_of_le Vf58.lt (Nat.le_of_eq gq59.symm))
    have sz_bb : h0.size ≤ bb := Nat.le_trans K_58.1 (Nat.le_of_eq gq59.symm)
    have g_bb : h0.size ≤ bb := Nat.le_trans (Nat.le_refl _) sz_bb
    have K_59 := K_58.ext E59
    have V_bm_59 := Vf58.ext E59
    have F_bytes_bb : Fld Z h59 bb "com/example/ledgerline/ledgerline/TextBuffer" "bytes" "[B" .null := D59 (Or.inl (hw _ (List.mem_of_getElem? (i := 13) rfl))) (ty := (.array .byte)) (by decide)
    have F_length_bb : Fld Z h59 bb "com/example/ledgerline/ledgerline/TextBuffer" "length" "I" (.int (0 : Int32)) := D59 (Or.inl (hw _ (List.mem_of_getElem? (i := 24) rfl))) (ty := .int) (by decide)
    refine own_go st59 ?_
    show own_Ends _ _ _ _ _ _ _ T59 (mkF m 82 #[.val (.int p0), .val (.int p1), .val (.int p2), .val (.int p3), .val (.int (2 : Int32)), .val (.int (p0 &&& (255 : Int32))), .val (.int (x1 &&& (255 : Int32))), .val (.int (x2 &&& (255 : Int32))), .val (.int (p1 &&& (255 : Int32))), .val (.int (y2 &&& (255 : Int32))), .val (.int (Int32.ofNat i0)), .val (.ref bm), .unset, .unset] [(.ref bb)])
    refine own_go (fun _ k => XS.dup X59.here hx rfl (hb hby at_82) rfl rfl k) ?_
    show own_Ends _ _ _ _ _ _ _ T59 (mkF m 83 #[.val (.int p0), .val (.int p1), .val (.int p2), .val (.int p3), .val (.int (2 : Int32)), .val (.int (p0 &&& (255 : Int32))), .val (.int (x1 &&& (255 : Int32))), .val (.int (x2 &&& (255 : Int32))), .val (.int (p1 &&& (255 : Int32))), .val (.int (y2 &&& (255 : Int32))), .val (.int (Int32.ofNat i0)), .val (.ref bm), .unset, .unset] [(.ref bb), (.ref bb)])
    refine own_go (fun _ k => XS.iconst X59.here hx rfl (hb hby at_83) k) ?_
    show own_Ends _ _ _ _ _ _ _ T59 (mkF m 84 #[.val (.int p0), .val (.int p1), .val (.int p2), .val (.int p3), .val (.int (2 : Int32)), .val (.int (p0 &&& (255 : Int32))), .val (.int (x1 &&& (255 : Int32))), .val (.int (x2 &&& (255 : Int32))), .val (.int (p1 &&& (255 : Int32))), .val (.int (y2 &&& (255 : Int32))), .val (.int (Int32.ofNat i0)), .val (.ref bm), .unset, .unset] [(.int (4 : Int32)), (.ref bb), (.ref bb)])
    obtain ⟨v60, T60, L60, X60, hQ60, st60⟩ := own_callI X59 hx hZ hown rfl (hw _ (List.mem_of_getElem? (i := 5) rfl)) (hw _ (List.mem_of_getElem? (i := 6) rfl)) (hw _ (List.mem_of_getElem? (i := 4) rfl)) (hw _ (List.mem_of_getElem? (i := 7) rfl)) (rm1 l Z a0 hw bb 4 h59 h0.size K_59.1 A59 F_bytes_bb F_length_bb g_bb rfl) e59 (g := (mkF m 84 #[.val (.int p0), .val (.int p1), .val (.int p2), .val (.int p3), .val (.int (2 : Int32)), .val (.int (p0 &&& (255 : Int32))), .val (.int (x1 &&& (255 : Int32))), .val (.int (x2 &&& (255 : Int32))), .val (.int (p1 &&& (255 : Int32))), .val (.int (y2 &&& (255 : Int32))), .val (.int (Int32.ofNat i0)), .val (.ref bm), .unset, .unset] [(.int (4 : Int32)), (.ref bb), (.ref bb)])) rfl (by rw [hml]; rfl) (a := bb) (argsL := [(.int (4 : Int32))]) (rest := [(.ref bb)]) (lenOf pd_0 rfl) rfl rfl (W := 1) (by show 2 * 0 + _ ≤ _; exact Nat.le_of_eq rfl) (hb hby at_84) (by decide) (by decide) (by decide) (by decide) (by decide)
    obtain ⟨ba, kb, rfl, N60q, K60, E60, B60, G60, A60, s60⟩ := hQ60
    refine own_go st60 ?_
    have N60 := Fr.app N58 N60q
    show own_Ends _ _ _ _ _ _ _ T60 (mkF m 87 #[.val (.int p0), .val (.int p1), .val (.int p2), .val (.int p3), .val (.int (2 : Int32)), .val (.int (p0 &&& (255 : Int32))), .val (.int (x1 &&& (255 : Int32))), .val (.int (x2 &&& (255 : Int32))), .val (.int (p1 &&& (255 : Int32))), .val (.int (y2 &&& (255 : Int32))), .val (.int (Int32.ofNat i0)), .val (.ref bm), .unset, .unset] [(.ref bb)])
    have ne_bb_ba : bb ≠ ba := Nat.ne_of_lt (Nat.lt_of_lt_of_le A59.lt s60)
    have ne_bm_ba : bm ≠ ba := Nat.ne_of_lt (Nat.lt_of_lt_of_le V_bm_59.lt s60)
    have sz_ba : h0.size ≤ ba := Nat.le_trans K_59.1 s60
    have K_60 := K_59.trans K60 (allS (Or.inr sz_bb) all0)
    have V_bm_60 := V_bm_59.keep K60 (ninS ne_bm_bb nin0)
    have E_bb_60 := A59.keep K60
    show own_Ends _ _ _ _ _ _ _ T60 (mkF m 87 #[.val (.int p0), .val (.int p1), .val (.int p2), .val (.int p3), .val (.int (2 : Int32)), .val (.int (p0 &&& (255 : Int32))), .val (.int (x1 &&& (255 : Int32))), .val (.int (x2 &&& (255 : Int32))), .val (.int (p1 &&& (255 : Int32))), .val (.int (y2 &&& (255 : Int32))), .val (.int (Int32.ofNat i0)), .val (.ref bm), .unset, .unset] [(.ref bb)])
    refine own_go (fun _ k => XS.astore X60.here hx rfl (hb hby at_87) rfl rfl (l' := #[.val (.int p0), .val (.int p1), .val (.int p2), .val (.int p3), .val (.int (2 : Int32)), .val (.int (p0 &&& (255 : Int32))), .val (.int (x1 &&& (255 : Int32))), .val (.int (x2 &&& (255 : Int32))), .val (.int (p1 &&& (255 : Int32))), .val (.int (y2 &&& (255 : Int32))), .val (.int (Int32.ofNat i0)), .val (.ref bm), .val (.ref bb), .unset]) rfl k) ?_
    show own_Ends _ _ _ _ _ _ _ T60 (mkF m 89 #[.val (.int p0), .val (.int p1), .val (.int p2), .val (.int p3), .val (.int (2 : Int32)), .val (.int (p0 &&& (255 : Int32))), .val (.int (x1 &&& (255 : Int32))), .val (.int (x2 &&& (255 : Int32))), .val (.int (p1 &&& (255 : Int32))), .val (.int (y2 &&& (255 : Int32))), .val (.int (Int32.ofNat i0)), .val (.ref bm), .val (.ref bb), .unset] [])
    refine own_go (fun _ k => XS.iload X60.here hx rfl (hb hby at_89) rfl k) ?_
    show own_Ends _ _ _ _ _ _ _ T60 (mkF m 91 #[.val (.int p0), .val (.int p1), .val (.int p2), .val (.int p3), .val (.int (2 : Int32)), .val (.int (p0 &&& (255 : Int32))), .val (.int (x1 &&& (255 : Int32))), .val (.int (x2 &&& (255 : Int32))), .val (.int (p1 &&& (255 : Int32))), .val (.int (y2 &&& (255 : Int32))), .val (.int (Int32.ofNat i0)), .val (.ref bm), .val (.ref bb), .unset] [(.int (2 : Int32))])
    refine own_go (fun _ k => XS.ifNo X60.here hx rfl (hb hby at_91) rfl ((if0 _ _).trans (tlt (by decide)).2.2.2) k) ?_
    show own_Ends _ _ _ _ _ _ _ T60 (mkF m 94 #[.val (.int p0), .val (.int p1), .val (.int p2), .val (.int p3), .val (.int (2 : Int32)), .val (.int (p0 &&& (255 : Int32))), .val (.int (x1 &&& (255 : Int32))), .val (.int (x2 &&& (255 : Int32))), .val (.int (p1 &&& (255 : Int32))), .val (.int (y2 &&& (255 : Int32))), .val (.int (Int32.ofNat i0)), .val (.ref bm), .val (.ref bb), .unset] [])
    refine own_go (fun _ k => XS.aload X60.here hx rfl (hb hby at_94) rfl rfl k) ?_
    show own_Ends _ _ _ _ _ _ _ T60 (mkF m 96 #[.val (.int p0), .val (.int p1), .val (.int p2), .val (.int p3), .val (.int (2 : Int32)), .val (.int (p0 &&& (255 : Int32))), .val (.int (x1 &&& (255 : Int32))), .val (.int (x2 &&& (255 : Int32))), .val (.int (p1 &&& (255 : Int32))), .val (.int (y2 &&& (255 : Int32))), .val (.int (Int32.ofNat i0)), .val (.ref bm), .val (.ref bb), .unset] [(.ref bb)])
    refine own_go (fun _ k => XS.iload X60.here hx rfl (hb hby at_96) rfl k) ?_
    show own_Ends _ _ _ _ _ _ _ T60 (mkF m 98 #[.val (.int p0), .val (.int p1), .val (.int p2), .val (.int p3), .val (.int (2 : Int32)), .val (.int (p0 &&& (255 : Int32))), .val (.int (x1 &&& (255 : Int32))), .val (.int (x2 &&& (255 : Int32))), .val (.int (p1 &&& (255 : Int32))), .val (.int (y2 &&& (255 : Int32))), .val (.int (Int32.ofNat i0)), .val (.ref bm), .val (.ref bb), .unset] [(.int (p0 &&& (255 : Int32))), (.ref bb)])
    refine own_go (fun _ k => XS.i2c X60.here hx rfl (hb hby at_98) rfl k) ?_
    show own_Ends _ _ _ _ _ _ _ T60 (mkF m 99 #[.val (.int p0), .val (.int p1), .val (.int p2), .val (.int p3), .val (.int (2 : Int32)), .val (.int (p0 &&& (255 : Int32))), .val (.int (x1 &&& (255 : Int32))), .val (.int (x2 &&& (255 : Int32))), .val (.int (p1 &&& (255 : Int32))), .val (.int (y2 &&& (255 : Int32))), .val (.int (Int32.ofNat i0)), .val (.ref bm), .val (.ref bb), .unset] [(.int ((p0 &&& (255 : Int32)).toUInt32.toUInt16.toUInt32.toInt32)), (.ref bb)])
    rw [show ((p0 &&& (255 : Int32)).toUInt32.toUInt16.toUInt32.toInt32) = (p0 &&& (255 : Int32)) from i2c_mask _]
    show own_Ends _ _ _ _ _ _ _ T60 (mkF m 99 #[.val (.int p0), .val (.int p1), .val (.int p2), .val (.int p3), .val (.int (2 : Int32)), .val (.int (p0 &&& (255 : Int32))), .val (.int (x1 &&& (255 : Int32))), .val (.int (x2 &&& (255 : Int32))), .val (.int (p1 &&& (255 : Int32))), .val (.int (y2 &&& (255 : Int32))), .val (.int (Int32.ofNat i0)), .val (.ref bm), .val (.ref bb), .unset] [(.int (p0 &&& (255 : Int32))), (.ref bb)])
    obtain ⟨v61, T61, L61, X61, hQ61, st61⟩ := own_callV X60 hx hZ hown (hw _ (List.mem_of_getElem? (i := 14) rfl)) (hw _ (List.mem_of_getElem? (i := 15) rfl)) (hw _ (List.mem_of_getElem? (i := 17) rfl)) (hw _ (List.mem_of_getElem? (i := 16) rfl)) (hw _ (List.mem_of_getElem? (i := 4) rfl)) (hw _ (List.mem_of_getElem? (i := 18) rfl)) (rm3_0 l Z a0 hw bb (p0 &&& (255 : Int32)) T60.heap h0.size ba kb (fun _ => .int (0 : Int32)) K_60.1 E_bb_60 B60 G60 A60 ne_bb_ba g_bb sz_ba (own_b255 _)) rfl (g := (mkF m 99 #[.val (.int p0), .val (.int p1), .val (.int p2), .val (.int p3), .val (.int (2 : Int32)), .val (.int (p0 &&& (255 : Int32))), .val (.int (x1 &&& (255 : Int32))), .val (.int (x2 &&& (255 : Int32))), .val (.int (p1 &&& (255 : Int32))), .val (.int (y2 &&& (255 : Int32))), .val (.int (Int32.ofNat i0)), .val (.ref bm), .val (.ref bb), .unset] [(.int (p0 &&& (255 : Int32))), (.ref bb)])) rfl (by rw [hml]; rfl) (a := bb) (argsL := [(.int (p0 &&& (255 : Int32)))]) (rest := []) (E_bb_60) (lenOf pd_4 rfl) rfl rfl (W := 0) (by show 2 * 0 + _ ≤ _; exact Nat.le_of_eq rfl) (hb hby at_99) (by decide) (by decide) (by decide) (by decide) (by decide)
    obtain ⟨rfl, N61q, K61, E61, B61, G61, A61⟩ := hQ61
    refine own_go st61 ?_
    have N61 := Fr.app N60 N61q
    have K_61 := K_60.trans K61 (allS (Or.inr sz_bb) (allS (Or.inr sz_ba) all0))
    have V_bm_61 := V_bm_60.keep K61 (ninS ne_bm_bb (ninS ne_bm_ba nin0))
    have E_bb_61 := E_bb_60.keep K61
    show own_Ends _ _ _ _ _ _ _ T61 (mkF m 102 #[.val (.int p0), .val (.int p1), .val (.int p2), .val (.int p3), .val (.int (2 : Int32)), .val (.int (p0 &&& (255 : Int32))), .val (.int (x1 &&& (255 : Int32))), .val (.int (x2 &&& (255 : Int32))), .val (.int (p1 &&& (255 : Int32))), .val (.int (y2 &&& (255 : Int32))), .val (.int (Int32.ofNat i0)), .val (.ref bm), .val (.ref bb), .unset] [(.ref bb)])
    refine own_go (fun _ k => XS.pop X61.here hx rfl (hb hby at_102) rfl rfl k) ?_
    show own_Ends _ _ _ _ _ _ _ T61 (mkF m 103 #[.val (.int p0), .val (.int p1), .val (.int p2), .val (.int p3), .val (.int (2 : Int32)), .val (.int (p0 &&& (255 : Int32))), .val (.int (x1 &&& (255 : Int32))), .val (.int (x2 &&& (255 : Int32))), .val (.int (p1 &&& (255 : Int32))), .val (.int (y2 &&& (255 : Int32))), .val (.int (Int32.ofNat i0)), .val (.ref bm), .val (.ref bb), .unset] [])
    refine own_go (fun _ k => XS.iload X61.here hx rfl (hb hby at_103) rfl k) ?_
    show own_Ends _ _ _ _ _ _ _ T61 (mkF m 105 #[.val (.int p0), .val (.int p1), .val (.int p2), .val (.int p3), .val (.int (2 : Int32)), .val (.int (p0 &&& (255 : Int32))), .val (.int (x1 &&& (255 : Int32))), .val (.int (x2 &&& (255 : Int32))), .val (.int (p1 &&& (255 : Int32))), .val (.int (y2 &&& (255 : Int32))), .val (.int (Int32.ofNat i0)), .val (.ref bm), .val (.ref bb), .unset] [(.int (2 : Int32))])
    refine own_go (fun _ k => XS.iconst X61.here hx rfl (hb hby at_105) k) ?_
    show own_Ends _ _ _ _ _ _ _ T61 (mkF m 106 #[.val (.int p0), .val (.int p1), .val (.int p2), .val (.int p3), .val (.int (2 : Int32)), .val (.int (p0 &&& (255 : Int32))), .val (.int (x1 &&& (255 : Int32))), .val (.int (x2 &&& (255 : Int32))), .val (.int (p1 &&& (255 : Int32))), .val (.int (y2 &&& (255 : Int32))), .val (.int (Int32.ofNat i0)), .val (.ref bm), .val (.ref bb), .unset] [(.int (1 : Int32)), (.int (2 : Int32))])
    refine own_go (fun _ k => XS.icmpNo X61.here hx rfl (hb hby at_106) rfl (tlt (by decide)).2.2.2 k) ?_
    show own_Ends _ _ _ _ _ _ _ T61 (mkF m 109 #[.val (.int p0), .val (.int p1), .val (.int p2), .val (.int p3), .val (.int (2 : Int32)), .val (.int (p0 &&& (255 : Int32))), .val (.int (x1 &&& (255 : Int32))), .val (.int (x2 &&& (255 : Int32))), .val (.int (p1 &&& (255 : Int32))), .val (.int (y2 &&& (255 : Int32))), .val (.int (Int32.ofNat i0)), .val (.ref bm), .val (.ref bb), .unset] [])
    refine own_go (fun _ k => XS.aload X61.here hx rfl (hb hby at_109) rfl rfl k) ?_
    show own_Ends _ _ _ _ _ _ _ T61 (mkF m 111 #[.val (.int p0), .val (.int p1), .val (.int p2), .val (.int p3), .val (.int (2 : Int32)), .val (.int (p0 &&& (255 : Int32))), .val (.int (x1 &&& (255 : Int32))), .val (.int (x2 &&& (255 : Int32))), .val (.int (p1 &&& (255 : Int32))), .val (.int (y2 &&& (255 : Int32))), .val (.int (Int32.ofNat i0)), .val (.ref bm), .val (.ref bb), .unset] [(.ref bb)])
    refine own_go (fun _ k => XS.iload X61.here hx rfl (hb hby at_111) rfl k) ?_
    show own_Ends _ _ _ _ _ _ _ T61 (mkF m 113 #[.val (.int p0), .val (.int p1), .val (.int p2), .val (.int p3), .val (.int (2 : Int32)), .val (.int (p0 &&& (255 : Int32))), .val (.int (x1 &&& (255 : Int32))), .val (.int (x2 &&& (255 : Int32))), .val (.int (p1 &&& (255 : Int32))), .val (.int (y2 &&& (255 : Int32))), .val (.int (Int32.ofNat i0)), .val (.ref bm), .val (.ref bb), .unset] [(.int (x1 &&& (255 : Int32))), (.ref bb)])
    refine own_go (fun _ k => XS.i2c X61.here hx rfl (hb hby at_113) rfl k) ?_
    show own_Ends _ _ _ _ _ _ _ T61 (mkF m 114 #[.val (.int p0), .val (.int p1), .val (.int p2), .val (.int p3), .val (.int (2 : Int32)), .val (.int (p0 &&& (255 : Int32))), .val (.int (x1 &&& (255 : Int32))), .val (.int (x2 &&& (255 : Int32))), .val (.int (p1 &&& (255 : Int32))), .val (.int (y2 &&& (255 : Int32))), .val (.int (Int32.ofNat i0)), .val (.ref bm), .val (.ref bb), .unset] [(.int ((x1 &&& (255 : Int32)).toUInt32.toUInt16.toUInt32.toInt32)), (.ref bb)])
    rw [show ((x1 &&& (255 : Int32)).toUInt32.toUInt16.toUInt32.toInt32) = (x1 &&& (255 : Int32)) from i2c_mask _]
    show own_Ends _ _ _ _ _ _ _ T61 (mkF m 114 #[.val (.int p0), .val (.int p1), .val (.int p2), .val (.int p3), .val (.int (2 : Int32)), .val (.int (p0 &&& (255 : Int32))), .val (.int (x1 &&& (255 : Int32))), .val (.int (x2 &&& (255 : Int32))), .val (.int (p1 &&& (255 : Int32))), .val (.int (y2 &&& (255 : Int32))), .val (.int (Int32.ofNat i0)), .val (.ref bm), .val (.ref bb), .unset] [(.int (x1 &&& (255 : Int32))), (.ref bb)])
    obtain ⟨v62, T62, L62, X62, hQ62, st62⟩ := own_callV X61 hx hZ hown (hw _ (List.mem_of_getElem? (i := 14) rfl)) (hw _ (List.mem_of_getElem? (i := 15) rfl)) (hw _ (List.mem_of_getElem? (i := 17) rfl)) (hw _ (List.mem_of_getElem? (i := 16) rfl)) (hw _ (List.mem_of_getElem? (i := 4) rfl)) (hw _ (List.mem_of_getElem? (i := 18) rfl)) (rm3_1 l Z a0 hw bb (x1 &&& (255 : Int32)) T61.heap h0.size ba kb (fun j => if j = 0 then .int (own_by (p0 &&& (255 : Int32))) else (fun _ => .int (0 : Int32)) j) K_61.1 E_bb_61 B61 G61 A61 ne_bb_ba g_bb sz_ba (own_b255 _)) rfl (g := (mkF m 114 #[.val (.int p0), .val (.int p1), .val (.int p2), .val (.int p3), .val (.int (2 : Int32)), .val (.int (p0 &&& (255 : Int32))), .val (.int (x1 &&& (255 : Int32))), .val (.int (x2 &&& (255 : Int32))), .val (.int (p1 &&& (255 : Int32))), .val (.int (y2 &&& (255 : Int32))), .val (.int (Int32.ofNat i0)), .val (.ref bm), .val (.ref bb), .unset] [(.int (x1 &&& (255 : Int32))), (.ref bb)])) rfl (by rw [hml]; rfl) (a := bb) (argsL := [(.int (x1 &&& (255 : Int32)))]) (rest := []) (E_bb_61) (lenOf pd_4 rfl) rfl rfl (W := 0) (by show 2 * 0 + _ ≤ _; exact Nat.le_of_eq rfl) (hb hby at_114) (by decide) (by decide) (by decide) (by decide) (by decide)
    obtain ⟨rfl, N62q, K62, E62, B62, G62, A62⟩ := hQ62
    refine own_go st62 ?_
    have N62 := Fr.app N61 N62q
    have K_62 := K_61.trans K62 (allS (Or.inr sz_bb) (allS (Or.inr sz_ba) all0))
    have V_bm_62 := V_bm_61.keep K62 (ninS ne_bm_bb (ninS ne_bm_ba nin0))
    have E_bb_62 := E_bb_61.keep K62
    show own_Ends _ _ _ _ _ _ _ T62 (mkF m 117 #[.val (.int p0), .val (.int p1), .val (.int p2), .val (.int p3), .val (.int (2 : Int32)), .val (.int (p0 &&& (255 : Int32))), .val (.int (x1 &&& (255 : Int32))), .val (.int (x2 &&& (255 : Int32))), .val (.int (p1 &&& (255 : Int32))), .val (.int (y2 &&& (255 : Int32))), .val (.int (Int32.ofNat i0)), .val (.ref bm), .val (.ref bb), .unset] [(.ref bb)])
    refine own_go (fun _ k => XS.pop X62.here hx rfl (hb hby at_117) rfl rfl k) ?_
    show own_Ends _ _ _ _ _ _ _ T62 (mkF m 118 #[.val (.int p0), .val (.int p1), .val (.int p2), .val (.int p3), .val (.int (2 : Int32)), .val (.int (p0 &&& (255 : Int32))), .val (.int (x1 &&& (255 : Int32))), .val (.int (x2 &&& (255 : Int32))), .val (.int (p1 &&& (255 : Int32))), .val (.int (y2 &&& (255 : Int32))), .val (.int (Int32.ofNat i0)), .val (.ref bm), .val (.ref bb), .unset] [])
    refine own_go (fun _ k => XS.iload X62.here hx rfl (hb hby at_118) rfl k) ?_
    show own_Ends _ _ _ _ _ _ _ T62 (mkF m 120 #[.val (.int p0), .val (.int p1), .val (.int p2), .val (.int p3), .val (.int (2 : Int32)), .val (.int (p0 &&& (255 : Int32))), .val (.int (x1 &&& (255 : Int32))), .val (.int (x2 &&& (255 : Int32))), .val (.int (p1 &&& (255 : Int32))), .val (.int (y2 &&& (255 : Int32))), .val (.int (Int32.ofNat i0)), .val (.ref bm), .val (.ref bb), .unset] [(.int (2 : Int32))])
    refine own_go (fun _ k => XS.iconst X62.here hx rfl (hb hby at_120) k) ?_
    show own_Ends _ _ _ _ _ _ _ T62 (mkF m 121 #[.val (.int p0), .val (.int p1), .val (.int p2), .val (.int p3), .val (.int (2 : Int32)), .val (.int (p0 &&& (255 : Int32))), .val (.int (x1 &&& (255 : Int32))), .val (.int (x2 &&& (255 : Int32))), .val (.int (p1 &&& (255 : Int32))), .val (.int (y2 &&& (255 : Int32))), .val (.int (Int32.ofNat i0)), .val (.ref bm), .val (.ref bb), .unset] [(.int (2 : Int32)), (.int (2 : Int32))])
    refine own_go (fun _ k => XS.icmpYes X62.here hx rfl (pc0 := 121) (pc' := 133) rfl (hb hby at_121) rfl (flt (by decide)).2.2.2 (by decide) (by decide) k) ?_
    show own_Ends _ _ _ _ _ _ _ T62 (mkF m 133 #[.val (.int p0), .val (.int p1), .val (.int p2), .val (.int p3), .val (.int (2 : Int32)), .val (.int (p0 &&& (255 : Int32))), .val (.int (x1 &&& (255 : Int32))), .val (.int (x2 &&& (255 : Int32))), .val (.int (p1 &&& (255 : Int32))), .val (.int (y2 &&& (255 : Int32))), .val (.int (Int32.ofNat i0)), .val (.ref bm), .val (.ref bb), .unset] [])
    refine own_go (fun _ k => XS.iconst X62.here hx rfl (hb hby at_133) k) ?_
    show own_Ends _ _ _ _ _ _ _ T62 (mkF m 134 #[.val (.int p0), .val (.int p1), .val (.int p2), .val (.int p3), .val (.int (2 : Int32)), .val (.int (p0 &&& (255 : Int32))), .val (.int (x1 &&& (255 : Int32))), .val (.int (x2 &&& (255 : Int32))), .val (.int (p1 &&& (255 : Int32))), .val (.int (y2 &&& (255 : Int32))), .val (.int (Int32.ofNat i0)), .val (.ref bm), .val (.ref bb), .unset] [(.int (0 : Int32))])
    refine own_go (fun _ k => XS.iload X62.here hx rfl (hb hby at_134) rfl k) ?_
    show own_Ends _ _ _ _ _ _ _ T62 (mkF m 136 #[.val (.int p0), .val (.int p1), .val (.int p2), .val (.int p3), .val (.int (2 : Int32)), .val (.int (p0 &&& (255 : Int32))), .val (.int (x1 &&& (255 : Int32))), .val (.int (x2 &&& (255 : Int32))), .val (.int (p1 &&& (255 : Int32))), .val (.int (y2 &&& (255 : Int32))), .val (.int (Int32.ofNat i0)), .val (.ref bm), .val (.ref bb), .unset] [(.int (p0 &&& (255 : Int32))), (.int (0 : Int32))])
    refine own_go (fun _ k => XS.iload X62.here hx rfl (hb hby at_136) rfl k) ?_
    show own_Ends _ _ _ _ _ _ _ T62 (mkF m 138 #[.val (.int p0), .val (.int p1), .val (.int p2), .val (.int p3), .val (.int (2 : Int32)), .val (.int (p0 &&& (255 : Int32))), .val (.int (x1 &&& (255 : Int32))), .val (.int (x2 &&& (255 : Int32))), .val (.int (p1 &&& (255 : Int32))), .val (.int (y2 &&& (255 : Int32))), .val (.int (Int32.ofNat i0)), .val (.ref bm), .val (.ref bb), .unset] [(.int (2 : Int32)), (.int (p0 &&& (255 : Int32))), (.int (0 : Int32))])
    refine own_go (fun _ k => XS.iload X62.here hx rfl (hb hby at_138) rfl k) ?_
    show own_Ends _ _ _ _ _ _ _ T62 (mkF m 140 #[.val (.int p0), .val (.int p1), .val (.int p2), .val (.int p3), .val (.int (2 : Int32)), .val (.int (p0 &&& (255 : Int32))), .val (.int (x1 &&& (255 : Int32))), .val (.int (x2 &&& (255 : Int32))), .val (.int (p1 &&& (255 : Int32))), .val (.int (y2 &&& (255 : Int32))), .val (.int (Int32.ofNat i0)), .val (.ref bm), .val (.ref bb), .unset] [(.int (Int32.ofNat i0)), (.int (2 : Int32)), (.int (p0 &&& (255 : Int32))), (.int (0 : Int32))])
    refine own_go (fun _ k => XS.iload X62.here hx rfl (hb hby at_140) rfl k) ?_
    show own_Ends _ _ _ _ _ _ _ T62 (mkF m 142 #[.val (.int p0), .val (.int p1), .val (.int p2), .val (.int p3), .val (.int (2 : Int32)), .val (.int (p0 &&& (255 : Int32))), .val (.int (x1 &&& (255 : Int32))), .val (.int (x2 &&& (255 : Int32))), .val (.int (p1 &&& (255 : Int32))), .val (.int (y2 &&& (255 : Int32))), .val (.int (Int32.ofNat i0)), .val (.ref bm), .val (.ref bb), .unset] [(.int (p1 &&& (255 : Int32))), (.int (Int32.ofNat i0)), (.int (2 : Int32)), (.int (p0 &&& (255 : Int32))), (.int (0 : Int32))])
    refine own_go (fun _ k => XS.iload X62.here hx rfl (hb hby at_142) rfl k) ?_
    show own_Ends _ _ _ _ _ _ _ T62 (mkF m 144 #[.val (.int p0), .val (.int p1), .val (.int p2), .val (.int p3), .val (.int (2 : Int32)), .val (.int (p0 &&& (255 : Int32))), .val (.int (x1 &&& (255 : Int32))), .val (.int (x2 &&& (255 : Int32))), .val (.int (p1 &&& (255 : Int32))), .val (.int (y2 &&& (255 : Int32))), .val (.int (Int32.ofNat i0)), .val (.ref bm), .val (.ref bb), .unset] [(.int (y2 &&& (255 : Int32))), (.int (p1 &&& (255 : Int32))), (.int (Int32.ofNat i0)), (.int (2 : Int32)), (.int (p0 &&& (255 : Int32))), (.int (0 : Int32))])
    have VB : own_Ar Z T62.heap ba kb .byte 4 (fun j => .int ((fun j => if j = 1 then own_by (x1 &&& (255 : Int32)) else if j = 0 then own_by (p0 &&& (255 : Int32)) else (0 : Int32)) j)) := A62.cong (fun i _ => by
      by_cases q0 : i = 0 <;> by_cases q1 : i = 1 <;> simp [q0, q1])
    have VM : own_Ar Z T62.heap bm k56 .boolean 256 (fun j => .int (own_mk (p1 &&& (255 : Int32)) (y2 &&& (255 : Int32)) j)) := V_bm_62
    obtain ⟨v63, T63, L63, X63, hQ63, st63⟩ := own_callS X62 hx hZ hown (hw _ (List.mem_of_getElem? (i := 28) rfl)) (hw _ (List.mem_of_getElem? (i := 29) rfl)) (hw _ (List.mem_of_getElem? (i := 30) rfl)) (hw _ (List.mem_of_getElem? (i := 31) rfl)) (rm6 l Z a0 hw (0 : Int32) (p0 &&& (255 : Int32)) (2 : Int32) (Int32.ofNat i0) (p1 &&& (255 : Int32)) (y2 &&& (255 : Int32)) T62.heap) rfl (g := (mkF m 144 #[.val (.int p0), .val (.int p1), .val (.int p2), .val (.int p3), .val (.int (2 : Int32)), .val (.int (p0 &&& (255 : Int32))), .val (.int (x1 &&& (255 : Int32))), .val (.int (x2 &&& (255 : Int32))), .val (.int (p1 &&& (255 : Int32))), .val (.int (y2 &&& (255 : Int32))), .val (.int (Int32.ofNat i0)), .val (.ref bm), .val (.ref bb), .unset] [(.int (y2 &&& (255 : Int32))), (.int (p1 &&& (255 : Int32))), (.int (Int32.ofNat i0)), (.int (2 : Int32)), (.int (p0 &&& (255 : Int32))), (.int (0 : Int32))])) rfl (by rw [hml]; rfl) (argsL := [(.int (0 : Int32)), (.int (p0 &&& (255 : Int32))), (.int (2 : Int32)), (.int (Int32.ofNat i0)), (.int (p1 &&& (255 : Int32))), (.int (y2 &&& (255 : Int32)))]) (rest := []) (lenOf pd_2 rfl) rfl rfl (W := 0) (by show 2 * 0 + _ ≤ _; exact Nat.le_of_eq rfl) (hb hby at_144) (by decide) (by decide) (by decide) (by decide) (by decide)
    obtain ⟨rfl, rfl, e63⟩ := hQ63
    refine own_go st63 ?_
    have N63 := Fr.app N62 (Fr.nil _)
    show own_Ends _ _ _ _ _ _ _ T63 (mkF m 147 #[.val (.int p0), .val (.int p1), .val (.int p2), .val (.int p3), .val (.int (2 : Int32)), .val (.int (p0 &&& (255 : Int32))), .val (.int (x1 &&& (255 : Int32))), .val (.int (x2 &&& (255 : Int32))), .val (.int (p1 &&& (255 : Int32))), .val (.int (y2 &&& (255 : Int32))), .val (.int (Int32.ofNat i0)), .val (.ref bm), .val (.ref bb), .unset] [(.int (own_hit (0 : Int32) (p0 &&& (255 : Int32)) (2 : Int32) (Int32.ofNat i0) (p1 &&& (255 : Int32)) (y2 &&& (255 : Int32))))])
    by_cases t0 : (own_hit (0 : Int32) (p0 &&& (255 : Int32)) (2 : Int32) (Int32.ofNat i0) (p1 &&& (255 : Int32)) (y2 &&& (255 : Int32))) = (0 : Int32)
    · refine own_go (fun _ k => XS.ifNo X63.here hx rfl (hb hby at_147) rfl ((if0 _ _).trans (teq t0).2) k) ?_
      show own_Ends _ _ _ _ _ _ _ T63 (mkF m 150 #[.val (.int p0), .val (.int p1), .val (.int p2), .val (.int p3), .val (.int (2 : Int32)), .val (.int (p0 &&& (255 : Int32))), .val (.int (x1 &&& (255 : Int32))), .val (.int (x2 &&& (255 : Int32))), .val (.int (p1 &&& (255 : Int32))), .val (.int (y2 &&& (255 : Int32))), .val (.int (Int32.ofNat i0)), .val (.ref bm), .val (.ref bb), .unset] [])
      refine own_go (fun _ k => XS.iconst X63.here hx rfl (hb hby at_150) k) ?_
      show own_Ends _ _ _ _ _ _ _ T63 (mkF m 151 #[.val (.int p0), .val (.int p1), .val (.int p2), .val (.int p3), .val (.int (2 : Int32)), .val (.int (p0 &&& (255 : Int32))), .val (.int (x1 &&& (255 : Int32))), .val (.int (x2 &&& (255 : Int32))), .val (.int (p1 &&& (255 : Int32))), .val (.int (y2 &&& (255 : Int32))), .val (.int (Int32.ofNat i0)), .val (.ref bm), .val (.ref bb), .unset] [(.int (1 : Int32))])
      refine own_go (fun _ k => XS.iload X63.here hx rfl (hb hby at_151) rfl k) ?_
      show own_Ends _ _ _ _ _ _ _ T63 (mkF m 153 #[.val (.int p0), .val (.int p1), .val (.int p2), .val (.int p3), .val (.int (2 : Int32)), .val (.int (p0 &&& (255 : Int32))), .val (.int (x1 &&& (255 : Int32))), .val (.int (x2 &&& (255 : Int32))), .val (.int (p1 &&& (255 : Int32))), .val (.int (y2 &&& (255 : Int32))), .val (.int (Int32.ofNat i0)), .val (.ref bm), .val (.ref bb), .unset] [(.int (x1 &&& (255 : Int32))), (.int (1 : Int32))])
      refine own_go (fun _ k => XS.iload X63.here hx rfl (hb hby at_153) rfl k) ?_
      show own_Ends _ _ _ _ _ _ _ T63 (mkF m 155 #[.val (.int p0), .val (.int p1), .val (.int p2), .val (.int p3), .val (.int (2 : Int32)), .val (.int (p0 &&& (255 : Int32))), .val (.int (x1 &&& (255 : Int32))), .val (.int (x2 &&& (255 : Int32))), .val (.int (p1 &&& (255 : Int32))), .val (.int (y2 &&& (255 : Int32))), .val (.int (Int32.ofNat i0)), .val (.ref bm), .val (.ref bb), .unset] [(.int (2 : Int32)), (.int (x1 &&& (255 : Int32))), (.int (1 : Int32))])
      refine own_go (fun _ k => XS.iload X63.here hx rfl (hb hby at_155) rfl k) ?_
      show own_Ends _ _ _ _ _ _ _ T63 (mkF m 157 #[.val (.int p0), .val (.int p1), .val (.int p2), .val (.int p3), .val (.int (2 : Int32)), .val (.int (p0 &&& (255 : Int32))), .val (.int (x1 &&& (255 : Int32))), .val (.int (x2 &&& (255 : Int32))), .val (.int (p1 &&& (255 : Int32))), .val (.int (y2 &&& (255 : Int32))), .val (.int (Int32.ofNat i0)), .val (.ref bm), .val (.ref bb), .unset] [(.int (Int32.ofNat i0)), (.int (2 : Int32)), (.int (x1 &&& (255 : Int32))), (.int (1 : Int32))])
      refine own_go (fun _ k => XS.iload X63.here hx rfl (hb hby at_157) rfl k) ?_
      show own_Ends _ _ _ _ _ _ _ T63 (mkF m 159 #[.val (.int p0), .val (.int p1), .val (.int p2), .val (.int p3), .val (.int (2 : Int32)), .val (.int (p0 &&& (255 : Int32))), .val (.int (x1 &&& (255 : Int32))), .val (.int (x2 &&& (255 : Int32))), .val (.int (p1 &&& (255 : Int32))), .val (.int (y2 &&& (255 : Int32))), .val (.int (Int32.ofNat i0)), .val (.ref bm), .val (.ref bb), .unset] [(.int (p1 &&& (255 : Int32))), (.int (Int32.ofNat i0)), (.int (2 : Int32)), (.int (x1 &&& (255 : Int32))), (.int (1 : Int32))])
      refine own_go (fun _ k => XS.iload X63.here hx rfl (hb hby at_159) rfl k) ?_
      show own_Ends _ _ _ _ _ _ _ T63 (mkF m 161 #[.val (.int p0), .val (.int p1), .val (.int p2), .val (.int p3), .val (.int (2 : Int32)), .val (.int (p0 &&& (255 : Int32))), .val (.int (x1 &&& (255 : Int32))), .val (.int (x2 &&& (255 : Int32))), .val (.int (p1 &&& (255 : Int32))), .val (.int (y2 &&& (255 : Int32))), .val (.int (Int32.ofNat i0)), .val (.ref bm), .val (.ref bb), .unset] [(.int (y2 &&& (255 : Int32))), (.int (p1 &&& (255 : Int32))), (.int (Int32.ofNat i0)), (.int (2 : Int32)), (.int (x1 &&& (255 : Int32))), (.int (1 : Int32))])
      obtain ⟨v65, T65, L65, X65, hQ65, st65⟩ := own_callS X63 hx hZ hown (hw _ (List.mem_of_getElem? (i := 28) rfl)) (hw _ (List.mem_of_getElem? (i := 29) rfl)) (hw _ (List.mem_of_getElem? (i := 30) rfl)) (hw _ (List.mem_of_getElem? (i := 31) rfl)) (rm6 l Z a0 hw (1 : Int32) (x1 &&& (255 : Int32)) (2 : Int32) (Int32.ofNat i0) (p1 &&& (255 : Int32)) (y2 &&& (255 : Int32)) T62.heap) e63 (g := (mkF m 161 #[.val (.int p0), .val (.int p1), .val (.int p2), .val (.int p3), .val (.int (2 : Int32)), .val (.int (p0 &&& (255 : Int32))), .val (.int (x1 &&& (255 : Int32))), .val (.int (x2 &&& (255 : Int32))), .val (.int (p1 &&& (255 : Int32))), .val (.int (y2 &&& (255 : Int32))), .val (.int (Int32.ofNat i0)), .val (.ref bm), .val (.ref bb), .unset] [(.int (y2 &&& (255 : Int32))), (.int (p1 &&& (255 : Int32))), (.int (Int32.ofNat i0)), (.int (2 : Int32)), (.int (x1 &&& (255 : Int32))), (.int (1 : Int32))])) rfl (by rw [hml]; rfl) (argsL := [(.int (1 : Int32)), (.int (x1 &&& (255 : Int32))), (.int (2 : Int32)), (.int (Int32.ofNat i0)), (.int (p1 &&& (255 : Int32))), (.int (y2 &&& (255 : Int32)))]) (rest := []) (lenOf pd_2 rfl) rfl rfl (W := 0) (by show 2 * 0 + _ ≤ _; exact Nat.le_of_eq rfl) (hb hby at_161) (by decide) (by decide) (by decide) (by decide) (by decide)
      obtain ⟨rfl, rfl, e65⟩ := hQ65
      refine own_go st65 ?_
      have N65 := Fr.app N63 (Fr.nil _)
      show own_Ends _ _ _ _ _ _ _ T65 (mkF m 164 #[.val (.int p0), .val (.int p1), .val (.int p2), .val (.int p3), .val (.int (2 : Int32)), .val (.int (p0 &&& (255 : Int32))), .val (.int (x1 &&& (255 : Int32))), .val (.int (x2 &&& (255 : Int32))), .val (.int (p1 &&& (255 : Int32))), .val (.int (y2 &&& (255 : Int32))), .val (.int (Int32.ofNat i0)), .val (.ref bm), .val (.ref bb), .unset] [(.int (own_hit (1 : Int32) (x1 &&& (255 : Int32)) (2 : Int32) (Int32.ofNat i0) (p1 &&& (255 : Int32)) (y2 &&& (255 : Int32))))])
      by_cases t1 : (own_hit (1 : Int32) (x1 &&& (255 : Int32)) (2 : Int32) (Int32.ofNat i0) (p1 &&& (255 : Int32)) (y2 &&& (255 : Int32))) = (0 : Int32)
      · refine own_go (fun _ k => XS.ifNo X65.here hx rfl (hb hby at_164) rfl ((if0 _ _).trans (teq t1).2) k) ?_
        show own_Ends _ _ _ _ _ _ _ T65 (mkF m 167 #[.val (.int p0), .val (.int p1), .val (.int p2), .val (.int p3), .val (.int (2 : Int32)), .val (.int (p0 &&& (255 : Int32))), .val (.int (x1 &&& (255 : Int32))), .val (.int (x2 &&& (255 : Int32))), .val (.int (p1 &&& (255 : Int32))), .val (.int (y2 &&& (255 : Int32))), .val (.int (Int32.ofNat i0)), .val (.ref bm), .val (.ref bb), .unset] [])
        refine own_go (fun _ k => XS.iconst X65.here hx rfl (hb hby at_167) k) ?_
        show own_Ends _ _ _ _ _ _ _ T65 (mkF m 168 #[.val (.int p0), .val (.int p1), .val (.int p2), .val (.int p3), .val (.int (2 : Int32)), .val (.int (p0 &&& (255 : Int32))), .val (.int (x1 &&& (255 : Int32))), .val (.int (x2 &&& (255 : Int32))), .val (.int (p1 &&& (255 : Int32))), .val (.int (y2 &&& (255 : Int32))), .val (.int (Int32.ofNat i0)), .val (.ref bm), .val (.ref bb), .unset] [(.int (2 : Int32))])
        refine own_go (fun _ k => XS.iload X65.here hx rfl (hb hby at_168) rfl k) ?_
        show own_Ends _ _ _ _ _ _ _ T65 (mkF m 170 #[.val (.int p0), .val (.int p1), .val (.int p2), .val (.int p3), .val (.int (2 : Int32)), .val (.int (p0 &&& (255 : Int32))), .val (.int (x1 &&& (255 : Int32))), .val (.int (x2 &&& (255 : Int32))), .val (.int (p1 &&& (255 : Int32))), .val (.int (y2 &&& (255 : Int32))), .val (.int (Int32.ofNat i0)), .val (.ref bm), .val (.ref bb), .unset] [(.int (x2 &&& (255 : Int32))), (.int (2 : Int32))])
        refine own_go (fun _ k => XS.iload X65.here hx rfl (hb hby at_170) rfl k) ?_
        show own_Ends _ _ _ _ _ _ _ T65 (mkF m 172 #[.val (.int p0), .val (.int p1), .val (.int p2), .val (.int p3), .val (.int (2 : Int32)), .val (.int (p0 &&& (255 : Int32))), .val (.int (x1 &&& (255 : Int32))), .val (.int (x2 &&& (255 : Int32))), .val (.int (p1 &&& (255 : Int32))), .val (.int (y2 &&& (255 : Int32))), .val (.int (Int32.ofNat i0)), .val (.ref bm), .val (.ref bb), .unset] [(.int (2 : Int32)), (.int (x2 &&& (255 : Int32))), (.int (2 : Int32))])
        refine own_go (fun _ k => XS.iload X65.here hx rfl (hb hby at_172) rfl k) ?_
        show own_Ends _ _ _ _ _ _ _ T65 (mkF m 174 #[.val (.int p0), .val (.int p1), .val (.int p2), .val (.int p3), .val (.int (2 : Int32)), .val (.int (p0 &&& (255 : Int32))), .val (.int (x1 &&& (255 : Int32))), .val (.int (x2 &&& (255 : Int32))), .val (.int (p1 &&& (255 : Int32))), .val (.int (y2 &&& (255 : Int32))), .val (.int (Int32.ofNat i0)), .val (.ref bm), .val (.ref bb), .unset] [(.int (Int32.ofNat i0)), (.int (2 : Int32)), (.int (x2 &&& (255 : Int32))), (.int (2 : Int32))])
        refine own_go (fun _ k => XS.iload X65.here hx rfl (hb hby at_174) rfl k) ?_
        show own_Ends _ _ _ _ _ _ _ T65 (mkF m 176 #[.val (.int p0), .val (.int p1), .val (.int p2), .val (.int p3), .val (.int (2 : Int32)), .val (.int (p0 &&& (255 : Int32))), .val (.int (x1 &&& (255 : Int32))), .val (.int (x2 &&& (255 : Int32))), .val (.int (p1 &&& (255 : Int32))), .val (.int (y2 &&& (255 : Int32))), .val (.int (Int32.ofNat i0)), .val (.ref bm), .val (.ref bb), .unset] [(.int (p1 &&& (255 : Int32))), (.int (Int32.ofNat i0)), (.int (2 : Int32)), (.int (x2 &&& (255 : Int32))), (.int (2 : Int32))])
        refine own_go (fun _ k => XS.iload X65.here hx rfl (hb hby at_176) rfl k) ?_
        show own_Ends _ _ _ _ _ _ _ T65 (mkF m 178 #[.val (.int p0), .val (.int p1), .val (.int p2), .val (.int p3), .val (.int (2 : Int32)), .val (.int (p0 &&& (255 : Int32))), .val (.int (x1 &&& (255 : Int32))), .val (.int (x2 &&& (255 : Int32))), .val (.int (p1 &&& (255 : Int32))), .val (.int (y2 &&& (255 : Int32))), .val (.int (Int32.ofNat i0)), .val (.ref bm), .val (.ref bb), .unset] [(.int (y2 &&& (255 : Int32))), (.int (p1 &&& (255 : Int32))), (.int (Int32.ofNat i0)), (.int (2 : Int32)), (.int (x2 &&& (255 : Int32))), (.int (2 : Int32))])
        obtain ⟨v67, T67, L67, X67, hQ67, st67⟩ := own_callS X65 hx hZ hown (hw _ (List.mem_of_getElem? (i := 28) rfl)) (hw _ (List.mem_of_getElem? (i := 29) rfl)) (hw _ (List.mem_of_getElem? (i := 30) rfl)) (hw _ (List.mem_of_getElem? (i := 31) rfl)) (rm6 l Z a0 hw (2 : Int32) (x2 &&& (255 : Int32)) (2 : Int32) (Int32.ofNat i0) (p1 &&& (255 : Int32)) (y2 &&& (255 : Int32)) T62.heap) e65 (g := (mkF m 178 #[.val (.int p0), .val (.int p1), .val (.int p2), .val (.int p3), .val (.int (2 : Int32)), .val (.int (p0 &&& (255 : Int32))), .val (.int (x1 &&& (255 : Int32))), .val (.int (x2 &&& (255 : Int32))), .val (.int (p1 &&& (255 : Int32))), .val (.int (y2 &&& (255 : Int32))), .val (.int (Int32.ofNat i0)), .val (.ref bm), .val (.ref bb), .unset] [(.int (y2 &&& (255 : Int32))), (.int (p1 &&& (255 : Int32))), (.int (Int32.ofNat i0)), (.int (2 : Int32)), (.int (x2 &&& (255 : Int32))), (.int (2 : Int32))])) rfl (by rw [hml]; rfl) (argsL := [(.int (2 : Int32)), (.int (x2 &&& (255 : Int32))), (.int (2 : Int32)), (.int (Int32.ofNat i0)), (.int (p1 &&& (255 : Int32))), (.int (y2 &&& (255 : Int32)))]) (rest := []) (lenOf pd_2 rfl) rfl rfl (W := 0) (by show 2 * 0 + _ ≤ _; exact Nat.le_of_eq rfl) (hb hby at_178) (by decide) (by decide) (by decide) (by decide) (by decide)
        obtain ⟨rfl, rfl, e67⟩ := hQ67
        refine own_go st67 ?_
        have N67 := Fr.app N65 (Fr.nil _)
        show own_Ends _ _ _ _ _ _ _ T67 (mkF m 181 #[.val (.int p0), .val (.int p1), .val (.int p2), .val (.int p3), .val (.int (2 : Int32)), .val (.int (p0 &&& (255 : Int32))), .val (.int (x1 &&& (255 : Int32))), .val (.int (x2 &&& (255 : Int32))), .val (.int (p1 &&& (255 : Int32))), .val (.int (y2 &&& (255 : Int32))), .val (.int (Int32.ofNat i0)), .val (.ref bm), .val (.ref bb), .unset] [(.int (own_hit (2 : Int32) (x2 &&& (255 : Int32)) (2 : Int32) (Int32.ofNat i0) (p1 &&& (255 : Int32)) (y2 &&& (255 : Int32))))])
        by_cases t2 : (own_hit (2 : Int32) (x2 &&& (255 : Int32)) (2 : Int32) (Int32.ofNat i0) (p1 &&& (255 : Int32)) (y2 &&& (255 : Int32))) = (0 : Int32)
        · refine own_go (fun _ k => XS.ifYes X67.here hx rfl (pc0 := 181) (pc' := 188) rfl (hb hby at_181) rfl ((if0 _ _).trans (teq t2).1) (by decide) (by decide) k) ?_
          show own_Ends _ _ _ _ _ _ _ T67 (mkF m 188 #[.val (.int p0), .val (.int p1), .val (.int p2), .val (.int p3), .val (.int (2 : Int32)), .val (.int (p0 &&& (255 : Int32))), .val (.int (x1 &&& (255 : Int32))), .val (.int (x2 &&& (255 : Int32))), .val (.int (p1 &&& (255 : Int32))), .val (.int (y2 &&& (255 : Int32))), .val (.int (Int32.ofNat i0)), .val (.ref bm), .val (.ref bb), .unset] [])
          refine own_go (fun _ k => XS.iconst X67.here hx rfl (hb hby at_188) k) ?_
          show own_Ends _ _ _ _ _ _ _ T67 (mkF m 189 #[.val (.int p0), .val (.int p1), .val (.int p2), .val (.int p3), .val (.int (2 : Int32)), .val (.int (p0 &&& (255 : Int32))), .val (.int (x1 &&& (255 : Int32))), .val (.int (x2 &&& (255 : Int32))), .val (.int (p1 &&& (255 : Int32))), .val (.int (y2 &&& (255 : Int32))), .val (.int (Int32.ofNat i0)), .val (.ref bm), .val (.ref bb), .unset] [(.int (0 : Int32))])
          refine own_go (fun _ k => XS.istore X67.here hx rfl (hb hby at_189) rfl (l' := #[.val (.int p0), .val (.int p1), .val (.int p2), .val (.int p3), .val (.int (2 : Int32)), .val (.int (p0 &&& (255 : Int32))), .val (.int (x1 &&& (255 : Int32))), .val (.int (x2 &&& (255 : Int32))), .val (.int (p1 &&& (255 : Int32))), .val (.int (y2 &&& (255 : Int32))), .val (.int (Int32.ofNat i0)), .val (.ref bm), .val (.ref bb), .val (.int (0 : Int32))]) rfl k) ?_
          show own_Ends _ _ _ _ _ _ _ T67 (mkF m 191 #[.val (.int p0), .val (.int p1), .val (.int p2), .val (.int p3), .val (.int (2 : Int32)), .val (.int (p0 &&& (255 : Int32))), .val (.int (x1 &&& (255 : Int32))), .val (.int (x2 &&& (255 : Int32))), .val (.int (p1 &&& (255 : Int32))), .val (.int (y2 &&& (255 : Int32))), .val (.int (Int32.ofNat i0)), .val (.ref bm), .val (.ref bb), .val (.int (0 : Int32))] [])
          refine own_go (fun _ k => XS.aload X67.here hx rfl (hb hby at_191) rfl rfl k) ?_
          show own_Ends _ _ _ _ _ _ _ T67 (mkF m 193 #[.val (.int p0), .val (.int p1), .val (.int p2), .val (.int p3), .val (.int (2 : Int32)), .val (.int (p0 &&& (255 : Int32))), .val (.int (x1 &&& (255 : Int32))), .val (.int (x2 &&& (255 : Int32))), .val (.int (p1 &&& (255 : Int32))), .val (.int (y2 &&& (255 : Int32))), .val (.int (Int32.ofNat i0)), .val (.ref bm), .val (.ref bb), .val (.int (0 : Int32))] [(.ref bb)])
          refine own_go (fun _ k => XS.iload X67.here hx rfl (hb hby at_193) rfl k) ?_
          show own_Ends _ _ _ _ _ _ _ T67 (mkF m 195 #[.val (.int p0), .val (.int p1), .val (.int p2), .val (.int p3), .val (.int (2 : Int32)), .val (.int (p0 &&& (255 : Int32))), .val (.int (x1 &&& (255 : Int32))), .val (.int (x2 &&& (255 : Int32))), .val (.int (p1 &&& (255 : Int32))), .val (.int (y2 &&& (255 : Int32))), .val (.int (Int32.ofNat i0)), .val (.ref bm), .val (.ref bb), .val (.int (0 : Int32))] [(.int (Int32.ofNat i0)), (.ref bb)])
          refine own_go (fun _ k => XS.aload X67.here hx rfl (hb hby at_195) rfl rfl k) ?_
          show own_Ends _ _ _ _ _ _ _ T67 (mkF m 197 #[.val (.int p0), .val (.int p1), .val (.int p2), .val (.int p3), .val (.int (2 : Int32)), .val (.int (p0 &&& (255 : Int32))), .val (.int (x1 &&& (255 : Int32))), .val (.int (x2 &&& (255 : Int32))), .val (.int (p1 &&& (255 : Int32))), .val (.int (y2 &&& (255 : Int32))), .val (.int (Int32.ofNat i0)), .val (.ref bm), .val (.ref bb), .val (.int (0 : Int32))] [(.ref bm), (.int (Int32.ofNat i0)), (.ref bb)])
          obtain ⟨v68, T68, L68, X68, hQ68, st68⟩ := own_callV X67 hx hZ hown (hw _ (List.mem_of_getElem? (i := 32) rfl)) (hw _ (List.mem_of_getElem? (i := 33) rfl)) (hw _ (List.mem_of_getElem? (i := 35) rfl)) (hw _ (List.mem_of_getElem? (i := 34) rfl)) (hw _ (List.mem_of_getElem? (i := 4) rfl)) (hw _ (List.mem_of_getElem? (i := 36) rfl)) (rm7 l Z a0 hw bb (Int32.ofNat i0) bm T62.heap ba kb k56 (fun j => if j = 1 then own_by (x1 &&& (255 : Int32)) else if j = 0 then own_by (p0 &&& (255 : Int32)) else (0 : Int32)) (own_mk (p1 &&& (255 : Int32)) (y2 &&& (255 : Int32))) i0 2 B62 G62 VB VM rfl hi1 (by decide)) e67 (g := (mkF m 197 #[.val (.int p0), .val (.int p1), .val (.int p2), .val (.int p3), .val (.int (2 : Int32)), .val (.int (p0 &&& (255 : Int32))), .val (.int (x1 &&& (255 : Int32))), .val (.int (x2 &&& (255 : Int32))), .val (.int (p1 &&& (255 : Int32))), .val (.int (y2 &&& (255 : Int32))), .val (.int (Int32.ofNat i0)), .val (.ref bm), .val (.ref bb), .val (.int (0 : Int32))] [(.ref bm), (.int (Int32.ofNat i0)), (.ref bb)])) rfl (by rw [hml]; rfl) (a := bb) (argsL := [(.int (Int32.ofNat i0)), (.ref bm)]) (rest := []) (E_bb_62) (lenOf pd_3 rfl) rfl rfl (W := 0) (by show 2 * 0 + _ ≤ _; exact Nat.le_of_eq rfl) (hb hby at_197) (by decide) (by decide) (by decide) (by decide) (by decide)
          obtain ⟨rfl, rfl, e68⟩ := hQ68
          refine own_go st68 ?_
          have N68 := Fr.app N67 (Fr.nil _)
          show own_Ends _ _ _ _ _ _ _ T68 (mkF m 200 #[.val (.int p0), .val (.int p1), .val (.int p2), .val (.int p3), .val (.int (2 : Int32)), .val (.int (p0 &&& (255 : Int32))), .val (.int (x1 &&& (255 : Int32))), .val (.int (x2 &&& (255 : Int32))), .val (.int (p1 &&& (255 : Int32))), .val (.int (y2 &&& (255 : Int32))), .val (.int (Int32.ofNat i0)), .val (.ref bm), .val (.ref bb), .val (.int (0 : Int32))] [(.int (own_hol (own_mk (p1 &&& (255 : Int32)) (y2 &&& (255 : Int32))) (fun j => if j = 1 then own_by (x1 &&& (255 : Int32)) else if j = 0 then own_by (p0 &&& (255 : Int32)) else (0 : Int32)) i0 (2 - i0)))])
          refine own_go (fun _ k => XS.iload X68.here hx rfl (hb hby at_200) rfl k) ?_
          show own_Ends _ _ _ _ _ _ _ T68 (mkF m 202 #[.val (.int p0), .val (.int p1), .val (.int p2), .val (.int p3), .val (.int (2 : Int32)), .val (.int (p0 &&& (255 : Int32))), .val (.int (x1 &&& (255 : Int32))), .val (.int (x2 &&& (255 : Int32))), .val (.int (p1 &&& (255 : Int32))), .val (.int (y2 &&& (255 : Int32))), .val (.int (Int32.ofNat i0)), .val (.ref bm), .val (.ref bb), .val (.int (0 : Int32))] [(.int (0 : Int32)), (.int (own_hol (own_mk (p1 &&& (255 : Int32)) (y2 &&& (255 : Int32))) (fun j => if j = 1 then own_by (x1 &&& (255 : Int32)) else if j = 0 then own_by (p0 &&& (255 : Int32)) else (0 : Int32)) i0 (2 - i0)))])
          refine own_go (fun _ k => XS.icmpNo X68.here hx rfl (hb hby at_202) rfl (teq (own_fin2 p0 x1 x2 p1 y2 i0 hi1 0 (by rw [own_exp, if_pos t0, if_pos t1, if_pos t2]))).2 k) ?_
          show own_Ends _ _ _ _ _ _ _ T68 (mkF m 205 #[.val (.int p0), .val (.int p1), .val (.int p2), .val (.int p3), .val (.int (2 : Int32)), .val (.int (p0 &&& (255 : Int32))), .val (.int (x1 &&& (255 : Int32))), .val (.int (x2 &&& (255 : Int32))), .val (.int (p1 &&& (255 : Int32))), .val (.int (y2 &&& (255 : Int32))), .val (.int (Int32.ofNat i0)), .val (.ref bm), .val (.ref bb), .val (.int (0 : Int32))] [])
          refine own_go (fun _ k => XS.iconst X68.here hx rfl (hb hby at_205) k) ?_
          show own_Ends _ _ _ _ _ _ _ T68 (mkF m 206 #[.val (.int p0), .val (.int p1), .val (.int p2), .val (.int p3), .val (.int (2 : Int32)), .val (.int (p0 &&& (255 : Int32))), .val (.int (x1 &&& (255 : Int32))), .val (.int (x2 &&& (255 : Int32))), .val (.int (p1 &&& (255 : Int32))), .val (.int (y2 &&& (255 : Int32))), .val (.int (Int32.ofNat i0)), .val (.ref bm), .val (.ref bb), .val (.int (0 : Int32))] [(.int (1 : Int32))])
          refine own_go (fun _ k => XS.goto X68.here hx rfl (pc0 := 206) (pc' := 210) rfl (hb hby at_206) (by decide) (by decide) k) ?_
          show own_Ends _ _ _ _ _ _ _ T68 (mkF m 210 #[.val (.int p0), .val (.int p1), .val (.int p2), .val (.int p3), .val (.int (2 : Int32)), .val (.int (p0 &&& (255 : Int32))), .val (.int (x1 &&& (255 : Int32))), .val (.int (x2 &&& (255 : Int32))), .val (.int (p1 &&& (255 : Int32))), .val (.int (y2 &&& (255 : Int32))), .val (.int (Int32.ofNat i0)), .val (.ref bm), .val (.ref bb), .val (.int (0 : Int32))] [(.int (1 : Int32))])
          exact own_retZ X68 hx hlk hret (by decide) (hb hby at_210) (by decide) (by decide) ⟨rfl, N68⟩
        · refine own_go (fun _ k => XS.ifNo X67.here hx rfl (hb hby at_181) rfl ((if0 _ _).trans (feq t2).1) k) ?_
          show own_Ends _ _ _ _ _ _ _ T67 (mkF m 184 #[.val (.int p0), .val (.int p1), .val (.int p2), .val (.int p3), .val (.int (2 : Int32)), .val (.int (p0 &&& (255 : Int32))), .val (.int (x1 &&& (255 : Int32))), .val (.int (x2 &&& (255 : Int32))), .val (.int (p1 &&& (255 : Int32))), .val (.int (y2 &&& (255 : Int32))), .val (.int (Int32.ofNat i0)), .val (.ref bm), .val (.ref bb), .unset] [])
          refine own_go (fun _ k => XS.iconst X67.here hx rfl (hb hby at_184) k) ?_
          show own_Ends _ _ _ _ _ _ _ T67 (mkF m 185 #[.val (.int p0), .val (.int p1), .val (.int p2), .val (.int p3), .val (.int (2 : Int32)), .val (.int (p0 &&& (255 : Int32))), .val (.int (x1 &&& (255 : Int32))), .val (.int (x2 &&& (255 : Int32))), .val (.int (p1 &&& (255 : Int32))), .val (.int (y2 &&& (255 : Int32))), .val (.int (Int32.ofNat i0)), .val (.ref bm), .val (.ref bb), .unset] [(.int (1 : Int32))])
          refine own_go (fun _ k => XS.goto X67.here hx rfl (pc0 := 185) (pc' := 189) rfl (hb hby at_185) (by decide) (by decide) k) ?_
          show own_Ends _ _ _ _ _ _ _ T67 (mkF m 189 #[.val (.int p0), .val (.int p1), .val (.int p2), .val (.int p3), .val (.int (2 : Int32)), .val (.int (p0 &&& (255 : Int32))), .val (.int (x1 &&& (255 : Int32))), .val (.int (x2 &&& (255 : Int32))), .val (.int (p1 &&& (255 : Int32))), .val (.int (y2 &&& (255 : Int32))), .val (.int (Int32.ofNat i0)), .val (.ref bm), .val (.ref bb), .unset] [(.int (1 : Int32))])
          refine own_go (fun _ k => XS.istore X67.here hx rfl (hb hby at_189) rfl (l' := #[.val (.int p0), .val (.int p1), .val (.int p2), .val (.int p3), .val (.int (2 : Int32)), .val (.int (p0 &&& (255 : Int32))), .val (.int (x1 &&& (255 : Int32))), .val (.int (x2 &&& (255 : Int32))), .val (.int (p1 &&& (255 : Int32))), .val (.int (y2 &&& (255 : Int32))), .val (.int (Int32.ofNat i0)), .val (.ref bm), .val (.ref bb), .val (.int (1 : Int32))]) rfl k) ?_
          show own_Ends _ _ _ _ _ _ _ T67 (mkF m 191 #[.val (.int p0), .val (.int p1), .val (.int p2), .val (.int p3), .val (.int (2 : Int32)), .val (.int (p0 &&& (255 : Int32))), .val (.int (x1 &&& (255 : Int32))), .val (.int (x2 &&& (255 : Int32))), .val (.int (p1 &&& (255 : Int32))), .val (.int (y2 &&& (255 : Int32))), .val (.int (Int32.ofNat i0)), .val (.ref bm), .val (.ref bb), .val (.int (1 : Int32))] [])
          refine own_go (fun _ k => XS.aload X67.here hx rfl (hb hby at_191) rfl rfl k) ?_
          show own_Ends _ _ _ _ _ _ _ T67 (mkF m 193 #[.val (.int p0), .val (.int p1), .val (.int p2), .val (.int p3), .val (.int (2 : Int32)), .val (.int (p0 &&& (255 : Int32))), .val (.int (x1 &&& (255 : Int32))), .val (.int (x2 &&& (255 : Int32))), .val (.int (p1 &&& (255 : Int32))), .val (.int (y2 &&& (255 : Int32))), .val (.int (Int32.ofNat i0)), .val (.ref bm), .val (.ref bb), .val (.int (1 : Int32))] [(.ref bb)])
          refine own_go (fun _ k => XS.iload X67.here hx rfl (hb hby at_193) rfl k) ?_
          show own_Ends _ _ _ _ _ _ _ T67 (mkF m 195 #[.val (.int p0), .val (.int p1), .val (.int p2), .val (.int p3), .val (.int (2 : Int32)), .val (.int (p0 &&& (255 : Int32))), .val (.int (x1 &&& (255 : Int32))), .val (.int (x2 &&& (255 : Int32))), .val (.int (p1 &&& (255 : Int32))), .val (.int (y2 &&& (255 : Int32))), .val (.int (Int32.ofNat i0)), .val (.ref bm), .val (.ref bb), .val (.int (1 : Int32))] [(.int (Int32.ofNat i0)), (.ref bb)])
          refine own_go (fun _ k => XS.aload X67.here hx rfl (hb hby at_195) rfl rfl k) ?_
          show own_Ends _ _ _ _ _ _ _ T67 (mkF m 197 #[.val (.int p0), .val (.int p1), .val (.int p2), .val (.int p3), .val (.int (2 : Int32)), .val (.int (p0 &&& (255 : Int32))), .val (.int (x1 &&& (255 : Int32))), .val (.int (x2 &&& (255 : Int32))), .val (.int (p1 &&& (255 : Int32))), .val (.int (y2 &&& (255 : Int32))), .val (.int (Int32.ofNat i0)), .val (.ref bm), .val (.ref bb), .val (.int (1 : Int32))] [(.ref bm), (.int (Int32.ofNat i0)), (.ref bb)])
          obtain ⟨v69, T69, L69, X69, hQ69, st69⟩ := own_callV X67 hx hZ hown (hw _ (List.mem_of_getElem? (i := 32) rfl)) (hw _ (List.mem_of_getElem? (i := 33) rfl)) (hw _ (List.mem_of_getElem? (i := 35) rfl)) (hw _ (List.mem_of_getElem? (i := 34) rfl)) (hw _ (List.mem_of_getElem? (i := 4) rfl)) (hw _ (List.mem_of_getElem? (i := 36) rfl)) (rm7 l Z a0 hw bb (Int32.ofNat i0) bm T62.heap ba kb k56 (fun j => if j = 1 then own_by (x1 &&& (255 : Int32)) else if j = 0 then own_by (p0 &&& (255 : Int32)) else (0 : Int32)) (own_mk (p1 &&& (255 : Int32)) (y2 &&& (255 : Int32))) i0 2 B62 G62 VB VM rfl hi1 (by decide)) e67 (g := (mkF m 197 #[.val (.int p0), .val (.int p1), .val (.int p2), .val (.int p3), .val (.int (2 : Int32)), .val (.int (p0 &&& (255 : Int32))), .val (.int (x1 &&& (255 : Int32))), .val (.int (x2 &&& (255 : Int32))), .val (.int (p1 &&& (255 : Int32))), .val (.int (y2 &&& (255 : Int32))), .val (.int (Int32.ofNat i0)), .val (.ref bm), .val (.ref bb), .val (.int (1 : Int32))] [(.ref bm), (.int (Int32.ofNat i0)), (.ref bb)])) rfl (by rw [hml]; rfl) (a := bb) (argsL := [(.int (Int32.ofNat i0)), (.ref bm)]) (rest := []) (E_bb_62) (lenOf pd_3 rfl) rfl rfl (W := 0) (by show 2 * 0 + _ ≤ _; exact Nat.le_of_eq rfl) (hb hby at_197) (by decide) (by decide) (by decide) (by decide) (by decide)
          obtain ⟨rfl, rfl, e69⟩ := hQ69
          refine own_go st69 ?_
          have N69 := Fr.app N67 (Fr.nil _)
          show own_Ends _ _ _ _ _ _ _ T69 (mkF m 200 #[.val (.int p0), .val (.int p1), .val (.int p2), .val (.int p3), .val (.int (2 : Int32)), .val (.int (p0 &&& (255 : Int32))), .val (.int (x1 &&& (255 : Int32))), .val (.int (x2 &&& (255 : Int32))), .val (.int (p1 &&& (255 : Int32))), .val (.int (y2 &&& (255 : Int32))), .val (.int (Int32.ofNat i0)), .val (.ref bm), .val (.ref bb), .val (.int (1 : Int32))] [(.int (own_hol (own_mk (p1 &&& (255 : Int32)) (y2 &&& (255 : Int32))) (fun j => if j = 1 then own_by (x1 &&& (255 : Int32)) else if j = 0 then own_by (p0 &&& (255 : Int32)) else (0 : Int32)) i0 (2 - i0)))])
          refine own_go (fun _ k => XS.iload X69.here hx rfl (hb hby at_200) rfl k) ?_
          show own_Ends _ _ _ _ _ _ _ T69 (mkF m 202 #[.val (.int p0), .val (.int p1), .val (.int p2), .val (.int p3), .val (.int (2 : Int32)), .val (.int (p0 &&& (255 : Int32))), .val (.int (x1 &&& (255 : Int32))), .val (.int (x2 &&& (255 : Int32))), .val (.int (p1 &&& (255 : Int32))), .val (.int (y2 &&& (255 : Int32))), .val (.int (Int32.ofNat i0)), .val (.ref bm), .val (.ref bb), .val (.int (1 : Int32))] [(.int (1 : Int32)), (.int (own_hol (own_mk (p1 &&& (255 : Int32)) (y2 &&& (255 : Int32))) (fun j => if j = 1 then own_by (x1 &&& (255 : Int32)) else if j = 0 then own_by (p0 &&& (255 : Int32)) else (0 : Int32)) i0 (2 - i0)))])
          refine own_go (fun _ k => XS.icmpNo X69.here hx rfl (hb hby at_202) rfl (teq (own_fin2 p0 x1 x2 p1 y2 i0 hi1 1 (by rw [own_exp, if_pos t0, if_pos t1, if_neg t2]))).2 k) ?_
          show own_Ends _ _ _ _ _ _ _ T69 (mkF m 205 #[.val (.int p0), .val (.int p1), .val (.int p2), .val (.int p3), .val (.int (2 : Int32)), .val (.int (p0 &&& (255 : Int32))), .val (.int (x1 &&& (255 : Int32))), .val (.int (x2 &&& (255 : Int32))), .val (.int (p1 &&& (255 : Int32))), .val (.int (y2 &&& (255 : Int32))), .val (.int (Int32.ofNat i0)), .val (.ref bm), .val (.ref bb), .val (.int (1 : Int32))] [])
          refine own_go (fun _ k => XS.iconst X69.here hx rfl (hb hby at_205) k) ?_
          show own_Ends _ _ _ _ _ _ _ T69 (mkF m 206 #[.val (.int p0), .val (.int p1), .val (.int p2), .val (.int p3), .val (.int (2 : Int32)), .val (.int (p0 &&& (255 : Int32))), .val (.int (x1 &&& (255 : Int32))), .val (.int (x2 &&& (255 : Int32))), .val (.int (p1 &&& (255 : Int32))), .val (.int (y2 &&& (255 : Int32))), .val (.int (Int32.ofNat i0)), .val (.ref bm), .val (.ref bb), .val (.int (1 : Int32))] [(.int (1 : Int32))])
          refine own_go (fun _ k => XS.goto X69.here hx rfl (pc0 := 206) (pc' := 210) rfl (hb hby at_206) (by decide) (by decide) k) ?_
          show own_Ends _ _ _ _ _ _ _ T69 (mkF m 210 #[.val (.int p0), .val (.int p1), .val (.int p2), .val (.int p3), .val (.int (2 : Int32)), .val (.int (p0 &&& (255 : Int32))), .val (.int (x1 &&& (255 : Int32))), .val (.int (x2 &&& (255 : Int32))), .val (.int (p1 &&& (255 : Int32))), .val (.int (y2 &&& (255 : Int32))), .val (.int (Int32.ofNat i0)), .val (.ref bm), .val (.ref bb), .val (.int (1 : Int32))] [(.int (1 : Int32))])
          exact own_retZ X69 hx hlk hret (by decide) (hb hby at_210) (by decide) (by decide) ⟨rfl, N69⟩
      · refine own_go (fun _ k => XS.ifYes X65.here hx rfl (pc0 := 164) (pc' := 184) rfl (hb hby at_164) rfl ((if0 _ _).trans (feq t1).2) (by decide) (by decide) k) ?_
        show own_Ends _ _ _ _ _ _ _ T65 (mkF m 184 #[.val (.int p0), .val (.int p1), .val (.int p2), .val (.int p3), .val (.int (2 : Int32)), .val (.int (p0 &&& (255 : Int32))), .val (.int (x1 &&& (255 : Int32))), .val (.int (x2 &&& (255 : Int32))), .val (.int (p1 &&& (255 : Int32))), .val (.int (y2 &&& (255 : Int32))), .val (.int (Int32.ofNat i0)), .val (.ref bm), .val (.ref bb), .unset] [])
        refine own_go (fun _ k => XS.iconst X65.here hx rfl (hb hby at_184) k) ?_
        show own_Ends _ _ _ _ _ _ _ T65 (mkF m 185 #[.val (.int p0), .val (.int p1), .val (.int p2), .val (.int p3), .val (.int (2 : Int32)), .val (.int (p0 &&& (255 : Int32))), .val (.int (x1 &&& (255 : Int32))), .val (.int (x2 &&& (255 : Int32))), .val (.int (p1 &&& (255 : Int32))), .val (.int (y2 &&& (255 : Int32))), .val (.int (Int32.ofNat i0)), .val (.ref bm), .val (.ref bb), .unset] [(.int (1 : Int32))])
        refine own_go (fun _ k => XS.goto X65.here hx rfl (pc0 := 185) (pc' := 189) rfl (hb hby at_185) (by decide) (by decide) k) ?_
        show own_Ends _ _ _ _ _ _ _ T65 (mkF m 189 #[.val (.int p0), .val (.int p1), .val (.int p2), .val (.int p3), .val (.int (2 : Int32)), .val (.int (p0 &&& (255 : Int32))), .val (.int (x1 &&& (255 : Int32))), .val (.int (x2 &&& (255 : Int32))), .val (.int (p1 &&& (255 : Int32))), .val (.int (y2 &&& (255 : Int32))), .val (.int (Int32.ofNat i0)), .val (.ref bm), .val (.ref bb), .unset] [(.int (1 : Int32))])
        refine own_go (fun _ k => XS.istore X65.here hx rfl (hb hby at_189) rfl (l' := #[.val (.int p0), .val (.int p1), .val (.int p2), .val (.int p3), .val (.int (2 : Int32)), .val (.int (p0 &&& (255 : Int32))), .val (.int (x1 &&& (255 : Int32))), .val (.int (x2 &&& (255 : Int32))), .val (.int (p1 &&& (255 : Int32))), .val (.int (y2 &&& (255 : Int32))), .val (.int (Int32.ofNat i0)), .val (.ref bm), .val (.ref bb), .val (.int (1 : Int32))]) rfl k) ?_
        show own_Ends _ _ _ _ _ _ _ T65 (mkF m 191 #[.val (.int p0), .val (.int p1), .val (.int p2), .val (.int p3), .val (.int (2 : Int32)), .val (.int (p0 &&& (255 : Int32))), .val (.int (x1 &&& (255 : Int32))), .val (.int (x2 &&& (255 : Int32))), .val (.int (p1 &&& (255 : Int32))), .val (.int (y2 &&& (255 : Int32))), .val (.int (Int32.ofNat i0)), .val (.ref bm), .val (.ref bb), .val (.int (1 : Int32))] [])
        refine own_go (fun _ k => XS.aload X65.here hx rfl (hb hby at_191) rfl rfl k) ?_
        show own_Ends _ _ _ _ _ _ _ T65 (mkF m 193 #[.val (.int p0), .val (.int p1), .val (.int p2), .val (.int p3), .val (.int (2 : Int32)), .val (.int (p0 &&& (255 : Int32))), .val (.int (x1 &&& (255 : Int32))), .val (.int (x2 &&& (255 : Int32))), .val (.int (p1 &&& (255 : Int32))), .val (.int (y2 &&& (255 : Int32))), .val (.int (Int32.ofNat i0)), .val (.ref bm), .val (.ref bb), .val (.int (1 : Int32))] [(.ref bb)])
        refine own_go (fun _ k => XS.iload X65.here hx rfl (hb hby at_193) rfl k) ?_
        show own_Ends _ _ _ _ _ _ _ T65 (mkF m 195 #[.val (.int p0), .val (.int p1), .val (.int p2), .val (.int p3), .val (.int (2 : Int32)), .val (.int (p0 &&& (255 : Int32))), .val (.int (x1 &&& (255 : Int32))), .val (.int (x2 &&& (255 : Int32))), .val (.int (p1 &&& (255 : Int32))), .val (.int (y2 &&& (255 : Int32))), .val (.int (Int32.ofNat i0)), .val (.ref bm), .val (.ref bb), .val (.int (1 : Int32))] [(.int (Int32.ofNat i0)), (.ref bb)])
        refine own_go (fun _ k => XS.aload X65.here hx rfl (hb hby at_195) rfl rfl k) ?_
        show own_Ends _ _ _ _ _ _ _ T65 (mkF m 197 #[.val (.int p0), .val (.int p1), .val (.int p2), .val (.int p3), .val (.int (2 : Int32)), .val (.int (p0 &&& (255 : Int32))), .val (.int (x1 &&& (255 : Int32))), .val (.int (x2 &&& (255 : Int32))), .val (.int (p1 &&& (255 : Int32))), .val (.int (y2 &&& (255 : Int32))), .val (.int (Int32.ofNat i0)), .val (.ref bm), .val (.ref bb), .val (.int (1 : Int32))] [(.ref bm), (.int (Int32.ofNat i0)), (.ref bb)])
        obtain ⟨v66, T66, L66, X66, hQ66, st66⟩ := own_callV X65 hx hZ hown (hw _ (List.mem_of_getElem? (i := 32) rfl)) (hw _ (List.mem_of_getElem? (i := 33) rfl)) (hw _ (List.mem_of_getElem? (i := 35) rfl)) (hw _ (List.mem_of_getElem? (i := 34) rfl)) (hw _ (List.mem_of_getElem? (i := 4) rfl)) (hw _ (List.mem_of_getElem? (i := 36) rfl)) (rm7 l Z a0 hw bb (Int32.ofNat i0) bm T62.heap ba kb k56 (fun j => if j = 1 then own_by (x1 &&& (255 : Int32)) else if j = 0 then own_by (p0 &&& (255 : Int32)) else (0 : Int32)) (own_mk (p1 &&& (255 : Int32)) (y2 &&& (255 : Int32))) i0 2 B62 G62 VB VM rfl hi1 (by decide)) e65 (g := (mkF m 197 #[.val (.int p0), .val (.int p1), .val (.int p2), .val (.int p3), .val (.int (2 : Int32)), .val (.int (p0 &&& (255 : Int32))), .val (.int (x1 &&& (255 : Int32))), .val (.int (x2 &&& (255 : Int32))), .val (.int (p1 &&& (255 : Int32))), .val (.int (y2 &&& (255 : Int32))), .val (.int (Int32.ofNat i0)), .val (.ref bm), .val (.ref bb), .val (.int (1 : Int32))] [(.ref bm), (.int (Int32.ofNat i0)), (.ref bb)])) rfl (by rw [hml]; rfl) (a := bb) (argsL := [(.int (Int32.ofNat i0)), (.ref bm)]) (rest := []) (E_bb_62) (lenOf pd_3 rfl) rfl rfl (W := 0) (by show 2 * 0 + _ ≤ _; exact Nat.le_of_eq rfl) (hb hby at_197) (by decide) (by decide) (by decide) (by decide) (by decide)
        obtain ⟨rfl, rfl, e66⟩ := hQ66
        refine own_go st66 ?_
        have N66 := Fr.app N65 (Fr.nil _)
        show own_Ends _ _ _ _ _ _ _ T66 (mkF m 200 #[.val (.int p0), .val (.int p1), .val (.int p2), .val (.int p3), .val (.int (2 : Int32)), .val (.int (p0 &&& (255 : Int32))), .val (.int (x1 &&& (255 : Int32))), .val (.int (x2 &&& (255 : Int32))), .val (.int (p1 &&& (255 : Int32))), .val (.int (y2 &&& (255 : Int32))), .val (.int (Int32.ofNat i0)), .val (.ref bm), .val (.ref bb), .val (.int (1 : Int32))] [(.int (own_hol (own_mk (p1 &&& (255 : Int32)) (y2 &&& (255 : Int32))) (fun j => if j = 1 then own_by (x1 &&& (255 : Int32)) else if j = 0 then own_by (p0 &&& (255 : Int32)) else (0 : Int32)) i0 (2 - i0)))])
        refine own_go (fun _ k => XS.iload X66.here hx rfl (hb hby at_200) rfl k) ?_
        show own_Ends _ _ _ _ _ _ _ T66 (mkF m 202 #[.val (.int p0), .val (.int p1), .val (.int p2), .val (.int p3), .val (.int (2 : Int32)), .val (.int (p0 &&& (255 : Int32))), .val (.int (x1 &&& (255 : Int32))), .val (.int (x2 &&& (255 : Int32))), .val (.int (p1 &&& (255 : Int32))), .val (.int (y2 &&& (255 : Int32))), .val (.int (Int32.ofNat i0)), .val (.ref bm), .val (.ref bb), .val (.int (1 : Int32))] [(.int (1 : Int32)), (.int (own_hol (own_mk (p1 &&& (255 : Int32)) (y2 &&& (255 : Int32))) (fun j => if j = 1 then own_by (x1 &&& (255 : Int32)) else if j = 0 then own_by (p0 &&& (255 : Int32)) else (0 : Int32)) i0 (2 - i0)))])
        refine own_go (fun _ k => XS.icmpNo X66.here hx rfl (hb hby at_202) rfl (teq (own_fin2 p0 x1 x2 p1 y2 i0 hi1 1 (by rw [own_exp, if_pos t0, if_neg t1]))).2 k) ?_
        show own_Ends _ _ _ _ _ _ _ T66 (mkF m 205 #[.val (.int p0), .val (.int p1), .val (.int p2), .val (.int p3), .val (.int (2 : Int32)), .val (.int (p0 &&& (255 : Int32))), .val (.int (x1 &&& (255 : Int32))), .val (.int (x2 &&& (255 : Int32))), .val (.int (p1 &&& (255 : Int32))), .val (.int (y2 &&& (255 : Int32))), .val (.int (Int32.ofNat i0)), .val (.ref bm), .val (.ref bb), .val (.int (1 : Int32))] [])
        refine own_go (fun _ k => XS.iconst X66.here hx rfl (hb hby at_205) k) ?_
        show own_Ends _ _ _ _ _ _ _ T66 (mkF m 206 #[.val (.int p0), .val (.int p1), .val (.int p2), .val (.int p3), .val (.int (2 : Int32)), .val (.int (p0 &&& (255 : Int32))), .val (.int (x1 &&& (255 : Int32))), .val (.int (x2 &&& (255 : Int32))), .val (.int (p1 &&& (255 : Int32))), .val (.int (y2 &&& (255 : Int32))), .val (.int (Int32.ofNat i0)), .val (.ref bm), .val (.ref bb), .val (.int (1 : Int32))] [(.int (1 : Int32))])
        refine own_go (fun _ k => XS.goto X66.here hx rfl (pc0 := 206) (pc' := 210) rfl (hb hby at_206) (by decide) (by decide) k) ?_
        show own_Ends _ _ _ _ _ _ _ T66 (mkF m 210 #[.val (.int p0), .val (.int p1), .val (.int p2), .val (.int p3), .val (.int (2 : Int32)), .val (.int (p0 &&& (255 : Int32))), .val (.int (x1 &&& (255 : Int32))), .val (.int (x2 &&& (255 : Int32))), .val (.int (p1 &&& (255 : Int32))), .val (.int (y2 &&& (255 : Int32))), .val (.int (Int32.ofNat i0)), .val (.ref bm), .val (.ref bb), .val (.int (1 : Int32))] [(.int (1 : Int32))])
        exact own_retZ X66 hx hlk hret (by decide) (hb hby at_210) (by decide) (by decide) ⟨rfl, N66⟩
    · refine own_go (fun _ k => XS.ifYes X63.here hx rfl (pc0 := 147) (pc' := 184) rfl (hb hby at_147) rfl ((if0 _ _).trans (feq t0).2) (by decide) (by decide) k) ?_
      show own_Ends _ _ _ _ _ _ _ T63 (mkF m 184 #[.val (.int p0), .val (.int p1), .val (.int p2), .val (.int p3), .val (.int (2 : Int32)), .val (.int (p0 &&& (255 : Int32))), .val (.int (x1 &&& (255 : Int32))), .val (.int (x2 &&& (255 : Int32))), .val (.int (p1 &&& (255 : Int32))), .val (.int (y2 &&& (255 : Int32))), .val (.int (Int32.ofNat i0)), .val (.ref bm), .val (.ref bb), .unset] [])
      refine own_go (fun _ k => XS.iconst X63.here hx rfl (hb hby at_184) k) ?_
      show own_Ends _ _ _ _ _ _ _ T63 (mkF m 185 #[.val (.int p0), .val (.int p1), .val (.int p2), .val (.int p3), .val (.int (2 : Int32)), .val (.int (p0 &&& (255 : Int32))), .val (.int (x1 &&& (255 : Int32))), .val (.int (x2 &&& (255 : Int32))), .val (.int (p1 &&& (255 : Int32))), .val (.int (y2 &&& (255 : Int32))), .val (.int (Int32.ofNat i0)), .val (.ref bm), .val (.ref bb), .unset] [(.int (1 : Int32))])
      refine own_go (fun _ k => XS.goto X63.here hx rfl (pc0 := 185) (pc' := 189) rfl (hb hby at_185) (by decide) (by decide) k) ?_
      show own_Ends _ _ _ _ _ _ _ T63 (mkF m 189 #[.val (.int p0), .val (.int p1), .val (.int p2), .val (.int p3), .val (.int (2 : Int32)), .val (.int (p0 &&& (255 : Int32))), .val (.int (x1 &&& (255 : Int32))), .val (.int (x2 &&& (255 : Int32))), .val (.int (p1 &&& (255 : Int32))), .val (.int (y2 &&& (255 : Int32))), .val (.int (Int32.ofNat i0)), .val (.ref bm), .val (.ref bb), .unset] [(.int (1 : Int32))])
      refine own_go (fun _ k => XS.istore X63.here hx rfl (hb hby at_189) rfl (l' := #[.val (.int p0), .val (.int p1), .val (.int p2), .val (.int p3), .val (.int (2 : Int32)), .val (.int (p0 &&& (255 : Int32))), .val (.int (x1 &&& (255 : Int32))), .val (.int (x2 &&& (255 : Int32))), .val (.int (p1 &&& (255 : Int32))), .val (.int (y2 &&& (255 : Int32))), .val (.int (Int32.ofNat i0)), .val (.ref bm), .val (.ref bb), .val (.int (1 : Int32))]) rfl k) ?_
      show own_Ends _ _ _ _ _ _ _ T63 (mkF m 191 #[.val (.int p0), .val (.int p1), .val (.int p2), .val (.int p3), .val (.int (2 : Int32)), .val (.int (p0 &&& (255 : Int32))), .val (.int (x1 &&& (255 : Int32))), .val (.int (x2 &&& (255 : Int32))), .val (.int (p1 &&& (255 : Int32))), .val (.int (y2 &&& (255 : Int32))), .val (.int (Int32.ofNat i0)), .val (.ref bm), .val (.ref bb), .val (.int (1 : Int32))] [])
      refine own_go (fun _ k => XS.aload X63.here hx rfl (hb hby at_191) rfl rfl k) ?_
      show own_Ends _ _ _ _ _ _ _ T63 (mkF m 193 #[.val (.int p0), .val (.int p1), .val (.int p2), .val (.int p3), .val (.int (2 : Int32)), .val (.int (p0 &&& (255 : Int32))), .val (.int (x1 &&& (255 : Int32))), .val (.int (x2 &&& (255 : Int32))), .val (.int (p1 &&& (255 : Int32))), .val (.int (y2 &&& (255 : Int32))), .val (.int (Int32.ofNat i0)), .val (.ref bm), .val (.ref bb), .val (.int (1 : Int32))] [(.ref bb)])
      refine own_go (fun _ k => XS.iload X63.here hx rfl (hb hby at_193) rfl k) ?_
      show own_Ends _ _ _ _ _ _ _ T63 (mkF m 195 #[.val (.int p0), .val (.int p1), .val (.int p2), .val (.int p3), .val (.int (2 : Int32)), .val (.int (p0 &&& (255 : Int32))), .val (.int (x1 &&& (255 : Int32))), .val (.int (x2 &&& (255 : Int32))), .val (.int (p1 &&& (255 : Int32))), .val (.int (y2 &&& (255 : Int32))), .val (.int (Int32.ofNat i0)), .val (.ref bm), .val (.ref bb), .val (.int (1 : Int32))] [(.int (Int32.ofNat i0)), (.ref bb)])
      refine own_go (fun _ k => XS.aload X63.here hx rfl (hb hby at_195) rfl rfl k) ?_
      show own_Ends _ _ _ _ _ _ _ T63 (mkF m 197 #[.val (.int p0), .val (.int p1), .val (.int p2), .val (.int p3), .val (.int (2 : Int32)), .val (.int (p0 &&& (255 : Int32))), .val (.int (x1 &&& (255 : Int32))), .val (.int (x2 &&& (255 : Int32))), .val (.int (p1 &&& (255 : Int32))), .val (.int (y2 &&& (255 : Int32))), .val (.int (Int32.ofNat i0)), .val (.ref bm), .val (.ref bb), .val (.int (1 : Int32))] [(.ref bm), (.int (Int32.ofNat i0)), (.ref bb)])
      obtain ⟨v64, T64, L64, X64, hQ64, st64⟩ := own_callV X63 hx hZ hown (hw _ (List.mem_of_getElem? (i := 32) rfl)) (hw _ (List.mem_of_getElem? (i := 33) rfl)) (hw _ (List.mem_of_getElem? (i := 35) rfl)) (hw _ (List.mem_of_getElem? (i := 34) rfl)) (hw _ (List.mem_of_getElem? (i := 4) rfl)) (hw _ (List.mem_of_getElem? (i := 36) rfl)) (rm7 l Z a0 hw bb (Int32.ofNat i0) bm T62.heap ba kb k56 (fun j => if j = 1 then own_by (x1 &&& (255 : Int32)) else if j = 0 then own_by (p0 &&& (255 : Int32)) else (0 : Int32)) (own_mk (p1 &&& (255 : Int32)) (y2 &&& (255 : Int32))) i0 2 B62 G62 VB VM rfl hi1 (by decide)) e63 (g := (mkF m 197 #[.val (.int p0), .val (.int p1), .val (.int p2), .val (.int p3), .val (.int (2 : Int32)), .val (.int (p0 &&& (255 : Int32))), .val (.int (x1 &&& (255 : Int32))), .val (.int (x2 &&& (255 : Int32))), .val (.int (p1 &&& (255 : Int32))), .val (.int (y2 &&& (255 : Int32))), .val (.int (Int32.ofNat i0)), .val (.ref bm), .val (.ref bb), .val (.int (1 : Int32))] [(.ref bm), (.int (Int32.ofNat i0)), (.ref bb)])) rfl (by rw [hml]; rfl) (a := bb) (argsL := [(.int (Int32.ofNat i0)), (.ref bm)]) (rest := []) (E_bb_62) (lenOf pd_3 rfl) rfl rfl (W := 0) (by show 2 * 0 + _ ≤ _; exact Nat.le_of_eq rfl) (hb hby at_197) (by decide) (by decide) (by decide) (by decide) (by decide)
      obtain ⟨rfl, rfl, e64⟩ := hQ64
      refine own_go st64 ?_
      have N64 := Fr.app N63 (Fr.nil _)
      show own_Ends _ _ _ _ _ _ _ T64 (mkF m 200 #[.val (.int p0), .val (.int p1), .val (.int p2), .val (.int p3), .val (.int (2 : Int32)), .val (.int (p0 &&& (255 : Int32))), .val (.int (x1 &&& (255 : Int32))), .val (.int (x2 &&& (255 : Int32))), .val (.int (p1 &&& (255 : Int32))), .val (.int (y2 &&& (255 : Int32))), .val (.int (Int32.ofNat i0)), .val (.ref bm), .val (.ref bb), .val (.int (1 : Int32))] [(.int (own_hol (own_mk (p1 &&& (255 : Int32)) (y2 &&& (255 : Int32))) (fun j => if j = 1 then own_by (x1 &&& (255 : Int32)) else if j = 0 then own_by (p0 &&& (255 : Int32)) else (0 : Int32)) i0 (2 - i0)))])
      refine own_go (fun _ k => XS.iload X64.here hx rfl (hb hby at_200) rfl k) ?_
      show own_Ends _ _ _ _ _ _ _ T64 (mkF m 202 #[.val (.int p0), .val (.int p1), .val (.int p2), .val (.int p3), .val (.int (2 : Int32)), .val (.int (p0 &&& (255 : Int32))), .val (.int (x1 &&& (255 : Int32))), .val (.int (x2 &&& (255 : Int32))), .val (.int (p1 &&& (255 : Int32))), .val (.int (y2 &&& (255 : Int32))), .val (.int (Int32.ofNat i0)), .val (.ref bm), .val (.ref bb), .val (.int (1 : Int32))] [(.int (1 : Int32)), (.int (own_hol (own_mk (p1 &&& (255 : Int32)) (y2 &&& (255 : Int32))) (fun j => if j = 1 then own_by (x1 &&& (255 : Int32)) else if j = 0 then own_by (p0 &&& (255 : Int32)) else (0 : Int32)) i0 (2 - i0)))])
      refine own_go (fun _ k => XS.icmpNo X64.here hx rfl (hb hby at_202) rfl (teq (own_fin2 p0 x1 x2 p1 y2 i0 hi1 1 (by rw [own_exp, if_neg t0]))).2 k) ?_
      show own_Ends _ _ _ _ _ _ _ T64 (mkF m 205 #[.val (.int p0), .val (.int p1), .val (.int p2), .val (.int p3), .val (.int (2 : Int32)), .val (.int (p0 &&& (255 : Int32))), .val (.int (x1 &&& (255 : Int32))), .val (.int (x2 &&& (255 : Int32))), .val (.int (p1 &&& (255 : Int32))), .val (.int (y2 &&& (255 : Int32))), .val (.int (Int32.ofNat i0)), .val (.ref bm), .val (.ref bb), .val (.int (1 : Int32))] [])
      refine own_go (fun _ k => XS.iconst X64.here hx rfl (hb hby at_205) k) ?_
      show own_Ends _ _ _ _ _ _ _ T64 (mkF m 206 #[.val (.int p0), .val (.int p1), .val (.int p2), .val (.int p3), .val (.int (2 : Int32)), .val (.int (p0 &&& (255 : Int32))), .val (.int (x1 &&& (255 : Int32))), .val (.int (x2 &&& (255 : Int32))), .val (.int (p1 &&& (255 : Int32))), .val (.int (y2 &&& (255 : Int32))), .val (.int (Int32.ofNat i0)), .val (.ref bm), .val (.ref bb), .val (.int (1 : Int32))] [(.int (1 : Int32))])
      refine own_go (fun _ k => XS.goto X64.here hx rfl (pc0 := 206) (pc' := 210) rfl (hb hby at_206) (by decide) (by decide) k) ?_
      show own_Ends _ _ _ _ _ _ _ T64 (mkF m 210 #[.val (.int p0), .val (.int p1), .val (.int p2), .val (.int p3), .val (.int (2 : Int32)), .val (.int (p0 &&& (255 : Int32))), .val (.int (x1 &&& (255 : Int32))), .val (.int (x2 &&& (255 : Int32))), .val (.int (p1 &&& (255 : Int32))), .val (.int (y2 &&& (255 : Int32))), .val (.int (Int32.ofNat i0)), .val (.ref bm), .val (.ref bb), .val (.int (1 : Int32))] [(.int (1 : Int32))])
      exact own_retZ X64 hx hlk hret (by decide) (hb hby at_210) (by decide) (by decide) ⟨rfl, N64⟩
  · rw [show (p2 &&& (3 : Int32)) = (3 : Int32) from hn]
    show own_Ends _ _ _ _ _ _ _ s₁ (mkF m 57 #[.val (.int p0), .val (.int p1), .val (.int p2), .val (.int p3), .val (.int (3 : Int32)), .val (.int (p0 &&& (255 : Int32))), .val (.int (x1 &&& (255 : Int32))), .val (.int (x2 &&& (255 : Int32))), .val (.int (p1 &&& (255 : Int32))), .val (.int (y2 &&& (255 : Int32))), .unset, .unset, .unset, .unset] [(.int ((3 : Int32) + (1 : Int32))), (.int (p3 &&& (2147483647 : Int32)))])
    refine own_go (fun _ k => iremM X0 hx rfl (hb hby at_57) rfl (by decide) k) ?_
    show own_Ends _ _ _ _ _ _ _ s₁ (mkF m 58 #[.val (.int p0), .val (.int p1), .val (.int p2), .val (.int p3), .val (.int (3 : Int32)), .val (.int (p0 &&& (255 : Int32))), .val (.int (x1 &&& (255 : Int32))), .val (.int (x2 &&& (255 : Int32))), .val (.int (p1 &&& (255 : Int32))), .val (.int (y2 &&& (255 : Int32))), .unset, .unset, .unset, .unset] [(.int ((p3 &&& (2147483647 : Int32)) % ((3 : Int32) + (1 : Int32))))])
    obtain ⟨i0, hi0, hfr⟩ := own_from p3 ((3 : Int32) + (1 : Int32)) (by decide)
    have hd1 : ((3 : Int32) + (1 : Int32)).toInt = 4 := by decide
    have hi1 : i0 ≤ 3 := by omega
    rw [show ((p3 &&& (2147483647 : Int32)) % ((3 : Int32) + (1 : Int32))) = (Int32.ofNat i0) from hfr]
    show own_Ends _ _ _ _ _ _ _ s₁ (mkF m 58 #[.val (.int p0), .val (.int p1), .val (.int p2), .val (.int p3), .val (.int (3 : Int32)), .val (.int (p0 &&& (255 : Int32))), .val (.int (x1 &&& (255 : Int32))), .val (.int (x2 &&& (255 : Int32))), .val (.int (p1 &&& (255 : Int32))), .val (.int (y2 &&& (255 : Int32))), .unset, .unset, .unset, .unset] [(.int (Int32.ofNat i0))])
    refine own_go (fun _ k => XS.istore X0.here hx rfl (hb hby at_58) rfl (l' := #[.val (.int p0), .val (.int p1), .val (.int p2), .val (.int p3), .val (.int (3 : Int32)), .val (.int (p0 &&& (255 : Int32))), .val (.int (x1 &&& (255 : Int32))), .val (.int (x2 &&& (255 : Int32))), .val (.int (p1 &&& (255 : Int32))), .val (.int (y2 &&& (255 : Int32))), .val (.int (Int32.ofNat i0)), .unset, .unset, .unset]) rfl k) ?_
    show own_Ends _ _ _ _ _ _ _ s₁ (mkF m 60 #[.val (.int p0), .val (.int p1), .val (.int p2), .val (.int p3), .val (.int (3 : Int32)), .val (.int (p0 &&& (255 : Int32))), .val (.int (x1 &&& (255 : Int32))), .val (.int (x2 &&& (255 : Int32))), .val (.int (p1 &&& (255 : Int32))), .val (.int (y2 &&& (255 : Int32))), .val (.int (Int32.ofNat i0)), .unset, .unset, .unset] [])
    refine own_go (fun _ k => XS.sipush X0.here hx rfl (hb hby at_60) k) ?_
    show own_Ends _ _ _ _ _ _ _ s₁ (mkF m 63 #[.val (.int p0), .val (.int p1), .val (.int p2), .val (.int p3), .val (.int (3 : Int32)), .val (.int (p0 &&& (255 : Int32))), .val (.int (x1 &&& (255 : Int32))), .val (.int (x2 &&& (255 : Int32))), .val (.int (p1 &&& (255 : Int32))), .val (.int (y2 &&& (255 : Int32))), .val (.int (Int32.ofNat i0)), .unset, .unset, .unset] [(.int (256 : Int32))])
    obtain ⟨T70, h70, k70, X70, e70, E70, A70, st70⟩ := own_newP X0 hx hZ (aty := .boolean) (hw _ (List.mem_of_getElem? (i := 1) rfl)) e0 (g := (mkF m 63 #[.val (.int p0), .val (.int p1), .val (.int p2), .val (.int p3), .val (.int (3 : Int32)), .val (.int (p0 &&& (255 : Int32))), .val (.int (x1 &&& (255 : Int32))), .val (.int (x2 &&& (255 : Int32))), .val (.int (p1 &&& (255 : Int32))), .val (.int (y2 &&& (255 : Int32))), .val (.int (Int32.ofNat i0)), .unset, .unset, .unset] [(.int (256 : Int32))])) rfl (hb hby at_63) rfl (by decide) (n := 256) (by decide) (cap := 256) (by decide) (by decide) (by decide) (by decide)
    obtain ⟨bm, gq70⟩ : ∃ z, z = h0.size := ⟨_, rfl⟩
    rw [← gq70] at A70 st70
    have sz_bm : h0.size ≤ bm := Nat.le_trans K0.1 (Nat.le_of_eq gq70.symm)
    have g_bm : h0.size ≤ bm := Nat.le_trans (Nat.le_refl _) sz_bm
    have K_70 := K0.ext E70
    have V_bm : own_Ar Z h70 bm k70 .boolean 256 (fun _ => (.int (0 : Int32))) := A70
    refine own_go st70 ?_
    show own_Ends _ _ _ _ _ _ _ T70 (mkF m 65 #[.val (.int p0), .val (.int p1), .val (.int p2), .val (.int p3), .val (.int (3 : Int32)), .val (.int (p0 &&& (255 : Int32))), .val (.int (x1 &&& (255 : Int32))), .val (.int (x2 &&& (255 : Int32))), .val (.int (p1 &&& (255 : Int32))), .val (.int (y2 &&& (255 : Int32))), .val (.int (Int32.ofNat i0)), .unset, .unset, .unset] [(.ref bm)])
    refine own_go (fun _ k => XS.astore X70.here hx rfl (hb hby at_65) rfl rfl (l' := #[.val (.int p0), .val (.int p1), .val (.int p2), .val (.int p3), .val (.int (3 : Int32)), .val (.int (p0 &&& (255 : Int32))), .val (.int (x1 &&& (255 : Int32))), .val (.int (x2 &&& (255 : Int32))), .val (.int (p1 &&& (255 : Int32))), .val (.int (y2 &&& (255 : Int32))), .val (.int (Int32.ofNat i0)), .val (.ref bm), .unset, .unset]) rfl k) ?_
    show own_Ends _ _ _ _ _ _ _ T70 (mkF m 67 #[.val (.int p0), .val (.int p1), .val (.int p2), .val (.int p3), .val (.int (3 : Int32)), .val (.int (p0 &&& (255 : Int32))), .val (.int (x1 &&& (255 : Int32))), .val (.int (x2 &&& (255 : Int32))), .val (.int (p1 &&& (255 : Int32))), .val (.int (y2 &&& (255 : Int32))), .val (.int (Int32.ofNat i0)), .val (.ref bm), .unset, .unset] [])
    refine own_go (fun _ k => XS.aload X70.here hx rfl (hb hby at_67) rfl rfl k) ?_
    show own_Ends _ _ _ _ _ _ _ T70 (mkF m 69 #[.val (.int p0), .val (.int p1), .val (.int p2), .val (.int p3), .val (.int (3 : Int32)), .val (.int (p0 &&& (255 : Int32))), .val (.int (x1 &&& (255 : Int32))), .val (.int (x2 &&& (255 : Int32))), .val (.int (p1 &&& (255 : Int32))), .val (.int (y2 &&& (255 : Int32))), .val (.int (Int32.ofNat i0)), .val (.ref bm), .unset, .unset] [(.ref bm)])
    refine own_go (fun _ k => XS.iload X70.here hx rfl (hb hby at_69) rfl k) ?_
    show own_Ends _ _ _ _ _ _ _ T70 (mkF m 71 #[.val (.int p0), .val (.int p1), .val (.int p2), .val (.int p3), .val (.int (3 : Int32)), .val (.int (p0 &&& (255 : Int32))), .val (.int (x1 &&& (255 : Int32))), .val (.int (x2 &&& (255 : Int32))), .val (.int (p1 &&& (255 : Int32))), .val (.int (y2 &&& (255 : Int32))), .val (.int (Int32.ofNat i0)), .val (.ref bm), .unset, .unset] [(.int (p1 &&& (255 : Int32))), (.ref bm)])
    refine own_go (fun _ k => XS.iconst X70.here hx rfl (hb hby at_71) k) ?_
    show own_Ends _ _ _ _ _ _ _ T70 (mkF m 72 #[.val (.int p0), .val (.int p1), .val (.int p2), .val (.int p3), .val (.int (3 : Int32)), .val (.int (p0 &&& (255 : Int32))), .val (.int (x1 &&& (255 : Int32))), .val (.int (x2 &&& (255 : Int32))), .val (.int (p1 &&& (255 : Int32))), .val (.int (y2 &&& (255 : Int32))), .val (.int (Int32.ofNat i0)), .val (.ref bm), .unset, .unset] [(.int (1 : Int32)), (.int (p1 &&& (255 : Int32))), (.ref bm)])
    obtain ⟨T71, h71, X71, e71, W71, V71, st71⟩ := own_stZ X70 hx hZ e70 V_bm (i := (p1 &&& (255 : Int32)).toNatClampNeg) (own_bn _) rfl (own_b256 _) (g := (mkF m 72 #[.val (.int p0), .val (.int p1), .val (.int p2), .val (.int p3), .val (.int (3 : Int32)), .val (.int (p0 &&& (255 : Int32))), .val (.int (x1 &&& (255 : Int32))), .val (.int (x2 &&& (255 : Int32))), .val (.int (p1 &&& (255 : Int32))), .val (.int (y2 &&& (255 : Int32))), .val (.int (Int32.ofNat i0)), .val (.ref bm), .unset, .unset] [(.int (1 : Int32)), (.int (p1 &&& (255 : Int32))), (.ref bm)])) rfl rfl (hb hby at_72)
    have N71 := Fr.snoc X71 N0 g_bm
    have K_71 := K_70.wr W71 (Or.inr sz_bm)
    refine own_go st71 ?_
    show own_Ends _ _ _ _ _ _ _ T71 (mkF m 73 #[.val (.int p0), .val (.int p1), .val (.int p2), .val (.int p3), .val (.int (3 : Int32)), .val (.int (p0 &&& (255 : Int32))), .val (.int (x1 &&& (255 : Int32))), .val (.int (x2 &&& (255 : Int32))), .val (.int (p1 &&& (255 : Int32))), .val (.int (y2 &&& (255 : Int32))), .val (.int (Int32.ofNat i0)), .val (.ref bm), .unset, .unset] [])
    refine own_go (fun _ k => XS.aload X71.here hx rfl (hb hby at_73) rfl rfl k) ?_
    show own_Ends _ _ _ _ _ _ _ T71 (mkF m 75 #[.val (.int p0), .val (.int p1), .val (.int p2), .val (.int p3), .val (.int (3 : Int32)), .val (.int (p0 &&& (255 : Int32))), .val (.int (x1 &&& (255 : Int32))), .val (.int (x2 &&& (255 : Int32))), .val (.int (p1 &&& (255 : Int32))), .val (.int (y2 &&& (255 : Int32))), .val (.int (Int32.ofNat i0)), .val (.ref bm), .unset, .unset] [(.ref bm)])
    refine own_go (fun _ k => XS.iload X71.here hx rfl (hb hby at_75) rfl k) ?_
    show own_Ends _ _ _ _ _ _ _ T71 (mkF m 77 #[.val (.int p0), .val (.int p1), .val (.int p2), .val (.int p3), .val (.int (3 : Int32)), .val (.int (p0 &&& (255 : Int32))), .val (.int (x1 &&& (255 : Int32))), .val (.int (x2 &&& (255 : Int32))), .val (.int (p1 &&& (255 : Int32))), .val (.int (y2 &&& (255 : Int32))), .val (.int (Int32.ofNat i0)), .val (.ref bm), .unset, .unset] [(.int (y2 &&& (255 : Int32))), (.ref bm)])
    refine own_go (fun _ k => XS.iconst X71.here hx rfl (hb hby at_77) k) ?_
    show own_Ends _ _ _ _ _ _ _ T71 (mkF m 78 #[.val (.int p0), .val (.int p1), .val (.int p2), .val (.int p3), .val (.int (3 : Int32)), .val (.int (p0 &&& (255 : Int32))), .val (.int (x1 &&& (255 : Int32))), .val (.int (x2 &&& (255 : Int32))), .val (.int (p1 &&& (255 : Int32))), .val (.int (y2 &&& (255 : Int32))), .val (.int (Int32.ofNat i0)), .val (.ref bm), .unset, .unset] [(.int (1 : Int32)), (.int (y2 &&& (255 : Int32))), (.ref bm)])
    obtain ⟨T72, h72, X72, e72, W72, V72, st72⟩ := own_stZ X71 hx hZ e71 V71 (i := (y2 &&& (255 : Int32)).toNatClampNeg) (own_bn _) rfl (own_b256 _) (g := (mkF m 78 #[.val (.int p0), .val (.int p1), .val (.int p2), .val (.int p3), .val (.int (3 : Int32)), .val (.int (p0 &&& (255 : Int32))), .val (.int (x1 &&& (255 : Int32))), .val (.int (x2 &&& (255 : Int32))), .val (.int (p1 &&& (255 : Int32))), .val (.int (y2 &&& (255 : Int32))), .val (.int (Int32.ofNat i0)), .val (.ref bm), .unset, .unset] [(.int (1 : Int32)), (.int (y2 &&& (255 : Int32))), (.ref bm)])) rfl rfl (hb hby at_78)
    have N72 := Fr.snoc X72 N71 g_bm
    have K_72 := K_71.wr W72 (Or.inr sz_bm)
    have Vf72 : own_Ar Z h72 bm k70 .boolean 256 (fun j => .int (own_mk (p1 &&& (255 : Int32)) (y2 &&& (255 : Int32)) j)) := V72.cong (fun i _ => by
      unfold own_mk
      show (if _ then _ else if _ then _ else _) = _
      split
      · rfl
      · split <;> rfl)
    refine own_go st72 ?_
    show own_Ends _ _ _ _ _ _ _ T72 (mkF m 79 #[.val (.int p0), .val (.int p1), .val (.int p2), .val (.int p3), .val (.int (3 : Int32)), .val (.int (p0 &&& (255 : Int32))), .val (.int (x1 &&& (255 : Int32))), .val (.int (x2 &&& (255 : Int32))), .val (.int (p1 &&& (255 : Int32))), .val (.int (y2 &&& (255 : Int32))), .val (.int (Int32.ofNat i0)), .val (.ref bm), .unset, .unset] [])
    obtain ⟨T73, h73, X73, e73, E73, A73, D73, -, st73⟩ := newO X72 hx hZ hown (hw _ (List.mem_of_getElem? (i := 2) rfl)) (hw _ (List.mem_of_getElem? (i := 3) rfl)) (hw _ (List.mem_of_getElem? (i := 4) rfl)) e72 (g := (mkF m 79 #[.val (.int p0), .val (.int p1), .val (.int p2), .val (.int p3), .val (.int (3 : Int32)), .val (.int (p0 &&& (255 : Int32))), .val (.int (x1 &&& (255 : Int32))), .val (.int (x2 &&& (255 : Int32))), .val (.int (p1 &&& (255 : Int32))), .val (.int (y2 &&& (255 : Int32))), .val (.int (Int32.ofNat i0)), .val (.ref bm), .unset, .unset] [])) rfl (hb hby at_79) (by decide) (by decide)
    obtain ⟨bb, gq73⟩ : ∃ z, z = h72.size := ⟨_, rfl⟩
    rw [← gq73] at A73 D73 st73
    have ne_bm_bb : bm ≠ bb := Nat.ne_of_lt (Nat.lt_of_lt_of_le Vf72.lt (Nat.le_of_eq gq73.symm))
    have sz_bb : h0.size ≤ bb := Nat.le_trans K_72.1 (Nat.le_of_eq gq73.symm)
    have g_bb : h0.size ≤ bb := Nat.le_trans (Nat.le_refl _) sz_bb
    have K_73 := K_72.ext E73
    have V_bm_73 := Vf72.ext E73
    have F_bytes_bb : Fld Z h73 bb "com/example/ledgerline/ledgerline/TextBuffer" "bytes" "[B" .null := D73 (Or.inl (hw _ (List.mem_of_getElem? (i := 13) rfl))) (ty := (.array .byte)) (by decide)
    have F_length_bb : Fld Z h73 bb "com/example/ledgerline/ledgerline/TextBuffer" "length" "I" (.int (0 : Int32)) := D73 (Or.inl (hw _ (List.mem_of_getElem? (i := 24) rfl))) (ty := .int) (by decide)
    refine own_go st73 ?_
    show own_Ends _ _ _ _ _ _ _ T73 (mkF m 82 #[.val (.int p0), .val (.int p1), .val (.int p2), .val (.int p3), .val (.int (3 : Int32)), .val (.int (p0 &&& (255 : Int32))), .val (.int (x1 &&& (255 : Int32))), .val (.int (x2 &&& (255 : Int32))), .val (.int (p1 &&& (255 : Int32))), .val (.int (y2 &&& (255 : Int32))), .val (.int (Int32.ofNat i0)), .val (.ref bm), .unset, .unset] [(.ref bb)])
    refine own_go (fun _ k => XS.dup X73.here hx rfl (hb hby at_82) rfl rfl k) ?_
    show own_Ends _ _ _ _ _ _ _ T73 (mkF m 83 #[.val (.int p0), .val (.int p1), .val (.int p2), .val (.int p3), .val (.int (3 : Int32)), .val (.int (p0 &&& (255 : Int32))), .val (.int (x1 &&& (255 : Int32))), .val (.int (x2 &&& (255 : Int32))), .val (.int (p1 &&& (255 : Int32))), .val (.int (y2 &&& (255 : Int32))), .val (.int (Int32.ofNat i0)), .val (.ref bm), .unset, .unset] [(.ref bb), (.ref bb)])
    refine own_go (fun _ k => XS.iconst X73.here hx rfl (hb hby at_83) k) ?_
    show own_Ends _ _ _ _ _ _ _ T73 (mkF m 84 #[.val (.int p0), .val (.int p1), .val (.int p2), .val (.int p3), .val (.int (3 : Int32)), .val (.int (p0 &&& (255 : Int32))), .val (.int (x1 &&& (255 : Int32))), .val (.int (x2 &&& (255 : Int32))), .val (.int (p1 &&& (255 : Int32))), .val (.int (y2 &&& (255 : Int32))), .val (.int (Int32.ofNat i0)), .val (.ref bm), .unset, .unset] [(.int (4 : Int32)), (.ref bb), (.ref bb)])
    obtain ⟨v74, T74, L74, X74, hQ74, st74⟩ := own_callI X73 hx hZ hown rfl (hw _ (List.mem_of_getElem? (i := 5) rfl)) (hw _ (List.mem_of_getElem? (i := 6) rfl)) (hw _ (List.mem_of_getElem? (i := 4) rfl)) (hw _ (List.mem_of_getElem? (i := 7) rfl)) (rm1 l Z a0 hw bb 4 h73 h0.size K_73.1 A73 F_bytes_bb F_length_bb g_bb rfl) e73 (g := (mkF m 84 #[.val (.int p0), .val (.int p1), .val (.int p2), .val (.int p3), .val (.int (3 : Int32)), .val (.int (p0 &&& (255 : Int32))), .val (.int (x1 &&& (255 : Int32))), .val (.int (x2 &&& (255 : Int32))), .val (.int (p1 &&& (255 : Int32))), .val (.int (y2 &&& (255 : Int32))), .val (.int (Int32.ofNat i0)), .val (.ref bm), .unset, .unset] [(.int (4 : Int32)), (.ref bb), (.ref bb)])) rfl (by rw [hml]; rfl) (a := bb) (argsL := [(.int (4 : Int32))]) (rest := [(.ref bb)]) (lenOf pd_0 rfl) rfl rfl (W := 1) (by show 2 * 0 + _ ≤ _; exact Nat.le_of_eq rfl) (hb hby at_84) (by decide) (by decide) (by decide) (by decide) (by decide)
    obtain ⟨ba, kb, rfl, N74q, K74, E74, B74, G74, A74, s74⟩ := hQ74
    refine own_go st74 ?_
    have N74 := Fr.app N72 N74q
    show own_Ends _ _ _ _ _ _ _ T74 (mkF m 87 #[.val (.int p0), .val (.int p1), .val (.int p2), .val (.int p3), .val (.int (3 : Int32)), .val (.int (p0 &&& (255 : Int32))), .val (.int (x1 &&& (255 : Int32))), .val (.int (x2 &&& (255 : Int32))), .val (.int (p1 &&& (255 : Int32))), .val (.int (y2 &&& (255 : Int32))), .val (.int (Int32.ofNat i0)), .val (.ref bm), .unset, .unset] [(.ref bb)])
    have ne_bb_ba : bb ≠ ba := Nat.ne_of_lt (Nat.lt_of_lt_of_le A73.lt s74)
    have ne_bm_ba : bm ≠ ba := Nat.ne_of_lt (Nat.lt_of_lt_of_le V_bm_73.lt s74)
    have sz_ba : h0.size ≤ ba := Nat.le_trans K_73.1 s74
    have K_74 := K_73.trans K74 (allS (Or.inr sz_bb) all0)
    have V_bm_74 := V_bm_73.keep K74 (ninS ne_bm_bb nin0)
    have E_bb_74 := A73.keep K74
    show own_Ends _ _ _ _ _ _ _ T74 (mkF m 87 #[.val (.int p0), .val (.int p1), .val (.int p2), .val (.int p3), .val (.int (3 : Int32)), .val (.int (p0 &&& (255 : Int32))), .val (.int (x1 &&& (255 : Int32))), .val (.int (x2 &&& (255 : Int32))), .val (.int (p1 &&& (255 : Int32))), .val (.int (y2 &&& (255 : Int32))), .val (.int (Int32.ofNat i0)), .val (.ref bm), .unset, .unset] [(.ref bb)])
    refine own_go (fun _ k => XS.astore X74.here hx rfl (hb hby at_87) rfl rfl (l' := #[.val (.int p0), .val (.int p1), .val (.int p2), .val (.int p3), .val (.int (3 : Int32)), .val (.int (p0 &&& (255 : Int32))), .val (.int (x1 &&& (255 : Int32))), .val (.int (x2 &&& (255 : Int32))), .val (.int (p1 &&& (255 : Int32))), .val (.int (y2 &&& (255 : Int32))), .val (.int (Int32.ofNat i0)), .val (.ref bm), .val (.ref bb), .unset]) rfl k) ?_
    show own_Ends _ _ _ _ _ _ _ T74 (mkF m 89 #[.val (.int p0), .val (.int p1), .val (.int p2), .val (.int p3), .val (.int (3 : Int32)), .val (.int (p0 &&& (255 : Int32))), .val (.int (x1 &&& (255 : Int32))), .val (.int (x2 &&& (255 : Int32))), .val (.int (p1 &&& (255 : Int32))), .val (.int (y2 &&& (255 : Int32))), .val (.int (Int32.ofNat i0)), .val (.ref bm), .val (.ref bb), .unset] [])
    refine own_go (fun _ k => XS.iload X74.here hx rfl (hb hby at_89) rfl k) ?_
    show own_Ends _ _ _ _ _ _ _ T74 (mkF m 91 #[.val (.int p0), .val (.int p1), .val (.int p2), .val (.int p3), .val (.int (3 : Int32)), .val (.int (p0 &&& (255 : Int32))), .val (.int (x1 &&& (255 : Int32))), .val (.int (x2 &&& (255 : Int32))), .val (.int (p1 &&& (255 : Int32))), .val (.int (y2 &&& (255 : Int32))), .val (.int (Int32.ofNat i0)), .val (.ref bm), .val (.ref bb), .unset] [(.int (3 : Int32))])
    refine own_go (fun _ k => XS.ifNo X74.here hx rfl (hb hby at_91) rfl ((if0 _ _).trans (tlt (by decide)).2.2.2) k) ?_
    show own_Ends _ _ _ _ _ _ _ T74 (mkF m 94 #[.val (.int p0), .val (.int p1), .val (.int p2), .val (.int p3), .val (.int (3 : Int32)), .val (.int (p0 &&& (255 : Int32))), .val (.int (x1 &&& (255 : Int32))), .val (.int (x2 &&& (255 : Int32))), .val (.int (p1 &&& (255 : Int32))), .val (.int (y2 &&& (255 : Int32))), .val (.int (Int32.ofNat i0)), .val (.ref bm), .val (.ref bb), .unset] [])
    refine own_go (fun _ k => XS.aload X74.here hx rfl (hb hby at_94) rfl rfl k) ?_
    show own_Ends _ _ _ _ _ _ _ T74 (mkF m 96 #[.val (.int p0), .val (.int p1), .val (.int p2), .val (.int p3), .val (.int (3 : Int32)), .val (.int (p0 &&& (255 : Int32))), .val (.int (x1 &&& (255 : Int32))), .val (.int (x2 &&& (255 : Int32))), .val (.int (p1 &&& (255 : Int32))), .val (.int (y2 &&& (255 : Int32))), .val (.int (Int32.ofNat i0)), .val (.ref bm), .val (.ref bb), .unset] [(.ref bb)])
    refine own_go (fun _ k => XS.iload X74.here hx rfl (hb hby at_96) rfl k) ?_
    show own_Ends _ _ _ _ _ _ _ T74 (mkF m 98 #[.val (.int p0), .val (.int p1), .val (.int p2), .val (.int p3), .val (.int (3 : Int32)), .val (.int (p0 &&& (255 : Int32))), .val (.int (x1 &&& (255 : Int32))), .val (.int (x2 &&& (255 : Int32))), .val (.int (p1 &&& (255 : Int32))), .val (.int (y2 &&& (255 : Int32))), .val (.int (Int32.ofNat i0)), .val (.ref bm), .val (.ref bb), .unset] [(.int (p0 &&& (255 : Int32))), (.ref bb)])
    refine own_go (fun _ k => XS.i2c X74.here hx rfl (hb hby at_98) rfl k) ?_
    show own_Ends _ _ _ _ _ _ _ T74 (mkF m 99 #[.val (.int p0), .val (.int p1), .val (.int p2), .val (.int p3), .val (.int (3 : Int32)), .val (.int (p0 &&& (255 : Int32))), .val (.int (x1 &&& (255 : Int32))), .val (.int (x2 &&& (255 : Int32))), .val (.int (p1 &&& (255 : Int32))), .val (.int (y2 &&& (255 : Int32))), .val (.int (Int32.ofNat i0)), .val (.ref bm), .val (.ref bb), .unset] [(.int ((p0 &&& (255 : Int32)).toUInt32.toUInt16.toUInt32.toInt32)), (.ref bb)])
    rw [show ((p0 &&& (255 : Int32)).toUInt32.toUInt16.toUInt32.toInt32) = (p0 &&& (255 : Int32)) from i2c_mask _]
    show own_Ends _ _ _ _ _ _ _ T74 (mkF m 99 #[.val (.int p0), .val (.int p1), .val (.int p2), .val (.int p3), .val (.int (3 : Int32)), .val (.int (p0 &&& (255 : Int32))), .val (.int (x1 &&& (255 : Int32))), .val (.int (x2 &&& (255 : Int32))), .val (.int (p1 &&& (255 : Int32))), .val (.int (y2 &&& (255 : Int32))), .val (.int (Int32.ofNat i0)), .val (.ref bm), .val (.ref bb), .unset] [(.int (p0 &&& (255 : Int32))), (.ref bb)])
    obtain ⟨v75, T75, L75, X75, hQ75, st75⟩ := own_callV X74 hx hZ hown (hw _ (List.mem_of_getElem? (i := 14) rfl)) (hw _ (List.mem_of_getElem? (i := 15) rfl)) (hw _ (List.mem_of_getElem? (i := 17) rfl)) (hw _ (List.mem_of_getElem? (i := 16) rfl)) (hw _ (List.mem_of_getElem? (i := 4) rfl)) (hw _ (List.mem_of_getElem? (i := 18) rfl)) (rm3_0 l Z a0 hw bb (p0 &&& (255 : Int32)) T74.heap h0.size ba kb (fun _ => .int (0 : Int32)) K_74.1 E_bb_74 B74 G74 A74 ne_bb_ba g_bb sz_ba (own_b255 _)) rfl (g := (mkF m 99 #[.val (.int p0), .val (.int p1), .val (.int p2), .val (.int p3), .val (.int (3 : Int32)), .val (.int (p0 &&& (255 : Int32))), .val (.int (x1 &&& (255 : Int32))), .val (.int (x2 &&& (255 : Int32))), .val (.int (p1 &&& (255 : Int32))), .val (.int (y2 &&& (255 : Int32))), .val (.int (Int32.ofNat i0)), .val (.ref bm), .val (.ref bb), .unset] [(.int (p0 &&& (255 : Int32))), (.ref bb)])) rfl (by rw [hml]; rfl) (a := bb) (argsL := [(.int (p0 &&& (255 : Int32)))]) (rest := []) (E_bb_74) (lenOf pd_4 rfl) rfl rfl (W := 0) (by show 2 * 0 + _ ≤ _; exact Nat.le_of_eq rfl) (hb hby at_99) (by decide) (by decide) (by decide) (by decide) (by decide)
    obtain ⟨rfl, N75q, K75, E75, B75, G75, A75⟩ := hQ75
    refine own_go st75 ?_
    have N75 := Fr.app N74 N75q
    have K_75 := K_74.trans K75 (allS (Or.inr sz_bb) (allS (Or.inr sz_ba) all0))
    have V_bm_75 := V_bm_74.keep K75 (ninS ne_bm_bb (ninS ne_bm_ba nin0))
    have E_bb_75 := E_bb_74.keep K75
    show own_Ends _ _ _ _ _ _ _ T75 (mkF m 102 #[.val (.int p0), .val (.int p1), .val (.int p2), .val (.int p3), .val (.int (3 : Int32)), .val (.int (p0 &&& (255 : Int32))), .val (.int (x1 &&& (255 : Int32))), .val (.int (x2 &&& (255 : Int32))), .val (.int (p1 &&& (255 : Int32))), .val (.int (y2 &&& (255 : Int32))), .val (.int (Int32.ofNat i0)), .val (.ref bm), .val (.ref bb), .unset] [(.ref bb)])
    refine own_go (fun _ k => XS.pop X75.here hx rfl (hb hby at_102) rfl rfl k) ?_
    show own_Ends _ _ _ _ _ _ _ T75 (mkF m 103 #[.val (.int p0), .val (.int p1), .val (.int p2), .val (.int p3), .val (.int (3 : Int32)), .val (.int (p0 &&& (255 : Int32))), .val (.int (x1 &&& (255 : Int32))), .val (.int (x2 &&& (255 : Int32))), .val (.int (p1 &&& (255 : Int32))), .val (.int (y2 &&& (255 : Int32))), .val (.int (Int32.ofNat i0)), .val (.ref bm), .val (.ref bb), .unset] [])
    refine own_go (fun _ k => XS.iload X75.here hx rfl (hb hby at_103) rfl k) ?_
    show own_Ends _ _ _ _ _ _ _ T75 (mkF m 105 #[.val (.int p0), .val (.int p1), .val (.int p2), .val (.int p3), .val (.int (3 : Int32)), .val (.int (p0 &&& (255 : Int32))), .val (.int (x1 &&& (255 : Int32))), .val (.int (x2 &&& (255 : Int32))), .val (.int (p1 &&& (255 : Int32))), .val (.int (y2 &&& (255 : Int32))), .val (.int (Int32.ofNat i0)), .val (.ref bm), .val (.ref bb), .unset] [(.int (3 : Int32))])
    refine own_go (fun _ k => XS.iconst X75.here hx rfl (hb hby at_105) k) ?_
    show own_Ends _ _ _ _ _ _ _ T75 (mkF m 106 #[.val (.int p0), .val (.int p1), .val (.int p2), .val (.int p3), .val (.int (3 : Int32)), .val (.int (p0 &&& (255 : Int32))), .val (.int (x1 &&& (255 : Int32))), .val (.int (x2 &&& (255 : Int32))), .val (.int (p1 &&& (255 : Int32))), .val (.int (y2 &&& (255 : Int32))), .val (.int (Int32.ofNat i0)), .val (.ref bm), .val (.ref bb), .unset] [(.int (1 : Int32)), (.int (3 : Int32))])
    refine own_go (fun _ k => XS.icmpNo X75.here hx rfl (hb hby at_106) rfl (tlt (by decide)).2.2.2 k) ?_
    show own_Ends _ _ _ _ _ _ _ T75 (mkF m 109 #[.val (.int p0), .val (.int p1), .val (.int p2), .val (.int p3), .val (.int (3 : Int32)), .val (.int (p0 &&& (255 : Int32))), .val (.int (x1 &&& (255 : Int32))), .val (.int (x2 &&& (255 : Int32))), .val (.int (p1 &&& (255 : Int32))), .val (.int (y2 &&& (255 : Int32))), .val (.int (Int32.ofNat i0)), .val (.ref bm), .val (.ref bb), .unset] [])
    refine own_go (fun _ k => XS.aload X75.here hx rfl (hb hby at_109) rfl rfl k) ?_
    show own_Ends _ _ _ _ _ _ _ T75 (mkF m 111 #[.val (.int p0), .val (.int p1), .val (.int p2), .val (.int p3), .val (.int (3 : Int32)), .val (.int (p0 &&& (255 : Int32))), .val (.int (x1 &&& (255 : Int32))), .val (.int (x2 &&& (255 : Int32))), .val (.int (p1 &&& (255 : Int32))), .val (.int (y2 &&& (255 : Int32))), .val (.int (Int32.ofNat i0)), .val (.ref bm), .val (.ref bb), .unset] [(.ref bb)])
    refine own_go (fun _ k => XS.iload X75.here hx rfl (hb hby at_111) rfl k) ?_
    show own_Ends _ _ _ _ _ _ _ T75 (mkF m 113 #[.val (.int p0), .val (.int p1), .val (.int p2), .val (.int p3), .val (.int (3 : Int32)), .val (.int (p0 &&& (255 : Int32))), .val (.int (x1 &&& (255 : Int32))), .val (.int (x2 &&& (255 : Int32))), .val (.int (p1 &&& (255 : Int32))), .val (.int (y2 &&& (255 : Int32))), .val (.int (Int32.ofNat i0)), .val (.ref bm), .val (.ref bb), .unset] [(.int (x1 &&& (255 : Int32))), (.ref bb)])
    refine own_go (fun _ k => XS.i2c X75.here hx rfl (hb hby at_113) rfl k) ?_
    show own_Ends _ _ _ _ _ _ _ T75 (mkF m 114 #[.val (.int p0), .val (.int p1), .val (.int p2), .val (.int p3), .val (.int (3 : Int32)), .val (.int (p0 &&& (255 : Int32))), .val (.int (x1 &&& (255 : Int32))), .val (.int (x2 &&& (255 : Int32))), .val (.int (p1 &&& (255 : Int32))), .val (.int (y2 &&& (255 : Int32))), .val (.int (Int32.ofNat i0)), .val (.ref bm), .val (.ref bb), .unset] [(.int ((x1 &&& (255 : Int32)).toUInt32.toUInt16.toUInt32.toInt32)), (.ref bb)])
    rw [show ((x1 &&& (255 : Int32)).toUInt32.toUInt16.toUInt32.toInt32) = (x1 &&& (255 : Int32)) from i2c_mask _]
    show own_Ends _ _ _ _ _ _ _ T75 (mkF m 114 #[.val (.int p0), .val (.int p1), .val (.int p2), .val (.int p3), .val (.int (3 : Int32)), .val (.int (p0 &&& (255 : Int32))), .val (.int (x1 &&& (255 : Int32))), .val (.int (x2 &&& (255 : Int32))), .val (.int (p1 &&& (255 : Int32))), .val (.int (y2 &&& (255 : Int32))), .val (.int (Int32.ofNat i0)), .val (.ref bm), .val (.ref bb), .unset] [(.int (x1 &&& (255 : Int32))), (.ref bb)])
    obtain ⟨v76, T76, L76, X76, hQ76, st76⟩ := own_callV X75 hx hZ hown (hw _ (List.mem_of_getElem? (i := 14) rfl)) (hw _ (List.mem_of_getElem? (i := 15) rfl)) (hw _ (List.mem_of_getElem? (i := 17) rfl)) (hw _ (List.mem_of_getElem? (i := 16) rfl)) (hw _ (List.mem_of_getElem? (i := 4) rfl)) (hw _ (List.mem_of_getElem? (i := 18) rfl)) (rm3_1 l Z a0 hw bb (x1 &&& (255 : Int32)) T75.heap h0.size ba kb (fun j => if j = 0 then .int (own_by (p0 &&& (255 : Int32))) else (fun _ => .int (0 : Int32)) j) K_75.1 E_bb_75 B75 G75 A75 ne_bb_ba g_bb sz_ba (own_b255 _)) rfl (g := (mkF m 114 #[.val (.int p0), .val (.int p1), .val (.int p2), .val (.int p3), .val (.int (3 : Int32)), .val (.int (p0 &&& (255 : Int32))), .val (.int (x1 &&& (255 : Int32))), .val (.int (x2 &&& (255 : Int32))), .val (.int (p1 &&& (255 : Int32))), .val (.int (y2 &&& (255 : Int32))), .val (.int (Int32.ofNat i0)), .val (.ref bm), .val (.ref bb), .unset] [(.int (x1 &&& (255 : Int32))), (.ref bb)])) rfl (by rw [hml]; rfl) (a := bb) (argsL := [(.int (x1 &&& (255 : Int32)))]) (rest := []) (E_bb_75) (lenOf pd_4 rfl) rfl rfl (W := 0) (by show 2 * 0 + _ ≤ _; exact Nat.le_of_eq rfl) (hb hby at_114) (by decide) (by decide) (by decide) (by decide) (by decide)
    obtain ⟨rfl, N76q, K76, E76, B76, G76, A76⟩ := hQ76
    refine own_go st76 ?_
    have N76 := Fr.app N75 N76q
    have K_76 := K_75.trans K76 (allS (Or.inr sz_bb) (allS (Or.inr sz_ba) all0))
    have V_bm_76 := V_bm_75.keep K76 (ninS ne_bm_bb (ninS ne_bm_ba nin0))
    have E_bb_76 := E_bb_75.keep K76
    show own_Ends _ _ _ _ _ _ _ T76 (mkF m 117 #[.val (.int p0), .val (.int p1), .val (.int p2), .val (.int p3), .val (.int (3 : Int32)), .val (.int (p0 &&& (255 : Int32))), .val (.int (x1 &&& (255 : Int32))), .val (.int (x2 &&& (255 : Int32))), .val (.int (p1 &&& (255 : Int32))), .val (.int (y2 &&& (255 : Int32))), .val (.int (Int32.ofNat i0)), .val (.ref bm), .val (.ref bb), .unset] [(.ref bb)])
    refine own_go (fun _ k => XS.pop X76.here hx rfl (hb hby at_117) rfl rfl k) ?_
    show own_Ends _ _ _ _ _ _ _ T76 (mkF m 118 #[.val (.int p0), .val (.int p1), .val (.int p2), .val (.int p3), .val (.int (3 : Int32)), .val (.int (p0 &&& (255 : Int32))), .val (.int (x1 &&& (255 : Int32))), .val (.int (x2 &&& (255 : Int32))), .val (.int (p1 &&& (255 : Int32))), .val (.int (y2 &&& (255 : Int32))), .val (.int (Int32.ofNat i0)), .val (.ref bm), .val (.ref bb), .unset] [])
    refine own_go (fun _ k => XS.iload X76.here hx rfl (hb hby at_118) rfl k) ?_
    show own_Ends _ _ _ _ _ _ _ T76 (mkF m 120 #[.val (.int p0), .val (.int p1), .val (.int p2), .val (.int p3), .val (.int (3 : Int32)), .val (.int (p0 &&& (255 : Int32))), .val (.int (x1 &&& (255 : Int32))), .val (.int (x2 &&& (255 : Int32))), .val (.int (p1 &&& (255 : Int32))), .val (.int (y2 &&& (255 : Int32))), .val (.int (Int32.ofNat i0)), .val (.ref bm), .val (.ref bb), .unset] [(.int (3 : Int32))])
    refine own_go (fun _ k => XS.iconst X76.here hx rfl (hb hby at_120) k) ?_
    show own_Ends _ _ _ _ _ _ _ T76 (mkF m 121 #[.val (.int p0), .val (.int p1), .val (.int p2), .val (.int p3), .val (.int (3 : Int32)), .val (.int (p0 &&& (255 : Int32))), .val (.int (x1 &&& (255 : Int32))), .val (.int (x2 &&& (255 : Int32))), .val (.int (p1 &&& (255 : Int32))), .val (.int (y2 &&& (255 : Int32))), .val (.int (Int32.ofNat i0)), .val (.ref bm), .val (.ref bb), .unset] [(.int (2 : Int32)), (.int (3 : Int32))])
    refine own_go (fun _ k => XS.icmpNo X76.here hx rfl (hb hby at_121) rfl (tlt (by decide)).2.2.2 k) ?_
    show own_Ends _ _ _ _ _ _ _ T76 (mkF m 124 #[.val (.int p0), .val (.int p1), .val (.int p2), .val (.int p3), .val (.int (3 : Int32)), .val (.int (p0 &&& (255 : Int32))), .val (.int (x1 &&& (255 : Int32))), .val (.int (x2 &&& (255 : Int32))), .val (.int (p1 &&& (255 : Int32))), .val (.int (y2 &&& (255 : Int32))), .val (.int (Int32.ofNat i0)), .val (.ref bm), .val (.ref bb), .unset] [])
    refine own_go (fun _ k => XS.aload X76.here hx rfl (hb hby at_124) rfl rfl k) ?_
    show own_Ends _ _ _ _ _ _ _ T76 (mkF m 126 #[.val (.int p0), .val (.int p1), .val (.int p2), .val (.int p3), .val (.int (3 : Int32)), .val (.int (p0 &&& (255 : Int32))), .val (.int (x1 &&& (255 : Int32))), .val (.int (x2 &&& (255 : Int32))), .val (.int (p1 &&& (255 : Int32))), .val (.int (y2 &&& (255 : Int32))), .val (.int (Int32.ofNat i0)), .val (.ref bm), .val (.ref bb), .unset] [(.ref bb)])
    refine own_go (fun _ k => XS.iload X76.here hx rfl (hb hby at_126) rfl k) ?_
    show own_Ends _ _ _ _ _ _ _ T76 (mkF m 128 #[.val (.int p0), .val (.int p1), .val (.int p2), .val (.int p3), .val (.int (3 : Int32)), .val (.int (p0 &&& (255 : Int32))), .val (.int (x1 &&& (255 : Int32))), .val (.int (x2 &&& (255 : Int32))), .val (.int (p1 &&& (255 : Int32))), .val (.int (y2 &&& (255 : Int32))), .val (.int (Int32.ofNat i0)), .val (.ref bm), .val (.ref bb), .unset] [(.int (x2 &&& (255 : Int32))), (.ref bb)])
    refine own_go (fun _ k => XS.i2c X76.here hx rfl (hb hby at_128) rfl k) ?_
    show own_Ends _ _ _ _ _ _ _ T76 (mkF m 129 #[.val (.int p0), .val (.int p1), .val (.int p2), .val (.int p3), .val (.int (3 : Int32)), .val (.int (p0 &&& (255 : Int32))), .val (.int (x1 &&& (255 : Int32))), .val (.int (x2 &&& (255 : Int32))), .val (.int (p1 &&& (255 : Int32))), .val (.int (y2 &&& (255 : Int32))), .val (.int (Int32.ofNat i0)), .val (.ref bm), .val (.ref bb), .unset] [(.int ((x2 &&& (255 : Int32)).toUInt32.toUInt16.toUInt32.toInt32)), (.ref bb)])
    rw [show ((x2 &&& (255 : Int32)).toUInt32.toUInt16.toUInt32.toInt32) = (x2 &&& (255 : Int32)) from i2c_mask _]
    show own_Ends _ _ _ _ _ _ _ T76 (mkF m 129 #[.val (.int p0), .val (.int p1), .val (.int p2), .val (.int p3), .val (.int (3 : Int32)), .val (.int (p0 &&& (255 : Int32))), .val (.int (x1 &&& (255 : Int32))), .val (.int (x2 &&& (255 : Int32))), .val (.int (p1 &&& (255 : Int32))), .val (.int (y2 &&& (255 : Int32))), .val (.int (Int32.ofNat i0)), .val (.ref bm), .val (.ref bb), .unset] [(.int (x2 &&& (255 : Int32))), (.ref bb)])
    obtain ⟨v77, T77, L77, X77, hQ77, st77⟩ := own_callV X76 hx hZ hown (hw _ (List.mem_of_getElem? (i := 14) rfl)) (hw _ (List.mem_of_getElem? (i := 15) rfl)) (hw _ (List.mem_of_getElem? (i := 17) rfl)) (hw _ (List.mem_of_getElem? (i := 16) rfl)) (hw _ (List.mem_of_getElem? (i := 4) rfl)) (hw _ (List.mem_of_getElem? (i := 18) rfl)) (rm3_2 l Z a0 hw bb (x2 &&& (255 : Int32)) T76.heap h0.size ba kb (fun j => if j = 1 then .int (own_by (x1 &&& (255 : Int32))) else (fun j => if j = 0 then .int (own_by (p0 &&& (255 : Int32))) else (fun _ => .int (0 : Int32)) j) j) K_76.1 E_bb_76 B76 G76 A76 ne_bb_ba g_bb sz_ba (own_b255 _)) rfl (g := (mkF m 129 #[.val (.int p0), .val (.int p1), .val (.int p2), .val (.int p3), .val (.int (3 : Int32)), .val (.int (p0 &&& (255 : Int32))), .val (.int (x1 &&& (255 : Int32))), .val (.int (x2 &&& (255 : Int32))), .val (.int (p1 &&& (255 : Int32))), .val (.int (y2 &&& (255 : Int32))), .val (.int (Int32.ofNat i0)), .val (.ref bm), .val (.ref bb), .unset] [(.int (x2 &&& (255 : Int32))), (.ref bb)])) rfl (by rw [hml]; rfl) (a := bb) (argsL := [(.int (x2 &&& (255 : Int32)))]) (rest := []) (E_bb_76) (lenOf pd_4 rfl) rfl rfl (W := 0) (by show 2 * 0 + _ ≤ _; exact Nat.le_of_eq rfl) (hb hby at_129) (by decide) (by decide) (by decide) (by decide) (by decide)
    obtain ⟨rfl, N77q, K77, E77, B77, G77, A77⟩ := hQ77
    refine own_go st77 ?_
    have N77 := Fr.app N76 N77q
    have K_77 := K_76.trans K77 (allS (Or.inr sz_bb) (allS (Or.inr sz_ba) all0))
    have V_bm_77 := V_bm_76.keep K77 (ninS ne_bm_bb (ninS ne_bm_ba nin0))
    have E_bb_77 := E_bb_76.keep K77
    show own_Ends _ _ _ _ _ _ _ T77 (mkF m 132 #[.val (.int p0), .val (.int p1), .val (.int p2), .val (.int p3), .val (.int (3 : Int32)), .val (.int (p0 &&& (255 : Int32))), .val (.int (x1 &&& (255 : Int32))), .val (.int (x2 &&& (255 : Int32))), .val (.int (p1 &&& (255 : Int32))), .val (.int (y2 &&& (255 : Int32))), .val (.int (Int32.ofNat i0)), .val (.ref bm), .val (.ref bb), .unset] [(.ref bb)])
    refine own_go (fun _ k => XS.pop X77.here hx rfl (hb hby at_132) rfl rfl k) ?_
    show own_Ends _ _ _ _ _ _ _ T77 (mkF m 133 #[.val (.int p0), .val (.int p1), .val (.int p2), .val (.int p3), .val (.int (3 : Int32)), .val (.int (p0 &&& (255 : Int32))), .val (.int (x1 &&& (255 : Int32))), .val (.int (x2 &&& (255 : Int32))), .val (.int (p1 &&& (255 : Int32))), .val (.int (y2 &&& (255 : Int32))), .val (.int (Int32.ofNat i0)), .val (.ref bm), .val (.ref bb), .unset] [])
    refine own_go (fun _ k => XS.iconst X77.here hx rfl (hb hby at_133) k) ?_
    show own_Ends _ _ _ _ _ _ _ T77 (mkF m 134 #[.val (.int p0), .val (.int p1), .val (.int p2), .val (.int p3), .val (.int (3 : Int32)), .val (.int (p0 &&& (255 : Int32))), .val (.int (x1 &&& (255 : Int32))), .val (.int (x2 &&& (255 : Int32))), .val (.int (p1 &&& (255 : Int32))), .val (.int (y2 &&& (255 : Int32))), .val (.int (Int32.ofNat i0)), .val (.ref bm), .val (.ref bb), .unset] [(.int (0 : Int32))])
    refine own_go (fun _ k => XS.iload X77.here hx rfl (hb hby at_134) rfl k) ?_
    show own_Ends _ _ _ _ _ _ _ T77 (mkF m 136 #[.val (.int p0), .val (.int p1), .val (.int p2), .val (.int p3), .val (.int (3 : Int32)), .val (.int (p0 &&& (255 : Int32))), .val (.int (x1 &&& (255 : Int32))), .val (.int (x2 &&& (255 : Int32))), .val (.int (p1 &&& (255 : Int32))), .val (.int (y2 &&& (255 : Int32))), .val (.int (Int32.ofNat i0)), .val (.ref bm), .val (.ref bb), .unset] [(.int (p0 &&& (255 : Int32))), (.int (0 : Int32))])
    refine own_go (fun _ k => XS.iload X77.here hx rfl (hb hby at_136) rfl k) ?_
    show own_Ends _ _ _ _ _ _ _ T77 (mkF m 138 #[.val (.int p0), .val (.int p1), .val (.int p2), .val (.int p3), .val (.int (3 : Int32)), .val (.int (p0 &&& (255 : Int32))), .val (.int (x1 &&& (255 : Int32))), .val (.int (x2 &&& (255 : Int32))), .val (.int (p1 &&& (255 : Int32))), .val (.int (y2 &&& (255 : Int32))), .val (.int (Int32.ofNat i0)), .val (.ref bm), .val (.ref bb), .unset] [(.int (3 : Int32)), (.int (p0 &&& (255 : Int32))), (.int (0 : Int32))])
    refine own_go (fun _ k => XS.iload X77.here hx rfl (hb hby at_138) rfl k) ?_
    show own_Ends _ _ _ _ _ _ _ T77 (mkF m 140 #[.val (.int p0), .val (.int p1), .val (.int p2), .val (.int p3), .val (.int (3 : Int32)), .val (.int (p0 &&& (255 : Int32))), .val (.int (x1 &&& (255 : Int32))), .val (.int (x2 &&& (255 : Int32))), .val (.int (p1 &&& (255 : Int32))), .val (.int (y2 &&& (255 : Int32))), .val (.int (Int32.ofNat i0)), .val (.ref bm), .val (.ref bb), .unset] [(.int (Int32.ofNat i0)), (.int (3 : Int32)), (.int (p0 &&& (255 : Int32))), (.int (0 : Int32))])
    refine own_go (fun _ k => XS.iload X77.here hx rfl (hb hby at_140) rfl k) ?_
    show own_Ends _ _ _ _ _ _ _ T77 (mkF m 142 #[.val (.int p0), .val (.int p1), .val (.int p2), .val (.int p3), .val (.int (3 : Int32)), .val (.int (p0 &&& (255 : Int32))), .val (.int (x1 &&& (255 : Int32))), .val (.int (x2 &&& (255 : Int32))), .val (.int (p1 &&& (255 : Int32))), .val (.int (y2 &&& (255 : Int32))), .val (.int (Int32.ofNat i0)), .val (.ref bm), .val (.ref bb), .unset] [(.int (p1 &&& (255 : Int32))), (.int (Int32.ofNat i0)), (.int (3 : Int32)), (.int (p0 &&& (255 : Int32))), (.int (0 : Int32))])
    refine own_go (fun _ k => XS.iload X77.here hx rfl (hb hby at_142) rfl k) ?_
    show own_Ends _ _ _ _ _ _ _ T77 (mkF m 144 #[.val (.int p0), .val (.int p1), .val (.int p2), .val (.int p3), .val (.int (3 : Int32)), .val (.int (p0 &&& (255 : Int32))), .val (.int (x1 &&& (255 : Int32))), .val (.int (x2 &&& (255 : Int32))), .val (.int (p1 &&& (255 : Int32))), .val (.int (y2 &&& (255 : Int32))), .val (.int (Int32.ofNat i0)), .val (.ref bm), .val (.ref bb), .unset] [(.int (y2 &&& (255 : Int32))), (.int (p1 &&& (255 : Int32))), (.int (Int32.ofNat i0)), (.int (3 : Int32)), (.int (p0 &&& (255 : Int32))), (.int (0 : Int32))])
    have VB : own_Ar Z T77.heap ba kb .byte 4 (fun j => .int ((fun j => if j = 2 then own_by (x2 &&& (255 : Int32)) else if j = 1 then own_by (x1 &&& (255 : Int32)) else if j = 0 then own_by (p0 &&& (255 : Int32)) else (0 : Int32)) j)) := A77.cong (fun i _ => by
      by_cases q0 : i = 0 <;> by_cases q1 : i = 1 <;> by_cases q2 : i = 2 <;> simp [q0, q1, q2])
    have VM : own_Ar Z T77.heap bm k70 .boolean 256 (fun j => .int (own_mk (p1 &&& (255 : Int32)) (y2 &&& (255 : Int32)) j)) := V_bm_77
    obtain ⟨v78, T78, L78, X78, hQ78, st78⟩ := own_callS X77 hx hZ hown (hw _ (List.mem_of_getElem? (i := 28) rfl)) (hw _ (List.mem_of_getElem? (i := 29) rfl)) (hw _ (List.mem_of_getElem? (i := 30) rfl)) (hw _ (List.mem_of_getElem? (i := 31) rfl)) (rm6 l Z a0 hw (0 : Int32) (p0 &&& (255 : Int32)) (3 : Int32) (Int32.ofNat i0) (p1 &&& (255 : Int32)) (y2 &&& (255 : Int32)) T77.heap) rfl (g := (mkF m 144 #[.val (.int p0), .val (.int p1), .val (.int p2), .val (.int p3), .val (.int (3 : Int32)), .val (.int (p0 &&& (255 : Int32))), .val (.int (x1 &&& (255 : Int32))), .val (.int (x2 &&& (255 : Int32))), .val (.int (p1 &&& (255 : Int32))), .val (.int (y2 &&& (255 : Int32))), .val (.int (Int32.ofNat i0)), .val (.ref bm), .val (.ref bb), .unset] [(.int (y2 &&& (255 : Int32))), (.int (p1 &&& (255 : Int32))), (.int (Int32.ofNat i0)), (.int (3 : Int32)), (.int (p0 &&& (255 : Int32))), (.int (0 : Int32))])) rfl (by rw [hml]; rfl) (argsL := [(.int (0 : Int32)), (.int (p0 &&& (255 : Int32))), (.int (3 : Int32)), (.int (Int32.ofNat i0)), (.int (p1 &&& (255 : Int32))), (.int (y2 &&& (255 : Int32)))]) (rest := []) (lenOf pd_2 rfl) rfl rfl (W := 0) (by show 2 * 0 + _ ≤ _; exact Nat.le_of_eq rfl) (hb hby at_144) (by decide) (by decide) (by decide) (by decide) (by decide)
    obtain ⟨rfl, rfl, e78⟩ := hQ78
    refine own_go st78 ?_
    have N78 := Fr.app N77 (Fr.nil _)
    show own_Ends _ _ _ _ _ _ _ T78 (mkF m 147 #[.val (.int p0), .val (.int p1), .val (.int p2), .val (.int p3), .val (.int (3 : Int32)), .val (.int (p0 &&& (255 : Int32))), .val (.int (x1 &&& (255 : Int32))), .val (.int (x2 &&& (255 : Int32))), .val (.int (p1 &&& (255 : Int32))), .val (.int (y2 &&& (255 : Int32))), .val (.int (Int32.ofNat i0)), .val (.ref bm), .val (.ref bb), .unset] [(.int (own_hit (0 : Int32) (p0 &&& (255 : Int32)) (3 : Int32) (Int32.ofNat i0) (p1 &&& (255 : Int32)) (y2 &&& (255 : Int32))))])
    by_cases t0 : (own_hit (0 : Int32) (p0 &&& (255 : Int32)) (3 : Int32) (Int32.ofNat i0) (p1 &&& (255 : Int32)) (y2 &&& (255 : Int32))) = (0 : Int32)
    · refine own_go (fun _ k => XS.ifNo X78.here hx rfl (hb hby at_147) rfl ((if0 _ _).trans (teq t0).2) k) ?_
      show own_Ends _ _ _ _ _ _ _ T78 (mkF m 150 #[.val (.int p0), .val (.int p1), .val (.int p2), .val (.int p3), .val (.int (3 : Int32)), .val (.int (p0 &&& (255 : Int32))), .val (.int (x1 &&& (255 : Int32))), .val (.int (x2 &&& (255 : Int32))), .val (.int (p1 &&& (255 : Int32))), .val (.int (y2 &&& (255 : Int32))), .val (.int (Int32.ofNat i0)), .val (.ref bm), .val (.ref bb), .unset] [])
      refine own_go (fun _ k => XS.iconst X78.here hx rfl (hb hby at_150) k) ?_
      show own_Ends _ _ _ _ _ _ _ T78 (mkF m 151 #[.val (.int p0), .val (.int p1), .val (.int p2), .val (.int p3), .val (.int (3 : Int32)), .val (.int (p0 &&& (255 : Int32))), .val (.int (x1 &&& (255 : Int32))), .val (.int (x2 &&& (255 : Int32))), .val (.int (p1 &&& (255 : Int32))), .val (.int (y2 &&& (255 : Int32))), .val (.int (Int32.ofNat i0)), .val (.ref bm), .val (.ref bb), .unset] [(.int (1 : Int32))])
      refine own_go (fun _ k => XS.iload X78.here hx rfl (hb hby at_151) rfl k) ?_
      show own_Ends _ _ _ _ _ _ _ T78 (mkF m 153 #[.val (.int p0), .val (.int p1), .val (.int p2), .val (.int p3), .val (.int (3 : Int32)), .val (.int (p0 &&& (255 : Int32))), .val (.int (x1 &&& (255 : Int32))), .val (.int (x2 &&& (255 : Int32))), .val (.int (p1 &&& (255 : Int32))), .val (.int (y2 &&& (255 : Int32))), .val (.int (Int32.ofNat i0)), .val (.ref bm), .val (.ref bb), .unset] [(.int (x1 &&& (255 : Int32))), (.int (1 : Int32))])
      refine own_go (fun _ k => XS.iload X78.here hx rfl (hb hby at_153) rfl k) ?_
      show own_Ends _ _ _ _ _ _ _ T78 (mkF m 155 #[.val (.int p0), .val (.int p1), .val (.int p2), .val (.int p3), .val (.int (3 : Int32)), .val (.int (p0 &&& (255 : Int32))), .val (.int (x1 &&& (255 : Int32))), .val (.int (x2 &&& (255 : Int32))), .val (.int (p1 &&& (255 : Int32))), .val (.int (y2 &&& (255 : Int32))), .val (.int (Int32.ofNat i0)), .val (.ref bm), .val (.ref bb), .unset] [(.int (3 : Int32)), (.int (x1 &&& (255 : Int32))), (.int (1 : Int32))])
      refine own_go (fun _ k => XS.iload X78.here hx rfl (hb hby at_155) rfl k) ?_
      show own_Ends _ _ _ _ _ _ _ T78 (mkF m 157 #[.val (.int p0), .val (.int p1), .val (.int p2), .val (.int p3), .val (.int (3 : Int32)), .val (.int (p0 &&& (255 : Int32))), .val (.int (x1 &&& (255 : Int32))), .val (.int (x2 &&& (255 : Int32))), .val (.int (p1 &&& (255 : Int32))), .val (.int (y2 &&& (255 : Int32))), .val (.int (Int32.ofNat i0)), .val (.ref bm), .val (.ref bb), .unset] [(.int (Int32.ofNat i0)), (.int (3 : Int32)), (.int (x1 &&& (255 : Int32))), (.int (1 : Int32))])
      refine own_go (fun _ k => XS.iload X78.here hx rfl (hb hby at_157) rfl k) ?_
      show own_Ends _ _ _ _ _ _ _ T78 (mkF m 159 #[.val (.int p0), .val (.int p1), .val (.int p2), .val (.int p3), .val (.int (3 : Int32)), .val (.int (p0 &&& (255 : Int32))), .val (.int (x1 &&& (255 : Int32))), .val (.int (x2 &&& (255 : Int32))), .val (.int (p1 &&& (255 : Int32))), .val (.int (y2 &&& (255 : Int32))), .val (.int (Int32.ofNat i0)), .val (.ref bm), .val (.ref bb), .unset] [(.int (p1 &&& (255 : Int32))), (.int (Int32.ofNat i0)), (.int (3 : Int32)), (.int (x1 &&& (255 : Int32))), (.int (1 : Int32))])
      refine own_go (fun _ k => XS.iload X78.here hx rfl (hb hby at_159) rfl k) ?_
      show own_Ends _ _ _ _ _ _ _ T78 (mkF m 161 #[.val (.int p0), .val (.int p1), .val (.int p2), .val (.int p3), .val (.int (3 : Int32)), .val (.int (p0 &&& (255 : Int32))), .val (.int (x1 &&& (255 : Int32))), .val (.int (x2 &&& (255 : Int32))), .val (.int (p1 &&& (255 : Int32))), .val (.int (y2 &&& (255 : Int32))), .val (.int (Int32.ofNat i0)), .val (.ref bm), .val (.ref bb), .unset] [(.int (y2 &&& (255 : Int32))), (.int (p1 &&& (255 : Int32))), (.int (Int32.ofNat i0)), (.int (3 : Int32)), (.int (x1 &&& (255 : Int32))), (.int (1 : Int32))])
      obtain ⟨v80, T80, L80, X80, hQ80, st80⟩ := own_callS X78 hx hZ hown (hw _ (List.mem_of_getElem? (i := 28) rfl)) (hw _ (List.mem_of_getElem? (i := 29) rfl)) (hw _ (List.mem_of_getElem? (i := 30) rfl)) (hw _ (List.mem_of_getElem? (i := 31) rfl)) (rm6 l Z a0 hw (1 : Int32) (x1 &&& (255 : Int32)) (3 : Int32) (Int32.ofNat i0) (p1 &&& (255 : Int32)) (y2 &&& (255 : Int32)) T77.heap) e78 (g := (mkF m 161 #[.val (.int p0), .val (.int p1), .val (.int p2), .val (.int p3), .val (.int (3 : Int32)), .val (.int (p0 &&& (255 : Int32))), .val (.int (x1 &&& (255 : Int32))), .val (.int (x2 &&& (255 : Int32))), .val (.int (p1 &&& (255 : Int32))), .val (.int (y2 &&& (255 : Int32))), .val (.int (Int32.ofNat i0)), .val (.ref bm), .val (.ref bb), .unset] [(.int (y2 &&& (255 : Int32))), (.int (p1 &&& (255 : Int32))), (.int (Int32.ofNat i0)), (.int (3 : Int32)), (.int (x1 &&& (255 : Int32))), (.int (1 : Int32))])) rfl (by rw [hml]; rfl) (argsL := [(.int (1 : Int32)), (.int (x1 &&& (255 : Int32))), (.int (3 : Int32)), (.int (Int32.ofNat i0)), (.int (p1 &&& (255 : Int32))), (.int (y2 &&& (255 : Int32)))]) (rest := []) (lenOf pd_2 rfl) rfl rfl (W := 0) (by show 2 * 0 + _ ≤ _; exact Nat.le_of_eq rfl) (hb hby at_161) (by decide) (by decide) (by decide) (by decide) (by decide)
      obtain ⟨rfl, rfl, e80⟩ := hQ80
      refine own_go st80 ?_
      have N80 := Fr.app N78 (Fr.nil _)
      show own_Ends _ _ _ _ _ _ _ T80 (mkF m 164 #[.val (.int p0), .val (.int p1), .val (.int p2), .val (.int p3), .val (.int (3 : Int32)), .val (.int (p0 &&& (255 : Int32))), .val (.int (x1 &&& (255 : Int32))), .val (.int (x2 &&& (255 : Int32))), .val (.int (p1 &&& (255 : Int32))), .val (.int (y2 &&& (255 : Int32))), .val (.int (Int32.ofNat i0)), .val (.ref bm), .val (.ref bb), .unset] [(.int (own_hit (1 : Int32) (x1 &&& (255 : Int32)) (3 : Int32) (Int32.ofNat i0) (p1 &&& (255 : Int32)) (y2 &&& (255 : Int32))))])
      by_cases t1 : (own_hit (1 : Int32) (x1 &&& (255 : Int32)) (3 : Int32) (Int32.ofNat i0) (p1 &&& (255 : Int32)) (y2 &&& (255 : Int32))) = (0 : Int32)
      · refine own_go (fun _ k => XS.ifNo X80.here hx rfl (hb hby at_164) rfl ((if0 _ _).trans (teq t1).2) k) ?_
        show own_Ends _ _ _ _ _ _ _ T80 (mkF m 167 #[.val (.int p0), .val (.int p1), .val (.int p2), .val (.int p3), .val (.int (3 : Int32)), .val (.int (p0 &&& (255 : Int32))), .val (.int (x1 &&& (255 : Int32))), .val (.int (x2 &&& (255 : Int32))), .val (.int (p1 &&& (255 : Int32))), .val (.int (y2 &&& (255 : Int32))), .val (.int (Int32.ofNat i0)), .val (.ref bm), .val (.ref bb), .unset] [])
        refine own_go (fun _ k => XS.iconst X80.here hx rfl (hb hby at_167) k) ?_
        show own_Ends _ _ _ _ _ _ _ T80 (mkF m 168 #[.val (.int p0), .val (.int p1), .val (.int p2), .val (.int p3), .val (.int (3 : Int32)), .val (.int (p0 &&& (255 : Int32))), .val (.int (x1 &&& (255 : Int32))), .val (.int (x2 &&& (255 : Int32))), .val (.int (p1 &&& (255 : Int32))), .val (.int (y2 &&& (255 : Int32))), .val (.int (Int32.ofNat i0)), .val (.ref bm), .val (.ref bb), .unset] [(.int (2 : Int32))])
        refine own_go (fun _ k => XS.iload X80.here hx rfl (hb hby at_168) rfl k) ?_
        show own_Ends _ _ _ _ _ _ _ T80 (mkF m 170 #[.val (.int p0), .val (.int p1), .val (.int p2), .val (.int p3), .val (.int (3 : Int32)), .val (.int (p0 &&& (255 : Int32))), .val (.int (x1 &&& (255 : Int32))), .val (.int (x2 &&& (255 : Int32))), .val (.int (p1 &&& (255 : Int32))), .val (.int (y2 &&& (255 : Int32))), .val (.int (Int32.ofNat i0)), .val (.ref bm), .val (.ref bb), .unset] [(.int (x2 &&& (255 : Int32))), (.int (2 : Int32))])
        refine own_go (fun _ k => XS.iload X80.here hx rfl (hb hby at_170) rfl k) ?_
        show own_Ends _ _ _ _ _ _ _ T80 (mkF m 172 #[.val (.int p0), .val (.int p1), .val (.int p2), .val (.int p3), .val (.int (3 : Int32)), .val (.int (p0 &&& (255 : Int32))), .val (.int (x1 &&& (255 : Int32))), .val (.int (x2 &&& (255 : Int32))), .val (.int (p1 &&& (255 : Int32))), .val (.int (y2 &&& (255 : Int32))), .val (.int (Int32.ofNat i0)), .val (.ref bm), .val (.ref bb), .unset] [(.int (3 : Int32)), (.int (x2 &&& (255 : Int32))), (.int (2 : Int32))])
        refine own_go (fun _ k => XS.iload X80.here hx rfl (hb hby at_172) rfl k) ?_
        show own_Ends _ _ _ _ _ _ _ T80 (mkF m 174 #[.val (.int p0), .val (.int p1), .val (.int p2), .val (.int p3), .val (.int (3 : Int32)), .val (.int (p0 &&& (255 : Int32))), .val (.int (x1 &&& (255 : Int32))), .val (.int (x2 &&& (255 : Int32))), .val (.int (p1 &&& (255 : Int32))), .val (.int (y2 &&& (255 : Int32))), .val (.int (Int32.ofNat i0)), .val (.ref bm), .val (.ref bb), .unset] [(.int (Int32.ofNat i0)), (.int (3 : Int32)), (.int (x2 &&& (255 : Int32))), (.int (2 : Int32))])
        refine own_go (fun _ k => XS.iload X80.here hx rfl (hb hby at_174) rfl k) ?_
        show own_Ends _ _ _ _ _ _ _ T80 (mkF m 176 #[.val (.int p0), .val (.int p1), .val (.int p2), .val (.int p3), .val (.int (3 : Int32)), .val (.int (p0 &&& (255 : Int32))), .val (.int (x1 &&& (255 : Int32))), .val (.int (x2 &&& (255 : Int32))), .val (.int (p1 &&& (255 : Int32))), .val (.int (y2 &&& (255 : Int32))), .val (.int (Int32.ofNat i0)), .val (.ref bm), .val (.ref bb), .unset] [(.int (p1 &&& (255 : Int32))), (.int (Int32.ofNat i0)), (.int (3 : Int32)), (.int (x2 &&& (255 : Int32))), (.int (2 : Int32))])
        refine own_go (fun _ k => XS.iload X80.here hx rfl (hb hby at_176) rfl k) ?_
        show own_Ends _ _ _ _ _ _ _ T80 (mkF m 178 #[.val (.int p0), .val (.int p1), .val (.int p2), .val (.int p3), .val (.int (3 : Int32)), .val (.int (p0 &&& (255 : Int32))), .val (.int (x1 &&& (255 : Int32))), .val (.int (x2 &&& (255 : Int32))), .val (.int (p1 &&& (255 : Int32))), .val (.int (y2 &&& (255 : Int32))), .val (.int (Int32.ofNat i0)), .val (.ref bm), .val (.ref bb), .unset] [(.int (y2 &&& (255 : Int32))), (.int (p1 &&& (255 : Int32))), (.int (Int32.ofNat i0)), (.int (3 : Int32)), (.int (x2 &&& (255 : Int32))), (.int (2 : Int32))])
        obtain ⟨v82, T82, L82, X82, hQ82, st82⟩ := own_callS X80 hx hZ hown (hw _ (List.mem_of_getElem? (i := 28) rfl)) (hw _ (List.mem_of_getElem? (i := 29) rfl)) (hw _ (List.mem_of_getElem? (i := 30) rfl)) (hw _ (List.mem_of_getElem? (i := 31) rfl)) (rm6 l Z a0 hw (2 : Int32) (x2 &&& (255 : Int32)) (3 : Int32) (Int32.ofNat i0) (p1 &&& (255 : Int32)) (y2 &&& (255 : Int32)) T77.heap) e80 (g := (mkF m 178 #[.val (.int p0), .val (.int p1), .val (.int p2), .val (.int p3), .val (.int (3 : Int32)), .val (.int (p0 &&& (255 : Int32))), .val (.int (x1 &&& (255 : Int32))), .val (.int (x2 &&& (255 : Int32))), .val (.int (p1 &&& (255 : Int32))), .val (.int (y2 &&& (255 : Int32))), .val (.int (Int32.ofNat i0)), .val (.ref bm), .val (.ref bb), .unset] [(.int (y2 &&& (255 : Int32))), (.int (p1 &&& (255 : Int32))), (.int (Int32.ofNat i0)), (.int (3 : Int32)), (.int (x2 &&& (255 : Int32))), (.int (2 : Int32))])) rfl (by rw [hml]; rfl) (argsL := [(.int (2 : Int32)), (.int (x2 &&& (255 : Int32))), (.int (3 : Int32)), (.int (Int32.ofNat i0)), (.int (p1 &&& (255 : Int32))), (.int (y2 &&& (255 : Int32)))]) (rest := []) (lenOf pd_2 rfl) rfl rfl (W := 0) (by show 2 * 0 + _ ≤ _; exact Nat.le_of_eq rfl) (hb hby at_178) (by decide) (by decide) (by decide) (by decide) (by decide)
        obtain ⟨rfl, rfl, e82⟩ := hQ82
        refine own_go st82 ?_
        have N82 := Fr.app N80 (Fr.nil _)
        show own_Ends _ _ _ _ _ _ _ T82 (mkF m 181 #[.val (.int p0), .val (.int p1), .val (.int p2), .val (.int p3), .val (.int (3 : Int32)), .val (.int (p0 &&& (255 : Int32))), .val (.int (x1 &&& (255 : Int32))), .val (.int (x2 &&& (255 : Int32))), .val (.int (p1 &&& (255 : Int32))), .val (.int (y2 &&& (255 : Int32))), .val (.int (Int32.ofNat i0)), .val (.ref bm), .val (.ref bb), .unset] [(.int (own_hit (2 : Int32) (x2 &&& (255 : Int32)) (3 : Int32) (Int32.ofNat i0) (p1 &&& (255 : Int32)) (y2 &&& (255 : Int32))))])
        by_cases t2 : (own_hit (2 : Int32) (x2 &&& (255 : Int32)) (3 : Int32) (Int32.ofNat i0) (p1 &&& (255 : Int32)) (y2 &&& (255 : Int32))) = (0 : Int32)
        · refine own_go (fun _ k => XS.ifYes X82.here hx rfl (pc0 := 181) (pc' := 188) rfl (hb hby at_181) rfl ((if0 _ _).trans (teq t2).1) (by decide) (by decide) k) ?_
          show own_Ends _ _ _ _ _ _ _ T82 (mkF m 188 #[.val (.int p0), .val (.int p1), .val (.int p2), .val (.int p3), .val (.int (3 : Int32)), .val (.int (p0 &&& (255 : Int32))), .val (.int (x1 &&& (255 : Int32))), .val (.int (x2 &&& (255 : Int32))), .val (.int (p1 &&& (255 : Int32))), .val (.int (y2 &&& (255 : Int32))), .val (.int (Int32.ofNat i0)), .val (.ref bm), .val (.ref bb), .unset] [])
          refine own_go (fun _ k => XS.iconst X82.here hx rfl (hb hby at_188) k) ?_
          show own_Ends _ _ _ _ _ _ _ T82 (mkF m 189 #[.val (.int p0), .val (.int p1), .val (.int p2), .val (.int p3), .val (.int (3 : Int32)), .val (.int (p0 &&& (255 : Int32))), .val (.int (x1 &&& (255 : Int32))), .val (.int (x2 &&& (255 : Int32))), .val (.int (p1 &&& (255 : Int32))), .val (.int (y2 &&& (255 : Int32))), .val (.int (Int32.ofNat i0)), .val (.ref bm), .val (.ref bb), .unset] [(.int (0 : Int32))])
          refine own_go (fun _ k => XS.istore X82.here hx rfl (hb hby at_189) rfl (l' := #[.val (.int p0), .val (.int p1), .val (.int p2), .val (.int p3), .val (.int (3 : Int32)), .val (.int (p0 &&& (255 : Int32))), .val (.int (x1 &&& (255 : Int32))), .val (.int (x2 &&& (255 : Int32))), .val (.int (p1 &&& (255 : Int32))), .val (.int (y2 &&& (255 : Int32))), .val (.int (Int32.ofNat i0)), .val (.ref bm), .val (.ref bb), .val (.int (0 : Int32))]) rfl k) ?_
          show own_Ends _ _ _ _ _ _ _ T82 (mkF m 191 #[.val (.int p0), .val (.int p1), .val (.int p2), .val (.int p3), .val (.int (3 : Int32)), .val (.int (p0 &&& (255 : Int32))), .val (.int (x1 &&& (255 : Int32))), .val (.int (x2 &&& (255 : Int32))), .val (.int (p1 &&& (255 : Int32))), .val (.int (y2 &&& (255 : Int32))), .val (.int (Int32.ofNat i0)), .val (.ref bm), .val (.ref bb), .val (.int (0 : Int32))] [])
          refine own_go (fun _ k => XS.aload X82.here hx rfl (hb hby at_191) rfl rfl k) ?_
          show own_Ends _ _ _ _ _ _ _ T82 (mkF m 193 #[.val (.int p0), .val (.int p1), .val (.int p2), .val (.int p3), .val (.int (3 : Int32)), .val (.int (p0 &&& (255 : Int32))), .val (.int (x1 &&& (255 : Int32))), .val (.int (x2 &&& (255 : Int32))), .val (.int (p1 &&& (255 : Int32))), .val (.int (y2 &&& (255 : Int32))), .val (.int (Int32.ofNat i0)), .val (.ref bm), .val (.ref bb), .val (.int (0 : Int32))] [(.ref bb)])
          refine own_go (fun _ k => XS.iload X82.here hx rfl (hb hby at_193) rfl k) ?_
          show own_Ends _ _ _ _ _ _ _ T82 (mkF m 195 #[.val (.int p0), .val (.int p1), .val (.int p2), .val (.int p3), .val (.int (3 : Int32)), .val (.int (p0 &&& (255 : Int32))), .val (.int (x1 &&& (255 : Int32))), .val (.int (x2 &&& (255 : Int32))), .val (.int (p1 &&& (255 : Int32))), .val (.int (y2 &&& (255 : Int32))), .val (.int (Int32.ofNat i0)), .val (.ref bm), .val (.ref bb), .val (.int (0 : Int32))] [(.int (Int32.ofNat i0)), (.ref bb)])
          refine own_go (fun _ k => XS.aload X82.here hx rfl (hb hby at_195) rfl rfl k) ?_
          show own_Ends _ _ _ _ _ _ _ T82 (mkF m 197 #[.val (.int p0), .val (.int p1), .val (.int p2), .val (.int p3), .val (.int (3 : Int32)), .val (.int (p0 &&& (255 : Int32))), .val (.int (x1 &&& (255 : Int32))), .val (.int (x2 &&& (255 : Int32))), .val (.int (p1 &&& (255 : Int32))), .val (.int (y2 &&& (255 : Int32))), .val (.int (Int32.ofNat i0)), .val (.ref bm), .val (.ref bb), .val (.int (0 : Int32))] [(.ref bm), (.int (Int32.ofNat i0)), (.ref bb)])
          obtain ⟨v83, T83, L83, X83, hQ83, st83⟩ := own_callV X82 hx hZ hown (hw _ (List.mem_of_getElem? (i := 32) rfl)) (hw _ (List.mem_of_getElem? (i := 33) rfl)) (hw _ (List.mem_of_getElem? (i := 35) rfl)) (hw _ (List.mem_of_getElem? (i := 34) rfl)) (hw _ (List.mem_of_getElem? (i := 4) rfl)) (hw _ (List.mem_of_getElem? (i := 36) rfl)) (rm7 l Z a0 hw bb (Int32.ofNat i0) bm T77.heap ba kb k70 (fun j => if j = 2 then own_by (x2 &&& (255 : Int32)) else if j = 1 then own_by (x1 &&& (255 : Int32)) else if j = 0 then own_by (p0 &&& (255 : Int32)) else (0 : Int32)) (own_mk (p1 &&& (255 : Int32)) (y2 &&& (255 : Int32))) i0 3 B77 G77 VB VM rfl hi1 (by decide)) e82 (g := (mkF m 197 #[.val (.int p0), .val (.int p1), .val (.int p2), .val (.int p3), .val (.int (3 : Int32)), .val (.int (p0 &&& (255 : Int32))), .val (.int (x1 &&& (255 : Int32))), .val (.int (x2 &&& (255 : Int32))), .val (.int (p1 &&& (255 : Int32))), .val (.int (y2 &&& (255 : Int32))), .val (.int (Int32.ofNat i0)), .val (.ref bm), .val (.ref bb), .val (.int (0 : Int32))] [(.ref bm), (.int (Int32.ofNat i0)), (.ref bb)])) rfl (by rw [hml]; rfl) (a := bb) (argsL := [(.int (Int32.ofNat i0)), (.ref bm)]) (rest := []) (E_bb_77) (lenOf pd_3 rfl) rfl rfl (W := 0) (by show 2 * 0 + _ ≤ _; exact Nat.le_of_eq rfl) (hb hby at_197) (by decide) (by decide) (by decide) (by decide) (by decide)
          obtain ⟨rfl, rfl, e83⟩ := hQ83
          refine own_go st83 ?_
          have N83 := Fr.app N82 (Fr.nil _)
          show own_Ends _ _ _ _ _ _ _ T83 (mkF m 200 #[.val (.int p0), .val (.int p1), .val (.int p2), .val (.int p3), .val (.int (3 : Int32)), .val (.int (p0 &&& (255 : Int32))), .val (.int (x1 &&& (255 : Int32))), .val (.int (x2 &&& (255 : Int32))), .val (.int (p1 &&& (255 : Int32))), .val (.int (y2 &&& (255 : Int32))), .val (.int (Int32.ofNat i0)), .val (.ref bm), .val (.ref bb), .val (.int (0 : Int32))] [(.int (own_hol (own_mk (p1 &&& (255 : Int32)) (y2 &&& (255 : Int32))) (fun j => if j = 2 then own_by (x2 &&& (255 : Int32)) else if j = 1 then own_by (x1 &&& (255 : Int32)) else if j = 0 then own_by (p0 &&& (255 : Int32)) else (0 : Int32)) i0 (3 - i0)))])
          refine own_go (fun _ k => XS.iload X83.here hx rfl (hb hby at_200) rfl k) ?_
          show own_Ends _ _ _ _ _ _ _ T83 (mkF m 202 #[.val (.int p0), .val (.int p1), .val (.int p2), .val (.int p3), .val (.int (3 : Int32)), .val (.int (p0 &&& (255 : Int32))), .val (.int (x1 &&& (255 : Int32))), .val (.int (x2 &&& (255 : Int32))), .val (.int (p1 &&& (255 : Int32))), .val (.int (y2 &&& (255 : Int32))), .val (.int (Int32.ofNat i0)), .val (.ref bm), .val (.ref bb), .val (.int (0 : Int32))] [(.int (0 : Int32)), (.int (own_hol (own_mk (p1 &&& (255 : Int32)) (y2 &&& (255 : Int32))) (fun j => if j = 2 then own_by (x2 &&& (255 : Int32)) else if j = 1 then own_by (x1 &&& (255 : Int32)) else if j = 0 then own_by (p0 &&& (255 : Int32)) else (0 : Int32)) i0 (3 - i0)))])
          refine own_go (fun _ k => XS.icmpNo X83.here hx rfl (hb hby at_202) rfl (teq (own_fin3 p0 x1 x2 p1 y2 i0 hi1 0 (by rw [own_exp, if_pos t0, if_pos t1, if_pos t2]))).2 k) ?_
          show own_Ends _ _ _ _ _ _ _ T83 (mkF m 205 #[.val (.int p0), .val (.int p1), .val (.int p2), .val (.int p3), .val (.int (3 : Int32)), .val (.int (p0 &&& (255 : Int32))), .val (.int (x1 &&& (255 : Int32))), .val (.int (x2 &&& (255 : Int32))), .val (.int (p1 &&& (255 : Int32))), .val (.int (y2 &&& (255 : Int32))), .val (.int (Int32.ofNat i0)), .val (.ref bm), .val (.ref bb), .val (.int (0 : Int32))] [])
          refine own_go (fun _ k => XS.iconst X83.here hx rfl (hb hby at_205) k) ?_
          show own_Ends _ _ _ _ _ _ _ T83 (mkF m 206 #[.val (.int p0), .val (.int p1), .val (.int p2), .val (.int p3), .val (.int (3 : Int32)), .val (.int (p0 &&& (255 : Int32))), .val (.int (x1 &&& (255 : Int32))), .val (.int (x2 &&& (255 : Int32))), .val (.int (p1 &&& (255 : Int32))), .val (.int (y2 &&& (255 : Int32))), .val (.int (Int32.ofNat i0)), .val (.ref bm), .val (.ref bb), .val (.int (0 : Int32))] [(.int (1 : Int32))])
          refine own_go (fun _ k => XS.goto X83.here hx rfl (pc0 := 206) (pc' := 210) rfl (hb hby at_206) (by decide) (by decide) k) ?_
          show own_Ends _ _ _ _ _ _ _ T83 (mkF m 210 #[.val (.int p0), .val (.int p1), .val (.int p2), .val (.int p3), .val (.int (3 : Int32)), .val (.int (p0 &&& (255 : Int32))), .val (.int (x1 &&& (255 : Int32))), .val (.int (x2 &&& (255 : Int32))), .val (.int (p1 &&& (255 : Int32))), .val (.int (y2 &&& (255 : Int32))), .val (.int (Int32.ofNat i0)), .val (.ref bm), .val (.ref bb), .val (.int (0 : Int32))] [(.int (1 : Int32))])
          exact own_retZ X83 hx hlk hret (by decide) (hb hby at_210) (by decide) (by decide) ⟨rfl, N83⟩
        · refine own_go (fun _ k => XS.ifNo X82.here hx rfl (hb hby at_181) rfl ((if0 _ _).trans (feq t2).1) k) ?_
          show own_Ends _ _ _ _ _ _ _ T82 (mkF m 184 #[.val (.int p0), .val (.int p1), .val (.int p2), .val (.int p3), .val (.int (3 : Int32)), .val (.int (p0 &&& (255 : Int32))), .val (.int (x1 &&& (255 : Int32))), .val (.int (x2 &&& (255 : Int32))), .val (.int (p1 &&& (255 : Int32))), .val (.int (y2 &&& (255 : Int32))), .val (.int (Int32.ofNat i0)), .val (.ref bm), .val (.ref bb), .unset] [])
          refine own_go (fun _ k => XS.iconst X82.here hx rfl (hb hby at_184) k) ?_
          show own_Ends _ _ _ _ _ _ _ T82 (mkF m 185 #[.val (.int p0), .val (.int p1), .val (.int p2), .val (.int p3), .val (.int (3 : Int32)), .val (.int (p0 &&& (255 : Int32))), .val (.int (x1 &&& (255 : Int32))), .val (.int (x2 &&& (255 : Int32))), .val (.int (p1 &&& (255 : Int32))), .val (.int (y2 &&& (255 : Int32))), .val (.int (Int32.ofNat i0)), .val (.ref bm), .val (.ref bb), .unset] [(.int (1 : Int32))])
          refine own_go (fun _ k => XS.goto X82.here hx rfl (pc0 := 185) (pc' := 189) rfl (hb hby at_185) (by decide) (by decide) k) ?_
          show own_Ends _ _ _ _ _ _ _ T82 (mkF m 189 #[.val (.int p0), .val (.int p1), .val (.int p2), .val (.int p3), .val (.int (3 : Int32)), .val (.int (p0 &&& (255 : Int32))), .val (.int (x1 &&& (255 : Int32))), .val (.int (x2 &&& (255 : Int32))), .val (.int (p1 &&& (255 : Int32))), .val (.int (y2 &&& (255 : Int32))), .val (.int (Int32.ofNat i0)), .val (.ref bm), .val (.ref bb), .unset] [(.int (1 : Int32))])
          refine own_go (fun _ k => XS.istore X82.here hx rfl (hb hby at_189) rfl (l' := #[.val (.int p0), .val (.int p1), .val (.int p2), .val (.int p3), .val (.int (3 : Int32)), .val (.int (p0 &&& (255 : Int32))), .val (.int (x1 &&& (255 : Int32))), .val (.int (x2 &&& (255 : Int32))), .val (.int (p1 &&& (255 : Int32))), .val (.int (y2 &&& (255 : Int32))), .val (.int (Int32.ofNat i0)), .val (.ref bm), .val (.ref bb), .val (.int (1 : Int32))]) rfl k) ?_
          show own_Ends _ _ _ _ _ _ _ T82 (mkF m 191 #[.val (.int p0), .val (.int p1), .val (.int p2), .val (.int p3), .val (.int (3 : Int32)), .val (.int (p0 &&& (255 : Int32))), .val (.int (x1 &&& (255 : Int32))), .val (.int (x2 &&& (255 : Int32))), .val (.int (p1 &&& (255 : Int32))), .val (.int (y2 &&& (255 : Int32))), .val (.int (Int32.ofNat i0)), .val (.ref bm), .val (.ref bb), .val (.int (1 : Int32))] [])
          refine own_go (fun _ k => XS.aload X82.here hx rfl (hb hby at_191) rfl rfl k) ?_
          show own_Ends _ _ _ _ _ _ _ T82 (mkF m 193 #[.val (.int p0), .val (.int p1), .val (.int p2), .val (.int p3), .val (.int (3 : Int32)), .val (.int (p0 &&& (255 : Int32))), .val (.int (x1 &&& (255 : Int32))), .val (.int (x2 &&& (255 : Int32))), .val (.int (p1 &&& (255 : Int32))), .val (.int (y2 &&& (255 : Int32))), .val (.int (Int32.ofNat i0)), .val (.ref bm), .val (.ref bb), .val (.int (1 : Int32))] [(.ref bb)])
          refine own_go (fun _ k => XS.iload X82.here hx rfl (hb hby at_193) rfl k) ?_
          show own_Ends _ _ _ _ _ _ _ T82 (mkF m 195 #[.val (.int p0), .val (.int p1), .val (.int p2), .val (.int p3), .val (.int (3 : Int32)), .val (.int (p0 &&& (255 : Int32))), .val (.int (x1 &&& (255 : Int32))), .val (.int (x2 &&& (255 : Int32))), .val (.int (p1 &&& (255 : Int32))), .val (.int (y2 &&& (255 : Int32))), .val (.int (Int32.ofNat i0)), .val (.ref bm), .val (.ref bb), .val (.int (1 : Int32))] [(.int (Int32.ofNat i0)), (.ref bb)])
          refine own_go (fun _ k => XS.aload X82.here hx rfl (hb hby at_195) rfl rfl k) ?_
          show own_Ends _ _ _ _ _ _ _ T82 (mkF m 197 #[.val (.int p0), .val (.int p1), .val (.int p2), .val (.int p3), .val (.int (3 : Int32)), .val (.int (p0 &&& (255 : Int32))), .val (.int (x1 &&& (255 : Int32))), .val (.int (x2 &&& (255 : Int32))), .val (.int (p1 &&& (255 : Int32))), .val (.int (y2 &&& (255 : Int32))), .val (.int (Int32.ofNat i0)), .val (.ref bm), .val (.ref bb), .val (.int (1 : Int32))] [(.ref bm), (.int (Int32.ofNat i0)), (.ref bb)])
          obtain ⟨v84, T84, L84, X84, hQ84, st84⟩ := own_callV X82 hx hZ hown (hw _ (List.mem_of_getElem? (i := 32) rfl)) (hw _ (List.mem_of_getElem? (i := 33) rfl)) (hw _ (List.mem_of_getElem? (i := 35) rfl)) (hw _ (List.mem_of_getElem? (i := 34) rfl)) (hw _ (List.mem_of_getElem? (i := 4) rfl)) (hw _ (List.mem_of_getElem? (i := 36) rfl)) (rm7 l Z a0 hw bb (Int32.ofNat i0) bm T77.heap ba kb k70 (fun j => if j = 2 then own_by (x2 &&& (255 : Int32)) else if j = 1 then own_by (x1 &&& (255 : Int32)) else if j = 0 then own_by (p0 &&& (255 : Int32)) else (0 : Int32)) (own_mk (p1 &&& (255 : Int32)) (y2 &&& (255 : Int32))) i0 3 B77 G77 VB VM rfl hi1 (by decide)) e82 (g := (mkF m 197 #[.val (.int p0), .val (.int p1), .val (.int p2), .val (.int p3), .val (.int (3 : Int32)), .val (.int (p0 &&& (255 : Int32))), .val (.int (x1 &&& (255 : Int32))), .val (.int (x2 &&& (255 : Int32))), .val (.int (p1 &&& (255 : Int32))), .val (.int (y2 &&& (255 : Int32))), .val (.int (Int32.ofNat i0)), .val (.ref bm), .val (.ref bb), .val (.int (1 : Int32))] [(.ref bm), (.int (Int32.ofNat i0)), (.ref bb)])) rfl (by rw [hml]; rfl) (a := bb) (argsL := [(.int (Int32.ofNat i0)), (.ref bm)]) (rest := []) (E_bb_77) (lenOf pd_3 rfl) rfl rfl (W := 0) (by show 2 * 0 + _ ≤ _; exact Nat.le_of_eq rfl) (hb hby at_197) (by decide) (by decide) (by decide) (by decide) (by decide)
          obtain ⟨rfl, rfl, e84⟩ := hQ84
          refine own_go st84 ?_
          have N84 := Fr.app N82 (Fr.nil _)
          show own_Ends _ _ _ _ _ _ _ T84 (mkF m 200 #[.val (.int p0), .val (.int p1), .val (.int p2), .val (.int p3), .val (.int (3 : Int32)), .val (.int (p0 &&& (255 : Int32))), .val (.int (x1 &&& (255 : Int32))), .val (.int (x2 &&& (255 : Int32))), .val (.int (p1 &&& (255 : Int32))), .val (.int (y2 &&& (255 : Int32))), .val (.int (Int32.ofNat i0)), .val (.ref bm), .val (.ref bb), .val (.int (1 : Int32))] [(.int (own_hol (own_mk (p1 &&& (255 : Int32)) (y2 &&& (255 : Int32))) (fun j => if j = 2 then own_by (x2 &&& (255 : Int32)) else if j = 1 then own_by (x1 &&& (255 : Int32)) else if j = 0 then own_by (p0 &&& (255 : Int32)) else (0 : Int32)) i0 (3 - i0)))])
          refine own_go (fun _ k => XS.iload X84.here hx rfl (hb hby at_200) rfl k) ?_
          show own_Ends _ _ _ _ _ _ _ T84 (mkF m 202 #[.val (.int p0), .val (.int p1), .val (.int p2), .val (.int p3), .val (.int (3 : Int32)), .val (.int (p0 &&& (255 : Int32))), .val (.int (x1 &&& (255 : Int32))), .val (.int (x2 &&& (255 : Int32))), .val (.int (p1 &&& (255 : Int32))), .val (.int (y2 &&& (255 : Int32))), .val (.int (Int32.ofNat i0)), .val (.ref bm), .val (.ref bb), .val (.int (1 : Int32))] [(.int (1 : Int32)), (.int (own_hol (own_mk (p1 &&& (255 : Int32)) (y2 &&& (255 : Int32))) (fun j => if j = 2 then own_by (x2 &&& (255 : Int32)) else if j = 1 then own_by (x1 &&& (255 : Int32)) else if j = 0 then own_by (p0 &&& (255 : Int32)) else (0 : Int32)) i0 (3 - i0)))])
          refine own_go (fun _ k => XS.icmpNo X84.here hx rfl (hb hby at_202) rfl (teq (own_fin3 p0 x1 x2 p1 y2 i0 hi1 1 (by rw [own_exp, if_pos t0, if_pos t1, if_neg t2]))).2 k) ?_
          show own_Ends _ _ _ _ _ _ _ T84 (mkF m 205 #[.val (.int p0), .val (.int p1), .val (.int p2), .val (.int p3), .val (.int (3 : Int32)), .val (.int (p0 &&& (255 : Int32))), .val (.int (x1 &&& (255 : Int32))), .val (.int (x2 &&& (255 : Int32))), .val (.int (p1 &&& (255 : Int32))), .val (.int (y2 &&& (255 : Int32))), .val (.int (Int32.ofNat i0)), .val (.ref bm), .val (.ref bb), .val (.int (1 : Int32))] [])
          refine own_go (fun _ k => XS.iconst X84.here hx rfl (hb hby at_205) k) ?_
          show own_Ends _ _ _ _ _ _ _ T84 (mkF m 206 #[.val (.int p0), .val (.int p1), .val (.int p2), .val (.int p3), .val (.int (3 : Int32)), .val (.int (p0 &&& (255 : Int32))), .val (.int (x1 &&& (255 : Int32))), .val (.int (x2 &&& (255 : Int32))), .val (.int (p1 &&& (255 : Int32))), .val (.int (y2 &&& (255 : Int32))), .val (.int (Int32.ofNat i0)), .val (.ref bm), .val (.ref bb), .val (.int (1 : Int32))] [(.int (1 : Int32))])
          refine own_go (fun _ k => XS.goto X84.here hx rfl (pc0 := 206) (pc' := 210) rfl (hb hby at_206) (by decide) (by decide) k) ?_
          show own_Ends _ _ _ _ _ _ _ T84 (mkF m 210 #[.val (.int p0), .val (.int p1), .val (.int p2), .val (.int p3), .val (.int (3 : Int32)), .val (.int (p0 &&& (255 : Int32))), .val (.int (x1 &&& (255 : Int32))), .val (.int (x2 &&& (255 : Int32))), .val (.int (p1 &&& (255 : Int32))), .val (.int (y2 &&& (255 : Int32))), .val (.int (Int32.ofNat i0)), .val (.ref bm), .val (.ref bb), .val (.int (1 : Int32))] [(.int (1 : Int32))])
          exact own_retZ X84 hx hlk hret (by decide) (hb hby at_210) (by decide) (by decide) ⟨rfl, N84⟩
      · refine own_go (fun _ k => XS.ifYes X80.here hx rfl (pc0 := 164) (pc' := 184) rfl (hb hby at_164) rfl ((if0 _ _).trans (feq t1).2) (by decide) (by decide) k) ?_
        show own_Ends _ _ _ _ _ _ _ T80 (mkF m 184 #[.val (.int p0), .val (.int p1), .val (.int p2), .val (.int p3), .val (.int (3 : Int32)), .val (.int (p0 &&& (255 : Int32))), .val (.int (x1 &&& (255 : Int32))), .val (.int (x2 &&& (255 : Int32))), .val (.int (p1 &&& (255 : Int32))), .val (.int (y2 &&& (255 : Int32))), .val (.int (Int32.ofNat i0)), .val (.ref bm), .val (.ref bb), .unset] [])
        refine own_go (fun _ k => XS.iconst X80.here hx rfl (hb hby at_184) k) ?_
        show own_Ends _ _ _ _ _ _ _ T80 (mkF m 185 #[.val (.int p0), .val (.int p1), .val (.int p2), .val (.int p3), .val (.int (3 : Int32)), .val (.int (p0 &&& (255 : Int32))), .val (.int (x1 &&& (255 : Int32))), .val (.int (x2 &&& (255 : Int32))), .val (.int (p1 &&& (255 : Int32))), .val (.int (y2 &&& (255 : Int32))), .val (.int (Int32.ofNat i0)), .val (.ref bm), .val (.ref bb), .unset] [(.int (1 : Int32))])
        refine own_go (fun _ k => XS.goto X80.here hx rfl (pc0 := 185) (pc' := 189) rfl (hb hby at_185) (by decide) (by decide) k) ?_
        show own_Ends _ _ _ _ _ _ _ T80 (mkF m 189 #[.val (.int p0), .val (.int p1), .val (.int p2), .val (.int p3), .val (.int (3 : Int32)), .val (.int (p0 &&& (255 : Int32))), .val (.int (x1 &&& (255 : Int32))), .val (.int (x2 &&& (255 : Int32))), .val (.int (p1 &&& (255 : Int32))), .val (.int (y2 &&& (255 : Int32))), .val (.int (Int32.ofNat i0)), .val (.ref bm), .val (.ref bb), .unset] [(.int (1 : Int32))])
        refine own_go (fun _ k => XS.istore X80.here hx rfl (hb hby at_189) rfl (l' := #[.val (.int p0), .val (.int p1), .val (.int p2), .val (.int p3), .val (.int (3 : Int32)), .val (.int (p0 &&& (255 : Int32))), .val (.int (x1 &&& (255 : Int32))), .val (.int (x2 &&& (255 : Int32))), .val (.int (p1 &&& (255 : Int32))), .val (.int (y2 &&& (255 : Int32))), .val (.int (Int32.ofNat i0)), .val (.ref bm), .val (.ref bb), .val (.int (1 : Int32))]) rfl k) ?_
        show own_Ends _ _ _ _ _ _ _ T80 (mkF m 191 #[.val (.int p0), .val (.int p1), .val (.int p2), .val (.int p3), .val (.int (3 : Int32)), .val (.int (p0 &&& (255 : Int32))), .val (.int (x1 &&& (255 : Int32))), .val (.int (x2 &&& (255 : Int32))), .val (.int (p1 &&& (255 : Int32))), .val (.int (y2 &&& (255 : Int32))), .val (.int (Int32.ofNat i0)), .val (.ref bm), .val (.ref bb), .val (.int (1 : Int32))] [])
        refine own_go (fun _ k => XS.aload X80.here hx rfl (hb hby at_191) rfl rfl k) ?_
        show own_Ends _ _ _ _ _ _ _ T80 (mkF m 193 #[.val (.int p0), .val (.int p1), .val (.int p2), .val (.int p3), .val (.int (3 : Int32)), .val (.int (p0 &&& (255 : Int32))), .val (.int (x1 &&& (255 : Int32))), .val (.int (x2 &&& (255 : Int32))), .val (.int (p1 &&& (255 : Int32))), .val (.int (y2 &&& (255 : Int32))), .val (.int (Int32.ofNat i0)), .val (.ref bm), .val (.ref bb), .val (.int (1 : Int32))] [(.ref bb)])
        refine own_go (fun _ k => XS.iload X80.here hx rfl (hb hby at_193) rfl k) ?_
        show own_Ends _ _ _ _ _ _ _ T80 (mkF m 195 #[.val (.int p0), .val (.int p1), .val (.int p2), .val (.int p3), .val (.int (3 : Int32)), .val (.int (p0 &&& (255 : Int32))), .val (.int (x1 &&& (255 : Int32))), .val (.int (x2 &&& (255 : Int32))), .val (.int (p1 &&& (255 : Int32))), .val (.int (y2 &&& (255 : Int32))), .val (.int (Int32.ofNat i0)), .val (.ref bm), .val (.ref bb), .val (.int (1 : Int32))] [(.int (Int32.ofNat i0)), (.ref bb)])
        refine own_go (fun _ k => XS.aload X80.here hx rfl (hb hby at_195) rfl rfl k) ?_
        show own_Ends _ _ _ _ _ _ _ T80 (mkF m 197 #[.val (.int p0), .val (.int p1), .val (.int p2), .val (.int p3), .val (.int (3 : Int32)), .val (.int (p0 &&& (255 : Int32))), .val (.int (x1 &&& (255 : Int32))), .val (.int (x2 &&& (255 : Int32))), .val (.int (p1 &&& (255 : Int32))), .val (.int (y2 &&& (255 : Int32))), .val (.int (Int32.ofNat i0)), .val (.ref bm), .val (.ref bb), .val (.int (1 : Int32))] [(.ref bm), (.int (Int32.ofNat i0)), (.ref bb)])
        obtain ⟨v81, T81, L81, X81, hQ81, st81⟩ := own_callV X80 hx hZ hown (hw _ (List.mem_of_getElem? (i := 32) rfl)) (hw _ (List.mem_of_getElem? (i := 33) rfl)) (hw _ (List.mem_of_getElem? (i := 35) rfl)) (hw _ (List.mem_of_getElem? (i := 34) rfl)) (hw _ (List.mem_of_getElem? (i := 4) rfl)) (hw _ (List.mem_of_getElem? (i := 36) rfl)) (rm7 l Z a0 hw bb (Int32.ofNat i0) bm T77.heap ba kb k70 (fun j => if j = 2 then own_by (x2 &&& (255 : Int32)) else if j = 1 then own_by (x1 &&& (255 : Int32)) else if j = 0 then own_by (p0 &&& (255 : Int32)) else (0 : Int32)) (own_mk (p1 &&& (255 : Int32)) (y2 &&& (255 : Int32))) i0 3 B77 G77 VB VM rfl hi1 (by decide)) e80 (g := (mkF m 197 #[.val (.int p0), .val (.int p1), .val (.int p2), .val (.int p3), .val (.int (3 : Int32)), .val (.int (p0 &&& (255 : Int32))), .val (.int (x1 &&& (255 : Int32))), .val (.int (x2 &&& (255 : Int32))), .val (.int (p1 &&& (255 : Int32))), .val (.int (y2 &&& (255 : Int32))), .val (.int (Int32.ofNat i0)), .val (.ref bm), .val (.ref bb), .val (.int (1 : Int32))] [(.ref bm), (.int (Int32.ofNat i0)), (.ref bb)])) rfl (by rw [hml]; rfl) (a := bb) (argsL := [(.int (Int32.ofNat i0)), (.ref bm)]) (rest := []) (E_bb_77) (lenOf pd_3 rfl) rfl rfl (W := 0) (by show 2 * 0 + _ ≤ _; exact Nat.le_of_eq rfl) (hb hby at_197) (by decide) (by decide) (by decide) (by decide) (by decide)
        obtain ⟨rfl, rfl, e81⟩ := hQ81
        refine own_go st81 ?_
        have N81 := Fr.app N80 (Fr.nil _)
        show own_Ends _ _ _ _ _ _ _ T81 (mkF m 200 #[.val (.int p0), .val (.int p1), .val (.int p2), .val (.int p3), .val (.int (3 : Int32)), .val (.int (p0 &&& (255 : Int32))), .val (.int (x1 &&& (255 : Int32))), .val (.int (x2 &&& (255 : Int32))), .val (.int (p1 &&& (255 : Int32))), .val (.int (y2 &&& (255 : Int32))), .val (.int (Int32.ofNat i0)), .val (.ref bm), .val (.ref bb), .val (.int (1 : Int32))] [(.int (own_hol (own_mk (p1 &&& (255 : Int32)) (y2 &&& (255 : Int32))) (fun j => if j = 2 then own_by (x2 &&& (255 : Int32)) else if j = 1 then own_by (x1 &&& (255 : Int32)) else if j = 0 then own_by (p0 &&& (255 : Int32)) else (0 : Int32)) i0 (3 - i0)))])
        refine own_go (fun _ k => XS.iload X81.here hx rfl (hb hby at_200) rfl k) ?_
        show own_Ends _ _ _ _ _ _ _ T81 (mkF m 202 #[.val (.int p0), .val (.int p1), .val (.int p2), .val (.int p3), .val (.int (3 : Int32)), .val (.int (p0 &&& (255 : Int32))), .val (.int (x1 &&& (255 : Int32))), .val (.int (x2 &&& (255 : Int32))), .val (.int (p1 &&& (255 : Int32))), .val (.int (y2 &&& (255 : Int32))), .val (.int (Int32.ofNat i0)), .val (.ref bm), .val (.ref bb), .val (.int (1 : Int32))] [(.int (1 : Int32)), (.int (own_hol (own_mk (p1 &&& (255 : Int32)) (y2 &&& (255 : Int32))) (fun j => if j = 2 then own_by (x2 &&& (255 : Int32)) else if j = 1 then own_by (x1 &&& (255 : Int32)) else if j = 0 then own_by (p0 &&& (255 : Int32)) else (0 : Int32)) i0 (3 - i0)))])
        refine own_go (fun _ k => XS.icmpNo X81.here hx rfl (hb hby at_202) rfl (teq (own_fin3 p0 x1 x2 p1 y2 i0 hi1 1 (by rw [own_exp, if_pos t0, if_neg t1]))).2 k) ?_
        show own_Ends _ _ _ _ _ _ _ T81 (mkF m 205 #[.val (.int p0), .val (.int p1), .val (.int p2), .val (.int p3), .val (.int (3 : Int32)), .val (.int (p0 &&& (255 : Int32))), .val (.int (x1 &&& (255 : Int32))), .val (.int (x2 &&& (255 : Int32))), .val (.int (p1 &&& (255 : Int32))), .val (.int (y2 &&& (255 : Int32))), .val (.int (Int32.ofNat i0)), .val (.ref bm), .val (.ref bb), .val (.int (1 : Int32))] [])
        refine own_go (fun _ k => XS.iconst X81.here hx rfl (hb hby at_205) k) ?_
        show own_Ends _ _ _ _ _ _ _ T81 (mkF m 206 #[.val (.int p0), .val (.int p1), .val (.int p2), .val (.int p3), .val (.int (3 : Int32)), .val (.int (p0 &&& (255 : Int32))), .val (.int (x1 &&& (255 : Int32))), .val (.int (x2 &&& (255 : Int32))), .val (.int (p1 &&& (255 : Int32))), .val (.int (y2 &&& (255 : Int32))), .val (.int (Int32.ofNat i0)), .val (.ref bm), .val (.ref bb), .val (.int (1 : Int32))] [(.int (1 : Int32))])
        refine own_go (fun _ k => XS.goto X81.here hx rfl (pc0 := 206) (pc' := 210) rfl (hb hby at_206) (by decide) (by decide) k) ?_
        show own_Ends _ _ _ _ _ _ _ T81 (mkF m 210 #[.val (.int p0), .val (.int p1), .val (.int p2), .val (.int p3), .val (.int (3 : Int32)), .val (.int (p0 &&& (255 : Int32))), .val (.int (x1 &&& (255 : Int32))), .val (.int (x2 &&& (255 : Int32))), .val (.int (p1 &&& (255 : Int32))), .val (.int (y2 &&& (255 : Int32))), .val (.int (Int32.ofNat i0)), .val (.ref bm), .val (.ref bb), .val (.int (1 : Int32))] [(.int (1 : Int32))])
        exact own_retZ X81 hx hlk hret (by decide) (hb hby at_210) (by decide) (by decide) ⟨rfl, N81⟩
    · refine own_go (fun _ k => XS.ifYes X78.here hx rfl (pc0 := 147) (pc' := 184) rfl (hb hby at_147) rfl ((if0 _ _).trans (feq t0).2) (by decide) (by decide) k) ?_
      show own_Ends _ _ _ _ _ _ _ T78 (mkF m 184 #[.val (.int p0), .val (.int p1), .val (.int p2), .val (.int p3), .val (.int (3 : Int32)), .val (.int (p0 &&& (255 : Int32))), .val (.int (x1 &&& (255 : Int32))), .val (.int (x2 &&& (255 : Int32))), .val (.int (p1 &&& (255 : Int32))), .val (.int (y2 &&& (255 : Int32))), .val (.int (Int32.ofNat i0)), .val (.ref bm), .val (.ref bb), .unset] [])
      refine own_go (fun _ k => XS.iconst X78.here hx rfl (hb hby at_184) k) ?_
      show own_Ends _ _ _ _ _ _ _ T78 (mkF m 185 #[.val (.int p0), .val (.int p1), .val (.int p2), .val (.int p3), .val (.int (3 : Int32)), .val (.int (p0 &&& (255 : Int32))), .val (.int (x1 &&& (255 : Int32))), .val (.int (x2 &&& (255 : Int32))), .val (.int (p1 &&& (255 : Int32))), .val (.int (y2 &&& (255 : Int32))), .val (.int (Int32.ofNat i0)), .val (.ref bm), .val (.ref bb), .unset] [(.int (1 : Int32))])
      refine own_go (fun _ k => XS.goto X78.here hx rfl (pc0 := 185) (pc' := 189) rfl (hb hby at_185) (by decide) (by decide) k) ?_
      show own_Ends _ _ _ _ _ _ _ T78 (mkF m 189 #[.val (.int p0), .val (.int p1), .val (.int p2), .val (.int p3), .val (.int (3 : Int32)), .val (.int (p0 &&& (255 : Int32))), .val (.int (x1 &&& (255 : Int32))), .val (.int (x2 &&& (255 : Int32))), .val (.int (p1 &&& (255 : Int32))), .val (.int (y2 &&& (255 : Int32))), .val (.int (Int32.ofNat i0)), .val (.ref bm), .val (.ref bb), .unset] [(.int (1 : Int32))])
      refine own_go (fun _ k => XS.istore X78.here hx rfl (hb hby at_189) rfl (l' := #[.val (.int p0), .val (.int p1), .val (.int p2), .val (.int p3), .val (.int (3 : Int32)), .val (.int (p0 &&& (255 : Int32))), .val (.int (x1 &&& (255 : Int32))), .val (.int (x2 &&& (255 : Int32))), .val (.int (p1 &&& (255 : Int32))), .val (.int (y2 &&& (255 : Int32))), .val (.int (Int32.ofNat i0)), .val (.ref bm), .val (.ref bb), .val (.int (1 : Int32))]) rfl k) ?_
      show own_Ends _ _ _ _ _ _ _ T78 (mkF m 191 #[.val (.int p0), .val (.int p1), .val (.int p2), .val (.int p3), .val (.int (3 : Int32)), .val (.int (p0 &&& (255 : Int32))), .val (.int (x1 &&& (255 : Int32))), .val (.int (x2 &&& (255 : Int32))), .val (.int (p1 &&& (255 : Int32))), .val (.int (y2 &&& (255 : Int32))), .val (.int (Int32.ofNat i0)), .val (.ref bm), .val (.ref bb), .val (.int (1 : Int32))] [])
      refine own_go (fun _ k => XS.aload X78.here hx rfl (hb hby at_191) rfl rfl k) ?_
      show own_Ends _ _ _ _ _ _ _ T78 (mkF m 193 #[.val (.int p0), .val (.int p1), .val (.int p2), .val (.int p3), .val (.int (3 : Int32)), .val (.int (p0 &&& (255 : Int32))), .val (.int (x1 &&& (255 : Int32))), .val (.int (x2 &&& (255 : Int32))), .val (.int (p1 &&& (255 : Int32))), .val (.int (y2 &&& (255 : Int32))), .val (.int (Int32.ofNat i0)), .val (.ref bm), .val (.ref bb), .val (.int (1 : Int32))] [(.ref bb)])
      refine own_go (fun _ k => XS.iload X78.here hx rfl (hb hby at_193) rfl k) ?_
      show own_Ends _ _ _ _ _ _ _ T78 (mkF m 195 #[.val (.int p0), .val (.int p1), .val (.int p2), .val (.int p3), .val (.int (3 : Int32)), .val (.int (p0 &&& (255 : Int32))), .val (.int (x1 &&& (255 : Int32))), .val (.int (x2 &&& (255 : Int32))), .val (.int (p1 &&& (255 : Int32))), .val (.int (y2 &&& (255 : Int32))), .val (.int (Int32.ofNat i0)), .val (.ref bm), .val (.ref bb), .val (.int (1 : Int32))] [(.int (Int32.ofNat i0)), (.ref bb)])
      refine own_go (fun _ k => XS.aload X78.here hx rfl (hb hby at_195) rfl rfl k) ?_
      show own_Ends _ _ _ _ _ _ _ T78 (mkF m 197 #[.val (.int p0), .val (.int p1), .val (.int p2), .val (.int p3), .val (.int (3 : Int32)), .val (.int (p0 &&& (255 : Int32))), .val (.int (x1 &&& (255 : Int32))), .val (.int (x2 &&& (255 : Int32))), .val (.int (p1 &&& (255 : Int32))), .val (.int (y2 &&& (255 : Int32))), .val (.int (Int32.ofNat i0)), .val (.ref bm), .val (.ref bb), .val (.int (1 : Int32))] [(.ref bm), (.int (Int32.ofNat i0)), (.ref bb)])
      obtain ⟨v79, T79, L79, X79, hQ79, st79⟩ := own_callV X78 hx hZ hown (hw _ (List.mem_of_getElem? (i := 32) rfl)) (hw _ (List.mem_of_getElem? (i := 33) rfl)) (hw _ (List.mem_of_getElem? (i := 35) rfl)) (hw _ (List.mem_of_getElem? (i := 34) rfl)) (hw _ (List.mem_of_getElem? (i := 4) rfl)) (hw _ (List.mem_of_getElem? (i := 36) rfl)) (rm7 l Z a0 hw bb (Int32.ofNat i0) bm T77.heap ba kb k70 (fun j => if j = 2 then own_by (x2 &&& (255 : Int32)) else if j = 1 then own_by (x1 &&& (255 : Int32)) else if j = 0 then own_by (p0 &&& (255 : Int32)) else (0 : Int32)) (own_mk (p1 &&& (255 : Int32)) (y2 &&& (255 : Int32))) i0 3 B77 G77 VB VM rfl hi1 (by decide)) e78 (g := (mkF m 197 #[.val (.int p0), .val (.int p1), .val (.int p2), .val (.int p3), .val (.int (3 : Int32)), .val (.int (p0 &&& (255 : Int32))), .val (.int (x1 &&& (255 : Int32))), .val (.int (x2 &&& (255 : Int32))), .val (.int (p1 &&& (255 : Int32))), .val (.int (y2 &&& (255 : Int32))), .val (.int (Int32.ofNat i0)), .val (.ref bm), .val (.ref bb), .val (.int (1 : Int32))] [(.ref bm), (.int (Int32.ofNat i0)), (.ref bb)])) rfl (by rw [hml]; rfl) (a := bb) (argsL := [(.int (Int32.ofNat i0)), (.ref bm)]) (rest := []) (E_bb_77) (lenOf pd_3 rfl) rfl rfl (W := 0) (by show 2 * 0 + _ ≤ _; exact Nat.le_of_eq rfl) (hb hby at_197) (by decide) (by decide) (by decide) (by decide) (by decide)
      obtain ⟨rfl, rfl, e79⟩ := hQ79
      refine own_go st79 ?_
      have N79 := Fr.app N78 (Fr.nil _)
      show own_Ends _ _ _ _ _ _ _ T79 (mkF m 200 #[.val (.int p0), .val (.int p1), .val (.int p2), .val (.int p3), .val (.int (3 : Int32)), .val (.int (p0 &&& (255 : Int32))), .val (.int (x1 &&& (255 : Int32))), .val (.int (x2 &&& (255 : Int32))), .val (.int (p1 &&& (255 : Int32))), .val (.int (y2 &&& (255 : Int32))), .val (.int (Int32.ofNat i0)), .val (.ref bm), .val (.ref bb), .val (.int (1 : Int32))] [(.int (own_hol (own_mk (p1 &&& (255 : Int32)) (y2 &&& (255 : Int32))) (fun j => if j = 2 then own_by (x2 &&& (255 : Int32)) else if j = 1 then own_by (x1 &&& (255 : Int32)) else if j = 0 then own_by (p0 &&& (255 : Int32)) else (0 : Int32)) i0 (3 - i0)))])
      refine own_go (fun _ k => XS.iload X79.here hx rfl (hb hby at_200) rfl k) ?_
      show own_Ends _ _ _ _ _ _ _ T79 (mkF m 202 #[.val (.int p0), .val (.int p1), .val (.int p2), .val (.int p3), .val (.int (3 : Int32)), .val (.int (p0 &&& (255 : Int32))), .val (.int (x1 &&& (255 : Int32))), .val (.int (x2 &&& (255 : Int32))), .val (.int (p1 &&& (255 : Int32))), .val (.int (y2 &&& (255 : Int32))), .val (.int (Int32.ofNat i0)), .val (.ref bm), .val (.ref bb), .val (.int (1 : Int32))] [(.int (1 : Int32)), (.int (own_hol (own_mk (p1 &&& (255 : Int32)) (y2 &&& (255 : Int32))) (fun j => if j = 2 then own_by (x2 &&& (255 : Int32)) else if j = 1 then own_by (x1 &&& (255 : Int32)) else if j = 0 then own_by (p0 &&& (255 : Int32)) else (0 : Int32)) i0 (3 - i0)))])
      refine own_go (fun _ k => XS.icmpNo X79.here hx rfl (hb hby at_202) rfl (teq (own_fin3 p0 x1 x2 p1 y2 i0 hi1 1 (by rw [own_exp, if_neg t0]))).2 k) ?_
      show own_Ends _ _ _ _ _ _ _ T79 (mkF m 205 #[.val (.int p0), .val (.int p1), .val (.int p2), .val (.int p3), .val (.int (3 : Int32)), .val (.int (p0 &&& (255 : Int32))), .val (.int (x1 &&& (255 : Int32))), .val (.int (x2 &&& (255 : Int32))), .val (.int (p1 &&& (255 : Int32))), .val (.int (y2 &&& (255 : Int32))), .val (.int (Int32.ofNat i0)), .val (.ref bm), .val (.ref bb), .val (.int (1 : Int32))] [])
      refine own_go (fun _ k => XS.iconst X79.here hx rfl (hb hby at_205) k) ?_
      show own_Ends _ _ _ _ _ _ _ T79 (mkF m 206 #[.val (.int p0), .val (.int p1), .val (.int p2), .val (.int p3), .val (.int (3 : Int32)), .val (.int (p0 &&& (255 : Int32))), .val (.int (x1 &&& (255 : Int32))), .val (.int (x2 &&& (255 : Int32))), .val (.int (p1 &&& (255 : Int32))), .val (.int (y2 &&& (255 : Int32))), .val (.int (Int32.ofNat i0)), .val (.ref bm), .val (.ref bb), .val (.int (1 : Int32))] [(.int (1 : Int32))])
      refine own_go (fun _ k => XS.goto X79.here hx rfl (pc0 := 206) (pc' := 210) rfl (hb hby at_206) (by decide) (by decide) k) ?_
      show own_Ends _ _ _ _ _ _ _ T79 (mkF m 210 #[.val (.int p0), .val (.int p1), .val (.int p2), .val (.int p3), .val (.int (3 : Int32)), .val (.int (p0 &&& (255 : Int32))), .val (.int (x1 &&& (255 : Int32))), .val (.int (x2 &&& (255 : Int32))), .val (.int (p1 &&& (255 : Int32))), .val (.int (y2 &&& (255 : Int32))), .val (.int (Int32.ofNat i0)), .val (.ref bm), .val (.ref bb), .val (.int (1 : Int32))] [(.int (1 : Int32))])
      exact own_retZ X79 hx hlk hret (by decide) (hb hby at_210) (by decide) (by decide) ⟨rfl, N79⟩
set_option maxRecDepth 65536 in
set_option maxHeartbeats 40000000 in
theorem comes_1 {Post : Tables → Env → Array Value → State → Outcome → State → Prop} (hpost : ∀ tb e args s v u, (limb_1_1.after args s (.returned v) u = true ∧ limb_1_2.after args s (.returned v) u = true ∧ True) → FrameEnd s (.returned v) u (Jvm.fieldLocs frame_1_writes args s ++ Jvm.arrayLocs frame_1_arrays args s ++ Jvm.staticLocs frame_1_statics s) 16 640 → Post tb e args s (.returned v) u) :
    ArmFor flags0 classFile x code maxLocals ret World_1 tables_1 room_1 Calls_1 rest_1 Pre_1 Post := by
  intro l hfl _ _ p e ha hc hk s m args below hf hA hF happ hP
  obtain ⟨hcalls, hrest, hpre⟩ := hP
  obtain ⟨-, -, -, hnamed, -, -, -, hat⟩ := (Spec.applies_iff hf).mp happ
  obtain ⟨hg, hn⟩ := and_e (Cond.before_iff.mp (show (Jvm.Cond.and given_1 narrow_1).before args s = true from hpre))
  obtain ⟨g0, gr0⟩ := and_e hg
  obtain ⟨ga0, gr1⟩ := and_e gr0
  obtain ⟨ga1, gr2⟩ := and_e gr1
  obtain ⟨ga2, gr3⟩ := and_e gr2
  have ga3 := gr3
  obtain ⟨w0, w1, w2, w3, rfl⟩ : ∃ w0 w1 w2 w3 : Value, args = #[w0, w1, w2, w3] := by
    have hs : args.size = 4 := by simpa [Cond.value, given_1] using g0
    obtain ⟨L⟩ := args
    match L, hs with
    | [w0, w1, w2, w3], _ => exact ⟨w0, w1, w2, w3, rfl⟩
  have hw := fun d (hd : d ∈ tables_1) => atoms_spec (ws := Jvm.Cond.code x code maxLocals ret :: tables_1) hat d (List.mem_cons_of_mem _ hd)
  have hfit : Fit s := fun {y c} hc i hi => by
    obtain ⟨ha, rfl⟩ := Array.getElem?_eq_some_iff.mp hc
    have q := List.all_eq_true.mp ((Array.all_eq_true_iff_forall_mem.mp hF) _ (Array.getElem_mem ha)) i (List.mem_range.mpr hi)
    simpa [Array.getElem?_eq_getElem hi] using q
  obtain ⟨i0, ei0⟩ := is_v ga0
  obtain rfl : w0 = (.int i0) := Option.some.inj ei0
  obtain ⟨i1, ei1⟩ := is_v ga1
  obtain rfl : w1 = (.int i1) := Option.some.inj ei1
  obtain ⟨i2, ei2⟩ := is_v ga2
  obtain rfl : w2 = (.int i2) := Option.some.inj ei2
  obtain ⟨i3, ei3⟩ := is_v ga3
  obtain rfl : w3 = (.int i3) := Option.some.inj ei3
  obtain ⟨n, o, h1, h2, h3, _, L, rfl, ⟨rfl, N⟩, hq⟩ := rm0 l s _ hw i0 i1 i2 i3 s.heap  tables_1 p e ha hc hk s m _ below hf ((Spec.applies_iff_loose hf).mp happ).1 ⟨rfl, State.Warmed39.refl s, rfl⟩ trivial
  refine ⟨n, _, h1, h2, h3, hpost _ _ _ _ _ _ ⟨Cond.after_iff.mpr rfl, Cond.after_iff.mpr (eq_i res_at (Term.int_eval (1)) rfl), trivial⟩ ⟨hq.1, hq.2.1, (hq.2.2.sift fun y hy => Or.inr (N y hy)).mono (by decide) (by decide)⟩⟩
theorem main_1_1 : Claimed_1_1 := comes_1 fun _ _ _ _ _ _ h hF => ⟨h.1, hF⟩
theorem main_1_2 : Claimed_1_2 := comes_1 fun _ _ _ _ _ _ h hF => ⟨h.2.1, hF⟩

end Jvm.Pilot.@@N@@
namespace Jvm.Pilot.@@N@@
open Jvm Jvm.ClassFile Sem Op Lib Jvm.Free Jvm.Stand Jvm.Pilot.@@N@@.Jvm.D
/-! MADE BY PROGRAM (witnessworld.py) out of the Statement's table words and the real class files: 12 classes; the members and pool entries that the words name. The judged class is class 1, her method 1. -/
namespace start1
open Jvm.ClassFile
def u (s : String) : CpInfo := .utf8 (stringToUtf16 s)
/-- a pool by its gaps: so many unusable entries, then the entry; so many at the end -/
def gap : Nat → List CpInfo → List CpInfo
  | 0, r => r
  | n + 1, r => .unusable :: gap n r
def poolList (es : List (Nat × CpInfo)) (last : Nat) : List CpInfo := es.foldr (fun e r => gap e.1 (e.2 :: r)) (gap last [])
def pool (es : List (Nat × CpInfo)) (last : Nat) : Array CpInfo := ⟨poolList es last⟩
def fileOf (pool : Array CpInfo) (this : Nat) (attrs : Array Attribute := #[]) (ms : Array MethodInfo := #[]) (fl : Nat := 33) (sup : Nat := 0) (ifs : Array Nat := #[]) (fds : Array FieldInfo := #[]) : ClassFile where
  minorVersion := 0
  majorVersion := 65
  constantPool := pool
  accessFlags := fl
  thisClass := this
  superClass := sup
  interfaces := ifs
  fields := fds
  methods := ms
  attributes := attrs
def plain (name : String) (sup : Option ClassId) : Class where
  name := name
  kind := .ordinary
  loader := none
  accessFlags := 33
  super := sup
  interfaces := #[]
  cf := none
  fields := #[]
  methods := #[]
  instanceTypes := #[]
  staticTypes := #[]
  resolved := #[]
  callSites := []
  init := .initialized
  statics := none
  mirror := none

def pool0 : Array CpInfo := pool [(5, u "<init>"), (0, u "()V"), (1, .class_ 10), (1, u "java/lang/Object")] 113

def k0c0 : Code := { maxStack := 0, maxLocals := 1, code := object_method_1_code, exceptionTable := #[], attributes := #[] }
def k0m0 : Method := { name := "<init>", desc := "()V", sig := { parameters := [], returnType := none }, accessFlags := 1, code := some k0c0 }
/-- java/lang/Object -/
def k0 : Class := { plain "java/lang/Object" none with
  accessFlags := 33
  interfaces := #[]
  cf := some (fileOf pool0 8 #[] #[{ accessFlags := 1, nameIndex := 5, descriptorIndex := 6, attributes := #[] }] 33 0 #[] #[])
  fields := #[]
  methods := #[k0m0]
  instanceTypes := #[]
  staticTypes := #[]
  resolved := Array.replicate 124 none
  statics := none }

def pool1 : Array CpInfo := pool [(2, .class_ 4), (1, u "java/lang/Object"), (0, u "<init>"), (0, u "()V"), (0, .integer 2147483647), (0, .class_ 9), (0, u "com/example/ledgerline/ledgerline/TextBuffer"), (0, .methodref 8 11), (0, .nameAndType 5 12), (0, u "(I)V"), (0, .methodref 8 14), (0, .nameAndType 15 16), (0, u "append"), (0, u "(C)Lcom/example/ledgerline/ledgerline/TextBuffer;"), (0, .methodref 18 19), (0, .class_ 20), (0, .nameAndType 21 22), (0, u "com/example/ledgerline/ledgerline/TextBufferHoldsAnyPinLaw"), (0, u "hit"), (0, u "(IIIIII)Z"), (0, .methodref 8 24), (0, .nameAndType 25 26), (0, u "holdsAny"), (0, u "(I[Z)Z"), (2, u "law"), (0, u "(IIII)Z")] 5

def k1m0 : Method := { name := "<init>", desc := "()V", sig := { parameters := [], returnType := none }, accessFlags := 1, code := none }
def k1c1 : Code := { maxStack := 6, maxLocals := 14, code := code, exceptionTable := #[], attributes := #[] }
def k1m1 : Method := { name := "law", desc := "(IIII)Z", sig := { parameters := [.int, .int, .int, .int], returnType := some .boolean }, accessFlags := 9, code := some k1c1 }
def k1c2 : Code := { maxStack := 2, maxLocals := 6, code := method_3_code, exceptionTable := #[], attributes := #[] }
def k1m2 : Method := { name := "hit", desc := "(IIIIII)Z", sig := { parameters := [.int, .int, .int, .int, .int, .int], returnType := some .boolean }, accessFlags := 10, code := some k1c2 }
/-- com/example/ledgerline/ledgerline/TextBufferHoldsAnyPinLaw -/
def k1 : Class := { plain "com/example/ledgerline/ledgerline/TextBufferHoldsAnyPinLaw" (some 0) with
  accessFlags := 49
  interfaces := #[]
  cf := some (fileOf pool1 18 #[] #[{ accessFlags := 1, nameIndex := 5, descriptorIndex := 6, attributes := #[] }, { accessFlags := 9, nameIndex := 29, descriptorIndex := 30, attributes := #[] }, { accessFlags := 10, nameIndex := 21, descriptorIndex := 22, attributes := #[] }] 49 2 #[] #[])
  fields := #[]
  methods := #[k1m0, k1m1, k1m2]
  instanceTypes := #[]
  staticTypes := #[]
  resolved := Array.replicate 36 none
  statics := none }

def pool2 : Array CpInfo := pool [(2, .class_ 4), (1, u "java/lang/CharSequence"), (42, .class_ 48), (0, u "java/lang/CharSequence$1CodePointIterator"), (10, .class_ 60), (0, u "java/lang/CharSequence$1CharIterator"), (5, .class_ 67), (0, u "java/lang/Object")] 63

/-- java/lang/CharSequence -/
def k2 : Class := { plain "java/lang/CharSequence" (some 0) with
  accessFlags := 1537
  interfaces := #[]
  cf := some (fileOf pool2 2 #[.nestMembers #[47, 59]] #[] 1537 66 #[] #[])
  fields := #[]
  methods := #[]
  instanceTypes := #[]
  staticTypes := #[]
  resolved := Array.replicate 131 none
  statics := none }

def pool3 : Array CpInfo := pool [(2, .class_ 4), (1, u "com/example/ledgerline/ledgerline/TextBuffer"), (0, u "<init>"), (0, u "(I)V"), (0, .methodref 8 9), (0, .class_ 10), (0, .nameAndType 5 11), (0, u "java/lang/Object"), (0, u "()V"), (0, .fieldref 2 13), (0, .nameAndType 14 15), (0, u "bytes"), (0, u "[B"), (0, .fieldref 2 17), (0, .nameAndType 18 19), (0, u "length"), (0, u "I"), (21, .methodref 2 42), (0, .nameAndType 43 6), (0, u "reserve"), (0, .methodref 2 45), (0, .nameAndType 46 47), (0, u "latin1"), (0, u "(C)B"), (61, .class_ 110), (0, u "java/lang/CharSequence"), (4, u "holdsAny"), (0, u "(I[Z)Z"), (2, u "append"), (0, u "(C)Lcom/example/ledgerline/ledgerline/TextBuffer;")] 14

def k3m0 : Method := { name := "<init>", desc := "()V", sig := { parameters := [], returnType := none }, accessFlags := 0, code := none }
def k3c1 : Code := { maxStack := 2, maxLocals := 2, code := prog_39_method_2_code, exceptionTable := #[], attributes := #[] }
def k3m1 : Method := { name := "<init>", desc := "(I)V", sig := { parameters := [.int], returnType := none }, accessFlags := 0, code := some k3c1 }
def k3c2 : Code := { maxStack := 3, maxLocals := 4, code := prog_39_method_6_code, exceptionTable := #[], attributes := #[] }
def k3m2 : Method := { name := "holdsAny", desc := "(I[Z)Z", sig := { parameters := [.int, (.array .boolean)], returnType := some .boolean }, accessFlags := 0, code := some k3c2 }
def k3c3 : Code := { maxStack := 5, maxLocals := 2, code := prog_39_method_8_code, exceptionTable := #[], attributes := #[] }
def k3m3 : Method := { name := "append", desc := "(C)Lcom/example/ledgerline/ledgerline/TextBuffer;", sig := { parameters := [.char], returnType := some (.object "com/example/ledgerline/ledgerline/TextBuffer") }, accessFlags := 0, code := some k3c3 }
def k3c4 : Code := { maxStack := 3, maxLocals := 2, code := prog_39_method_17_code, exceptionTable := #[], attributes := #[] }
def k3m4 : Method := { name := "reserve", desc := "(I)V", sig := { parameters := [.int], returnType := none }, accessFlags := 2, code := some k3c4 }
def k3c5 : Code := { maxStack := 7, maxLocals := 1, code := prog_39_method_19_code, exceptionTable := #[], attributes := #[] }
def k3m5 : Method := { name := "latin1", desc := "(C)B", sig := { parameters := [.char], returnType := some .byte }, accessFlags := 10, code := some k3c5 }
/-- com/example/ledgerline/ledgerline/TextBuffer -/
def k3 : Class := { plain "com/example/ledgerline/ledgerline/TextBuffer" (some 0) with
  accessFlags := 48
  interfaces := #[2]
  cf := some (fileOf pool3 2 #[] #[{ accessFlags := 0, nameIndex := 5, descriptorIndex := 11, attributes := #[] }, { accessFlags := 0, nameIndex := 5, descriptorIndex := 6, attributes := #[] }, { accessFlags := 0, nameIndex := 115, descriptorIndex := 116, attributes := #[] }, { accessFlags := 0, nameIndex := 119, descriptorIndex := 120, attributes := #[] }, { accessFlags := 2, nameIndex := 43, descriptorIndex := 6, attributes := #[] }, { accessFlags := 10, nameIndex := 46, descriptorIndex := 47, attributes := #[] }] 48 8 #[109] #[{ accessFlags := 2, nameIndex := 14, descriptorIndex := 15, attributes := #[] }, { accessFlags := 2, nameIndex := 18, descriptorIndex := 19, attributes := #[] }])
  fields := #[{ name := "bytes", type := (.array .byte), accessFlags := 2, slot := 0, constantValue := 0 }, { name := "length", type := .int, accessFlags := 2, slot := 1, constantValue := 0 }]
  methods := #[k3m0, k3m1, k3m2, k3m3, k3m4, k3m5]
  instanceTypes := #[(.array .byte), .int]
  staticTypes := #[]
  resolved := Array.replicate 135 none
  statics := none }

def pool4 : Array CpInfo := pool [(1, u "java/lang/Cloneable"), (0, .class_ 1), (0, u "java/lang/Object"), (0, .class_ 3)] 3

/-- java/lang/Cloneable -/
def k4 : Class := { plain "java/lang/Cloneable" (some 0) with
  accessFlags := 1537
  interfaces := #[]
  cf := some (fileOf pool4 2 #[] #[] 1537 4 #[] #[])
  fields := #[]
  methods := #[]
  instanceTypes := #[]
  staticTypes := #[]
  resolved := Array.replicate 8 none
  statics := none }

def pool5 : Array CpInfo := pool [(1, u "java/io/Serializable"), (0, .class_ 1), (0, u "java/lang/Object"), (0, .class_ 3)] 3

/-- java/io/Serializable -/
def k5 : Class := { plain "java/io/Serializable" (some 0) with
  accessFlags := 1537
  interfaces := #[]
  cf := some (fileOf pool5 2 #[] #[] 1537 4 #[] #[])
  fields := #[]
  methods := #[]
  instanceTypes := #[]
  staticTypes := #[]
  resolved := Array.replicate 8 none
  statics := none }

/-- the primitive boolean -/
def k6 : Class := { plain "boolean" none with kind := .primitive 'Z', accessFlags := 0x411 }
/-- [Z -/
def k7 : Class := { plain "[Z" (some 0) with kind := .array 6 .boolean, interfaces := #[4, 5], accessFlags := 1041 }

/-- the primitive byte -/
def k8 : Class := { plain "byte" none with kind := .primitive 'B', accessFlags := 0x411 }
/-- [B -/
def k9 : Class := { plain "[B" (some 0) with kind := .array 8 .byte, interfaces := #[4, 5], accessFlags := 1041 }

/-- the primitive int -/
def k10 : Class := { plain "int" none with kind := .primitive 'I', accessFlags := 0x411 }
/-- [I -/
def k11 : Class := { plain "[I" (some 0) with kind := .array 10 .int, interfaces := #[4, 5], accessFlags := 1041 }

def heap : Heap := #[]
def classes : Array Class := #[k0, k1, k2, k3, k4, k5, k6, k7, k8, k9, k10, k11]
def interned : List (Array UInt16 × Addr) := []
def slotsUsed : Nat := 0
def theMethod : MethodId := ⟨1, 1⟩
def args0 : Array Value := #[.int 5, .int 1, .int 2, .int 3]
def aboutOver (below : List Frame) : State where
  vm := { classes := classes, interned := interned.toArray }
  heap := heap
  slotsUsed := slotsUsed
  threads := #[{ frames := .invoking theMethod args0 :: below }]
def below0 : List Frame := [.native { method := ⟨0, 0⟩, args := #[] }]
def about1 : State := aboutOver below0
def p0 : Program := .bare "" "" ""
def e0 : Env := launch0.env 0 0 0
theorem w_frames : about1.frames = Frame.invoking theMethod args0 :: below0 := rfl
set_option maxRecDepth 65536 in
theorem w_args : argsFit about1.vm theMethod args0 = true := by decide +kernel
set_option maxRecDepth 65536 in
theorem w_heap : heapFits about1 = true := by decide +kernel
set_option maxRecDepth 65536 in
theorem w_runnable : about1.curStatus? = some .runnable := by decide +kernel
set_option maxRecDepth 65536 in
theorem w_alone : about1.alone = true := by decide +kernel
set_option maxRecDepth 65536 in
theorem w_named : about1.methodNamed? x = some theMethod := by decide +kernel
set_option maxRecDepth 65536 in
theorem w_hears : about1.hears theMethod below0 = true := by decide +kernel
set_option maxRecDepth 65536 in
theorem w_ripe : about1.ripe theMethod args0 below0 = true := by decide +kernel
theorem w_running : about1.status = .running := rfl
set_option maxRecDepth 65536 in
theorem w_room : about1.hasRoom e0.platform room_1 = true :=
  launch0.hasRoom_least _ room_1 (by decide +kernel) (by decide +kernel) (by decide +kernel) (by decide +kernel) (by decide +kernel) (by decide +kernel)
theorem allAtoms_all (ts : List Jvm.Cond) (a : Array Jvm.Value) (st : Jvm.State) : (allAtoms ts).before a st = ts.all (fun c => c.before a st) := by
  induction ts with
  | nil => rfl
  | cons c t ih =>
    show (Jvm.Cond.and c (allAtoms t)).before a st = _
    rw [Jvm.Cond.before_and, ih, List.all_cons]
def words1 : List Jvm.Cond := Jvm.Cond.code x code maxLocals ret :: tables_1
/-- a 'code' word, met by the world's own term for the bytes: nothing is compared byte by byte -/
theorem code_word {y : MethodName} {bytes : ByteArray} {mx : Nat} {rt : Option FieldType} {a : Array Value} {s : State} {m : MethodId} {meth : Method} {c : Code} (h1 : s.methodNamed? y = some m) (h2 : s.vm.method? m = some meth) (h3 : meth.code = some c) (h4 : c.code = bytes)
    (h5 : (c.maxLocals == mx && c.exceptionTable.isEmpty && decide (c.maxStack ≤ mostOperands) && decide (meth.sig.returnType = rt) && !meth.locks && decide (parseMethodDescriptor y.desc = some meth.sig)) = true) : (Jvm.Cond.code y bytes mx rt).before a s = true := by
  simp only [Bool.and_eq_true, beq_iff_eq, Bool.not_eq_true', decide_eq_true_eq] at h5
  obtain ⟨⟨⟨⟨⟨g1, g2⟩, g3⟩, g4⟩, g5⟩, g6⟩ := h5
  simp [Cond.before, Cond.holds, Cond.value, h1, h2, h3, h4, g1, g2, g3, g4, g5, g6]
def isCode : Jvm.Cond → Bool
  | .code _ _ _ _ => true
  | _ => false
theorem all_split {L : List Jvm.Cond} {P : Jvm.Cond → Bool} (h1 : L.all (fun c => isCode c || P c) = true) (h2 : ∀ c ∈ L.filter isCode, P c = true) : L.all P = true := by
  refine List.all_eq_true.mpr fun c hc => ?_
  have h := List.all_eq_true.mp h1 c hc
  rcases Bool.eq_false_or_eq_true (isCode c) with hi | hi
  · exact h2 c (List.mem_filter.mpr ⟨hc, hi⟩)
  · simpa [hi] using h
set_option maxRecDepth 65536 in
theorem w_c0 : (Jvm.Cond.code x code maxLocals ret).before args0 about1 = true := code_word (m := ⟨1, 1⟩) (meth := k1m1) (c := k1c1) (by decide +kernel) rfl rfl rfl (by decide +kernel)
set_option maxRecDepth 65536 in
theorem w_c1 : (Jvm.Cond.code ({ cls := "com/example/ledgerline/ledgerline/TextBuffer", name := "<init>", desc := "(I)V" } : Jvm.MethodName) prog_39_method_2_code (2 : Nat) (Option.none : Option Jvm.ClassFile.FieldType)).before args0 about1 = true := code_word (m := ⟨3, 1⟩) (meth := k3m1) (c := k3c1) (by decide +kernel) rfl rfl rfl (by decide +kernel)
set_option maxRecDepth 65536 in
theorem w_c2 : (Jvm.Cond.code ({ cls := "java/lang/Object", name := "<init>", desc := "()V" } : Jvm.MethodName) object_method_1_code (1 : Nat) (Option.none : Option Jvm.ClassFile.FieldType)).before args0 about1 = true := code_word (m := ⟨0, 0⟩) (meth := k0m0) (c := k0c0) (by decide +kernel) rfl rfl rfl (by decide +kernel)
set_option maxRecDepth 65536 in
theorem w_c3 : (Jvm.Cond.code ({ cls := "com/example/ledgerline/ledgerline/TextBuffer", name := "append", desc := "(C)Lcom/example/ledgerline/ledgerline/TextBuffer;" } : Jvm.MethodName) prog_39_method_8_code (2 : Nat) (Option.some (Jvm.ClassFile.FieldType.object "com/example/ledgerline/ledgerline/TextBuffer"))).before args0 about1 = true := code_word (m := ⟨3, 3⟩) (meth := k3m3) (c := k3c3) (by decide +kernel) rfl rfl rfl (by decide +kernel)
set_option maxRecDepth 65536 in
theorem w_c4 : (Jvm.Cond.code ({ cls := "com/example/ledgerline/ledgerline/TextBuffer", name := "reserve", desc := "(I)V" } : Jvm.MethodName) prog_39_method_17_code (2 : Nat) (Option.none : Option Jvm.ClassFile.FieldType)).before args0 about1 = true := code_word (m := ⟨3, 4⟩) (meth := k3m4) (c := k3c4) (by decide +kernel) rfl rfl rfl (by decide +kernel)
set_option maxRecDepth 65536 in
theorem w_c5 : (Jvm.Cond.code ({ cls := "com/example/ledgerline/ledgerline/TextBuffer", name := "latin1", desc := "(C)B" } : Jvm.MethodName) prog_39_method_19_code (1 : Nat) (Option.some Jvm.ClassFile.FieldType.byte)).before args0 about1 = true := code_word (m := ⟨3, 5⟩) (meth := k3m5) (c := k3c5) (by decide +kernel) rfl rfl rfl (by decide +kernel)
set_option maxRecDepth 65536 in
theorem w_c6 : (Jvm.Cond.code ({ cls := "com/example/ledgerline/ledgerline/TextBufferHoldsAnyPinLaw", name := "hit", desc := "(IIIIII)Z" } : Jvm.MethodName) method_3_code (6 : Nat) (Option.some Jvm.ClassFile.FieldType.boolean)).before args0 about1 = true := code_word (m := ⟨1, 2⟩) (meth := k1m2) (c := k1c2) (by decide +kernel) rfl rfl rfl (by decide +kernel)
set_option maxRecDepth 65536 in
theorem w_c7 : (Jvm.Cond.code ({ cls := "com/example/ledgerline/ledgerline/TextBuffer", name := "holdsAny", desc := "(I[Z)Z" } : Jvm.MethodName) prog_39_method_6_code (4 : Nat) (Option.some Jvm.ClassFile.FieldType.boolean)).before args0 about1 = true := code_word (m := ⟨3, 2⟩) (meth := k3m2) (c := k3c2) (by decide +kernel) rfl rfl rfl (by decide +kernel)
def codes1 : List Jvm.Cond := [Jvm.Cond.code x code maxLocals ret, Jvm.Cond.code ({ cls := "com/example/ledgerline/ledgerline/TextBuffer", name := "<init>", desc := "(I)V" } : Jvm.MethodName) prog_39_method_2_code (2 : Nat) (Option.none : Option Jvm.ClassFile.FieldType), Jvm.Cond.code ({ cls := "java/lang/Object", name := "<init>", desc := "()V" } : Jvm.MethodName) object_method_1_code (1 : Nat) (Option.none : Option Jvm.ClassFile.FieldType), Jvm.Cond.code ({ cls := "com/example/ledgerline/ledgerline/TextBuffer", name := "append", desc := "(C)Lcom/example/ledgerline/ledgerline/TextBuffer;" } : Jvm.MethodName) prog_39_method_8_code (2 : Nat) (Option.some (Jvm.ClassFile.FieldType.object "com/example/ledgerline/ledgerline/TextBuffer")), Jvm.Cond.code ({ cls := "com/example/ledgerline/ledgerline/TextBuffer", name := "reserve", desc := "(I)V" } : Jvm.MethodName) prog_39_method_17_code (2 : Nat) (Option.none : Option Jvm.ClassFile.FieldType), Jvm.Cond.code ({ cls := "com/example/ledgerline/ledgerline/TextBuffer", name := "latin1", desc := "(C)B" } : Jvm.MethodName) prog_39_method_19_code (1 : Nat) (Option.some Jvm.ClassFile.FieldType.byte), Jvm.Cond.code ({ cls := "com/example/ledgerline/ledgerline/TextBufferHoldsAnyPinLaw", name := "hit", desc := "(IIIIII)Z" } : Jvm.MethodName) method_3_code (6 : Nat) (Option.some Jvm.ClassFile.FieldType.boolean), Jvm.Cond.code ({ cls := "com/example/ledgerline/ledgerline/TextBuffer", name := "holdsAny", desc := "(I[Z)Z" } : Jvm.MethodName) prog_39_method_6_code (4 : Nat) (Option.some Jvm.ClassFile.FieldType.boolean)]
set_option maxRecDepth 65536 in
theorem codes_eq : words1.filter isCode = codes1 := rfl
theorem w_codes : ∀ c ∈ words1.filter isCode, c.before args0 about1 = true := by
  rw [codes_eq]
  intro c hc
  simp only [codes1, List.mem_cons, List.not_mem_nil, or_false] at hc
  rcases hc with rfl | rfl | rfl | rfl | rfl | rfl | rfl | rfl
  · exact w_c0
  · exact w_c1
  · exact w_c2
  · exact w_c3
  · exact w_c4
  · exact w_c5
  · exact w_c6
  · exact w_c7
set_option maxRecDepth 65536 in
theorem w_t1 : (words1.take 24).all (fun c => isCode c || c.before args0 about1) = true := by decide +kernel
set_option maxRecDepth 65536 in
theorem w_t2 : (words1.drop 24).all (fun c => isCode c || c.before args0 about1) = true := by decide +kernel
theorem w_tables : (allAtoms (Jvm.Cond.code x code maxLocals ret :: tables_1)).before args0 about1 = true := by
  rw [allAtoms_all]
  show words1.all (fun c => c.before args0 about1) = true
  refine all_split ?_ w_codes
  rw [← List.take_append_drop 24 words1, List.all_append, w_t1, w_t2]
  rfl
set_option maxRecDepth 65536 in
theorem w_case : (Jvm.Cond.and given_1 narrow_1).before args0 about1 = true := by decide +kernel
theorem w_applies : (headSpec (Jvm.Cond.code x code maxLocals ret :: tables_1) room_1).applies x e0.platform about1 = true :=
  (Spec.applies_iff w_frames).mpr ⟨w_running, w_runnable, w_alone, w_named, w_hears, w_ripe, w_room, w_tables⟩
theorem atStart : AtStart classFile x code maxLocals ret World_1 tables_1 room_1 Calls_1 rest_1 Pre_1 launch0 p0 e0 about1 theMethod args0 below0 :=
  ⟨lists_1, trivial, launch0.admits_env _ _ _, launch0.least_env, fairChoices_fair.cas, fairChoices_fair.clock, w_frames, w_args, w_heap, w_applies, trivial, trivial, w_case⟩
end start1
theorem witness_1 : WitnessClaimed_1 := ⟨start1.p0, start1.e0, start1.about1, start1.theMethod, start1.args0, start1.below0, start1.atStart⟩
end Jvm.Pilot.@@N@@
