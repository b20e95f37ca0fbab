import JvmDerived
import JvmDerived.Pilot.@@N@@Statement
import JvmDerived.Pilot.@@N@@Code
set_option linter.unusedVariables false
set_option linter.unusedSimpArgs false
namespace Jvm.Pilot.@@N@@
open Jvm Jvm.ClassFile Sem Op Lib Jvm.Free Jvm.Stand Jvm.LawKit Jvm.RoadKit Bundle Jvm.Pilot.@@N@@.Jvm.D
section OwnLayer
variable {p : Program} {l : Launch} {e : Env} {R : Room} {s : State} {m : MethodId} {args : Array Value} {below : List Frame} {meth : Method} {c : Code} {T : State} {locs : List Loc} {cells slots : Nat} {Z : State} {a0 : Array Value} {h : Heap}
/-- from here the body comes to its return, and Q holds of what it returns, of the heap and of the places written -/
def own_Ends (p : Program) (e : Env) (s : State) (below : List Frame) (C S : Nat) (Q : Option Value → Heap → List Loc → Prop) (T : State) (g : JFrame) : Prop :=
  ∃ s₂ o, Steps p.tables e below (T.setTop g) s₂ ∧ s₂.status = .running ∧ Ended s₂ below o ∧ ∃ v L, o = .returned v ∧ Q v s₂.heap L ∧ FrameEnd s o s₂ L C S
theorem own_go {C S : Nat} {Q : Option Value → Heap → List Loc → Prop} {T' : State} {g g' : JFrame} (st : ∀ t, Steps p.tables e below (T'.setTop g') t → Steps p.tables e below (T.setTop g) t) (k : own_Ends p e s below C S Q T' g') : own_Ends p e s below C S Q T g := by
  obtain ⟨s₂, o, h, r⟩ := k
  exact ⟨s₂, o, st _ h, r⟩
theorem own_cast {C S : Nat} {Q : Option Value → Heap → List Loc → Prop} {g g' : JFrame} (q : g = g') (k : own_Ends p e s below C S Q T g') : own_Ends p e s below C S Q T g := q ▸ k
/-- a body's contract -/
def own_C (l : Launch) (y : MethodName) (bytes : ByteArray) (maxL : Nat) (ret : Option FieldType) (rm : Room) (Z : State) (A : Array Value) (h : Heap) (Q : Option Value → Heap → List Loc → Prop) : Prop :=
  ∀ ws : List Jvm.Cond, MetFree l y (head1 (Jvm.Cond.code y bytes maxL ret :: ws) rm) (fun a U => a = A ∧ Z.Warmed39 U.vm ∧ U.heap = h) (fun _ _ _ _ _ => True) (fun _ U o U' => ∃ v L, o = .returned v ∧ Q v U'.heap L ∧ FrameEnd U o U' L rm.cells rm.slots)
theorem own_enter {y : MethodName} {bytes : ByteArray} {maxL : Nat} {ret : Option FieldType} {rm : Room} {A : Array Value} {Q : Option Value → Heap → List Loc → Prop} (hp : plainFor y = true)
    (body : ∀ (p : Program) (e : Env) (s : State) (m : MethodId) (below : List Frame) (meth : Method) (c : Code) (s₁ : State), Stand p l e rm s m A below meth c s₁ [] 0 0 → p.tables.exec = Jvm.exec → c.code = bytes → c.maxLocals = maxL → s.vm.findClass y.cls = some m.cls → meth.name = y.name → meth.sig.returnType = ret → meth.locks = false → Z.Warmed39 s.vm → s₁.heap = h →
      own_Ends p e s below rm.cells rm.slots Q s₁ (entryFrame m A maxL)) : own_C l y bytes maxL ret rm Z A h Q := by
  intro ws
  refine MetFree.of_bodySF hp hisR ?_
  intro p e s m args below meth c s₁ Bd hml hP hK
  obtain ⟨rfl, hZ, hh⟩ := hP
  exact body p e s m below meth c s₁ (Stand.of_body Bd) Bd.exec Bd.bytes hml (findClass_of_methodNamed Bd.named) (name_of_methodNamed Bd.named Bd.method).1 Bd.returns Bd.notSynchronized hZ (by rw [← hh, Bd.state]; rfl)
theorem own_ret (X : Stand p l e R s m args below meth c T locs cells slots) (hx : p.tables.exec = Jvm.exec) (hlk : meth.locks = false) {Q : Option Value → Heap → List Loc → Prop} {C S pc : Nat} {Ls : Array Slot} {w : Value} {t : FieldType} {i : Instr} {rest : List Value} (hret : meth.sig.returnType = some t) (hn : narrow t w = w)
    (hi : (i = .ireturn ∧ (t = .int ∨ t = .boolean ∨ t = .byte ∨ t = .char ∨ t = .short) ∧ ∃ z, w = .int z) ∨ (i = .lreturn ∧ t = .long ∧ ∃ z, w = .long z) ∨ (i = .dreturn ∧ t = .double ∧ ∃ z, w = .double z) ∨ (i = .freturn ∧ t = .float ∧ ∃ z, w = .float z) ∨ (i = .areturn ∧ t.isReference = true ∧ w.isRef = true))
    (hd : decode c.code pc = .ok (i, 1)) (hc : cells ≤ C) (hs : slots ≤ S) (hq : Q (some w) T.heap locs) : own_Ends p e s below C S Q T (mkF m pc Ls (w :: rest)) := by
  obtain ⟨fs, hr, hrun, hended, hW, hsame⟩ := X.leave (v := some w) (fun h => by rw [hret] at h; cases h) hlk
  exact ⟨_, _, retOut X hx hret hn hi hd hr, hrun, hended, _, _, rfl, hq, ⟨_, rfl⟩, hW, hsame.mono hc hs⟩
theorem own_retI (X : Stand p l e R s m args below meth c T locs cells slots) (hx : p.tables.exec = Jvm.exec) (hlk : meth.locks = false) {Q : Option Value → Heap → List Loc → Prop} {C S pc : Nat} {Ls : Array Slot} {z : Int32} {rest : List Value} (hret : meth.sig.returnType = some .int)
    (hd : decode c.code pc = .ok (.ireturn, 1)) (hc : cells ≤ C) (hs : slots ≤ S) (hq : Q (some (.int z)) T.heap locs) : own_Ends p e s below C S Q T (mkF m pc Ls (.int z :: rest)) :=
  own_ret X hx hlk hret rfl (Or.inl ⟨rfl, Or.inl rfl, z, rfl⟩) hd hc hs hq
theorem own_retZ (X : Stand p l e R s m args below meth c T locs cells slots) (hx : p.tables.exec = Jvm.exec) (hlk : meth.locks = false) {Q : Option Value → Heap → List Loc → Prop} {C S pc : Nat} {Ls : Array Slot} {z : Int32} {rest : List Value} (hret : meth.sig.returnType = some .boolean) (hz : z = 0 ∨ z = 1)
    (hd : decode c.code pc = .ok (.ireturn, 1)) (hc : cells ≤ C) (hs : slots ≤ S) (hq : Q (some (.int z)) T.heap locs) : own_Ends p e s below C S Q T (mkF m pc Ls (.int z :: rest)) :=
  own_ret X hx hlk hret (by rcases hz with rfl | rfl <;> rfl) (Or.inl ⟨rfl, Or.inr (Or.inl rfl), z, rfl⟩) hd hc hs hq
theorem own_retJ (X : Stand p l e R s m args below meth c T locs cells slots) (hx : p.tables.exec = Jvm.exec) (hlk : meth.locks = false) {Q : Option Value → Heap → List Loc → Prop} {C S pc : Nat} {Ls : Array Slot} {z : Int64} {rest : List Value} (hret : meth.sig.returnType = some .long)
    (hd : decode c.code pc = .ok (.lreturn, 1)) (hc : cells ≤ C) (hs : slots ≤ S) (hq : Q (some (.long z)) T.heap locs) : own_Ends p e s below C S Q T (mkF m pc Ls (.long z :: rest)) :=
  own_ret X hx hlk hret rfl (Or.inr (Or.inl ⟨rfl, rfl, z, rfl⟩)) hd hc hs hq
theorem own_retR (X : Stand p l e R s m args below meth c T locs cells slots) (hx : p.tables.exec = Jvm.exec) (hlk : meth.locks = false) {Q : Option Value → Heap → List Loc → Prop} {C S pc : Nat} {Ls : Array Slot} {w : Value} {t : FieldType} {rest : List Value} (hret : meth.sig.returnType = some t) (ht : t.isReference = true) (hn : narrow t w = w) (hw : w.isRef = true)
    (hd : decode c.code pc = .ok (.areturn, 1)) (hc : cells ≤ C) (hs : slots ≤ S) (hq : Q (some w) T.heap locs) : own_Ends p e s below C S Q T (mkF m pc Ls (w :: rest)) :=
  own_ret X hx hlk hret hn (Or.inr (Or.inr (Or.inr (Or.inr ⟨rfl, ht, hw⟩)))) hd hc hs hq
theorem own_retV (X : Stand p l e R s m args below meth c T locs cells slots) (hx : p.tables.exec = Jvm.exec) (hlk : meth.locks = false) {Q : Option Value → Heap → List Loc → Prop} {C S pc : Nat} {Ls : Array Slot} (hret : meth.sig.returnType = none)
    (hd : decode c.code pc = .ok (.return_, 1)) (hc : cells ≤ C) (hs : slots ≤ S) (hq : Q none T.heap locs) : own_Ends p e s below C S Q T (mkF m pc Ls []) := by
  obtain ⟨fs, hr, hrun, hended, hW, hsame⟩ := X.leave (v := none) (fun _ => rfl) hlk
  exact ⟨_, _, X.returnOut hx hret hd hr, hrun, hended, _, _, rfl, hq, ⟨_, rfl⟩, hW, hsame.mono hc hs⟩
theorem own_callS (X : Stand p l e R s m args below meth c T locs cells slots) (hx : p.tables.exec = Jvm.exec) (hZ : Z.Warmed39 s.vm) {own : String} {index : Nat} {y : MethodName} {bytes : ByteArray} {maxL W : Nat} {ret : Option FieldType} {rm : Room} {A : Array Value} {Q : Option Value → Heap → List Loc → Prop}
    (hown : s.vm.findClass own = some m.cls) (wl : (Cond.methodLink own index y).before a0 Z = true) (ws : (Cond.static y).before a0 Z = true) (wz : (Cond.initialized y.cls).before a0 Z = true) (wc : (Cond.code y bytes maxL ret).before a0 Z = true)
    (hM : own_C l y bytes maxL ret rm Z A h Q) (eT : T.heap = h) {g : JFrame} (hg : g.method = m) (hsize : g.locals.size = c.maxLocals) {argsL rest : List Value} (hlen : ∀ sig, parseMethodDescriptor y.desc = some sig → argsL.length = sig.parameters.length) (hstack : g.stack = argsL.reverse ++ rest) (hA : argsL.toArray = A)
    (hW : 2 * g.monitorRoom + (rest.map fun v => v.category).sum ≤ W) (hd : decode c.code g.pc = .ok (.invokestatic index, 3)) (hy : y.cls ≠ "java/lang/invoke/MethodHandle" ∧ y.cls ≠ "java/lang/invoke/VarHandle")
    (hf : rm.frames + 1 ≤ R.frames) (hl : W + (maxL + 11) + rm.locals ≤ R.locals) (hc : cells + rm.cells ≤ R.cells) (hs : slots + rm.slots ≤ R.slots) :
    ∃ v T' L, Stand p l e R s m args below meth c T' (locs ++ L) (cells + rm.cells) (slots + rm.slots) ∧ Q v T'.heap L ∧ ∀ target, Steps p.tables e below (T'.setTop { g with pc := g.pc + 3, stack := v.toList ++ rest }) target → Steps p.tables e below (T.setTop g) target := by
  obtain ⟨v, vm₁, ⟨T', L', k', n'⟩, -, X', ⟨L, hQ, l1, l2, l3⟩, st⟩ := Jvm.LawKit.callS X hx hown (mvT hZ wl) (mvT hZ ws) (mvT hZ wz) (mvT hZ wc) hy (backOf (W := W) (hM []) hZ wc wz hf hl) hg hsize hlen hstack hW hd (fun _ _ => ⟨hA, eT, hc, hs⟩)
  dsimp only [Pt.U, Pt.locs, Pt.cells, Pt.slots] at X' l1 l2 l3 st hQ
  subst l1 l2 l3
  exact ⟨v, T', L, X', hQ, st⟩
theorem own_callI (X : Stand p l e R s m args below meth c T locs cells slots) (hx : p.tables.exec = Jvm.exec) (hZ : Z.Warmed39 s.vm) {own : String} {index : Nat} {y : MethodName} {bytes : ByteArray} {maxL W : Nat} {rm : Room} {A : Array Value} {Q : Option Value → Heap → List Loc → Prop}
    (hown : s.vm.findClass own = some m.cls) (hy1 : y.name = "<init>") (wl : (Cond.methodLink own index y).before a0 Z = true) (ws : (Cond.instanceMethod y).before a0 Z = true) (wz : (Cond.initialized y.cls).before a0 Z = true) (wc : (Cond.code y bytes maxL none).before a0 Z = true)
    (hM : own_C l y bytes maxL none rm Z A h Q) (eT : T.heap = h) {g : JFrame} (hg : g.method = m) (hsize : g.locals.size = c.maxLocals) {a : Addr} {argsL rest : List Value} (hlen : ∀ sig, parseMethodDescriptor y.desc = some sig → argsL.length = sig.parameters.length) (hstack : g.stack = argsL.reverse ++ .ref a :: rest) (hA : (.ref a :: argsL).toArray = A)
    (hW : 2 * g.monitorRoom + (rest.map fun v => v.category).sum ≤ W) (hd : decode c.code g.pc = .ok (.invokespecial index, 3)) (hy : y.cls ≠ "java/lang/invoke/MethodHandle" ∧ y.cls ≠ "java/lang/invoke/VarHandle")
    (hf : rm.frames + 1 ≤ R.frames) (hl : W + (maxL + 11) + rm.locals ≤ R.locals) (hc : cells + rm.cells ≤ R.cells) (hs : slots + rm.slots ≤ R.slots) :
    ∃ v T' L, Stand p l e R s m args below meth c T' (locs ++ L) (cells + rm.cells) (slots + rm.slots) ∧ Q v T'.heap L ∧ ∀ target, Steps p.tables e below (T'.setTop { g with pc := g.pc + 3, stack := v.toList ++ rest }) target → Steps p.tables e below (T.setTop g) target := by
  obtain ⟨v, vm₁, ⟨T', L', k', n'⟩, -, X', ⟨L, hQ, l1, l2, l3⟩, st⟩ := X.specialBack hx hy1 hown (mvT hZ wl) (mvT hZ ws) (mvT hZ wc) hy (backOf (W := W) (hM []) hZ wc wz hf hl) hg hsize (Steps.refl _) hlen hstack hW hd (fun _ _ => ⟨hA, eT, hc, hs⟩)
  dsimp only [Pt.U, Pt.locs, Pt.cells, Pt.slots] at X' l1 l2 l3 st hQ
  subst l1 l2 l3
  exact ⟨v, T', L, X', hQ, fun _ k => st.trans k⟩
theorem own_callV (X : Stand p l e R s m args below meth c T locs cells slots) (hx : p.tables.exec = Jvm.exec) (hZ : Z.Warmed39 s.vm) {own K : String} {index : Nat} {y : MethodName} {bytes : ByteArray} {maxL W : Nat} {ret : Option FieldType} {rm : Room} {A : Array Value} {Q : Option Value → Heap → List Loc → Prop}
    (hown : s.vm.findClass own = some m.cls) (wl : (Cond.methodLink own index y).before a0 Z = true) (wd : (Cond.declares y).before a0 Z = true) (wsel : (Cond.selects K y y).before a0 Z = true) (ws : (Cond.instanceMethod y).before a0 Z = true) (wz : (Cond.initialized y.cls).before a0 Z = true) (wc : (Cond.code y bytes maxL ret).before a0 Z = true)
    (hM : own_C l y bytes maxL ret rm Z A h Q) (eT : T.heap = h) {g : JFrame} (hg : g.method = m) (hsize : g.locals.size = c.maxLocals) {a : Addr} {argsL rest : List Value} (hE : Exa Z h a K) (hlen : ∀ sig, parseMethodDescriptor y.desc = some sig → argsL.length = sig.parameters.length) (hstack : g.stack = argsL.reverse ++ .ref a :: rest) (hA : (.ref a :: argsL).toArray = A)
    (hW : 2 * g.monitorRoom + (rest.map fun v => v.category).sum ≤ W) (hd : decode c.code g.pc = .ok (.invokevirtual index, 3)) (hy : y.cls ≠ "java/lang/invoke/MethodHandle" ∧ y.cls ≠ "java/lang/invoke/VarHandle")
    (hf : rm.frames + 1 ≤ R.frames) (hl : W + (maxL + 11) + rm.locals ≤ R.locals) (hc : cells + rm.cells ≤ R.cells) (hs : slots + rm.slots ≤ R.slots) :
    ∃ v T' L, Stand p l e R s m args below meth c T' (locs ++ L) (cells + rm.cells) (slots + rm.slots) ∧ Q v T'.heap L ∧ ∀ target, Steps p.tables e below (T'.setTop { g with pc := g.pc + 3, stack := v.toList ++ rest }) target → Steps p.tables e below (T.setTop g) target := by
  obtain ⟨cq, kq, qa, qb, qc⟩ := isOf hZ eT hE
  obtain ⟨v, vm₁, ⟨T', L', k', n'⟩, -, X', ⟨L, hQ, l1, l2, l3⟩, st⟩ := X.virtualBack hx hown (mvT hZ wl) (mvT hZ wd) (notFace_of_selects (args := #[]) (mvT hZ wsel)) (mvT hZ wsel) (mvT hZ ws) hy (backOf (W := W) (hM []) hZ wc wz hf hl) qa qc hg hsize (Steps.refl _) hlen hstack hW hd (fun _ _ => ⟨hA, eT, hc, hs⟩)
  dsimp only [Pt.U, Pt.locs, Pt.cells, Pt.slots] at X' l1 l2 l3 st hQ
  subst l1 l2 l3
  exact ⟨v, T', L, X', hQ, fun _ k => st.trans k⟩
theorem own_callP (X : Stand p l e R s m args below meth c T locs cells slots) (hx : p.tables.exec = Jvm.exec) (hZ : Z.Warmed39 s.vm) {own K : String} {index kk : Nat} {y : MethodName} {bytes : ByteArray} {maxL W : Nat} {ret : Option FieldType} {rm : Room} {A : Array Value} {Q : Option Value → Heap → List Loc → Prop}
    (hown : s.vm.findClass own = some m.cls) (wl : (Cond.methodLink own index y).before a0 Z = true) (wp : (Cond.privateMethod y).before a0 Z = true) (wi : (Cond.instantiable y.cls kk).before a0 Z = true) (ws : (Cond.instanceMethod y).before a0 Z = true) (wz : (Cond.initialized y.cls).before a0 Z = true) (wc : (Cond.code y bytes maxL ret).before a0 Z = true)
    (hM : own_C l y bytes maxL ret rm Z A h Q) (eT : T.heap = h) {g : JFrame} (hg : g.method = m) (hsize : g.locals.size = c.maxLocals) {a : Addr} {argsL rest : List Value} (hE : Exa Z h a K) (hlen : ∀ sig, parseMethodDescriptor y.desc = some sig → argsL.length = sig.parameters.length) (hstack : g.stack = argsL.reverse ++ .ref a :: rest) (hA : (.ref a :: argsL).toArray = A)
    (hW : 2 * g.monitorRoom + (rest.map fun v => v.category).sum ≤ W) (hd : decode c.code g.pc = .ok (.invokevirtual index, 3)) (hy : y.cls ≠ "java/lang/invoke/MethodHandle" ∧ y.cls ≠ "java/lang/invoke/VarHandle")
    (hf : rm.frames + 1 ≤ R.frames) (hl : W + (maxL + 11) + rm.locals ≤ R.locals) (hc : cells + rm.cells ≤ R.cells) (hs : slots + rm.slots ≤ R.slots) :
    ∃ v T' L, Stand p l e R s m args below meth c T' (locs ++ L) (cells + rm.cells) (slots + rm.slots) ∧ Q v T'.heap L ∧ ∀ target, Steps p.tables e below (T'.setTop { g with pc := g.pc + 3, stack := v.toList ++ rest }) target → Steps p.tables e below (T.setTop g) target := by
  obtain ⟨cq, q1, q2⟩ := hE.cell
  have hpriv : s.PrivateAt y := Cond.privateMethod_at (mvP hZ wp (args := #[]))
  obtain ⟨cc, kc, i1, i2, -, i4, -⟩ := Cond.instantiable_spec (mvT (args := #[]) hZ wi)
  have hni : kc.isInterface = false := (Bool.or_eq_false_iff.mp i4).1
  have hsel : (Cond.selects y.cls y y).before args s = true := selects_self_of_private i1 i2 hni hpriv (mvT hZ ws) hy
  obtain ⟨v, vm₁, ⟨T', L', k', n'⟩, -, X', ⟨L, hQ, l1, l2, l3⟩, st⟩ := X.privateBack hx hown (mvT hZ wl) (mvT hZ ws) hsel hpriv (mvT hZ wc) hy (backOf (W := W) (hM []) hZ wc wz hf hl) hg hsize (Steps.refl _) (by rw [eT]; exact q1) q2 hlen hstack hW hd (fun _ _ => ⟨hA, eT, hc, hs⟩)
  dsimp only [Pt.U, Pt.locs, Pt.cells, Pt.slots] at X' l1 l2 l3 st hQ
  subst l1 l2 l3
  exact ⟨v, T', L, X', hQ, fun _ k => st.trans k⟩
end OwnLayer
theorem own_lct {x y : Int64} (q : x < y) : ifCond.holds .lt (lcmpW x y) = true ∧ ifCond.holds .ge (lcmpW x y) = false := by
  have r := (lw_lt x y).mpr q
  exact ⟨(if0 _ _).trans (tlt r).1, (if0 _ _).trans (tlt r).2.1⟩
theorem own_lcf {x y : Int64} (q : ¬ x < y) : ifCond.holds .lt (lcmpW x y) = false ∧ ifCond.holds .ge (lcmpW x y) = true := by
  have r : ¬ lcmpW x y < 0 := fun z => q ((lw_lt x y).mp z)
  exact ⟨(if0 _ _).trans (flt r).1, (if0 _ _).trans (flt r).2.1⟩
theorem own_lgt {x y : Int64} (q : y < x) : ifCond.holds .gt (lcmpW x y) = true ∧ ifCond.holds .le (lcmpW x y) = false := by
  have r := (lw_gt x y).mpr q
  exact ⟨(if0 _ _).trans (tlt r).2.2.1, (if0 _ _).trans (tlt r).2.2.2⟩
theorem own_lgf {x y : Int64} (q : ¬ y < x) : ifCond.holds .gt (lcmpW x y) = false ∧ ifCond.holds .le (lcmpW x y) = true := by
  have r : ¬ 0 < lcmpW x y := fun z => q ((lw_gt x y).mp z)
  exact ⟨(if0 _ _).trans (flt r).2.2.1, (if0 _ _).trans (flt r).2.2.2⟩
theorem own_let {x y : Int64} (q : x = y) : ifCond.holds .eq (lcmpW x y) = true ∧ ifCond.holds .ne (lcmpW x y) = false := by
  have r := (lw_eq x y).mpr q
  exact ⟨(if0 _ _).trans (teq r).1, (if0 _ _).trans (teq r).2⟩
theorem own_lef {x y : Int64} (q : ¬ x = y) : ifCond.holds .eq (lcmpW x y) = false ∧ ifCond.holds .ne (lcmpW x y) = true := by
  have r : ¬ lcmpW x y = 0 := fun z => q ((lw_eq x y).mp z)
  exact ⟨(if0 _ _).trans (feq r).1, (if0 _ _).trans (feq r).2⟩
section OwnArrays
variable {p : Program} {l : Launch} {e : Env} {R : Room} {s : State} {m : MethodId} {args : Array Value} {below : List Frame} {meth : Method} {c : Code} {T : State} {locs : List Loc} {cells slots : Nat} {Z : State} {a0 : Array Value} {h h' : Heap} {a b : Addr} {k : ClassId} {ty : FieldType} {n i sl : Nat} {f : Nat → Value} {v : Value} {ws : List Addr}
/-- an array by its length and what each place holds -/
def own_Ar (Z : State) (h : Heap) (a : Addr) (k : ClassId) (ty : FieldType) (n : Nat) (f : Nat → Value) : Prop := ∃ c : Cell, Arr Z h a c ty ∧ c.cls = k ∧ c.slots.size = n ∧ n < 2 ^ 31 ∧ ∀ i, i < n → c.slots[i]? = some (f i)
theorem own_Ar.lt (F : own_Ar Z h a k ty n f) : a < h.size := by obtain ⟨c, A, -⟩ := F; exact A.lt
theorem own_Ar.ext (F : own_Ar Z h a k ty n f) (E : Ext h h') : own_Ar Z h' a k ty n f := by obtain ⟨c, A, r⟩ := F; exact ⟨c, A.ext E, r⟩
theorem own_Ar.other (F : own_Ar Z h a k ty n f) (W : Wr h h' b sl v) (q : a ≠ b) : own_Ar Z h' a k ty n f := by obtain ⟨c, A, r⟩ := F; exact ⟨c, A.other W q, r⟩
theorem own_Ar.keep (F : own_Ar Z h a k ty n f) (K : Keep h h' ws) (q : a ∉ ws) : own_Ar Z h' a k ty n f := by obtain ⟨c, A, r⟩ := F; exact ⟨c, ⟨K.2.1 a c A.1 q, A.2⟩, r⟩
theorem own_Ar.cong (F : own_Ar Z h a k ty n f) {g : Nat → Value} (q : ∀ i, i < n → f i = g i) : own_Ar Z h a k ty n g := by
  obtain ⟨c, A, r1, r2, r3, r4⟩ := F
  exact ⟨c, A, r1, r2, r3, fun i hi => by rw [r4 i hi, q i hi]⟩
theorem own_Ar.set (F : own_Ar Z h a k ty n f) (W : Wr h h' a i v) : own_Ar Z h' a k ty n (fun j => if j = i then v else f j) := by
  obtain ⟨c, A, r1, r2, r3, r4⟩ := F
  refine ⟨c.setSlot i v, A.same W, r1, by rw [sz_set]; exact r2, r3, fun j hj => ?_⟩
  show _ = some (if j = i then v else f j)
  by_cases q : j = i
  · subst q
    rw [if_pos rfl]
    show (c.slots.setIfInBounds j v)[j]? = some v
    simp [r2, hj]
  · rw [if_neg q]
    show (c.slots.setIfInBounds i v)[j]? = some (f j)
    rw [Array.getElem?_setIfInBounds_ne (fun z => q z.symm)]
    exact r4 j hj
theorem own_in {c : Cell} {j : Int32} (hj : ¬ j < 0) (hi : j.toNatClampNeg = i) (r : c.slots.size = n) (hn : i < n) : ¬ (j < 0 ∨ c.slots.size ≤ j.toNatClampNeg) := by
  rintro (q | q)
  · exact hj q
  · rw [hi, r] at q; exact absurd hn (Nat.not_lt.mpr q)
theorem own_len (X : Stand p l e R s m args below meth c T locs cells slots) (hx : p.tables.exec = Jvm.exec) (hZ : Z.Warmed39 s.vm) (eT : T.heap = h) (F : own_Ar Z h a k ty n f) {z : Int32} (hz : Int32.ofNat n = z) {g : JFrame} (hg : g.method = m) {rest : List Value} (hs : g.stack = .ref a :: rest) (hd : decode c.code g.pc = .ok (.arraylength, 1)) (target : State)
    (kt : Steps p.tables e below (T.setTop { g with pc := g.pc + 1, stack := .int z :: rest }) target) : Steps p.tables e below (T.setTop g) target := by
  obtain ⟨cl, A, -, r2, r3, -⟩ := F
  refine X.arraylength hx (by rw [eT]; exact A.1) (State.isArrayOf_alike hZ.alike A.2.1) hg hs hd _ ?_
  have q : cl.slots.size.toInt32 = z := by rw [r2]; exact hz
  rw [q]; exact kt
theorem own_ldI (X : Stand p l e R s m args below meth c T locs cells slots) (hx : p.tables.exec = Jvm.exec) (hZ : Z.Warmed39 s.vm) (eT : T.heap = h) (F : own_Ar Z h a k .int n f) {j : Int32} (hj : ¬ j < 0) (hi : j.toNatClampNeg = i) (hn : i < n) (hv : f i = v) {g : JFrame} (hg : g.method = m) {rest : List Value} (hs : g.stack = .int j :: .ref a :: rest) (hd : decode c.code g.pc = .ok (.iaload, 1)) (target : State)
    (kt : Steps p.tables e below (T.setTop { g with pc := g.pc + 1, stack := v :: rest }) target) : Steps p.tables e below (T.setTop g) target := by
  obtain ⟨cl, A, -, r2, r3, r4⟩ := F
  exact X.iaload hx (by rw [eT]; exact A.1) (State.isArrayOf_alike hZ.alike A.2.1) A.2.2 (own_in hj hi r2 hn) (by rw [hi, r4 i hn, hv]) hg hs hd _ kt
theorem own_ldJ (X : Stand p l e R s m args below meth c T locs cells slots) (hx : p.tables.exec = Jvm.exec) (hZ : Z.Warmed39 s.vm) (eT : T.heap = h) (F : own_Ar Z h a k .long n f) {j : Int32} (hj : ¬ j < 0) (hi : j.toNatClampNeg = i) (hn : i < n) (hv : f i = v) {g : JFrame} (hg : g.method = m) {rest : List Value} (hs : g.stack = .int j :: .ref a :: rest) (hd : decode c.code g.pc = .ok (.laload, 1)) (target : State)
    (kt : Steps p.tables e below (T.setTop { g with pc := g.pc + 1, stack := v :: rest }) target) : Steps p.tables e below (T.setTop g) target := by
  obtain ⟨cl, A, -, r2, r3, r4⟩ := F
  exact X.laload hx (by rw [eT]; exact A.1) (State.isArrayOf_alike hZ.alike A.2.1) A.2.2 (own_in hj hi r2 hn) (by rw [hi, r4 i hn, hv]) hg hs hd _ kt
theorem own_ldC (X : Stand p l e R s m args below meth c T locs cells slots) (hx : p.tables.exec = Jvm.exec) (hZ : Z.Warmed39 s.vm) (eT : T.heap = h) (F : own_Ar Z h a k .char n f) {j : Int32} (hj : ¬ j < 0) (hi : j.toNatClampNeg = i) (hn : i < n) (hv : f i = v) {g : JFrame} (hg : g.method = m) {rest : List Value} (hs : g.stack = .int j :: .ref a :: rest) (hd : decode c.code g.pc = .ok (.caload, 1)) (target : State)
    (kt : Steps p.tables e below (T.setTop { g with pc := g.pc + 1, stack := v :: rest }) target) : Steps p.tables e below (T.setTop g) target := by
  obtain ⟨cl, A, -, r2, r3, r4⟩ := F
  exact X.caload hx (by rw [eT]; exact A.1) (State.isArrayOf_alike hZ.alike A.2.1) A.2.2 (own_in hj hi r2 hn) (by rw [hi, r4 i hn, hv]) hg hs hd _ kt
theorem own_ldB (X : Stand p l e R s m args below meth c T locs cells slots) (hx : p.tables.exec = Jvm.exec) (hZ : Z.Warmed39 s.vm) (eT : T.heap = h) (F : own_Ar Z h a k .byte n f) {j : Int32} (hj : ¬ j < 0) (hi : j.toNatClampNeg = i) (hn : i < n) (hv : f i = v) {g : JFrame} (hg : g.method = m) {rest : List Value} (hs : g.stack = .int j :: .ref a :: rest) (hd : decode c.code g.pc = .ok (.baload, 1)) (target : State)
    (kt : Steps p.tables e below (T.setTop { g with pc := g.pc + 1, stack := v :: rest }) target) : Steps p.tables e below (T.setTop g) target := by
  obtain ⟨cl, A, -, r2, r3, r4⟩ := F
  exact X.baloadBytes hx (by rw [eT]; exact A.1) (State.isArrayOf_alike hZ.alike A.2.1) A.2.2 (own_in hj hi r2 hn) (by rw [hi, r4 i hn, hv]) hg hs hd _ kt
theorem own_ldZ (X : Stand p l e R s m args below meth c T locs cells slots) (hx : p.tables.exec = Jvm.exec) (hZ : Z.Warmed39 s.vm) (eT : T.heap = h) (F : own_Ar Z h a k .boolean n f) {j : Int32} (hj : ¬ j < 0) (hi : j.toNatClampNeg = i) (hn : i < n) (hv : f i = v) {g : JFrame} (hg : g.method = m) {rest : List Value} (hs : g.stack = .int j :: .ref a :: rest) (hd : decode c.code g.pc = .ok (.baload, 1)) (target : State)
    (kt : Steps p.tables e below (T.setTop { g with pc := g.pc + 1, stack := v :: rest }) target) : Steps p.tables e below (T.setTop g) target := by
  obtain ⟨cl, A, -, r2, r3, r4⟩ := F
  exact X.baloadBooleans hx (by rw [eT]; exact A.1) (State.isArrayOf_alike hZ.alike A.2.1) A.2.2 (own_in hj hi r2 hn) (by rw [hi, r4 i hn, hv]) hg hs hd _ kt
theorem own_ldR (X : Stand p l e R s m args below meth c T locs cells slots) (hx : p.tables.exec = Jvm.exec) (hZ : Z.Warmed39 s.vm) (eT : T.heap = h) (F : own_Ar Z h a k ty n f) (ht : ty.isReference = true) {j : Int32} (hj : ¬ j < 0) (hi : j.toNatClampNeg = i) (hn : i < n) (hv : f i = v) {g : JFrame} (hg : g.method = m) {rest : List Value} (hs : g.stack = .int j :: .ref a :: rest) (hd : decode c.code g.pc = .ok (.aaload, 1)) (target : State)
    (kt : Steps p.tables e below (T.setTop { g with pc := g.pc + 1, stack := v :: rest }) target) : Steps p.tables e below (T.setTop g) target := by
  obtain ⟨cl, A, -, r2, r3, r4⟩ := F
  exact X.aaload hx (by rw [eT]; exact A.1) (State.isArrayOf_alike hZ.alike A.2.1) ht A.2.2 (own_in hj hi r2 hn) (by rw [hi, r4 i hn, hv]) hg hs hd _ kt
theorem own_newP (X : Stand p l e R s m args below meth c T locs cells slots) (hx : p.tables.exec = Jvm.exec) (hZ : Z.Warmed39 s.vm) {aty : ArrayType} (w : (Cond.arrayClass (newarray.typeOf aty)).before a0 Z = true) (eT : T.heap = h) {g : JFrame} (hg : g.method = m) (hd : decode c.code g.pc = .ok (.newarray aty, 2)) {z : Int32} {rest : List Value} (hs : g.stack = .int z :: rest)
    (hz : ¬ z < 0) (hzn : z.toNatClampNeg = n) {cap : Nat} (hcap : n ≤ cap) (hb : cap * 8 ≤ 536870912) (hc : cells + 1 ≤ R.cells) (hl : slots + cap ≤ R.slots) :
    ∃ T' h' k, Stand p l e R s m args below meth c T' locs (cells + 1) (slots + cap) ∧ T'.heap = h' ∧ Ext h h' ∧ own_Ar Z h' h.size k (newarray.typeOf aty) n (fun _ => defaultValue (newarray.typeOf aty)) ∧
      ∀ target, Steps p.tables e below (T'.setTop { g with pc := g.pc + 2, stack := .ref h.size :: rest }) target → Steps p.tables e below (T.setTop g) target := by
  obtain ⟨T', h', cA, X', e', E, A, st⟩ := newP X hx hZ w eT hg hd hs hz (cap := cap) (by rw [hzn]; exact hcap) hb hc hl
  refine ⟨T', h', cA, X', e', E, ⟨_, A, rfl, (sz_new _ _ _).trans hzn, by omega, fun i hi => ?_⟩, st⟩
  have hs : i < z.toNatClampNeg := by rw [hzn]; exact hi
  simp [newA, hs, defaultValue]
theorem own_stI (X : Stand p l e R s m args below meth c T locs cells slots) (hx : p.tables.exec = Jvm.exec) (hZ : Z.Warmed39 s.vm) (eT : T.heap = h) (F : own_Ar Z h a k .int n f) {j x : Int32} (hj : ¬ j < 0) (hi : j.toNatClampNeg = i) (hn : i < n) {g : JFrame} (hg : g.method = m) {rest : List Value} (hs : g.stack = .int x :: .int j :: .ref a :: rest) (hd : decode c.code g.pc = .ok (.iastore, 1)) :
    ∃ T' h', Stand p l e R s m args below meth c T' (locs ++ [⟨a, i⟩]) cells slots ∧ T'.heap = h' ∧ Wr h h' a i (.int x) ∧ own_Ar Z h' a k .int n (fun j => if j = i then .int x else f j) ∧ ∀ target, Steps p.tables e below (T'.setTop { g with pc := g.pc + 1, stack := rest }) target → Steps p.tables e below (T.setTop g) target := by
  obtain ⟨cl, A, r1, r2, r3, r4⟩ := F
  obtain ⟨T', h', X', e', W, st⟩ := stI X hx hZ eT A (own_in hj hi r2 hn) hg hs hd
  rw [hi] at X' W
  exact ⟨T', h', X', e', W, own_Ar.set ⟨cl, A, r1, r2, r3, r4⟩ W, st⟩
theorem own_stJ (X : Stand p l e R s m args below meth c T locs cells slots) (hx : p.tables.exec = Jvm.exec) (hZ : Z.Warmed39 s.vm) (eT : T.heap = h) (F : own_Ar Z h a k .long n f) {j : Int32} {x : Int64} (hj : ¬ j < 0) (hi : j.toNatClampNeg = i) (hn : i < n) {g : JFrame} (hg : g.method = m) {rest : List Value} (hs : g.stack = .long x :: .int j :: .ref a :: rest) (hd : decode c.code g.pc = .ok (.lastore, 1)) :
    ∃ T' h', Stand p l e R s m args below meth c T' (locs ++ [⟨a, i⟩]) cells slots ∧ T'.heap = h' ∧ Wr h h' a i (.long x) ∧ own_Ar Z h' a k .long n (fun j => if j = i then .long x else f j) ∧ ∀ target, Steps p.tables e below (T'.setTop { g with pc := g.pc + 1, stack := rest }) target → Steps p.tables e below (T.setTop g) target := by
  obtain ⟨cl, A, r1, r2, r3, r4⟩ := F
  obtain ⟨T', h', X', e', W, st⟩ := stJ X hx hZ eT A (own_in hj hi r2 hn) hg hs hd
  rw [hi] at X' W
  exact ⟨T', h', X', e', W, own_Ar.set ⟨cl, A, r1, r2, r3, r4⟩ W, st⟩
theorem own_stB (X : Stand p l e R s m args below meth c T locs cells slots) (hx : p.tables.exec = Jvm.exec) (hZ : Z.Warmed39 s.vm) (eT : T.heap = h) (F : own_Ar Z h a k .byte n f) {j x : Int32} (hj : ¬ j < 0) (hi : j.toNatClampNeg = i) (hn : i < n) {g : JFrame} (hg : g.method = m) {rest : List Value} (hs : g.stack = .int x :: .int j :: .ref a :: rest) (hd : decode c.code g.pc = .ok (.bastore, 1)) :
    ∃ T' h', Stand p l e R s m args below meth c T' (locs ++ [⟨a, i⟩]) cells slots ∧ T'.heap = h' ∧ Wr h h' a i (.int (nar .byte x)) ∧ own_Ar Z h' a k .byte n (fun j => if j = i then .int (nar .byte x) else f j) ∧ ∀ target, Steps p.tables e below (T'.setTop { g with pc := g.pc + 1, stack := rest }) target → Steps p.tables e below (T.setTop g) target := by
  obtain ⟨cl, A, r1, r2, r3, r4⟩ := F
  obtain ⟨T', h', X', e', W, st⟩ := stB X hx hZ eT A (own_in hj hi r2 hn) hg hs hd
  rw [hi] at X' W
  exact ⟨T', h', X', e', W, own_Ar.set ⟨cl, A, r1, r2, r3, r4⟩ W, st⟩
theorem own_stZ (X : Stand p l e R s m args below meth c T locs cells slots) (hx : p.tables.exec = Jvm.exec) (hZ : Z.Warmed39 s.vm) (eT : T.heap = h) (F : own_Ar Z h a k .boolean n f) {j x : Int32} (hj : ¬ j < 0) (hi : j.toNatClampNeg = i) (hn : i < n) {g : JFrame} (hg : g.method = m) {rest : List Value} (hs : g.stack = .int x :: .int j :: .ref a :: rest) (hd : decode c.code g.pc = .ok (.bastore, 1)) :
    ∃ T' h', Stand p l e R s m args below meth c T' (locs ++ [⟨a, i⟩]) cells slots ∧ T'.heap = h' ∧ Wr h h' a i (.int (nar .boolean x)) ∧ own_Ar Z h' a k .boolean n (fun j => if j = i then .int (nar .boolean x) else f j) ∧ ∀ target, Steps p.tables e below (T'.setTop { g with pc := g.pc + 1, stack := rest }) target → Steps p.tables e below (T.setTop g) target := by
  obtain ⟨cl, A, r1, r2, r3, r4⟩ := F
  obtain ⟨T', h', X', e', W, st⟩ := stZ X hx hZ eT A (own_in hj hi r2 hn) hg hs hd
  rw [hi] at X' W
  exact ⟨T', h', X', e', W, own_Ar.set ⟨cl, A, r1, r2, r3, r4⟩ W, st⟩
theorem own_stC (X : Stand p l e R s m args below meth c T locs cells slots) (hx : p.tables.exec = Jvm.exec) (hZ : Z.Warmed39 s.vm) (eT : T.heap = h) (F : own_Ar Z h a k .char n f) {j x : Int32} (hj : ¬ j < 0) (hi : j.toNatClampNeg = i) (hn : i < n) {g : JFrame} (hg : g.method = m) {rest : List Value} (hs : g.stack = .int x :: .int j :: .ref a :: rest) (hd : decode c.code g.pc = .ok (.castore, 1)) :
    ∃ T' h', Stand p l e R s m args below meth c T' (locs ++ [⟨a, i⟩]) cells slots ∧ T'.heap = h' ∧ Wr h h' a i (.int (nar .char x)) ∧ own_Ar Z h' a k .char n (fun j => if j = i then .int (nar .char x) else f j) ∧ ∀ target, Steps p.tables e below (T'.setTop { g with pc := g.pc + 1, stack := rest }) target → Steps p.tables e below (T.setTop g) target := by
  obtain ⟨cl, A, r1, r2, r3, r4⟩ := F
  obtain ⟨T', h', X', e', W, st⟩ := stC X hx hZ eT A (own_in hj hi r2 hn) hg hs hd
  rw [hi] at X' W
  exact ⟨T', h', X', e', W, own_Ar.set ⟨cl, A, r1, r2, r3, r4⟩ W, st⟩
theorem own_stR (X : Stand p l e R s m args below meth c T locs cells slots) (hx : p.tables.exec = Jvm.exec) (hZ : Z.Warmed39 s.vm) (eT : T.heap = h) (F : own_Ar Z h a k ty n f) (ht : ty.isReference = true) {j : Int32} (S : Sto Z h a v) (hj : ¬ j < 0) (hi : j.toNatClampNeg = i) (hn : i < n) {g : JFrame} (hg : g.method = m) {rest : List Value} (hs : g.stack = v :: .int j :: .ref a :: rest) (hd : decode c.code g.pc = .ok (.aastore, 1)) :
    ∃ T' h', Stand p l e R s m args below meth c T' (locs ++ [⟨a, i⟩]) cells slots ∧ T'.heap = h' ∧ Wr h h' a i v ∧ own_Ar Z h' a k ty n (fun j => if j = i then v else f j) ∧ ∀ target, Steps p.tables e below (T'.setTop { g with pc := g.pc + 1, stack := rest }) target → Steps p.tables e below (T.setTop g) target := by
  obtain ⟨cl, A, r1, r2, r3, r4⟩ := F
  obtain ⟨T', h', X', e', W, st⟩ := stR X hx hZ eT A (own_in hj hi r2 hn) ht S hg hs hd
  rw [hi] at X' W
  exact ⟨T', h', X', e', W, own_Ar.set ⟨cl, A, r1, r2, r3, r4⟩ W, st⟩
theorem own_newR (X : Stand p l e R s m args below meth c T locs cells slots) (hx : p.tables.exec = Jvm.exec) (hZ : Z.Warmed39 s.vm) {own C : String} {index : Nat} (hown : s.vm.findClass own = some m.cls) (w1 : (Cond.classLink own index C).before a0 Z = true) (w2 : (Cond.arrayOver (.object C)).before a0 Z = true)
    (eT : T.heap = h) {g : JFrame} (hg : g.method = m) (hd : decode c.code g.pc = .ok (.anewarray index, 3)) {z : Int32} {rest : List Value} (hs : g.stack = .int z :: rest) (hz : ¬ z < 0) (hzn : z.toNatClampNeg = n) {cap : Nat} (hcap : n ≤ cap) (hb : cap * 8 ≤ 536870912) (hc : cells + 1 ≤ R.cells) (hl : slots + cap ≤ R.slots) :
    ∃ T' h' k, Stand p l e R s m args below meth c T' locs (cells + 1) (slots + cap) ∧ T'.heap = h' ∧ Ext h h' ∧ own_Ar Z h' h.size k (.object C) n (fun _ => .null) ∧ Ovr Z k C ∧
      ∀ target, Steps p.tables e below (T'.setTop { g with pc := g.pc + 3, stack := .ref h.size :: rest }) target → Steps p.tables e below (T.setTop g) target := by
  obtain ⟨T', h', cA, X', e', E, A, O, st⟩ := newR X hx hZ hown w1 w2 eT hg hd hs hz (cap := cap) (by rw [hzn]; exact hcap) hb hc hl
  refine ⟨T', h', cA, X', e', E, ⟨_, A, rfl, (sz_new _ _ _).trans hzn, by omega, fun i hi => ?_⟩, O, st⟩
  have hs : i < z.toNatClampNeg := by rw [hzn]; exact hi
  simp [newA, hs, defaultValue]
theorem own_Ar.sto {C : String} {y : Addr} (F : own_Ar Z h a k ty n f) (O : Ovr Z k C) (I : Ins Z h y C true) : Sto Z h a (.ref y) := by
  obtain ⟨cl, A, r1, -⟩ := F
  exact Sto.of A (r1 ▸ O) I
end OwnArrays
theorem pnn_1 : plainName "com/example/ledgerline/ledgerline/Form" = true := by first | (simp [plainName, overriddenIn]; done) | decide +kernel
theorem pn_1 : plainFor (⟨"com/example/ledgerline/ledgerline/Form", "hasTrailer", "()Z"⟩ : MethodName) = true := plainFor_of_name pnn_1
theorem d1_0 : decode prog_17_method_6_code 0 = .ok (.aload_n 0, 1) := by decide +kernel
theorem d1_1 : decode prog_17_method_6_code 1 = .ok (.getfield 42, 3) := by decide +kernel
theorem d1_4 : decode prog_17_method_6_code 4 = .ok (.ifnull 7, 3) := by decide +kernel
theorem d1_11 : decode prog_17_method_6_code 11 = .ok (.iconst 0, 1) := by decide +kernel
theorem d1_12 : decode prog_17_method_6_code 12 = .ok (.ireturn, 1) := by decide +kernel
theorem pnn_2 : plainName "com/example/ledgerline/ledgerline/Form" = true := by first | (simp [plainName, overriddenIn]; done) | decide +kernel
theorem pn_2 : plainFor (⟨"com/example/ledgerline/ledgerline/Form", "control", "()Lcom/example/ledgerline/ledgerline/Control$Positions;"⟩ : MethodName) = true := plainFor_of_name pnn_2
theorem d2_0 : decode prog_17_method_5_code 0 = .ok (.aload_n 0, 1) := by decide +kernel
theorem d2_1 : decode prog_17_method_5_code 1 = .ok (.getfield 42, 3) := by decide +kernel
theorem d2_4 : decode prog_17_method_5_code 4 = .ok (.areturn, 1) := by decide +kernel
theorem d1_7 : decode prog_17_method_6_code 7 = .ok (.iconst 1, 1) := by decide +kernel
theorem d1_8 : decode prog_17_method_6_code 8 = .ok (.goto 4, 3) := by decide +kernel
theorem pnn_0 : plainName "com/example/ledgerline/ledgerline/FormHasTrailerPinLaw" = true := by first | (simp [plainName, overriddenIn]; done) | decide +kernel
theorem pn_0 : plainFor (⟨"com/example/ledgerline/ledgerline/FormHasTrailerPinLaw", "law", "(I)Z"⟩ : MethodName) = true := plainFor_of_name pnn_0
theorem pd_0 : parseMethodDescriptor "()Z" = some ⟨[], some .boolean⟩ := by decide +kernel
theorem pd_1 : parseMethodDescriptor "()Lcom/example/ledgerline/ledgerline/Control$Positions;" = some ⟨[], some (.object "com/example/ledgerline/ledgerline/Control$Positions")⟩ := by decide +kernel
theorem own_mod5 (x : Int32) : (x &&& 2147483647) % (5 : Int32) = 0 ∨ (x &&& 2147483647) % (5 : Int32) = 1 ∨ (x &&& 2147483647) % (5 : Int32) = 2 ∨ (x &&& 2147483647) % (5 : Int32) = 3 ∨ (x &&& 2147483647) % (5 : Int32) = 4 := by
  have a := c_and x 2147483647 (by decide)
  have e := (c_irem (x &&& 2147483647) 5 5 (by decide)).1 a.1
  have d0 : (0 : Int32).toInt = 0 := by decide
  have d1 : (1 : Int32).toInt = 1 := by decide
  have d2 : (2 : Int32).toInt = 2 := by decide
  have d3 : (3 : Int32).toInt = 3 := by decide
  have d4 : (4 : Int32).toInt = 4 := by decide
  simp only [← Int32.toInt_inj, e, d0, d1, d2, d3, d4]
  omega
set_option maxRecDepth 65536 in
set_option maxHeartbeats 40000000 in
theorem rm1n (l : Launch) (Z : State) (a0 : Array Value) (hw : ∀ d ∈ tables_1, d.before a0 Z = true) (o0 : Addr) (h0 : Heap) (F : Fld Z h0 o0 "com/example/ledgerline/ledgerline/Form" "control" "Lcom/example/ledgerline/ledgerline/Control$Positions;" .null) :
    own_C l (⟨"com/example/ledgerline/ledgerline/Form", "hasTrailer", "()Z"⟩ : MethodName) prog_17_method_6_code 1 (some .boolean) ({ frames := 0, cells := 0, slots := 0, locals := 0 } : Room) Z #[(.ref o0)] h0 (fun v h L => v = some (.int 0) ∧ L = [] ∧ h = h0) := by
  refine own_enter pn_1 ?_
  intro p e s m below meth c s₁ X0 hx hby hml hown hnm hret hlk hZ e0
  replace hown : s.vm.findClass "com/example/ledgerline/ledgerline/Form" = some m.cls := hown
  have ef : entryFrame m #[(.ref o0)] 1 = mkF m 0 #[.val (.ref o0)] [] := by first | rfl | (simp [entryFrame, mkF, argsToLocals, Value.category, maxLocals]; done)
  refine own_cast ef ?_
  show own_Ends _ _ _ _ _ _ _ s₁ (mkF m 0 #[.val (.ref o0)] [])
  refine own_go (fun _ k => XS.aloadN X0.here hx rfl (hb hby d1_0) rfl rfl k) ?_
  show own_Ends _ _ _ _ _ _ _ s₁ (mkF m 1 #[.val (.ref o0)] [(.ref o0)])
  obtain ⟨T1, X1, e1, st1⟩ := getF X0 hx hZ hown (host := "") (Or.inl (hw _ (List.mem_of_getElem? (i := 20) rfl))) Via.refl e0 F (g := (mkF m 1 #[.val (.ref o0)] [(.ref o0)])) rfl rfl (hb hby d1_1)
  refine own_go st1 ?_
  show own_Ends _ _ _ _ _ _ _ T1 (mkF m 4 #[.val (.ref o0)] [.null])
  refine own_go (fun _ k => XS.ifnullYes X1.here hx rfl (pc0 := 4) (pc' := 11) rfl (hb hby d1_4) rfl (by decide) (by decide) k) ?_
  show own_Ends _ _ _ _ _ _ _ T1 (mkF m 11 #[.val (.ref o0)] [])
  refine own_go (fun _ k => XS.iconst X1.here hx rfl (hb hby d1_11) k) ?_
  show own_Ends _ _ _ _ _ _ _ T1 (mkF m 12 #[.val (.ref o0)] [(.int (0 : Int32))])
  exact own_retZ X1 hx hlk hret (by decide) (hb hby d1_12) (by decide) (by decide) ⟨rfl, rfl, e1⟩
set_option maxRecDepth 65536 in
set_option maxHeartbeats 40000000 in
theorem rm2n (l : Launch) (Z : State) (a0 : Array Value) (hw : ∀ d ∈ tables_1, d.before a0 Z = true) (o0 : Addr) (h0 : Heap) (F : Fld Z h0 o0 "com/example/ledgerline/ledgerline/Form" "control" "Lcom/example/ledgerline/ledgerline/Control$Positions;" .null) :
    own_C l (⟨"com/example/ledgerline/ledgerline/Form", "control", "()Lcom/example/ledgerline/ledgerline/Control$Positions;"⟩ : MethodName) prog_17_method_5_code 1 (some (.object "com/example/ledgerline/ledgerline/Control$Positions")) ({ frames := 0, cells := 0, slots := 0, locals := 0 } : Room) Z #[(.ref o0)] h0 (fun v h L => v = some .null ∧ L = [] ∧ h = h0) := by
  refine own_enter pn_2 ?_
  intro p e s m below meth c s₁ X0 hx hby hml hown hnm hret hlk hZ e0
  replace hown : s.vm.findClass "com/example/ledgerline/ledgerline/Form" = some m.cls := hown
  have ef : entryFrame m #[(.ref o0)] 1 = mkF m 0 #[.val (.ref o0)] [] := by first | rfl | (simp [entryFrame, mkF, argsToLocals, Value.category, maxLocals]; done)
  refine own_cast ef ?_
  show own_Ends _ _ _ _ _ _ _ s₁ (mkF m 0 #[.val (.ref o0)] [])
  refine own_go (fun _ k => XS.aloadN X0.here hx rfl (hb hby d2_0) rfl rfl k) ?_
  show own_Ends _ _ _ _ _ _ _ s₁ (mkF m 1 #[.val (.ref o0)] [(.ref o0)])
  obtain ⟨T2, X2, e2, st2⟩ := getF X0 hx hZ hown (host := "") (Or.inl (hw _ (List.mem_of_getElem? (i := 20) rfl))) Via.refl e0 F (g := (mkF m 1 #[.val (.ref o0)] [(.ref o0)])) rfl rfl (hb hby d2_1)
  refine own_go st2 ?_
  show own_Ends _ _ _ _ _ _ _ T2 (mkF m 4 #[.val (.ref o0)] [.null])
  exact own_retR X2 hx hlk hret rfl rfl rfl (hb hby d2_4) (by decide) (by decide) ⟨rfl, rfl, e2⟩
set_option maxRecDepth 65536 in
set_option maxHeartbeats 40000000 in
theorem rm1r (l : Launch) (Z : State) (a0 : Array Value) (hw : ∀ d ∈ tables_1, d.before a0 Z = true) (o0 : Addr) (h0 : Heap) (cc : Addr) (F : Fld Z h0 o0 "com/example/ledgerline/ledgerline/Form" "control" "Lcom/example/ledgerline/ledgerline/Control$Positions;" (.ref cc)) :
    own_C l (⟨"com/example/ledgerline/ledgerline/Form", "hasTrailer", "()Z"⟩ : MethodName) prog_17_method_6_code 1 (some .boolean) ({ frames := 0, cells := 0, slots := 0, locals := 0 } : Room) Z #[(.ref o0)] h0 (fun v h L => v = some (.int 1) ∧ L = [] ∧ h = h0) := by
  refine own_enter pn_1 ?_
  intro p e s m below meth c s₁ X0 hx hby hml hown hnm hret hlk hZ e0
  replace hown : s.vm.findClass "com/example/ledgerline/ledgerline/Form" = some m.cls := hown
  have ef : entryFrame m #[(.ref o0)] 1 = mkF m 0 #[.val (.ref o0)] [] := by first | rfl | (simp [entryFrame, mkF, argsToLocals, Value.category, maxLocals]; done)
  refine own_cast ef ?_
  show own_Ends _ _ _ _ _ _ _ s₁ (mkF m 0 #[.val (.ref o0)] [])
  refine own_go (fun _ k => XS.aloadN X0.here hx rfl (hb hby d1_0) rfl rfl k) ?_
  show own_Ends _ _ _ _ _ _ _ s₁ (mkF m 1 #[.val (.ref o0)] [(.ref o0)])
  obtain ⟨T3, X3, e3, st3⟩ := getF X0 hx hZ hown (host := "") (Or.inl (hw _ (List.mem_of_getElem? (i := 20) rfl))) Via.refl e0 F (g := (mkF m 1 #[.val (.ref o0)] [(.ref o0)])) rfl rfl (hb hby d1_1)
  refine own_go st3 ?_
  show own_Ends _ _ _ _ _ _ _ T3 (mkF m 4 #[.val (.ref o0)] [(.ref cc)])
  refine own_go (fun _ k => XS.ifnullNo X3.here hx rfl (hb hby d1_4) rfl k) ?_
  show own_Ends _ _ _ _ _ _ _ T3 (mkF m 7 #[.val (.ref o0)] [])
  refine own_go (fun _ k => XS.iconst X3.here hx rfl (hb hby d1_7) k) ?_
  show own_Ends _ _ _ _ _ _ _ T3 (mkF m 8 #[.val (.ref o0)] [(.int (1 : Int32))])
  refine own_go (fun _ k => XS.goto X3.here hx rfl (pc0 := 8) (pc' := 12) rfl (hb hby d1_8) (by decide) (by decide) k) ?_
  show own_Ends _ _ _ _ _ _ _ T3 (mkF m 12 #[.val (.ref o0)] [(.int (1 : Int32))])
  exact own_retZ X3 hx hlk hret (by decide) (hb hby d1_12) (by decide) (by decide) ⟨rfl, rfl, e3⟩
set_option maxRecDepth 65536 in
set_option maxHeartbeats 40000000 in
theorem rm2r (l : Launch) (Z : State) (a0 : Array Value) (hw : ∀ d ∈ tables_1, d.before a0 Z = true) (o0 : Addr) (h0 : Heap) (cc : Addr) (F : Fld Z h0 o0 "com/example/ledgerline/ledgerline/Form" "control" "Lcom/example/ledgerline/ledgerline/Control$Positions;" (.ref cc)) :
    own_C l (⟨"com/example/ledgerline/ledgerline/Form", "control", "()Lcom/example/ledgerline/ledgerline/Control$Positions;"⟩ : MethodName) prog_17_method_5_code 1 (some (.object "com/example/ledgerline/ledgerline/Control$Positions")) ({ frames := 0, cells := 0, slots := 0, locals := 0 } : Room) Z #[(.ref o0)] h0 (fun v h L => v = some (.ref cc) ∧ L = [] ∧ h = h0) := by
  refine own_enter pn_2 ?_
  intro p e s m below meth c s₁ X0 hx hby hml hown hnm hret hlk hZ e0
  replace hown : s.vm.findClass "com/example/ledgerline/ledgerline/Form" = some m.cls := hown
  have ef : entryFrame m #[(.ref o0)] 1 = mkF m 0 #[.val (.ref o0)] [] := by first | rfl | (simp [entryFrame, mkF, argsToLocals, Value.category, maxLocals]; done)
  refine own_cast ef ?_
  show own_Ends _ _ _ _ _ _ _ s₁ (mkF m 0 #[.val (.ref o0)] [])
  refine own_go (fun _ k => XS.aloadN X0.here hx rfl (hb hby d2_0) rfl rfl k) ?_
  show own_Ends _ _ _ _ _ _ _ s₁ (mkF m 1 #[.val (.ref o0)] [(.ref o0)])
  obtain ⟨T4, X4, e4, st4⟩ := getF X0 hx hZ hown (host := "") (Or.inl (hw _ (List.mem_of_getElem? (i := 20) rfl))) Via.refl e0 F (g := (mkF m 1 #[.val (.ref o0)] [(.ref o0)])) rfl rfl (hb hby d2_1)
  refine own_go st4 ?_
  show own_Ends _ _ _ _ _ _ _ T4 (mkF m 4 #[.val (.ref o0)] [(.ref cc)])
  exact own_retR X4 hx hlk hret rfl rfl rfl (hb hby d2_4) (by decide) (by decide) ⟨rfl, rfl, e4⟩
set_option maxRecDepth 65536 in
set_option maxHeartbeats 40000000 in
theorem rm0 (l : Launch) (Z : State) (a0 : Array Value) (hw : ∀ d ∈ tables_1, d.before a0 Z = true) (p0 : Int32) (h0 : Heap) (a1 : Addr) (a2 : Addr) (a3 : Addr) (a4 : Addr) (a5 : Addr) (c2 : Addr) (c3 : Addr) (c4 : Addr) (S0 : Sta Z h0 "com/example/ledgerline/ledgerline/Form" "CCF" "Lcom/example/ledgerline/ledgerline/Form;" (.ref a1)) (E0 : Exa Z h0 a1 "com/example/ledgerline/ledgerline/Form") (F0 : Fld Z h0 a1 "com/example/ledgerline/ledgerline/Form" "control" "Lcom/example/ledgerline/ledgerline/Control$Positions;" .null) (S1 : Sta Z h0 "com/example/ledgerline/ledgerline/Form" "CCF_II" "Lcom/example/ledgerline/ledgerline/Form;" (.ref a2)) (E1 : Exa Z h0 a2 "com/example/ledgerline/ledgerline/Form") (F1 : Fld Z h0 a2 "com/example/ledgerline/ledgerline/Form" "control" "Lcom/example/ledgerline/ledgerline/Control$Positions;" (.ref c2)) (S2 : Sta Z h0 "com/example/ledgerline/ledgerline/Form" "CF2_NDM" "Lcom/example/ledgerline/ledgerline/Form;" (.ref a3)) (E2 : Exa Z h0 a3 "com/example/ledgerline/ledgerline/Form") (F2 : Fld Z h0 a3 "com/example/ledgerline/ledgerline/Form" "control" "Lcom/example/ledgerline/ledgerline/Control$Positions;" (.ref c3)) (S3 : Sta Z h0 "com/example/ledgerline/ledgerline/Form" "CF2_FTP" "Lcom/example/ledgerline/ledgerline/Form;" (.ref a4)) (E3 : Exa Z h0 a4 "com/example/ledgerline/ledgerline/Form") (F3 : Fld Z h0 a4 "com/example/ledgerline/ledgerline/Form" "control" "Lcom/example/ledgerline/ledgerline/Control$Positions;" (.ref c4)) (S4 : Sta Z h0 "com/example/ledgerline/ledgerline/Form" "NONE" "Lcom/example/ledgerline/ledgerline/Form;" (.ref a5)) (E4 : Exa Z h0 a5 "com/example/ledgerline/ledgerline/Form") (F4 : Fld Z h0 a5 "com/example/ledgerline/ledgerline/Form" "control" "Lcom/example/ledgerline/ledgerline/Control$Positions;" .null) :
    own_C l x code maxLocals ret room_1 Z #[(.int p0)] h0 (fun v h L => v = some (.int 1) ∧ Fr h0.size L) := by
  refine own_enter pn_0 ?_
  intro p e s m below meth c s₁ X0 hx hby hml hown hnm hret hlk hZ e0
  have hml : c.maxLocals = 7 := hml
  replace hown : s.vm.findClass "com/example/ledgerline/ledgerline/FormHasTrailerPinLaw" = some m.cls := hown
  have ef : entryFrame m #[(.int p0)] maxLocals = mkF m 0 #[.val (.int p0), .unset, .unset, .unset, .unset, .unset, .unset] [] := by first | rfl | (simp [entryFrame, mkF, argsToLocals, Value.category, maxLocals]; done)
  refine own_cast ef ?_
  show own_Ends _ _ _ _ _ _ _ s₁ (mkF m 0 #[.val (.int p0), .unset, .unset, .unset, .unset, .unset, .unset] [])
  have N0 := Fr.nil h0.size
  have K0 : Keep h0 h0 [] := Keep.refl _ _
  refine own_go (fun _ k => XS.iconst X0.here hx rfl (hb hby at_0) k) ?_
  show own_Ends _ _ _ _ _ _ _ s₁ (mkF m 1 #[.val (.int p0), .unset, .unset, .unset, .unset, .unset, .unset] [(.int (5 : Int32))])
  obtain ⟨T5, h5, k5, X5, e5, E5, A5, O5, st5⟩ := own_newR X0 hx hZ hown (hw _ (List.mem_of_getElem? (i := 0) rfl)) (hw _ (List.mem_of_getElem? (i := 1) rfl)) e0 (g := (mkF m 1 #[.val (.int p0), .unset, .unset, .unset, .unset, .unset, .unset] [(.int (5 : Int32))])) rfl (hb hby at_1) rfl (by decide) (n := 5) (by decide) (cap := 5) (by decide) (by decide) (by decide) (by decide)
  obtain ⟨b, gq5⟩ : ∃ z, z = h0.size := ⟨_, rfl⟩
  rw [← gq5] at A5 st5
  have ne_a1_b : a1 ≠ b := Nat.ne_of_lt (Nat.lt_of_lt_of_le E0.lt (Nat.le_of_eq gq5.symm))
  have ne_a2_b : a2 ≠ b := Nat.ne_of_lt (Nat.lt_of_lt_of_le E1.lt (Nat.le_of_eq gq5.symm))
  have ne_a3_b : a3 ≠ b := Nat.ne_of_lt (Nat.lt_of_lt_of_le E2.lt (Nat.le_of_eq gq5.symm))
  have ne_a4_b : a4 ≠ b := Nat.ne_of_lt (Nat.lt_of_lt_of_le E3.lt (Nat.le_of_eq gq5.symm))
  have ne_a5_b : a5 ≠ b := Nat.ne_of_lt (Nat.lt_of_lt_of_le E4.lt (Nat.le_of_eq gq5.symm))
  have sz_b : h0.size ≤ b := Nat.le_trans K0.1 (Nat.le_of_eq gq5.symm)
  have g_b : h0.size ≤ b := Nat.le_trans (Nat.le_refl _) sz_b
  have K_5 := K0.ext E5
  have S_com_example_ledgerline_ledgerline_Form_CCF_5 := S0.ext E5
  have E_a1_5 := E0.ext E5
  have F_a1_control_5 := F0.ext E5
  have S_com_example_ledgerline_ledgerline_Form_CCF_II_5 := S1.ext E5
  have E_a2_5 := E1.ext E5
  have F_a2_control_5 := F1.ext E5
  have S_com_example_ledgerline_ledgerline_Form_CF2_NDM_5 := S2.ext E5
  have E_a3_5 := E2.ext E5
  have F_a3_control_5 := F2.ext E5
  have S_com_example_ledgerline_ledgerline_Form_CF2_FTP_5 := S3.ext E5
  have E_a4_5 := E3.ext E5
  have F_a4_control_5 := F3.ext E5
  have S_com_example_ledgerline_ledgerline_Form_NONE_5 := S4.ext E5
  have E_a5_5 := E4.ext E5
  have F_a5_control_5 := F4.ext E5
  refine own_go st5 ?_
  show own_Ends _ _ _ _ _ _ _ T5 (mkF m 4 #[.val (.int p0), .unset, .unset, .unset, .unset, .unset, .unset] [(.ref b)])
  refine own_go (fun _ k => XS.dup X5.here hx rfl (hb hby at_4) rfl rfl k) ?_
  show own_Ends _ _ _ _ _ _ _ T5 (mkF m 5 #[.val (.int p0), .unset, .unset, .unset, .unset, .unset, .unset] [(.ref b), (.ref b)])
  refine own_go (fun _ k => XS.iconst X5.here hx rfl (hb hby at_5) k) ?_
  show own_Ends _ _ _ _ _ _ _ T5 (mkF m 6 #[.val (.int p0), .unset, .unset, .unset, .unset, .unset, .unset] [(.int (0 : Int32)), (.ref b), (.ref b)])
  obtain ⟨T6, X6, e6, st6⟩ := getS2 X5 hx hZ hown (host := "") (Or.inl (hw _ (List.mem_of_getElem? (i := 2) rfl))) Via.refl e5 S_com_example_ledgerline_ledgerline_Form_CCF_5 (g := (mkF m 6 #[.val (.int p0), .unset, .unset, .unset, .unset, .unset, .unset] [(.int (0 : Int32)), (.ref b), (.ref b)])) rfl (hb hby at_6)
  refine own_go st6 ?_
  show own_Ends _ _ _ _ _ _ _ T6 (mkF m 9 #[.val (.int p0), .unset, .unset, .unset, .unset, .unset, .unset] [(.ref a1), (.int (0 : Int32)), (.ref b), (.ref b)])
  obtain ⟨T7, h7, X7, e7, W7, V7, st7⟩ := own_stR X6 hx hZ e6 A5 rfl (S := (A5.sto O5 (Ins.self E_a1_5))) (i := 0) (by decide) (by decide) (by decide) (g := (mkF m 9 #[.val (.int p0), .unset, .unset, .unset, .unset, .unset, .unset] [(.ref a1), (.int (0 : Int32)), (.ref b), (.ref b)])) rfl rfl (hb hby at_9)
  have N7 := Fr.snoc X7 N0 g_b
  have K_7 := K_5.wr W7 (Or.inr sz_b)
  have S_com_example_ledgerline_ledgerline_Form_CCF_7 := S_com_example_ledgerline_ledgerline_Form_CCF_5.wr W7
  have E_a1_7 := E_a1_5.wr W7
  have F_a1_control_7 := F_a1_control_5.other W7 (Or.inl ne_a1_b)
  have S_com_example_ledgerline_ledgerline_Form_CCF_II_7 := S_com_example_ledgerline_ledgerline_Form_CCF_II_5.wr W7
  have E_a2_7 := E_a2_5.wr W7
  have F_a2_control_7 := F_a2_control_5.other W7 (Or.inl ne_a2_b)
  have S_com_example_ledgerline_ledgerline_Form_CF2_NDM_7 := S_com_example_ledgerline_ledgerline_Form_CF2_NDM_5.wr W7
  have E_a3_7 := E_a3_5.wr W7
  have F_a3_control_7 := F_a3_control_5.other W7 (Or.inl ne_a3_b)
  have S_com_example_ledgerline_ledgerline_Form_CF2_FTP_7 := S_com_example_ledgerline_ledgerline_Form_CF2_FTP_5.wr W7
  have E_a4_7 := E_a4_5.wr W7
  have F_a4_control_7 := F_a4_control_5.other W7 (Or.inl ne_a4_b)
  have S_com_example_ledgerline_ledgerline_Form_NONE_7 := S_com_example_ledgerline_ledgerline_Form_NONE_5.wr W7
  have E_a5_7 := E_a5_5.wr W7
  have F_a5_control_7 := F_a5_control_5.other W7 (Or.inl ne_a5_b)
  refine own_go st7 ?_
  show own_Ends _ _ _ _ _ _ _ T7 (mkF m 10 #[.val (.int p0), .unset, .unset, .unset, .unset, .unset, .unset] [(.ref b)])
  refine own_go (fun _ k => XS.dup X7.here hx rfl (hb hby at_10) rfl rfl k) ?_
  show own_Ends _ _ _ _ _ _ _ T7 (mkF m 11 #[.val (.int p0), .unset, .unset, .unset, .unset, .unset, .unset] [(.ref b), (.ref b)])
  refine own_go (fun _ k => XS.iconst X7.here hx rfl (hb hby at_11) k) ?_
  show own_Ends _ _ _ _ _ _ _ T7 (mkF m 12 #[.val (.int p0), .unset, .unset, .unset, .unset, .unset, .unset] [(.int (1 : Int32)), (.ref b), (.ref b)])
  obtain ⟨T8, X8, e8, st8⟩ := getS2 X7 hx hZ hown (host := "") (Or.inl (hw _ (List.mem_of_getElem? (i := 6) rfl))) Via.refl e7 S_com_example_ledgerline_ledgerline_Form_CCF_II_7 (g := (mkF m 12 #[.val (.int p0), .unset, .unset, .unset, .unset, .unset, .unset] [(.int (1 : Int32)), (.ref b), (.ref b)])) rfl (hb hby at_12)
  refine own_go st8 ?_
  show own_Ends _ _ _ _ _ _ _ T8 (mkF m 15 #[.val (.int p0), .unset, .unset, .unset, .unset, .unset, .unset] [(.ref a2), (.int (1 : Int32)), (.ref b), (.ref b)])
  obtain ⟨T9, h9, X9, e9, W9, V9, st9⟩ := own_stR X8 hx hZ e8 V7 rfl (S := (V7.sto O5 (Ins.self E_a2_7))) (i := 1) (by decide) (by decide) (by decide) (g := (mkF m 15 #[.val (.int p0), .unset, .unset, .unset, .unset, .unset, .unset] [(.ref a2), (.int (1 : Int32)), (.ref b), (.ref b)])) rfl rfl (hb hby at_15)
  have N9 := Fr.snoc X9 N7 g_b
  have K_9 := K_7.wr W9 (Or.inr sz_b)
  have S_com_example_ledgerline_ledgerline_Form_CCF_9 := S_com_example_ledgerline_ledgerline_Form_CCF_7.wr W9
  have E_a1_9 := E_a1_7.wr W9
  have F_a1_control_9 := F_a1_control_7.other W9 (Or.inl ne_a1_b)
  have S_com_example_ledgerline_ledgerline_Form_CCF_II_9 := S_com_example_ledgerline_ledgerline_Form_CCF_II_7.wr W9
  have E_a2_9 := E_a2_7.wr W9
  have F_a2_control_9 := F_a2_control_7.other W9 (Or.inl ne_a2_b)
  have S_com_example_ledgerline_ledgerline_Form_CF2_NDM_9 := S_com_example_ledgerline_ledgerline_Form_CF2_NDM_7.wr W9
  have E_a3_9 := E_a3_7.wr W9
  have F_a3_control_9 := F_a3_control_7.other W9 (Or.inl ne_a3_b)
  have S_com_example_ledgerline_ledgerline_Form_CF2_FTP_9 := S_com_example_ledgerline_ledgerline_Form_CF2_FTP_7.wr W9
  have E_a4_9 := E_a4_7.wr W9
  have F_a4_control_9 := F_a4_control_7.other W9 (Or.inl ne_a4_b)
  have S_com_example_ledgerline_ledgerline_Form_NONE_9 := S_com_example_ledgerline_ledgerline_Form_NONE_7.wr W9
  have E_a5_9 := E_a5_7.wr W9
  have F_a5_control_9 := F_a5_control_7.other W9 (Or.inl ne_a5_b)
  refine own_go st9 ?_
  show own_Ends _ _ _ _ _ _ _ T9 (mkF m 16 #[.val (.int p0), .unset, .unset, .unset, .unset, .unset, .unset] [(.ref b)])
  refine own_go (fun _ k => XS.dup X9.here hx rfl (hb hby at_16) rfl rfl k) ?_
  show own_Ends _ _ _ _ _ _ _ T9 (mkF m 17 #[.val (.int p0), .unset, .unset, .unset, .unset, .unset, .unset] [(.ref b), (.ref b)])
  refine own_go (fun _ k => XS.iconst X9.here hx rfl (hb hby at_17) k) ?_
  show own_Ends _ _ _ _ _ _ _ T9 (mkF m 18 #[.val (.int p0), .unset, .unset, .unset, .unset, .unset, .unset] [(.int (2 : Int32)), (.ref b), (.ref b)])
  obtain ⟨T10, X10, e10, st10⟩ := getS2 X9 hx hZ hown (host := "") (Or.inl (hw _ (List.mem_of_getElem? (i := 8) rfl))) Via.refl e9 S_com_example_ledgerline_ledgerline_Form_CF2_NDM_9 (g := (mkF m 18 #[.val (.int p0), .unset, .unset, .unset, .unset, .unset, .unset] [(.int (2 : Int32)), (.ref b), (.ref b)])) rfl (hb hby at_18)
  refine own_go st10 ?_
  show own_Ends _ _ _ _ _ _ _ T10 (mkF m 21 #[.val (.int p0), .unset, .unset, .unset, .unset, .unset, .unset] [(.ref a3), (.int (2 : Int32)), (.ref b), (.ref b)])
  obtain ⟨T11, h11, X11, e11, W11, V11, st11⟩ := own_stR X10 hx hZ e10 V9 rfl (S := (V9.sto O5 (Ins.self E_a3_9))) (i := 2) (by decide) (by decide) (by decide) (g := (mkF m 21 #[.val (.int p0), .unset, .unset, .unset, .unset, .unset, .unset] [(.ref a3), (.int (2 : Int32)), (.ref b), (.ref b)])) rfl rfl (hb hby at_21)
  have N11 := Fr.snoc X11 N9 g_b
  have K_11 := K_9.wr W11 (Or.inr sz_b)
  have S_com_example_ledgerline_ledgerline_Form_CCF_11 := S_com_example_ledgerline_ledgerline_Form_CCF_9.wr W11
  have E_a1_11 := E_a1_9.wr W11
  have F_a1_control_11 := F_a1_control_9.other W11 (Or.inl ne_a1_b)
  have S_com_example_ledgerline_ledgerline_Form_CCF_II_11 := S_com_example_ledgerline_ledgerline_Form_CCF_II_9.wr W11
  have E_a2_11 := E_a2_9.wr W11
  have F_a2_control_11 := F_a2_control_9.other W11 (Or.inl ne_a2_b)
  have S_com_example_ledgerline_ledgerline_Form_CF2_NDM_11 := S_com_example_ledgerline_ledgerline_Form_CF2_NDM_9.wr W11
  have E_a3_11 := E_a3_9.wr W11
  have F_a3_control_11 := F_a3_control_9.other W11 (Or.inl ne_a3_b)
  have S_com_example_ledgerline_ledgerline_Form_CF2_FTP_11 := S_com_example_ledgerline_ledgerline_Form_CF2_FTP_9.wr W11
  have E_a4_11 := E_a4_9.wr W11
  have F_a4_control_11 := F_a4_control_9.other W11 (Or.inl ne_a4_b)
  have S_com_example_ledgerline_ledgerline_Form_NONE_11 := S_com_example_ledgerline_ledgerline_Form_NONE_9.wr W11
  have E_a5_11 := E_a5_9.wr W11
  have F_a5_control_11 := F_a5_control_9.other W11 (Or.inl ne_a5_b)
  refine own_go st11 ?_
  show own_Ends _ _ _ _ _ _ _ T11 (mkF m 22 #[.val (.int p0), .unset, .unset, .unset, .unset, .unset, .unset] [(.ref b)])
  refine own_go (fun _ k => XS.dup X11.here hx rfl (hb hby at_22) rfl rfl k) ?_
  show own_Ends _ _ _ _ _ _ _ T11 (mkF m 23 #[.val (.int p0), .unset, .unset, .unset, .unset, .unset, .unset] [(.ref b), (.ref b)])
  refine own_go (fun _ k => XS.iconst X11.here hx rfl (hb hby at_23) k) ?_
  show own_Ends _ _ _ _ _ _ _ T11 (mkF m 24 #[.val (.int p0), .unset, .unset, .unset, .unset, .unset, .unset] [(.int (3 : Int32)), (.ref b), (.ref b)])
  obtain ⟨T12, X12, e12, st12⟩ := getS2 X11 hx hZ hown (host := "") (Or.inl (hw _ (List.mem_of_getElem? (i := 10) rfl))) Via.refl e11 S_com_example_ledgerline_ledgerline_Form_CF2_FTP_11 (g := (mkF m 24 #[.val (.int p0), .unset, .unset, .unset, .unset, .unset, .unset] [(.int (3 : Int32)), (.ref b), (.ref b)])) rfl (hb hby at_24)
  refine own_go st12 ?_
  show own_Ends _ _ _ _ _ _ _ T12 (mkF m 27 #[.val (.int p0), .unset, .unset, .unset, .unset, .unset, .unset] [(.ref a4), (.int (3 : Int32)), (.ref b), (.ref b)])
  obtain ⟨T13, h13, X13, e13, W13, V13, st13⟩ := own_stR X12 hx hZ e12 V11 rfl (S := (V11.sto O5 (Ins.self E_a4_11))) (i := 3) (by decide) (by decide) (by decide) (g := (mkF m 27 #[.val (.int p0), .unset, .unset, .unset, .unset, .unset, .unset] [(.ref a4), (.int (3 : Int32)), (.ref b), (.ref b)])) rfl rfl (hb hby at_27)
  have N13 := Fr.snoc X13 N11 g_b
  have K_13 := K_11.wr W13 (Or.inr sz_b)
  have S_com_example_ledgerline_ledgerline_Form_CCF_13 := S_com_example_ledgerline_ledgerline_Form_CCF_11.wr W13
  have E_a1_13 := E_a1_11.wr W13
  have F_a1_control_13 := F_a1_control_11.other W13 (Or.inl ne_a1_b)
  have S_com_example_ledgerline_ledgerline_Form_CCF_II_13 := S_com_example_ledgerline_ledgerline_Form_CCF_II_11.wr W13
  have E_a2_13 := E_a2_11.wr W13
  have F_a2_control_13 := F_a2_control_11.other W13 (Or.inl ne_a2_b)
  have S_com_example_ledgerline_ledgerline_Form_CF2_NDM_13 := S_com_example_ledgerline_ledgerline_Form_CF2_NDM_11.wr W13
  have E_a3_13 := E_a3_11.wr W13
  have F_a3_control_13 := F_a3_control_11.other W13 (Or.inl ne_a3_b)
  have S_com_example_ledgerline_ledgerline_Form_CF2_FTP_13 := S_com_example_ledgerline_ledgerline_Form_CF2_FTP_11.wr W13
  have E_a4_13 := E_a4_11.wr W13
  have F_a4_control_13 := F_a4_control_11.other W13 (Or.inl ne_a4_b)
  have S_com_example_ledgerline_ledgerline_Form_NONE_13 := S_com_example_ledgerline_ledgerline_Form_NONE_11.wr W13
  have E_a5_13 := E_a5_11.wr W13
  have F_a5_control_13 := F_a5_control_11.other W13 (Or.inl ne_a5_b)
  refine own_go st13 ?_
  show own_Ends _ _ _ _ _ _ _ T13 (mkF m 28 #[.val (.int p0), .unset, .unset, .unset, .unset, .unset, .unset] [(.ref b)])
  refine own_go (fun _ k => XS.dup X13.here hx rfl (hb hby at_28) rfl rfl k) ?_
  show own_Ends _ _ _ _ _ _ _ T13 (mkF m 29 #[.val (.int p0), .unset, .unset, .unset, .unset, .unset, .unset] [(.ref b), (.ref b)])
  refine own_go (fun _ k => XS.iconst X13.here hx rfl (hb hby at_29) k) ?_
  show own_Ends _ _ _ _ _ _ _ T13 (mkF m 30 #[.val (.int p0), .unset, .unset, .unset, .unset, .unset, .unset] [(.int (4 : Int32)), (.ref b), (.ref b)])
  obtain ⟨T14, X14, e14, st14⟩ := getS2 X13 hx hZ hown (host := "") (Or.inl (hw _ (List.mem_of_getElem? (i := 12) rfl))) Via.refl e13 S_com_example_ledgerline_ledgerline_Form_NONE_13 (g := (mkF m 30 #[.val (.int p0), .unset, .unset, .unset, .unset, .unset, .unset] [(.int (4 : Int32)), (.ref b), (.ref b)])) rfl (hb hby at_30)
  refine own_go st14 ?_
  show own_Ends _ _ _ _ _ _ _ T14 (mkF m 33 #[.val (.int p0), .unset, .unset, .unset, .unset, .unset, .unset] [(.ref a5), (.int (4 : Int32)), (.ref b), (.ref b)])
  obtain ⟨T15, h15, X15, e15, W15, V15, st15⟩ := own_stR X14 hx hZ e14 V13 rfl (S := (V13.sto O5 (Ins.self E_a5_13))) (i := 4) (by decide) (by decide) (by decide) (g := (mkF m 33 #[.val (.int p0), .unset, .unset, .unset, .unset, .unset, .unset] [(.ref a5), (.int (4 : Int32)), (.ref b), (.ref b)])) rfl rfl (hb hby at_33)
  have N15 := Fr.snoc X15 N13 g_b
  have K_15 := K_13.wr W15 (Or.inr sz_b)
  have S_com_example_ledgerline_ledgerline_Form_CCF_15 := S_com_example_ledgerline_ledgerline_Form_CCF_13.wr W15
  have E_a1_15 := E_a1_13.wr W15
  have F_a1_control_15 := F_a1_control_13.other W15 (Or.inl ne_a1_b)
  have S_com_example_ledgerline_ledgerline_Form_CCF_II_15 := S_com_example_ledgerline_ledgerline_Form_CCF_II_13.wr W15
  have E_a2_15 := E_a2_13.wr W15
  have F_a2_control_15 := F_a2_control_13.other W15 (Or.inl ne_a2_b)
  have S_com_example_ledgerline_ledgerline_Form_CF2_NDM_15 := S_com_example_ledgerline_ledgerline_Form_CF2_NDM_13.wr W15
  have E_a3_15 := E_a3_13.wr W15
  have F_a3_control_15 := F_a3_control_13.other W15 (Or.inl ne_a3_b)
  have S_com_example_ledgerline_ledgerline_Form_CF2_FTP_15 := S_com_example_ledgerline_ledgerline_Form_CF2_FTP_13.wr W15
  have E_a4_15 := E_a4_13.wr W15
  have F_a4_control_15 := F_a4_control_13.other W15 (Or.inl ne_a4_b)
  have S_com_example_ledgerline_ledgerline_Form_NONE_15 := S_com_example_ledgerline_ledgerline_Form_NONE_13.wr W15
  have E_a5_15 := E_a5_13.wr W15
  have F_a5_control_15 := F_a5_control_13.other W15 (Or.inl ne_a5_b)
  refine own_go st15 ?_
  show own_Ends _ _ _ _ _ _ _ T15 (mkF m 34 #[.val (.int p0), .unset, .unset, .unset, .unset, .unset, .unset] [(.ref b)])
  refine own_go (fun _ k => XS.astoreN X15.here hx rfl (hb hby at_34) rfl rfl (l' := #[.val (.int p0), .val (.ref b), .unset, .unset, .unset, .unset, .unset]) rfl k) ?_
  show own_Ends _ _ _ _ _ _ _ T15 (mkF m 35 #[.val (.int p0), .val (.ref b), .unset, .unset, .unset, .unset, .unset] [])
  refine own_go (fun _ k => XS.iloadN X15.here hx rfl (hb hby at_35) rfl k) ?_
  show own_Ends _ _ _ _ _ _ _ T15 (mkF m 36 #[.val (.int p0), .val (.ref b), .unset, .unset, .unset, .unset, .unset] [(.int p0)])
  refine own_go (fun _ k => X15.ldcInt hx hown (mvT hZ (hw _ (List.mem_of_getElem? (i := 14) rfl))) (g := (mkF m 36 #[.val (.int p0), .val (.ref b), .unset, .unset, .unset, .unset, .unset] [(.int p0)])) rfl (hb hby at_36) _ k) ?_
  show own_Ends _ _ _ _ _ _ _ T15 (mkF m 38 #[.val (.int p0), .val (.ref b), .unset, .unset, .unset, .unset, .unset] [(.int (2147483647 : Int32)), (.int p0)])
  refine own_go (fun _ k => XS.iand X15.here hx rfl (hb hby at_38) rfl k) ?_
  show own_Ends _ _ _ _ _ _ _ T15 (mkF m 39 #[.val (.int p0), .val (.ref b), .unset, .unset, .unset, .unset, .unset] [(.int (p0 &&& (2147483647 : Int32)))])
  refine own_go (fun _ k => XS.iconst X15.here hx rfl (hb hby at_39) k) ?_
  show own_Ends _ _ _ _ _ _ _ T15 (mkF m 40 #[.val (.int p0), .val (.ref b), .unset, .unset, .unset, .unset, .unset] [(.int (5 : Int32)), (.int (p0 &&& (2147483647 : Int32)))])
  refine own_go (fun _ k => iremM X15 hx rfl (hb hby at_40) rfl (by decide) k) ?_
  show own_Ends _ _ _ _ _ _ _ T15 (mkF m 41 #[.val (.int p0), .val (.ref b), .unset, .unset, .unset, .unset, .unset] [(.int ((p0 &&& (2147483647 : Int32)) % (5 : Int32)))])
  refine own_go (fun _ k => XS.istoreN X15.here hx rfl (hb hby at_41) rfl (l' := #[.val (.int p0), .val (.ref b), .val (.int ((p0 &&& (2147483647 : Int32)) % (5 : Int32))), .unset, .unset, .unset, .unset]) rfl k) ?_
  show own_Ends _ _ _ _ _ _ _ T15 (mkF m 42 #[.val (.int p0), .val (.ref b), .val (.int ((p0 &&& (2147483647 : Int32)) % (5 : Int32))), .unset, .unset, .unset, .unset] [])
  refine own_go (fun _ k => XS.aloadN X15.here hx rfl (hb hby at_42) rfl rfl k) ?_
  show own_Ends _ _ _ _ _ _ _ T15 (mkF m 43 #[.val (.int p0), .val (.ref b), .val (.int ((p0 &&& (2147483647 : Int32)) % (5 : Int32))), .unset, .unset, .unset, .unset] [(.ref b)])
  refine own_go (fun _ k => XS.iloadN X15.here hx rfl (hb hby at_43) rfl k) ?_
  show own_Ends _ _ _ _ _ _ _ T15 (mkF m 44 #[.val (.int p0), .val (.ref b), .val (.int ((p0 &&& (2147483647 : Int32)) % (5 : Int32))), .unset, .unset, .unset, .unset] [(.int ((p0 &&& (2147483647 : Int32)) % (5 : Int32))), (.ref b)])
  rcases own_mod5 p0 with hk | hk | hk | hk | hk
  · rw [show ((p0 &&& (2147483647 : Int32)) % (5 : Int32)) = (0 : Int32) from hk]
    show own_Ends _ _ _ _ _ _ _ T15 (mkF m 44 #[.val (.int p0), .val (.ref b), .val (.int (0 : Int32)), .unset, .unset, .unset, .unset] [(.int (0 : Int32)), (.ref b)])
    refine own_go (fun _ k => own_ldR X15 hx hZ e15 V15 rfl (i := 0) (v := (.ref a1)) (by decide) (by decide) (by decide) (by first | rfl | simp) (g := (mkF m 44 #[.val (.int p0), .val (.ref b), .val (.int (0 : Int32)), .unset, .unset, .unset, .unset] [(.int (0 : Int32)), (.ref b)])) rfl rfl (hb hby at_44) _ k) ?_
    show own_Ends _ _ _ _ _ _ _ T15 (mkF m 45 #[.val (.int p0), .val (.ref b), .val (.int (0 : Int32)), .unset, .unset, .unset, .unset] [(.ref a1)])
    refine own_go (fun _ k => XS.astoreN X15.here hx rfl (hb hby at_45) rfl rfl (l' := #[.val (.int p0), .val (.ref b), .val (.int (0 : Int32)), .val (.ref a1), .unset, .unset, .unset]) rfl k) ?_
    show own_Ends _ _ _ _ _ _ _ T15 (mkF m 46 #[.val (.int p0), .val (.ref b), .val (.int (0 : Int32)), .val (.ref a1), .unset, .unset, .unset] [])
    refine own_go (fun _ k => XS.iloadN X15.here hx rfl (hb hby at_46) rfl k) ?_
    show own_Ends _ _ _ _ _ _ _ T15 (mkF m 47 #[.val (.int p0), .val (.ref b), .val (.int (0 : Int32)), .val (.ref a1), .unset, .unset, .unset] [(.int (0 : Int32))])
    refine own_go (fun _ k => XS.iconst X15.here hx rfl (hb hby at_47) k) ?_
    show own_Ends _ _ _ _ _ _ _ T15 (mkF m 48 #[.val (.int p0), .val (.ref b), .val (.int (0 : Int32)), .val (.ref a1), .unset, .unset, .unset] [(.int (1 : Int32)), (.int (0 : Int32))])
    refine own_go (fun _ k => XS.icmpNo X15.here hx rfl (hb hby at_48) rfl (feq (by decide)).1 k) ?_
    show own_Ends _ _ _ _ _ _ _ T15 (mkF m 51 #[.val (.int p0), .val (.ref b), .val (.int (0 : Int32)), .val (.ref a1), .unset, .unset, .unset] [])
    refine own_go (fun _ k => XS.iloadN X15.here hx rfl (hb hby at_51) rfl k) ?_
    show own_Ends _ _ _ _ _ _ _ T15 (mkF m 52 #[.val (.int p0), .val (.ref b), .val (.int (0 : Int32)), .val (.ref a1), .unset, .unset, .unset] [(.int (0 : Int32))])
    refine own_go (fun _ k => XS.iconst X15.here hx rfl (hb hby at_52) k) ?_
    show own_Ends _ _ _ _ _ _ _ T15 (mkF m 53 #[.val (.int p0), .val (.ref b), .val (.int (0 : Int32)), .val (.ref a1), .unset, .unset, .unset] [(.int (2 : Int32)), (.int (0 : Int32))])
    refine own_go (fun _ k => XS.icmpNo X15.here hx rfl (hb hby at_53) rfl (feq (by decide)).1 k) ?_
    show own_Ends _ _ _ _ _ _ _ T15 (mkF m 56 #[.val (.int p0), .val (.ref b), .val (.int (0 : Int32)), .val (.ref a1), .unset, .unset, .unset] [])
    refine own_go (fun _ k => XS.iloadN X15.here hx rfl (hb hby at_56) rfl k) ?_
    show own_Ends _ _ _ _ _ _ _ T15 (mkF m 57 #[.val (.int p0), .val (.ref b), .val (.int (0 : Int32)), .val (.ref a1), .unset, .unset, .unset] [(.int (0 : Int32))])
    refine own_go (fun _ k => XS.iconst X15.here hx rfl (hb hby at_57) k) ?_
    show own_Ends _ _ _ _ _ _ _ T15 (mkF m 58 #[.val (.int p0), .val (.ref b), .val (.int (0 : Int32)), .val (.ref a1), .unset, .unset, .unset] [(.int (3 : Int32)), (.int (0 : Int32))])
    refine own_go (fun _ k => XS.icmpYes X15.here hx rfl (pc0 := 58) (pc' := 65) rfl (hb hby at_58) rfl (feq (by decide)).2 (by decide) (by decide) k) ?_
    show own_Ends _ _ _ _ _ _ _ T15 (mkF m 65 #[.val (.int p0), .val (.ref b), .val (.int (0 : Int32)), .val (.ref a1), .unset, .unset, .unset] [])
    refine own_go (fun _ k => XS.iconst X15.here hx rfl (hb hby at_65) k) ?_
    show own_Ends _ _ _ _ _ _ _ T15 (mkF m 66 #[.val (.int p0), .val (.ref b), .val (.int (0 : Int32)), .val (.ref a1), .unset, .unset, .unset] [(.int (0 : Int32))])
    refine own_go (fun _ k => XS.istore X15.here hx rfl (hb hby at_66) rfl (l' := #[.val (.int p0), .val (.ref b), .val (.int (0 : Int32)), .val (.ref a1), .val (.int (0 : Int32)), .unset, .unset]) rfl k) ?_
    show own_Ends _ _ _ _ _ _ _ T15 (mkF m 68 #[.val (.int p0), .val (.ref b), .val (.int (0 : Int32)), .val (.ref a1), .val (.int (0 : Int32)), .unset, .unset] [])
    refine own_go (fun _ k => XS.aloadN X15.here hx rfl (hb hby at_68) rfl rfl k) ?_
    show own_Ends _ _ _ _ _ _ _ T15 (mkF m 69 #[.val (.int p0), .val (.ref b), .val (.int (0 : Int32)), .val (.ref a1), .val (.int (0 : Int32)), .unset, .unset] [(.ref a1)])
    obtain ⟨v16, T16, L16, X16, hQ16, st16⟩ := own_callV X15 hx hZ hown (hw _ (List.mem_of_getElem? (i := 15) rfl)) (hw _ (List.mem_of_getElem? (i := 16) rfl)) (hw _ (List.mem_of_getElem? (i := 18) rfl)) (hw _ (List.mem_of_getElem? (i := 17) rfl)) (hw _ (List.mem_of_getElem? (i := 3) rfl)) (hw _ (List.mem_of_getElem? (i := 19) rfl)) (rm1n l Z a0 hw a1 h15  F_a1_control_15) e15 (g := (mkF m 69 #[.val (.int p0), .val (.ref b), .val (.int (0 : Int32)), .val (.ref a1), .val (.int (0 : Int32)), .unset, .unset] [(.ref a1)])) rfl (by rw [hml]; rfl) (a := a1) (argsL := []) (rest := []) (E_a1_15) (lenOf pd_0 rfl) rfl rfl (W := 0) (by show 2 * 0 + _ ≤ _; exact Nat.le_of_eq rfl) (hb hby at_69) (by decide) (by decide) (by decide) (by decide) (by decide)
    obtain ⟨rfl, rfl, e16⟩ := hQ16
    refine own_go st16 ?_
    have N16 := Fr.app N15 (Fr.nil _)
    show own_Ends _ _ _ _ _ _ _ T16 (mkF m 72 #[.val (.int p0), .val (.ref b), .val (.int (0 : Int32)), .val (.ref a1), .val (.int (0 : Int32)), .unset, .unset] [(.int (0 : Int32))])
    refine own_go (fun _ k => XS.istore X16.here hx rfl (hb hby at_72) rfl (l' := #[.val (.int p0), .val (.ref b), .val (.int (0 : Int32)), .val (.ref a1), .val (.int (0 : Int32)), .val (.int (0 : Int32)), .unset]) rfl k) ?_
    show own_Ends _ _ _ _ _ _ _ T16 (mkF m 74 #[.val (.int p0), .val (.ref b), .val (.int (0 : Int32)), .val (.ref a1), .val (.int (0 : Int32)), .val (.int (0 : Int32)), .unset] [])
    refine own_go (fun _ k => XS.aloadN X16.here hx rfl (hb hby at_74) rfl rfl k) ?_
    show own_Ends _ _ _ _ _ _ _ T16 (mkF m 75 #[.val (.int p0), .val (.ref b), .val (.int (0 : Int32)), .val (.ref a1), .val (.int (0 : Int32)), .val (.int (0 : Int32)), .unset] [(.ref a1)])
    obtain ⟨v17, T17, L17, X17, hQ17, st17⟩ := own_callV X16 hx hZ hown (hw _ (List.mem_of_getElem? (i := 22) rfl)) (hw _ (List.mem_of_getElem? (i := 23) rfl)) (hw _ (List.mem_of_getElem? (i := 25) rfl)) (hw _ (List.mem_of_getElem? (i := 24) rfl)) (hw _ (List.mem_of_getElem? (i := 3) rfl)) (hw _ (List.mem_of_getElem? (i := 26) rfl)) (rm2n l Z a0 hw a1 h15  F_a1_control_15) e16 (g := (mkF m 75 #[.val (.int p0), .val (.ref b), .val (.int (0 : Int32)), .val (.ref a1), .val (.int (0 : Int32)), .val (.int (0 : Int32)), .unset] [(.ref a1)])) rfl (by rw [hml]; rfl) (a := a1) (argsL := []) (rest := []) (E_a1_15) (lenOf pd_1 rfl) rfl rfl (W := 0) (by show 2 * 0 + _ ≤ _; exact Nat.le_of_eq rfl) (hb hby at_75) (by decide) (by decide) (by decide) (by decide) (by decide)
    obtain ⟨rfl, rfl, e17⟩ := hQ17
    refine own_go st17 ?_
    have N17 := Fr.app N16 (Fr.nil _)
    show own_Ends _ _ _ _ _ _ _ T17 (mkF m 78 #[.val (.int p0), .val (.ref b), .val (.int (0 : Int32)), .val (.ref a1), .val (.int (0 : Int32)), .val (.int (0 : Int32)), .unset] [.null])
    refine own_go (fun _ k => XS.ifnullYes X17.here hx rfl (pc0 := 78) (pc' := 85) rfl (hb hby at_78) rfl (by decide) (by decide) k) ?_
    show own_Ends _ _ _ _ _ _ _ T17 (mkF m 85 #[.val (.int p0), .val (.ref b), .val (.int (0 : Int32)), .val (.ref a1), .val (.int (0 : Int32)), .val (.int (0 : Int32)), .unset] [])
    refine own_go (fun _ k => XS.iconst X17.here hx rfl (hb hby at_85) k) ?_
    show own_Ends _ _ _ _ _ _ _ T17 (mkF m 86 #[.val (.int p0), .val (.ref b), .val (.int (0 : Int32)), .val (.ref a1), .val (.int (0 : Int32)), .val (.int (0 : Int32)), .unset] [(.int (0 : Int32))])
    refine own_go (fun _ k => XS.istore X17.here hx rfl (hb hby at_86) rfl (l' := #[.val (.int p0), .val (.ref b), .val (.int (0 : Int32)), .val (.ref a1), .val (.int (0 : Int32)), .val (.int (0 : Int32)), .val (.int (0 : Int32))]) rfl k) ?_
    show own_Ends _ _ _ _ _ _ _ T17 (mkF m 88 #[.val (.int p0), .val (.ref b), .val (.int (0 : Int32)), .val (.ref a1), .val (.int (0 : Int32)), .val (.int (0 : Int32)), .val (.int (0 : Int32))] [])
    refine own_go (fun _ k => XS.iload X17.here hx rfl (hb hby at_88) rfl k) ?_
    show own_Ends _ _ _ _ _ _ _ T17 (mkF m 90 #[.val (.int p0), .val (.ref b), .val (.int (0 : Int32)), .val (.ref a1), .val (.int (0 : Int32)), .val (.int (0 : Int32)), .val (.int (0 : Int32))] [(.int (0 : Int32))])
    refine own_go (fun _ k => XS.iload X17.here hx rfl (hb hby at_90) rfl k) ?_
    show own_Ends _ _ _ _ _ _ _ T17 (mkF m 92 #[.val (.int p0), .val (.ref b), .val (.int (0 : Int32)), .val (.ref a1), .val (.int (0 : Int32)), .val (.int (0 : Int32)), .val (.int (0 : Int32))] [(.int (0 : Int32)), (.int (0 : Int32))])
    refine own_go (fun _ k => XS.icmpNo X17.here hx rfl (hb hby at_92) rfl (teq (rfl)).2 k) ?_
    show own_Ends _ _ _ _ _ _ _ T17 (mkF m 95 #[.val (.int p0), .val (.ref b), .val (.int (0 : Int32)), .val (.ref a1), .val (.int (0 : Int32)), .val (.int (0 : Int32)), .val (.int (0 : Int32))] [])
    refine own_go (fun _ k => XS.iload X17.here hx rfl (hb hby at_95) rfl k) ?_
    show own_Ends _ _ _ _ _ _ _ T17 (mkF m 97 #[.val (.int p0), .val (.ref b), .val (.int (0 : Int32)), .val (.ref a1), .val (.int (0 : Int32)), .val (.int (0 : Int32)), .val (.int (0 : Int32))] [(.int (0 : Int32))])
    refine own_go (fun _ k => XS.iload X17.here hx rfl (hb hby at_97) rfl k) ?_
    show own_Ends _ _ _ _ _ _ _ T17 (mkF m 99 #[.val (.int p0), .val (.ref b), .val (.int (0 : Int32)), .val (.ref a1), .val (.int (0 : Int32)), .val (.int (0 : Int32)), .val (.int (0 : Int32))] [(.int (0 : Int32)), (.int (0 : Int32))])
    refine own_go (fun _ k => XS.icmpNo X17.here hx rfl (hb hby at_99) rfl (teq (rfl)).2 k) ?_
    show own_Ends _ _ _ _ _ _ _ T17 (mkF m 102 #[.val (.int p0), .val (.ref b), .val (.int (0 : Int32)), .val (.ref a1), .val (.int (0 : Int32)), .val (.int (0 : Int32)), .val (.int (0 : Int32))] [])
    refine own_go (fun _ k => XS.iconst X17.here hx rfl (hb hby at_102) k) ?_
    show own_Ends _ _ _ _ _ _ _ T17 (mkF m 103 #[.val (.int p0), .val (.ref b), .val (.int (0 : Int32)), .val (.ref a1), .val (.int (0 : Int32)), .val (.int (0 : Int32)), .val (.int (0 : Int32))] [(.int (1 : Int32))])
    refine own_go (fun _ k => XS.goto X17.here hx rfl (pc0 := 103) (pc' := 107) rfl (hb hby at_103) (by decide) (by decide) k) ?_
    show own_Ends _ _ _ _ _ _ _ T17 (mkF m 107 #[.val (.int p0), .val (.ref b), .val (.int (0 : Int32)), .val (.ref a1), .val (.int (0 : Int32)), .val (.int (0 : Int32)), .val (.int (0 : Int32))] [(.int (1 : Int32))])
    exact own_retZ X17 hx hlk hret (by decide) (hb hby at_107) (by decide) (by decide) ⟨rfl, N17⟩
  · rw [show ((p0 &&& (2147483647 : Int32)) % (5 : Int32)) = (1 : Int32) from hk]
    show own_Ends _ _ _ _ _ _ _ T15 (mkF m 44 #[.val (.int p0), .val (.ref b), .val (.int (1 : Int32)), .unset, .unset, .unset, .unset] [(.int (1 : Int32)), (.ref b)])
    refine own_go (fun _ k => own_ldR X15 hx hZ e15 V15 rfl (i := 1) (v := (.ref a2)) (by decide) (by decide) (by decide) (by first | rfl | simp) (g := (mkF m 44 #[.val (.int p0), .val (.ref b), .val (.int (1 : Int32)), .unset, .unset, .unset, .unset] [(.int (1 : Int32)), (.ref b)])) rfl rfl (hb hby at_44) _ k) ?_
    show own_Ends _ _ _ _ _ _ _ T15 (mkF m 45 #[.val (.int p0), .val (.ref b), .val (.int (1 : Int32)), .unset, .unset, .unset, .unset] [(.ref a2)])
    refine own_go (fun _ k => XS.astoreN X15.here hx rfl (hb hby at_45) rfl rfl (l' := #[.val (.int p0), .val (.ref b), .val (.int (1 : Int32)), .val (.ref a2), .unset, .unset, .unset]) rfl k) ?_
    show own_Ends _ _ _ _ _ _ _ T15 (mkF m 46 #[.val (.int p0), .val (.ref b), .val (.int (1 : Int32)), .val (.ref a2), .unset, .unset, .unset] [])
    refine own_go (fun _ k => XS.iloadN X15.here hx rfl (hb hby at_46) rfl k) ?_
    show own_Ends _ _ _ _ _ _ _ T15 (mkF m 47 #[.val (.int p0), .val (.ref b), .val (.int (1 : Int32)), .val (.ref a2), .unset, .unset, .unset] [(.int (1 : Int32))])
    refine own_go (fun _ k => XS.iconst X15.here hx rfl (hb hby at_47) k) ?_
    show own_Ends _ _ _ _ _ _ _ T15 (mkF m 48 #[.val (.int p0), .val (.ref b), .val (.int (1 : Int32)), .val (.ref a2), .unset, .unset, .unset] [(.int (1 : Int32)), (.int (1 : Int32))])
    refine own_go (fun _ k => XS.icmpYes X15.here hx rfl (pc0 := 48) (pc' := 61) rfl (hb hby at_48) rfl (teq (rfl)).1 (by decide) (by decide) k) ?_
    show own_Ends _ _ _ _ _ _ _ T15 (mkF m 61 #[.val (.int p0), .val (.ref b), .val (.int (1 : Int32)), .val (.ref a2), .unset, .unset, .unset] [])
    refine own_go (fun _ k => XS.iconst X15.here hx rfl (hb hby at_61) k) ?_
    show own_Ends _ _ _ _ _ _ _ T15 (mkF m 62 #[.val (.int p0), .val (.ref b), .val (.int (1 : Int32)), .val (.ref a2), .unset, .unset, .unset] [(.int (1 : Int32))])
    refine own_go (fun _ k => XS.goto X15.here hx rfl (pc0 := 62) (pc' := 66) rfl (hb hby at_62) (by decide) (by decide) k) ?_
    show own_Ends _ _ _ _ _ _ _ T15 (mkF m 66 #[.val (.int p0), .val (.ref b), .val (.int (1 : Int32)), .val (.ref a2), .unset, .unset, .unset] [(.int (1 : Int32))])
    refine own_go (fun _ k => XS.istore X15.here hx rfl (hb hby at_66) rfl (l' := #[.val (.int p0), .val (.ref b), .val (.int (1 : Int32)), .val (.ref a2), .val (.int (1 : Int32)), .unset, .unset]) rfl k) ?_
    show own_Ends _ _ _ _ _ _ _ T15 (mkF m 68 #[.val (.int p0), .val (.ref b), .val (.int (1 : Int32)), .val (.ref a2), .val (.int (1 : Int32)), .unset, .unset] [])
    refine own_go (fun _ k => XS.aloadN X15.here hx rfl (hb hby at_68) rfl rfl k) ?_
    show own_Ends _ _ _ _ _ _ _ T15 (mkF m 69 #[.val (.int p0), .val (.ref b), .val (.int (1 : Int32)), .val (.ref a2), .val (.int (1 : Int32)), .unset, .unset] [(.ref a2)])
    obtain ⟨v18, T18, L18, X18, hQ18, st18⟩ := own_callV X15 hx hZ hown (hw _ (List.mem_of_getElem? (i := 15) rfl)) (hw _ (List.mem_of_getElem? (i := 16) rfl)) (hw _ (List.mem_of_getElem? (i := 18) rfl)) (hw _ (List.mem_of_getElem? (i := 17) rfl)) (hw _ (List.mem_of_getElem? (i := 3) rfl)) (hw _ (List.mem_of_getElem? (i := 19) rfl)) (rm1r l Z a0 hw a2 h15 c2 F_a2_control_15) e15 (g := (mkF m 69 #[.val (.int p0), .val (.ref b), .val (.int (1 : Int32)), .val (.ref a2), .val (.int (1 : Int32)), .unset, .unset] [(.ref a2)])) rfl (by rw [hml]; rfl) (a := a2) (argsL := []) (rest := []) (E_a2_15) (lenOf pd_0 rfl) rfl rfl (W := 0) (by show 2 * 0 + _ ≤ _; exact Nat.le_of_eq rfl) (hb hby at_69) (by decide) (by decide) (by decide) (by decide) (by decide)
    obtain ⟨rfl, rfl, e18⟩ := hQ18
    refine own_go st18 ?_
    have N18 := Fr.app N15 (Fr.nil _)
    show own_Ends _ _ _ _ _ _ _ T18 (mkF m 72 #[.val (.int p0), .val (.ref b), .val (.int (1 : Int32)), .val (.ref a2), .val (.int (1 : Int32)), .unset, .unset] [(.int (1 : Int32))])
    refine own_go (fun _ k => XS.istore X18.here hx rfl (hb hby at_72) rfl (l' := #[.val (.int p0), .val (.ref b), .val (.int (1 : Int32)), .val (.ref a2), .val (.int (1 : Int32)), .val (.int (1 : Int32)), .unset]) rfl k) ?_
    show own_Ends _ _ _ _ _ _ _ T18 (mkF m 74 #[.val (.int p0), .val (.ref b), .val (.int (1 : Int32)), .val (.ref a2), .val (.int (1 : Int32)), .val (.int (1 : Int32)), .unset] [])
    refine own_go (fun _ k => XS.aloadN X18.here hx rfl (hb hby at_74) rfl rfl k) ?_
    show own_Ends _ _ _ _ _ _ _ T18 (mkF m 75 #[.val (.int p0), .val (.ref b), .val (.int (1 : Int32)), .val (.ref a2), .val (.int (1 : Int32)), .val (.int (1 : Int32)), .unset] [(.ref a2)])
    obtain ⟨v19, T19, L19, X19, hQ19, st19⟩ := own_callV X18 hx hZ hown (hw _ (List.mem_of_getElem? (i := 22) rfl)) (hw _ (List.mem_of_getElem? (i := 23) rfl)) (hw _ (List.mem_of_getElem? (i := 25) rfl)) (hw _ (List.mem_of_getElem? (i := 24) rfl)) (hw _ (List.mem_of_getElem? (i := 3) rfl)) (hw _ (List.mem_of_getElem? (i := 26) rfl)) (rm2r l Z a0 hw a2 h15 c2 F_a2_control_15) e18 (g := (mkF m 75 #[.val (.int p0), .val (.ref b), .val (.int (1 : Int32)), .val (.ref a2), .val (.int (1 : Int32)), .val (.int (1 : Int32)), .unset] [(.ref a2)])) rfl (by rw [hml]; rfl) (a := a2) (argsL := []) (rest := []) (E_a2_15) (lenOf pd_1 rfl) rfl rfl (W := 0) (by show 2 * 0 + _ ≤ _; exact Nat.le_of_eq rfl) (hb hby at_75) (by decide) (by decide) (by decide) (by decide) (by decide)
    obtain ⟨rfl, rfl, e19⟩ := hQ19
    refine own_go st19 ?_
    have N19 := Fr.app N18 (Fr.nil _)
    show own_Ends _ _ _ _ _ _ _ T19 (mkF m 78 #[.val (.int p0), .val (.ref b), .val (.int (1 : Int32)), .val (.ref a2), .val (.int (1 : Int32)), .val (.int (1 : Int32)), .unset] [(.ref c2)])
    refine own_go (fun _ k => XS.ifnullNo X19.here hx rfl (hb hby at_78) rfl k) ?_
    show own_Ends _ _ _ _ _ _ _ T19 (mkF m 81 #[.val (.int p0), .val (.ref b), .val (.int (1 : Int32)), .val (.ref a2), .val (.int (1 : Int32)), .val (.int (1 : Int32)), .unset] [])
    refine own_go (fun _ k => XS.iconst X19.here hx rfl (hb hby at_81) k) ?_
    show own_Ends _ _ _ _ _ _ _ T19 (mkF m 82 #[.val (.int p0), .val (.ref b), .val (.int (1 : Int32)), .val (.ref a2), .val (.int (1 : Int32)), .val (.int (1 : Int32)), .unset] [(.int (1 : Int32))])
    refine own_go (fun _ k => XS.goto X19.here hx rfl (pc0 := 82) (pc' := 86) rfl (hb hby at_82) (by decide) (by decide) k) ?_
    show own_Ends _ _ _ _ _ _ _ T19 (mkF m 86 #[.val (.int p0), .val (.ref b), .val (.int (1 : Int32)), .val (.ref a2), .val (.int (1 : Int32)), .val (.int (1 : Int32)), .unset] [(.int (1 : Int32))])
    refine own_go (fun _ k => XS.istore X19.here hx rfl (hb hby at_86) rfl (l' := #[.val (.int p0), .val (.ref b), .val (.int (1 : Int32)), .val (.ref a2), .val (.int (1 : Int32)), .val (.int (1 : Int32)), .val (.int (1 : Int32))]) rfl k) ?_
    show own_Ends _ _ _ _ _ _ _ T19 (mkF m 88 #[.val (.int p0), .val (.ref b), .val (.int (1 : Int32)), .val (.ref a2), .val (.int (1 : Int32)), .val (.int (1 : Int32)), .val (.int (1 : Int32))] [])
    refine own_go (fun _ k => XS.iload X19.here hx rfl (hb hby at_88) rfl k) ?_
    show own_Ends _ _ _ _ _ _ _ T19 (mkF m 90 #[.val (.int p0), .val (.ref b), .val (.int (1 : Int32)), .val (.ref a2), .val (.int (1 : Int32)), .val (.int (1 : Int32)), .val (.int (1 : Int32))] [(.int (1 : Int32))])
    refine own_go (fun _ k => XS.iload X19.here hx rfl (hb hby at_90) rfl k) ?_
    show own_Ends _ _ _ _ _ _ _ T19 (mkF m 92 #[.val (.int p0), .val (.ref b), .val (.int (1 : Int32)), .val (.ref a2), .val (.int (1 : Int32)), .val (.int (1 : Int32)), .val (.int (1 : Int32))] [(.int (1 : Int32)), (.int (1 : Int32))])
    refine own_go (fun _ k => XS.icmpNo X19.here hx rfl (hb hby at_92) rfl (teq (rfl)).2 k) ?_
    show own_Ends _ _ _ _ _ _ _ T19 (mkF m 95 #[.val (.int p0), .val (.ref b), .val (.int (1 : Int32)), .val (.ref a2), .val (.int (1 : Int32)), .val (.int (1 : Int32)), .val (.int (1 : Int32))] [])
    refine own_go (fun _ k => XS.iload X19.here hx rfl (hb hby at_95) rfl k) ?_
    show own_Ends _ _ _ _ _ _ _ T19 (mkF m 97 #[.val (.int p0), .val (.ref b), .val (.int (1 : Int32)), .val (.ref a2), .val (.int (1 : Int32)), .val (.int (1 : Int32)), .val (.int (1 : Int32))] [(.int (1 : Int32))])
    refine own_go (fun _ k => XS.iload X19.here hx rfl (hb hby at_97) rfl k) ?_
    show own_Ends _ _ _ _ _ _ _ T19 (mkF m 99 #[.val (.int p0), .val (.ref b), .val (.int (1 : Int32)), .val (.ref a2), .val (.int (1 : Int32)), .val (.int (1 : Int32)), .val (.int (1 : Int32))] [(.int (1 : Int32)), (.int (1 : Int32))])
    refine own_go (fun _ k => XS.icmpNo X19.here hx rfl (hb hby at_99) rfl (teq (rfl)).2 k) ?_
    show own_Ends _ _ _ _ _ _ _ T19 (mkF m 102 #[.val (.int p0), .val (.ref b), .val (.int (1 : Int32)), .val (.ref a2), .val (.int (1 : Int32)), .val (.int (1 : Int32)), .val (.int (1 : Int32))] [])
    refine own_go (fun _ k => XS.iconst X19.here hx rfl (hb hby at_102) k) ?_
    show own_Ends _ _ _ _ _ _ _ T19 (mkF m 103 #[.val (.int p0), .val (.ref b), .val (.int (1 : Int32)), .val (.ref a2), .val (.int (1 : Int32)), .val (.int (1 : Int32)), .val (.int (1 : Int32))] [(.int (1 : Int32))])
    refine own_go (fun _ k => XS.goto X19.here hx rfl (pc0 := 103) (pc' := 107) rfl (hb hby at_103) (by decide) (by decide) k) ?_
    show own_Ends _ _ _ _ _ _ _ T19 (mkF m 107 #[.val (.int p0), .val (.ref b), .val (.int (1 : Int32)), .val (.ref a2), .val (.int (1 : Int32)), .val (.int (1 : Int32)), .val (.int (1 : Int32))] [(.int (1 : Int32))])
    exact own_retZ X19 hx hlk hret (by decide) (hb hby at_107) (by decide) (by decide) ⟨rfl, N19⟩
  · rw [show ((p0 &&& (2147483647 : Int32)) % (5 : Int32)) = (2 : Int32) from hk]
    show own_Ends _ _ _ _ _ _ _ T15 (mkF m 44 #[.val (.int p0), .val (.ref b), .val (.int (2 : Int32)), .unset, .unset, .unset, .unset] [(.int (2 : Int32)), (.ref b)])
    refine own_go (fun _ k => own_ldR X15 hx hZ e15 V15 rfl (i := 2) (v := (.ref a3)) (by decide) (by decide) (by decide) (by first | rfl | simp) (g := (mkF m 44 #[.val (.int p0), .val (.ref b), .val (.int (2 : Int32)), .unset, .unset, .unset, .unset] [(.int (2 : Int32)), (.ref b)])) rfl rfl (hb hby at_44) _ k) ?_
    show own_Ends _ _ _ _ _ _ _ T15 (mkF m 45 #[.val (.int p0), .val (.ref b), .val (.int (2 : Int32)), .unset, .unset, .unset, .unset] [(.ref a3)])
    refine own_go (fun _ k => XS.astoreN X15.here hx rfl (hb hby at_45) rfl rfl (l' := #[.val (.int p0), .val (.ref b), .val (.int (2 : Int32)), .val (.ref a3), .unset, .unset, .unset]) rfl k) ?_
    show own_Ends _ _ _ _ _ _ _ T15 (mkF m 46 #[.val (.int p0), .val (.ref b), .val (.int (2 : Int32)), .val (.ref a3), .unset, .unset, .unset] [])
    refine own_go (fun _ k => XS.iloadN X15.here hx rfl (hb hby at_46) rfl k) ?_
    show own_Ends _ _ _ _ _ _ _ T15 (mkF m 47 #[.val (.int p0), .val (.ref b), .val (.int (2 : Int32)), .val (.ref a3), .unset, .unset, .unset] [(.int (2 : Int32))])
    refine own_go (fun _ k => XS.iconst X15.here hx rfl (hb hby at_47) k) ?_
    show own_Ends _ _ _ _ _ _ _ T15 (mkF m 48 #[.val (.int p0), .val (.ref b), .val (.int (2 : Int32)), .val (.ref a3), .unset, .unset, .unset] [(.int (1 : Int32)), (.int (2 : Int32))])
    refine own_go (fun _ k => XS.icmpNo X15.here hx rfl (hb hby at_48) rfl (feq (by decide)).1 k) ?_
    show own_Ends _ _ _ _ _ _ _ T15 (mkF m 51 #[.val (.int p0), .val (.ref b), .val (.int (2 : Int32)), .val (.ref a3), .unset, .unset, .unset] [])
    refine own_go (fun _ k => XS.iloadN X15.here hx rfl (hb hby at_51) rfl k) ?_
    show own_Ends _ _ _ _ _ _ _ T15 (mkF m 52 #[.val (.int p0), .val (.ref b), .val (.int (2 : Int32)), .val (.ref a3), .unset, .unset, .unset] [(.int (2 : Int32))])
    refine own_go (fun _ k => XS.iconst X15.here hx rfl (hb hby at_52) k) ?_
    show own_Ends _ _ _ _ _ _ _ T15 (mkF m 53 #[.val (.int p0), .val (.ref b), .val (.int (2 : Int32)), .val (.ref a3), .unset, .unset, .unset] [(.int (2 : Int32)), (.int (2 : Int32))])
    refine own_go (fun _ k => XS.icmpYes X15.here hx rfl (pc0 := 53) (pc' := 61) rfl (hb hby at_53) rfl (teq (rfl)).1 (by decide) (by decide) k) ?_
    show own_Ends _ _ _ _ _ _ _ T15 (mkF m 61 #[.val (.int p0), .val (.ref b), .val (.int (2 : Int32)), .val (.ref a3), .unset, .unset, .unset] [])
    refine own_go (fun _ k => XS.iconst X15.here hx rfl (hb hby at_61) k) ?_
    show own_Ends _ _ _ _ _ _ _ T15 (mkF m 62 #[.val (.int p0), .val (.ref b), .val (.int (2 : Int32)), .val (.ref a3), .unset, .unset, .unset] [(.int (1 : Int32))])
    refine own_go (fun _ k => XS.goto X15.here hx rfl (pc0 := 62) (pc' := 66) rfl (hb hby at_62) (by decide) (by decide) k) ?_
    show own_Ends _ _ _ _ _ _ _ T15 (mkF m 66 #[.val (.int p0), .val (.ref b), .val (.int (2 : Int32)), .val (.ref a3), .unset, .unset, .unset] [(.int (1 : Int32))])
    refine own_go (fun _ k => XS.istore X15.here hx rfl (hb hby at_66) rfl (l' := #[.val (.int p0), .val (.ref b), .val (.int (2 : Int32)), .val (.ref a3), .val (.int (1 : Int32)), .unset, .unset]) rfl k) ?_
    show own_Ends _ _ _ _ _ _ _ T15 (mkF m 68 #[.val (.int p0), .val (.ref b), .val (.int (2 : Int32)), .val (.ref a3), .val (.int (1 : Int32)), .unset, .unset] [])
    refine own_go (fun _ k => XS.aloadN X15.here hx rfl (hb hby at_68) rfl rfl k) ?_
    show own_Ends _ _ _ _ _ _ _ T15 (mkF m 69 #[.val (.int p0), .val (.ref b), .val (.int (2 : Int32)), .val (.ref a3), .val (.int (1 : Int32)), .unset, .unset] [(.ref a3)])
    obtain ⟨v20, T20, L20, X20, hQ20, st20⟩ := own_callV X15 hx hZ hown (hw _ (List.mem_of_getElem? (i := 15) rfl)) (hw _ (List.mem_of_getElem? (i := 16) rfl)) (hw _ (List.mem_of_getElem? (i := 18) rfl)) (hw _ (List.mem_of_getElem? (i := 17) rfl)) (hw _ (List.mem_of_getElem? (i := 3) rfl)) (hw _ (List.mem_of_getElem? (i := 19) rfl)) (rm1r l Z a0 hw a3 h15 c3 F_a3_control_15) e15 (g := (mkF m 69 #[.val (.int p0), .val (.ref b), .val (.int (2 : Int32)), .val (.ref a3), .val (.int (1 : Int32)), .unset, .unset] [(.ref a3)])) rfl (by rw [hml]; rfl) (a := a3) (argsL := []) (rest := []) (E_a3_15) (lenOf pd_0 rfl) rfl rfl (W := 0) (by show 2 * 0 + _ ≤ _; exact Nat.le_of_eq rfl) (hb hby at_69) (by decide) (by decide) (by decide) (by decide) (by decide)
    obtain ⟨rfl, rfl, e20⟩ := hQ20
    refine own_go st20 ?_
    have N20 := Fr.app N15 (Fr.nil _)
    show own_Ends _ _ _ _ _ _ _ T20 (mkF m 72 #[.val (.int p0), .val (.ref b), .val (.int (2 : Int32)), .val (.ref a3), .val (.int (1 : Int32)), .unset, .unset] [(.int (1 : Int32))])
    refine own_go (fun _ k => XS.istore X20.here hx rfl (hb hby at_72) rfl (l' := #[.val (.int p0), .val (.ref b), .val (.int (2 : Int32)), .val (.ref a3), .val (.int (1 : Int32)), .val (.int (1 : Int32)), .unset]) rfl k) ?_
    show own_Ends _ _ _ _ _ _ _ T20 (mkF m 74 #[.val (.int p0), .val (.ref b), .val (.int (2 : Int32)), .val (.ref a3), .val (.int (1 : Int32)), .val (.int (1 : Int32)), .unset] [])
    refine own_go (fun _ k => XS.aloadN X20.here hx rfl (hb hby at_74) rfl rfl k) ?_
    show own_Ends _ _ _ _ _ _ _ T20 (mkF m 75 #[.val (.int p0), .val (.ref b), .val (.int (2 : Int32)), .val (.ref a3), .val (.int (1 : Int32)), .val (.int (1 : Int32)), .unset] [(.ref a3)])
    obtain ⟨v21, T21, L21, X21, hQ21, st21⟩ := own_callV X20 hx hZ hown (hw _ (List.mem_of_getElem? (i := 22) rfl)) (hw _ (List.mem_of_getElem? (i := 23) rfl)) (hw _ (List.mem_of_getElem? (i := 25) rfl)) (hw _ (List.mem_of_getElem? (i := 24) rfl)) (hw _ (List.mem_of_getElem? (i := 3) rfl)) (hw _ (List.mem_of_getElem? (i := 26) rfl)) (rm2r l Z a0 hw a3 h15 c3 F_a3_control_15) e20 (g := (mkF m 75 #[.val (.int p0), .val (.ref b), .val (.int (2 : Int32)), .val (.ref a3), .val (.int (1 : Int32)), .val (.int (1 : Int32)), .unset] [(.ref a3)])) rfl (by rw [hml]; rfl) (a := a3) (argsL := []) (rest := []) (E_a3_15) (lenOf pd_1 rfl) rfl rfl (W := 0) (by show 2 * 0 + _ ≤ _; exact Nat.le_of_eq rfl) (hb hby at_75) (by decide) (by decide) (by decide) (by decide) (by decide)
    obtain ⟨rfl, rfl, e21⟩ := hQ21
    refine own_go st21 ?_
    have N21 := Fr.app N20 (Fr.nil _)
    show own_Ends _ _ _ _ _ _ _ T21 (mkF m 78 #[.val (.int p0), .val (.ref b), .val (.int (2 : Int32)), .val (.ref a3), .val (.int (1 : Int32)), .val (.int (1 : Int32)), .unset] [(.ref c3)])
    refine own_go (fun _ k => XS.ifnullNo X21.here hx rfl (hb hby at_78) rfl k) ?_
    show own_Ends _ _ _ _ _ _ _ T21 (mkF m 81 #[.val (.int p0), .val (.ref b), .val (.int (2 : Int32)), .val (.ref a3), .val (.int (1 : Int32)), .val (.int (1 : Int32)), .unset] [])
    refine own_go (fun _ k => XS.iconst X21.here hx rfl (hb hby at_81) k) ?_
    show own_Ends _ _ _ _ _ _ _ T21 (mkF m 82 #[.val (.int p0), .val (.ref b), .val (.int (2 : Int32)), .val (.ref a3), .val (.int (1 : Int32)), .val (.int (1 : Int32)), .unset] [(.int (1 : Int32))])
    refine own_go (fun _ k => XS.goto X21.here hx rfl (pc0 := 82) (pc' := 86) rfl (hb hby at_82) (by decide) (by decide) k) ?_
    show own_Ends _ _ _ _ _ _ _ T21 (mkF m 86 #[.val (.int p0), .val (.ref b), .val (.int (2 : Int32)), .val (.ref a3), .val (.int (1 : Int32)), .val (.int (1 : Int32)), .unset] [(.int (1 : Int32))])
    refine own_go (fun _ k => XS.istore X21.here hx rfl (hb hby at_86) rfl (l' := #[.val (.int p0), .val (.ref b), .val (.int (2 : Int32)), .val (.ref a3), .val (.int (1 : Int32)), .val (.int (1 : Int32)), .val (.int (1 : Int32))]) rfl k) ?_
    show own_Ends _ _ _ _ _ _ _ T21 (mkF m 88 #[.val (.int p0), .val (.ref b), .val (.int (2 : Int32)), .val (.ref a3), .val (.int (1 : Int32)), .val (.int (1 : Int32)), .val (.int (1 : Int32))] [])
    refine own_go (fun _ k => XS.iload X21.here hx rfl (hb hby at_88) rfl k) ?_
    show own_Ends _ _ _ _ _ _ _ T21 (mkF m 90 #[.val (.int p0), .val (.ref b), .val (.int (2 : Int32)), .val (.ref a3), .val (.int (1 : Int32)), .val (.int (1 : Int32)), .val (.int (1 : Int32))] [(.int (1 : Int32))])
    refine own_go (fun _ k => XS.iload X21.here hx rfl (hb hby at_90) rfl k) ?_
    show own_Ends _ _ _ _ _ _ _ T21 (mkF m 92 #[.val (.int p0), .val (.ref b), .val (.int (2 : Int32)), .val (.ref a3), .val (.int (1 : Int32)), .val (.int (1 : Int32)), .val (.int (1 : Int32))] [(.int (1 : Int32)), (.int (1 : Int32))])
    refine own_go (fun _ k => XS.icmpNo X21.here hx rfl (hb hby at_92) rfl (teq (rfl)).2 k) ?_
    show own_Ends _ _ _ _ _ _ _ T21 (mkF m 95 #[.val (.int p0), .val (.ref b), .val (.int (2 : Int32)), .val (.ref a3), .val (.int (1 : Int32)), .val (.int (1 : Int32)), .val (.int (1 : Int32))] [])
    refine own_go (fun _ k => XS.iload X21.here hx rfl (hb hby at_95) rfl k) ?_
    show own_Ends _ _ _ _ _ _ _ T21 (mkF m 97 #[.val (.int p0), .val (.ref b), .val (.int (2 : Int32)), .val (.ref a3), .val (.int (1 : Int32)), .val (.int (1 : Int32)), .val (.int (1 : Int32))] [(.int (1 : Int32))])
    refine own_go (fun _ k => XS.iload X21.here hx rfl (hb hby at_97) rfl k) ?_
    show own_Ends _ _ _ _ _ _ _ T21 (mkF m 99 #[.val (.int p0), .val (.ref b), .val (.int (2 : Int32)), .val (.ref a3), .val (.int (1 : Int32)), .val (.int (1 : Int32)), .val (.int (1 : Int32))] [(.int (1 : Int32)), (.int (1 : Int32))])
    refine own_go (fun _ k => XS.icmpNo X21.here hx rfl (hb hby at_99) rfl (teq (rfl)).2 k) ?_
    show own_Ends _ _ _ _ _ _ _ T21 (mkF m 102 #[.val (.int p0), .val (.ref b), .val (.int (2 : Int32)), .val (.ref a3), .val (.int (1 : Int32)), .val (.int (1 : Int32)), .val (.int (1 : Int32))] [])
    refine own_go (fun _ k => XS.iconst X21.here hx rfl (hb hby at_102) k) ?_
    show own_Ends _ _ _ _ _ _ _ T21 (mkF m 103 #[.val (.int p0), .val (.ref b), .val (.int (2 : Int32)), .val (.ref a3), .val (.int (1 : Int32)), .val (.int (1 : Int32)), .val (.int (1 : Int32))] [(.int (1 : Int32))])
    refine own_go (fun _ k => XS.goto X21.here hx rfl (pc0 := 103) (pc' := 107) rfl (hb hby at_103) (by decide) (by decide) k) ?_
    show own_Ends _ _ _ _ _ _ _ T21 (mkF m 107 #[.val (.int p0), .val (.ref b), .val (.int (2 : Int32)), .val (.ref a3), .val (.int (1 : Int32)), .val (.int (1 : Int32)), .val (.int (1 : Int32))] [(.int (1 : Int32))])
    exact own_retZ X21 hx hlk hret (by decide) (hb hby at_107) (by decide) (by decide) ⟨rfl, N21⟩
  · rw [show ((p0 &&& (2147483647 : Int32)) % (5 : Int32)) = (3 : Int32) from hk]
    show own_Ends _ _ _ _ _ _ _ T15 (mkF m 44 #[.val (.int p0), .val (.ref b), .val (.int (3 : Int32)), .unset, .unset, .unset, .unset] [(.int (3 : Int32)), (.ref b)])
    refine own_go (fun _ k => own_ldR X15 hx hZ e15 V15 rfl (i := 3) (v := (.ref a4)) (by decide) (by decide) (by decide) (by first | rfl | simp) (g := (mkF m 44 #[.val (.int p0), .val (.ref b), .val (.int (3 : Int32)), .unset, .unset, .unset, .unset] [(.int (3 : Int32)), (.ref b)])) rfl rfl (hb hby at_44) _ k) ?_
    show own_Ends _ _ _ _ _ _ _ T15 (mkF m 45 #[.val (.int p0), .val (.ref b), .val (.int (3 : Int32)), .unset, .unset, .unset, .unset] [(.ref a4)])
    refine own_go (fun _ k => XS.astoreN X15.here hx rfl (hb hby at_45) rfl rfl (l' := #[.val (.int p0), .val (.ref b), .val (.int (3 : Int32)), .val (.ref a4), .unset, .unset, .unset]) rfl k) ?_
    show own_Ends _ _ _ _ _ _ _ T15 (mkF m 46 #[.val (.int p0), .val (.ref b), .val (.int (3 : Int32)), .val (.ref a4), .unset, .unset, .unset] [])
    refine own_go (fun _ k => XS.iloadN X15.here hx rfl (hb hby at_46) rfl k) ?_
    show own_Ends _ _ _ _ _ _ _ T15 (mkF m 47 #[.val (.int p0), .val (.ref b), .val (.int (3 : Int32)), .val (.ref a4), .unset, .unset, .unset] [(.int (3 : Int32))])
    refine own_go (fun _ k => XS.iconst X15.here hx rfl (hb hby at_47) k) ?_
    show own_Ends _ _ _ _ _ _ _ T15 (mkF m 48 #[.val (.int p0), .val (.ref b), .val (.int (3 : Int32)), .val (.ref a4), .unset, .unset, .unset] [(.int (1 : Int32)), (.int (3 : Int32))])
    refine own_go (fun _ k => XS.icmpNo X15.here hx rfl (hb hby at_48) rfl (feq (by decide)).1 k) ?_
    show own_Ends _ _ _ _ _ _ _ T15 (mkF m 51 #[.val (.int p0), .val (.ref b), .val (.int (3 : Int32)), .val (.ref a4), .unset, .unset, .unset] [])
    refine own_go (fun _ k => XS.iloadN X15.here hx rfl (hb hby at_51) rfl k) ?_
    show own_Ends _ _ _ _ _ _ _ T15 (mkF m 52 #[.val (.int p0), .val (.ref b), .val (.int (3 : Int32)), .val (.ref a4), .unset, .unset, .unset] [(.int (3 : Int32))])
    refine own_go (fun _ k => XS.iconst X15.here hx rfl (hb hby at_52) k) ?_
    show own_Ends _ _ _ _ _ _ _ T15 (mkF m 53 #[.val (.int p0), .val (.ref b), .val (.int (3 : Int32)), .val (.ref a4), .unset, .unset, .unset] [(.int (2 : Int32)), (.int (3 : Int32))])
    refine own_go (fun _ k => XS.icmpNo X15.here hx rfl (hb hby at_53) rfl (feq (by decide)).1 k) ?_
    show own_Ends _ _ _ _ _ _ _ T15 (mkF m 56 #[.val (.int p0), .val (.ref b), .val (.int (3 : Int32)), .val (.ref a4), .unset, .unset, .unset] [])
    refine own_go (fun _ k => XS.iloadN X15.here hx rfl (hb hby at_56) rfl k) ?_
    show own_Ends _ _ _ _ _ _ _ T15 (mkF m 57 #[.val (.int p0), .val (.ref b), .val (.int (3 : Int32)), .val (.ref a4), .unset, .unset, .unset] [(.int (3 : Int32))])
    refine own_go (fun _ k => XS.iconst X15.here hx rfl (hb hby at_57) k) ?_
    show own_Ends _ _ _ _ _ _ _ T15 (mkF m 58 #[.val (.int p0), .val (.ref b), .val (.int (3 : Int32)), .val (.ref a4), .unset, .unset, .unset] [(.int (3 : Int32)), (.int (3 : Int32))])
    refine own_go (fun _ k => XS.icmpNo X15.here hx rfl (hb hby at_58) rfl (teq (rfl)).2 k) ?_
    show own_Ends _ _ _ _ _ _ _ T15 (mkF m 61 #[.val (.int p0), .val (.ref b), .val (.int (3 : Int32)), .val (.ref a4), .unset, .unset, .unset] [])
    refine own_go (fun _ k => XS.iconst X15.here hx rfl (hb hby at_61) k) ?_
    show own_Ends _ _ _ _ _ _ _ T15 (mkF m 62 #[.val (.int p0), .val (.ref b), .val (.int (3 : Int32)), .val (.ref a4), .unset, .unset, .unset] [(.int (1 : Int32))])
    refine own_go (fun _ k => XS.goto X15.here hx rfl (pc0 := 62) (pc' := 66) rfl (hb hby at_62) (by decide) (by decide) k) ?_
    show own_Ends _ _ _ _ _ _ _ T15 (mkF m 66 #[.val (.int p0), .val (.ref b), .val (.int (3 : Int32)), .val (.ref a4), .unset, .unset, .unset] [(.int (1 : Int32))])
    refine own_go (fun _ k => XS.istore X15.here hx rfl (hb hby at_66) rfl (l' := #[.val (.int p0), .val (.ref b), .val (.int (3 : Int32)), .val (.ref a4), .val (.int (1 : Int32)), .unset, .unset]) rfl k) ?_
    show own_Ends _ _ _ _ _ _ _ T15 (mkF m 68 #[.val (.int p0), .val (.ref b), .val (.int (3 : Int32)), .val (.ref a4), .val (.int (1 : Int32)), .unset, .unset] [])
    refine own_go (fun _ k => XS.aloadN X15.here hx rfl (hb hby at_68) rfl rfl k) ?_
    show own_Ends _ _ _ _ _ _ _ T15 (mkF m 69 #[.val (.int p0), .val (.ref b), .val (.int (3 : Int32)), .val (.ref a4), .val (.int (1 : Int32)), .unset, .unset] [(.ref a4)])
    obtain ⟨v22, T22, L22, X22, hQ22, st22⟩ := own_callV X15 hx hZ hown (hw _ (List.mem_of_getElem? (i := 15) rfl)) (hw _ (List.mem_of_getElem? (i := 16) rfl)) (hw _ (List.mem_of_getElem? (i := 18) rfl)) (hw _ (List.mem_of_getElem? (i := 17) rfl)) (hw _ (List.mem_of_getElem? (i := 3) rfl)) (hw _ (List.mem_of_getElem? (i := 19) rfl)) (rm1r l Z a0 hw a4 h15 c4 F_a4_control_15) e15 (g := (mkF m 69 #[.val (.int p0), .val (.ref b), .val (.int (3 : Int32)), .val (.ref a4), .val (.int (1 : Int32)), .unset, .unset] [(.ref a4)])) rfl (by rw [hml]; rfl) (a := a4) (argsL := []) (rest := []) (E_a4_15) (lenOf pd_0 rfl) rfl rfl (W := 0) (by show 2 * 0 + _ ≤ _; exact Nat.le_of_eq rfl) (hb hby at_69) (by decide) (by decide) (by decide) (by decide) (by decide)
    obtain ⟨rfl, rfl, e22⟩ := hQ22
    refine own_go st22 ?_
    have N22 := Fr.app N15 (Fr.nil _)
    show own_Ends _ _ _ _ _ _ _ T22 (mkF m 72 #[.val (.int p0), .val (.ref b), .val (.int (3 : Int32)), .val (.ref a4), .val (.int (1 : Int32)), .unset, .unset] [(.int (1 : Int32))])
    refine own_go (fun _ k => XS.istore X22.here hx rfl (hb hby at_72) rfl (l' := #[.val (.int p0), .val (.ref b), .val (.int (3 : Int32)), .val (.ref a4), .val (.int (1 : Int32)), .val (.int (1 : Int32)), .unset]) rfl k) ?_
    show own_Ends _ _ _ _ _ _ _ T22 (mkF m 74 #[.val (.int p0), .val (.ref b), .val (.int (3 : Int32)), .val (.ref a4), .val (.int (1 : Int32)), .val (.int (1 : Int32)), .unset] [])
    refine own_go (fun _ k => XS.aloadN X22.here hx rfl (hb hby at_74) rfl rfl k) ?_
    show own_Ends _ _ _ _ _ _ _ T22 (mkF m 75 #[.val (.int p0), .val (.ref b), .val (.int (3 : Int32)), .val (.ref a4), .val (.int (1 : Int32)), .val (.int (1 : Int32)), .unset] [(.ref a4)])
    obtain ⟨v23, T23, L23, X23, hQ23, st23⟩ := own_callV X22 hx hZ hown (hw _ (List.mem_of_getElem? (i := 22) rfl)) (hw _ (List.mem_of_getElem? (i := 23) rfl)) (hw _ (List.mem_of_getElem? (i := 25) rfl)) (hw _ (List.mem_of_getElem? (i := 24) rfl)) (hw _ (List.mem_of_getElem? (i := 3) rfl)) (hw _ (List.mem_of_getElem? (i := 26) rfl)) (rm2r l Z a0 hw a4 h15 c4 F_a4_control_15) e22 (g := (mkF m 75 #[.val (.int p0), .val (.ref b), .val (.int (3 : Int32)), .val (.ref a4), .val (.int (1 : Int32)), .val (.int (1 : Int32)), .unset] [(.ref a4)])) rfl (by rw [hml]; rfl) (a := a4) (argsL := []) (rest := []) (E_a4_15) (lenOf pd_1 rfl) rfl rfl (W := 0) (by show 2 * 0 + _ ≤ _; exact Nat.le_of_eq rfl) (hb hby at_75) (by decide) (by decide) (by decide) (by decide) (by decide)
    obtain ⟨rfl, rfl, e23⟩ := hQ23
    refine own_go st23 ?_
    have N23 := Fr.app N22 (Fr.nil _)
    show own_Ends _ _ _ _ _ _ _ T23 (mkF m 78 #[.val (.int p0), .val (.ref b), .val (.int (3 : Int32)), .val (.ref a4), .val (.int (1 : Int32)), .val (.int (1 : Int32)), .unset] [(.ref c4)])
    refine own_go (fun _ k => XS.ifnullNo X23.here hx rfl (hb hby at_78) rfl k) ?_
    show own_Ends _ _ _ _ _ _ _ T23 (mkF m 81 #[.val (.int p0), .val (.ref b), .val (.int (3 : Int32)), .val (.ref a4), .val (.int (1 : Int32)), .val (.int (1 : Int32)), .unset] [])
    refine own_go (fun _ k => XS.iconst X23.here hx rfl (hb hby at_81) k) ?_
    show own_Ends _ _ _ _ _ _ _ T23 (mkF m 82 #[.val (.int p0), .val (.ref b), .val (.int (3 : Int32)), .val (.ref a4), .val (.int (1 : Int32)), .val (.int (1 : Int32)), .unset] [(.int (1 : Int32))])
    refine own_go (fun _ k => XS.goto X23.here hx rfl (pc0 := 82) (pc' := 86) rfl (hb hby at_82) (by decide) (by decide) k) ?_
    show own_Ends _ _ _ _ _ _ _ T23 (mkF m 86 #[.val (.int p0), .val (.ref b), .val (.int (3 : Int32)), .val (.ref a4), .val (.int (1 : Int32)), .val (.int (1 : Int32)), .unset] [(.int (1 : Int32))])
    refine own_go (fun _ k => XS.istore X23.here hx rfl (hb hby at_86) rfl (l' := #[.val (.int p0), .val (.ref b), .val (.int (3 : Int32)), .val (.ref a4), .val (.int (1 : Int32)), .val (.int (1 : Int32)), .val (.int (1 : Int32))]) rfl k) ?_
    show own_Ends _ _ _ _ _ _ _ T23 (mkF m 88 #[.val (.int p0), .val (.ref b), .val (.int (3 : Int32)), .val (.ref a4), .val (.int (1 : Int32)), .val (.int (1 : Int32)), .val (.int (1 : Int32))] [])
    refine own_go (fun _ k => XS.iload X23.here hx rfl (hb hby at_88) rfl k) ?_
    show own_Ends _ _ _ _ _ _ _ T23 (mkF m 90 #[.val (.int p0), .val (.ref b), .val (.int (3 : Int32)), .val (.ref a4), .val (.int (1 : Int32)), .val (.int (1 : Int32)), .val (.int (1 : Int32))] [(.int (1 : Int32))])
    refine own_go (fun _ k => XS.iload X23.here hx rfl (hb hby at_90) rfl k) ?_
    show own_Ends _ _ _ _ _ _ _ T23 (mkF m 92 #[.val (.int p0), .val (.ref b), .val (.int (3 : Int32)), .val (.ref a4), .val (.int (1 : Int32)), .val (.int (1 : Int32)), .val (.int (1 : Int32))] [(.int (1 : Int32)), (.int (1 : Int32))])
    refine own_go (fun _ k => XS.icmpNo X23.here hx rfl (hb hby at_92) rfl (teq (rfl)).2 k) ?_
    show own_Ends _ _ _ _ _ _ _ T23 (mkF m 95 #[.val (.int p0), .val (.ref b), .val (.int (3 : Int32)), .val (.ref a4), .val (.int (1 : Int32)), .val (.int (1 : Int32)), .val (.int (1 : Int32))] [])
    refine own_go (fun _ k => XS.iload X23.here hx rfl (hb hby at_95) rfl k) ?_
    show own_Ends _ _ _ _ _ _ _ T23 (mkF m 97 #[.val (.int p0), .val (.ref b), .val (.int (3 : Int32)), .val (.ref a4), .val (.int (1 : Int32)), .val (.int (1 : Int32)), .val (.int (1 : Int32))] [(.int (1 : Int32))])
    refine own_go (fun _ k => XS.iload X23.here hx rfl (hb hby at_97) rfl k) ?_
    show own_Ends _ _ _ _ _ _ _ T23 (mkF m 99 #[.val (.int p0), .val (.ref b), .val (.int (3 : Int32)), .val (.ref a4), .val (.int (1 : Int32)), .val (.int (1 : Int32)), .val (.int (1 : Int32))] [(.int (1 : Int32)), (.int (1 : Int32))])
    refine own_go (fun _ k => XS.icmpNo X23.here hx rfl (hb hby at_99) rfl (teq (rfl)).2 k) ?_
    show own_Ends _ _ _ _ _ _ _ T23 (mkF m 102 #[.val (.int p0), .val (.ref b), .val (.int (3 : Int32)), .val (.ref a4), .val (.int (1 : Int32)), .val (.int (1 : Int32)), .val (.int (1 : Int32))] [])
    refine own_go (fun _ k => XS.iconst X23.here hx rfl (hb hby at_102) k) ?_
    show own_Ends _ _ _ _ _ _ _ T23 (mkF m 103 #[.val (.int p0), .val (.ref b), .val (.int (3 : Int32)), .val (.ref a4), .val (.int (1 : Int32)), .val (.int (1 : Int32)), .val (.int (1 : Int32))] [(.int (1 : Int32))])
    refine own_go (fun _ k => XS.goto X23.here hx rfl (pc0 := 103) (pc' := 107) rfl (hb hby at_103) (by decide) (by decide) k) ?_
    show own_Ends _ _ _ _ _ _ _ T23 (mkF m 107 #[.val (.int p0), .val (.ref b), .val (.int (3 : Int32)), .val (.ref a4), .val (.int (1 : Int32)), .val (.int (1 : Int32)), .val (.int (1 : Int32))] [(.int (1 : Int32))])
    exact own_retZ X23 hx hlk hret (by decide) (hb hby at_107) (by decide) (by decide) ⟨rfl, N23⟩
  · rw [show ((p0 &&& (2147483647 : Int32)) % (5 : Int32)) = (4 : Int32) from hk]
    show own_Ends _ _ _ _ _ _ _ T15 (mkF m 44 #[.val (.int p0), .val (.ref b), .val (.int (4 : Int32)), .unset, .unset, .unset, .unset] [(.int (4 : Int32)), (.ref b)])
    refine own_go (fun _ k => own_ldR X15 hx hZ e15 V15 rfl (i := 4) (v := (.ref a5)) (by decide) (by decide) (by decide) (by first | rfl | simp) (g := (mkF m 44 #[.val (.int p0), .val (.ref b), .val (.int (4 : Int32)), .unset, .unset, .unset, .unset] [(.int (4 : Int32)), (.ref b)])) rfl rfl (hb hby at_44) _ k) ?_
    show own_Ends _ _ _ _ _ _ _ T15 (mkF m 45 #[.val (.int p0), .val (.ref b), .val (.int (4 : Int32)), .unset, .unset, .unset, .unset] [(.ref a5)])
    refine own_go (fun _ k => XS.astoreN X15.here hx rfl (hb hby at_45) rfl rfl (l' := #[.val (.int p0), .val (.ref b), .val (.int (4 : Int32)), .val (.ref a5), .unset, .unset, .unset]) rfl k) ?_
    show own_Ends _ _ _ _ _ _ _ T15 (mkF m 46 #[.val (.int p0), .val (.ref b), .val (.int (4 : Int32)), .val (.ref a5), .unset, .unset, .unset] [])
    refine own_go (fun _ k => XS.iloadN X15.here hx rfl (hb hby at_46) rfl k) ?_
    show own_Ends _ _ _ _ _ _ _ T15 (mkF m 47 #[.val (.int p0), .val (.ref b), .val (.int (4 : Int32)), .val (.ref a5), .unset, .unset, .unset] [(.int (4 : Int32))])
    refine own_go (fun _ k => XS.iconst X15.here hx rfl (hb hby at_47) k) ?_
    show own_Ends _ _ _ _ _ _ _ T15 (mkF m 48 #[.val (.int p0), .val (.ref b), .val (.int (4 : Int32)), .val (.ref a5), .unset, .unset, .unset] [(.int (1 : Int32)), (.int (4 : Int32))])
    refine own_go (fun _ k => XS.icmpNo X15.here hx rfl (hb hby at_48) rfl (feq (by decide)).1 k) ?_
    show own_Ends _ _ _ _ _ _ _ T15 (mkF m 51 #[.val (.int p0), .val (.ref b), .val (.int (4 : Int32)), .val (.ref a5), .unset, .unset, .unset] [])
    refine own_go (fun _ k => XS.iloadN X15.here hx rfl (hb hby at_51) rfl k) ?_
    show own_Ends _ _ _ _ _ _ _ T15 (mkF m 52 #[.val (.int p0), .val (.ref b), .val (.int (4 : Int32)), .val (.ref a5), .unset, .unset, .unset] [(.int (4 : Int32))])
    refine own_go (fun _ k => XS.iconst X15.here hx rfl (hb hby at_52) k) ?_
    show own_Ends _ _ _ _ _ _ _ T15 (mkF m 53 #[.val (.int p0), .val (.ref b), .val (.int (4 : Int32)), .val (.ref a5), .unset, .unset, .unset] [(.int (2 : Int32)), (.int (4 : Int32))])
    refine own_go (fun _ k => XS.icmpNo X15.here hx rfl (hb hby at_53) rfl (feq (by decide)).1 k) ?_
    show own_Ends _ _ _ _ _ _ _ T15 (mkF m 56 #[.val (.int p0), .val (.ref b), .val (.int (4 : Int32)), .val (.ref a5), .unset, .unset, .unset] [])
    refine own_go (fun _ k => XS.iloadN X15.here hx rfl (hb hby at_56) rfl k) ?_
    show own_Ends _ _ _ _ _ _ _ T15 (mkF m 57 #[.val (.int p0), .val (.ref b), .val (.int (4 : Int32)), .val (.ref a5), .unset, .unset, .unset] [(.int (4 : Int32))])
    refine own_go (fun _ k => XS.iconst X15.here hx rfl (hb hby at_57) k) ?_
    show own_Ends _ _ _ _ _ _ _ T15 (mkF m 58 #[.val (.int p0), .val (.ref b), .val (.int (4 : Int32)), .val (.ref a5), .unset, .unset, .unset] [(.int (3 : Int32)), (.int (4 : Int32))])
    refine own_go (fun _ k => XS.icmpYes X15.here hx rfl (pc0 := 58) (pc' := 65) rfl (hb hby at_58) rfl (feq (by decide)).2 (by decide) (by decide) k) ?_
    show own_Ends _ _ _ _ _ _ _ T15 (mkF m 65 #[.val (.int p0), .val (.ref b), .val (.int (4 : Int32)), .val (.ref a5), .unset, .unset, .unset] [])
    refine own_go (fun _ k => XS.iconst X15.here hx rfl (hb hby at_65) k) ?_
    show own_Ends _ _ _ _ _ _ _ T15 (mkF m 66 #[.val (.int p0), .val (.ref b), .val (.int (4 : Int32)), .val (.ref a5), .unset, .unset, .unset] [(.int (0 : Int32))])
    refine own_go (fun _ k => XS.istore X15.here hx rfl (hb hby at_66) rfl (l' := #[.val (.int p0), .val (.ref b), .val (.int (4 : Int32)), .val (.ref a5), .val (.int (0 : Int32)), .unset, .unset]) rfl k) ?_
    show own_Ends _ _ _ _ _ _ _ T15 (mkF m 68 #[.val (.int p0), .val (.ref b), .val (.int (4 : Int32)), .val (.ref a5), .val (.int (0 : Int32)), .unset, .unset] [])
    refine own_go (fun _ k => XS.aloadN X15.here hx rfl (hb hby at_68) rfl rfl k) ?_
    show own_Ends _ _ _ _ _ _ _ T15 (mkF m 69 #[.val (.int p0), .val (.ref b), .val (.int (4 : Int32)), .val (.ref a5), .val (.int (0 : Int32)), .unset, .unset] [(.ref a5)])
    obtain ⟨v24, T24, L24, X24, hQ24, st24⟩ := own_callV X15 hx hZ hown (hw _ (List.mem_of_getElem? (i := 15) rfl)) (hw _ (List.mem_of_getElem? (i := 16) rfl)) (hw _ (List.mem_of_getElem? (i := 18) rfl)) (hw _ (List.mem_of_getElem? (i := 17) rfl)) (hw _ (List.mem_of_getElem? (i := 3) rfl)) (hw _ (List.mem_of_getElem? (i := 19) rfl)) (rm1n l Z a0 hw a5 h15  F_a5_control_15) e15 (g := (mkF m 69 #[.val (.int p0), .val (.ref b), .val (.int (4 : Int32)), .val (.ref a5), .val (.int (0 : Int32)), .unset, .unset] [(.ref a5)])) rfl (by rw [hml]; rfl) (a := a5) (argsL := []) (rest := []) (E_a5_15) (lenOf pd_0 rfl) rfl rfl (W := 0) (by show 2 * 0 + _ ≤ _; exact Nat.le_of_eq rfl) (hb hby at_69) (by decide) (by decide) (by decide) (by decide) (by decide)
    obtain ⟨rfl, rfl, e24⟩ := hQ24
    refine own_go st24 ?_
    have N24 := Fr.app N15 (Fr.nil _)
    show own_Ends _ _ _ _ _ _ _ T24 (mkF m 72 #[.val (.int p0), .val (.ref b), .val (.int (4 : Int32)), .val (.ref a5), .val (.int (0 : Int32)), .unset, .unset] [(.int (0 : Int32))])
    refine own_go (fun _ k => XS.istore X24.here hx rfl (hb hby at_72) rfl (l' := #[.val (.int p0), .val (.ref b), .val (.int (4 : Int32)), .val (.ref a5), .val (.int (0 : Int32)), .val (.int (0 : Int32)), .unset]) rfl k) ?_
    show own_Ends _ _ _ _ _ _ _ T24 (mkF m 74 #[.val (.int p0), .val (.ref b), .val (.int (4 : Int32)), .val (.ref a5), .val (.int (0 : Int32)), .val (.int (0 : Int32)), .unset] [])
    refine own_go (fun _ k => XS.aloadN X24.here hx rfl (hb hby at_74) rfl rfl k) ?_
    show own_Ends _ _ _ _ _ _ _ T24 (mkF m 75 #[.val (.int p0), .val (.ref b), .val (.int (4 : Int32)), .val (.ref a5), .val (.int (0 : Int32)), .val (.int (0 : Int32)), .unset] [(.ref a5)])
    obtain ⟨v25, T25, L25, X25, hQ25, st25⟩ := own_callV X24 hx hZ hown (hw _ (List.mem_of_getElem? (i := 22) rfl)) (hw _ (List.mem_of_getElem? (i := 23) rfl)) (hw _ (List.mem_of_getElem? (i := 25) rfl)) (hw _ (List.mem_of_getElem? (i := 24) rfl)) (hw _ (List.mem_of_getElem? (i := 3) rfl)) (hw _ (List.mem_of_getElem? (i := 26) rfl)) (rm2n l Z a0 hw a5 h15  F_a5_control_15) e24 (g := (mkF m 75 #[.val (.int p0), .val (.ref b), .val (.int (4 : Int32)), .val (.ref a5), .val (.int (0 : Int32)), .val (.int (0 : Int32)), .unset] [(.ref a5)])) rfl (by rw [hml]; rfl) (a := a5) (argsL := []) (rest := []) (E_a5_15) (lenOf pd_1 rfl) rfl rfl (W := 0) (by show 2 * 0 + _ ≤ _; exact Nat.le_of_eq rfl) (hb hby at_75) (by decide) (by decide) (by decide) (by decide) (by decide)
    obtain ⟨rfl, rfl, e25⟩ := hQ25
    refine own_go st25 ?_
    have N25 := Fr.app N24 (Fr.nil _)
    show own_Ends _ _ _ _ _ _ _ T25 (mkF m 78 #[.val (.int p0), .val (.ref b), .val (.int (4 : Int32)), .val (.ref a5), .val (.int (0 : Int32)), .val (.int (0 : Int32)), .unset] [.null])
    refine own_go (fun _ k => XS.ifnullYes X25.here hx rfl (pc0 := 78) (pc' := 85) rfl (hb hby at_78) rfl (by decide) (by decide) k) ?_
    show own_Ends _ _ _ _ _ _ _ T25 (mkF m 85 #[.val (.int p0), .val (.ref b), .val (.int (4 : Int32)), .val (.ref a5), .val (.int (0 : Int32)), .val (.int (0 : Int32)), .unset] [])
    refine own_go (fun _ k => XS.iconst X25.here hx rfl (hb hby at_85) k) ?_
    show own_Ends _ _ _ _ _ _ _ T25 (mkF m 86 #[.val (.int p0), .val (.ref b), .val (.int (4 : Int32)), .val (.ref a5), .val (.int (0 : Int32)), .val (.int (0 : Int32)), .unset] [(.int (0 : Int32))])
    refine own_go (fun _ k => XS.istore X25.here hx rfl (hb hby at_86) rfl (l' := #[.val (.int p0), .val (.ref b), .val (.int (4 : Int32)), .val (.ref a5), .val (.int (0 : Int32)), .val (.int (0 : Int32)), .val (.int (0 : Int32))]) rfl k) ?_
    show own_Ends _ _ _ _ _ _ _ T25 (mkF m 88 #[.val (.int p0), .val (.ref b), .val (.int (4 : Int32)), .val (.ref a5), .val (.int (0 : Int32)), .val (.int (0 : Int32)), .val (.int (0 : Int32))] [])
    refine own_go (fun _ k => XS.iload X25.here hx rfl (hb hby at_88) rfl k) ?_
    show own_Ends _ _ _ _ _ _ _ T25 (mkF m 90 #[.val (.int p0), .val (.ref b), .val (.int (4 : Int32)), .val (.ref a5), .val (.int (0 : Int32)), .val (.int (0 : Int32)), .val (.int (0 : Int32))] [(.int (0 : Int32))])
    refine own_go (fun _ k => XS.iload X25.here hx rfl (hb hby at_90) rfl k) ?_
    show own_Ends _ _ _ _ _ _ _ T25 (mkF m 92 #[.val (.int p0), .val (.ref b), .val (.int (4 : Int32)), .val (.ref a5), .val (.int (0 : Int32)), .val (.int (0 : Int32)), .val (.int (0 : Int32))] [(.int (0 : Int32)), (.int (0 : Int32))])
    refine own_go (fun _ k => XS.icmpNo X25.here hx rfl (hb hby at_92) rfl (teq (rfl)).2 k) ?_
    show own_Ends _ _ _ _ _ _ _ T25 (mkF m 95 #[.val (.int p0), .val (.ref b), .val (.int (4 : Int32)), .val (.ref a5), .val (.int (0 : Int32)), .val (.int (0 : Int32)), .val (.int (0 : Int32))] [])
    refine own_go (fun _ k => XS.iload X25.here hx rfl (hb hby at_95) rfl k) ?_
    show own_Ends _ _ _ _ _ _ _ T25 (mkF m 97 #[.val (.int p0), .val (.ref b), .val (.int (4 : Int32)), .val (.ref a5), .val (.int (0 : Int32)), .val (.int (0 : Int32)), .val (.int (0 : Int32))] [(.int (0 : Int32))])
    refine own_go (fun _ k => XS.iload X25.here hx rfl (hb hby at_97) rfl k) ?_
    show own_Ends _ _ _ _ _ _ _ T25 (mkF m 99 #[.val (.int p0), .val (.ref b), .val (.int (4 : Int32)), .val (.ref a5), .val (.int (0 : Int32)), .val (.int (0 : Int32)), .val (.int (0 : Int32))] [(.int (0 : Int32)), (.int (0 : Int32))])
    refine own_go (fun _ k => XS.icmpNo X25.here hx rfl (hb hby at_99) rfl (teq (rfl)).2 k) ?_
    show own_Ends _ _ _ _ _ _ _ T25 (mkF m 102 #[.val (.int p0), .val (.ref b), .val (.int (4 : Int32)), .val (.ref a5), .val (.int (0 : Int32)), .val (.int (0 : Int32)), .val (.int (0 : Int32))] [])
    refine own_go (fun _ k => XS.iconst X25.here hx rfl (hb hby at_102) k) ?_
    show own_Ends _ _ _ _ _ _ _ T25 (mkF m 103 #[.val (.int p0), .val (.ref b), .val (.int (4 : Int32)), .val (.ref a5), .val (.int (0 : Int32)), .val (.int (0 : Int32)), .val (.int (0 : Int32))] [(.int (1 : Int32))])
    refine own_go (fun _ k => XS.goto X25.here hx rfl (pc0 := 103) (pc' := 107) rfl (hb hby at_103) (by decide) (by decide) k) ?_
    show own_Ends _ _ _ _ _ _ _ T25 (mkF m 107 #[.val (.int p0), .val (.ref b), .val (.int (4 : Int32)), .val (.ref a5), .val (.int (0 : Int32)), .val (.int (0 : Int32)), .val (.int (0 : Int32))] [(.int (1 : Int32))])
    exact own_retZ X25 hx hlk hret (by decide) (hb hby at_107) (by decide) (by decide) ⟨rfl, N25⟩
set_option maxRecDepth 65536 in
set_option maxHeartbeats 40000000 in
theorem comes_1 {Post : Tables → Env → Array Value → State → Outcome → State → Prop} (hpost : ∀ tb e args s v u, (limb_1_1.after args s (.returned v) u = true ∧ limb_1_2.after args s (.returned v) u = true ∧ True) → FrameEnd s (.returned v) u (Jvm.fieldLocs frame_1_writes args s ++ Jvm.arrayLocs frame_1_arrays args s ++ Jvm.staticLocs frame_1_statics s) 16 128 → Post tb e args s (.returned v) u) :
    ArmFor flags0 classFile x code maxLocals ret World_1 tables_1 room_1 Calls_1 rest_1 Pre_1 Post := by
  intro l hfl _ _ p e ha hc hk s m args below hf hA hF happ hP
  obtain ⟨hcalls, hrest, hpre⟩ := hP
  obtain ⟨-, -, -, hnamed, -, -, -, hat⟩ := (Spec.applies_iff hf).mp happ
  obtain ⟨hg, hn⟩ := and_e (Cond.before_iff.mp (show (Jvm.Cond.and given_1 narrow_1).before args s = true from hpre))
  obtain ⟨g0, gr0⟩ := and_e hg
  have ga0 := gr0
  obtain ⟨w0, rfl⟩ : ∃ w0 : Value, args = #[w0] := by
    have hs : args.size = 1 := by simpa [Cond.value, given_1] using g0
    obtain ⟨L⟩ := args
    match L, hs with
    | [w0], _ => exact ⟨w0, rfl⟩
  have hw := fun d (hd : d ∈ tables_1) => atoms_spec (ws := Jvm.Cond.code x code maxLocals ret :: tables_1) hat d (List.mem_cons_of_mem _ hd)
  have hfit : Fit s := fun {y c} hc i hi => by
    obtain ⟨ha, rfl⟩ := Array.getElem?_eq_some_iff.mp hc
    have q := List.all_eq_true.mp ((Array.all_eq_true_iff_forall_mem.mp hF) _ (Array.getElem_mem ha)) i (List.mem_range.mpr hi)
    simpa [Array.getElem?_eq_getElem hi] using q
  obtain ⟨i0, ei0⟩ := is_v ga0
  obtain rfl : w0 = (.int i0) := Option.some.inj ei0
  obtain ⟨n1, m1⟩ := and_e hn
  obtain ⟨n2, m2⟩ := and_e m1
  obtain ⟨n3, m3⟩ := and_e m2
  obtain ⟨n4, m4⟩ := and_e m3
  obtain ⟨n5, m5⟩ := and_e m4
  obtain ⟨n6, m6⟩ := and_e m5
  obtain ⟨n7, m7⟩ := and_e m6
  obtain ⟨n8, m8⟩ := and_e m7
  obtain ⟨n9, m9⟩ := and_e m8
  have n10 := m9
  obtain ⟨a1, t0⟩ := exa_v n1
  have E0 := Exa.start t0 n1
  have S0 := Sta.start t0 (Or.inr ⟨hw _ (List.mem_of_getElem? (i := 3) rfl), hw _ (List.mem_of_getElem? (i := 4) rfl)⟩)
  have u0 := null_v n6
  rw [fld_at t0] at u0
  have F0 := Fld.start u0
  obtain ⟨a2, t1⟩ := exa_v n2
  have E1 := Exa.start t1 n2
  have S1 := Sta.start t1 (Or.inr ⟨hw _ (List.mem_of_getElem? (i := 3) rfl), hw _ (List.mem_of_getElem? (i := 7) rfl)⟩)
  obtain ⟨c2, u1⟩ := exa_v n8
  rw [fld_at t1] at u1
  have F1 := Fld.start u1
  obtain ⟨a3, t2⟩ := exa_v n3
  have E2 := Exa.start t2 n3
  have S2 := Sta.start t2 (Or.inr ⟨hw _ (List.mem_of_getElem? (i := 3) rfl), hw _ (List.mem_of_getElem? (i := 9) rfl)⟩)
  obtain ⟨c3, u2⟩ := exa_v n10
  rw [fld_at t2] at u2
  have F2 := Fld.start u2
  obtain ⟨a4, t3⟩ := exa_v n4
  have E3 := Exa.start t3 n4
  have S3 := Sta.start t3 (Or.inr ⟨hw _ (List.mem_of_getElem? (i := 3) rfl), hw _ (List.mem_of_getElem? (i := 11) rfl)⟩)
  obtain ⟨c4, u3⟩ := exa_v n7
  rw [fld_at t3] at u3
  have F3 := Fld.start u3
  obtain ⟨a5, t4⟩ := exa_v n5
  have E4 := Exa.start t4 n5
  have S4 := Sta.start t4 (Or.inr ⟨hw _ (List.mem_of_getElem? (i := 3) rfl), hw _ (List.mem_of_getElem? (i := 13) rfl)⟩)
  have u4 := null_v n9
  rw [fld_at t4] at u4
  have F4 := Fld.start u4
  obtain ⟨n, o, h1, h2, h3, _, L, rfl, ⟨rfl, N⟩, hq⟩ := rm0 l s _ hw i0 s.heap a1 a2 a3 a4 a5 c2 c3 c4 S0 E0 F0 S1 E1 F1 S2 E2 F2 S3 E3 F3 S4 E4 F4 tables_1 p e ha hc hk s m _ below hf ((Spec.applies_iff_loose hf).mp happ).1 ⟨rfl, State.Warmed39.refl s, rfl⟩ trivial
  refine ⟨n, _, h1, h2, h3, hpost _ _ _ _ _ _ ⟨Cond.after_iff.mpr rfl, Cond.after_iff.mpr (eq_i res_at (Term.int_eval (1)) rfl), trivial⟩ ⟨hq.1, hq.2.1, (hq.2.2.sift fun y hy => Or.inr (N y hy)).mono (by decide) (by decide)⟩⟩
theorem main_1_1 : Claimed_1_1 := comes_1 fun _ _ _ _ _ _ h hF => ⟨h.1, hF⟩
theorem main_1_2 : Claimed_1_2 := comes_1 fun _ _ _ _ _ _ h hF => ⟨h.2.1, hF⟩

end Jvm.Pilot.@@N@@
namespace Jvm.Pilot.@@N@@
open Jvm Jvm.ClassFile Sem Op Lib Jvm.Free Jvm.Stand Jvm.Pilot.@@N@@.Jvm.D
/-! MADE BY PROGRAM (witnessworld.py) out of the Statement's table words and the real class files: 15 classes; the members and pool entries that the words name. The judged class is class 1, her method 1. -/
namespace start1
open Jvm.ClassFile
def u (s : String) : CpInfo := .utf8 (stringToUtf16 s)
/-- a pool by its gaps: so many unusable entries, then the entry; so many at the end -/
def gap : Nat → List CpInfo → List CpInfo
  | 0, r => r
  | n + 1, r => .unusable :: gap n r
def poolList (es : List (Nat × CpInfo)) (last : Nat) : List CpInfo := es.foldr (fun e r => gap e.1 (e.2 :: r)) (gap last [])
def pool (es : List (Nat × CpInfo)) (last : Nat) : Array CpInfo := ⟨poolList es last⟩
def fileOf (pool : Array CpInfo) (this : Nat) (attrs : Array Attribute := #[]) (ms : Array MethodInfo := #[]) (fl : Nat := 33) (sup : Nat := 0) (ifs : Array Nat := #[]) (fds : Array FieldInfo := #[]) : ClassFile where
  minorVersion := 0
  majorVersion := 65
  constantPool := pool
  accessFlags := fl
  thisClass := this
  superClass := sup
  interfaces := ifs
  fields := fds
  methods := ms
  attributes := attrs
def plain (name : String) (sup : Option ClassId) : Class where
  name := name
  kind := .ordinary
  loader := none
  accessFlags := 33
  super := sup
  interfaces := #[]
  cf := none
  fields := #[]
  methods := #[]
  instanceTypes := #[]
  staticTypes := #[]
  resolved := #[]
  callSites := []
  init := .initialized
  statics := none
  mirror := none

def pool0 : Array CpInfo := pool [(5, u "<init>"), (0, u "()V"), (1, .class_ 10), (1, u "java/lang/Object")] 113

def k0m0 : Method := { name := "<init>", desc := "()V", sig := { parameters := [], returnType := none }, accessFlags := 1, code := none }
/-- java/lang/Object -/
def k0 : Class := { plain "java/lang/Object" none with
  accessFlags := 33
  interfaces := #[]
  cf := some (fileOf pool0 8 #[] #[{ accessFlags := 1, nameIndex := 5, descriptorIndex := 6, attributes := #[] }] 33 0 #[] #[])
  fields := #[]
  methods := #[k0m0]
  instanceTypes := #[]
  staticTypes := #[]
  resolved := Array.replicate 124 none
  statics := none }

def pool1 : Array CpInfo := pool [(2, .class_ 4), (1, u "java/lang/Object"), (0, u "<init>"), (0, u "()V"), (0, .class_ 8), (0, u "com/example/ledgerline/ledgerline/Form"), (0, .fieldref 7 10), (0, .nameAndType 11 12), (0, u "CCF"), (0, u "Lcom/example/ledgerline/ledgerline/Form;"), (0, .fieldref 7 14), (0, .nameAndType 15 12), (0, u "CCF_II"), (0, .fieldref 7 17), (0, .nameAndType 18 12), (0, u "CF2_NDM"), (0, .fieldref 7 20), (0, .nameAndType 21 12), (0, u "CF2_FTP"), (0, .fieldref 7 23), (0, .nameAndType 24 12), (0, u "NONE"), (0, .integer 2147483647), (0, .methodref 7 27), (0, .nameAndType 28 29), (0, u "hasTrailer"), (0, u "()Z"), (0, .methodref 7 31), (0, .nameAndType 32 33), (0, u "control"), (0, u "()Lcom/example/ledgerline/ledgerline/Control$Positions;"), (0, .class_ 35), (0, u "com/example/ledgerline/ledgerline/FormHasTrailerPinLaw"), (2, u "law"), (0, u "(I)Z")] 11

def k1m0 : Method := { name := "<init>", desc := "()V", sig := { parameters := [], returnType := none }, accessFlags := 1, code := none }
def k1c1 : Code := { maxStack := 4, maxLocals := 7, code := code, exceptionTable := #[], attributes := #[] }
def k1m1 : Method := { name := "law", desc := "(I)Z", sig := { parameters := [.int], returnType := some .boolean }, accessFlags := 9, code := some k1c1 }
/-- com/example/ledgerline/ledgerline/FormHasTrailerPinLaw -/
def k1 : Class := { plain "com/example/ledgerline/ledgerline/FormHasTrailerPinLaw" (some 0) with
  accessFlags := 49
  interfaces := #[]
  cf := some (fileOf pool1 34 #[] #[{ accessFlags := 1, nameIndex := 5, descriptorIndex := 6, attributes := #[] }, { accessFlags := 9, nameIndex := 38, descriptorIndex := 39, attributes := #[] }] 49 2 #[] #[])
  fields := #[]
  methods := #[k1m0, k1m1]
  instanceTypes := #[]
  staticTypes := #[]
  resolved := Array.replicate 51 none
  statics := none }

def pool2 : Array CpInfo := pool [(1, .class_ 2), (0, u "java/lang/constant/Constable"), (0, .class_ 4), (0, u "java/lang/Object")] 6

/-- java/lang/constant/Constable -/
def k2 : Class := { plain "java/lang/constant/Constable" (some 0) with
  accessFlags := 1537
  interfaces := #[]
  cf := some (fileOf pool2 1 #[] #[] 1537 3 #[] #[])
  fields := #[]
  methods := #[]
  instanceTypes := #[]
  staticTypes := #[]
  resolved := Array.replicate 11 none
  statics := none }

def pool3 : Array CpInfo := pool [(1, .class_ 2), (0, u "java/lang/Comparable"), (0, .class_ 4), (0, u "java/lang/Object")] 7

/-- java/lang/Comparable -/
def k3 : Class := { plain "java/lang/Comparable" (some 0) with
  accessFlags := 1537
  interfaces := #[]
  cf := some (fileOf pool3 1 #[] #[] 1537 3 #[] #[])
  fields := #[]
  methods := #[]
  instanceTypes := #[]
  staticTypes := #[]
  resolved := Array.replicate 12 none
  statics := none }

def pool4 : Array CpInfo := pool [(1, .class_ 2), (0, u "java/io/Serializable"), (0, .class_ 4), (0, u "java/lang/Object")] 2

/-- java/io/Serializable -/
def k4 : Class := { plain "java/io/Serializable" (some 0) with
  accessFlags := 1537
  interfaces := #[]
  cf := some (fileOf pool4 1 #[] #[] 1537 3 #[] #[])
  fields := #[]
  methods := #[]
  instanceTypes := #[]
  staticTypes := #[]
  resolved := Array.replicate 7 none
  statics := none }

def pool5 : Array CpInfo := pool [(2, .class_ 4), (1, u "java/lang/Enum"), (0, u "name"), (0, u "Ljava/lang/String;"), (2, u "ordinal"), (0, u "I"), (1, .class_ 14), (1, u "java/lang/Object"), (4, u "hash"), (86, .class_ 108), (1, u "java/lang/Enum$EnumDesc"), (2, .class_ 112), (0, u "java/lang/constant/Constable"), (0, .class_ 114), (0, u "java/lang/Comparable"), (0, .class_ 116), (0, u "java/io/Serializable")] 87

/-- java/lang/Enum -/
def k5 : Class := { plain "java/lang/Enum" (some 0) with
  accessFlags := 1057
  interfaces := #[2, 3, 4]
  cf := some (fileOf pool5 2 #[.nestMembers #[106]] #[] 1057 12 #[111, 113, 115] #[{ accessFlags := 18, nameIndex := 5, descriptorIndex := 6, attributes := #[] }, { accessFlags := 18, nameIndex := 9, descriptorIndex := 10, attributes := #[] }, { accessFlags := 2, nameIndex := 19, descriptorIndex := 10, attributes := #[] }])
  fields := #[{ name := "name", type := (.object "java/lang/String"), accessFlags := 18, slot := 0, constantValue := 0 }, { name := "ordinal", type := .int, accessFlags := 18, slot := 1, constantValue := 0 }, { name := "hash", type := .int, accessFlags := 2, slot := 2, constantValue := 0 }]
  methods := #[]
  instanceTypes := #[(.object "java/lang/String"), .int, .int]
  staticTypes := #[]
  resolved := Array.replicate 204 none
  statics := none }

def pool6 : Array CpInfo := pool [(1, .class_ 2), (0, u "com/example/ledgerline/ledgerline/Form"), (2, u "CCF"), (0, u "Lcom/example/ledgerline/ledgerline/Form;"), (2, u "CCF_II"), (2, u "CF2_NDM"), (2, u "CF2_FTP"), (2, u "NONE"), (2, u "$VALUES"), (0, u "[Lcom/example/ledgerline/ledgerline/Form;"), (6, .class_ 31), (1, u "java/lang/Enum"), (8, u "label"), (0, u "Ljava/lang/String;"), (0, .fieldref 1 43), (0, .nameAndType 44 45), (0, u "control"), (0, u "Lcom/example/ledgerline/ledgerline/Control$Positions;"), (36, u "()Lcom/example/ledgerline/ledgerline/Control$Positions;"), (0, u "hasTrailer"), (0, u "()Z")] 10

def k6c0 : Code := { maxStack := 1, maxLocals := 1, code := prog_17_method_5_code, exceptionTable := #[], attributes := #[] }
def k6m0 : Method := { name := "control", desc := "()Lcom/example/ledgerline/ledgerline/Control$Positions;", sig := { parameters := [], returnType := some (.object "com/example/ledgerline/ledgerline/Control$Positions") }, accessFlags := 0, code := some k6c0 }
def k6c1 : Code := { maxStack := 1, maxLocals := 1, code := prog_17_method_6_code, exceptionTable := #[], attributes := #[] }
def k6m1 : Method := { name := "hasTrailer", desc := "()Z", sig := { parameters := [], returnType := some .boolean }, accessFlags := 0, code := some k6c1 }
/-- com/example/ledgerline/ledgerline/Form -/
def k6 : Class := { plain "com/example/ledgerline/ledgerline/Form" (some 5) with
  accessFlags := 16433
  interfaces := #[]
  cf := some (fileOf pool6 1 #[] #[{ accessFlags := 0, nameIndex := 44, descriptorIndex := 82, attributes := #[] }, { accessFlags := 0, nameIndex := 83, descriptorIndex := 84, attributes := #[] }] 16433 29 #[] #[{ accessFlags := 16409, nameIndex := 5, descriptorIndex := 6, attributes := #[] }, { accessFlags := 16409, nameIndex := 9, descriptorIndex := 6, attributes := #[] }, { accessFlags := 16409, nameIndex := 12, descriptorIndex := 6, attributes := #[] }, { accessFlags := 16409, nameIndex := 15, descriptorIndex := 6, attributes := #[] }, { accessFlags := 16409, nameIndex := 18, descriptorIndex := 6, attributes := #[] }, { accessFlags := 18, nameIndex := 40, descriptorIndex := 41, attributes := #[] }, { accessFlags := 18, nameIndex := 44, descriptorIndex := 45, attributes := #[] }, { accessFlags := 4122, nameIndex := 21, descriptorIndex := 22, attributes := #[] }])
  fields := #[{ name := "CCF", type := (.object "com/example/ledgerline/ledgerline/Form"), accessFlags := 16409, slot := 0, constantValue := 0 }, { name := "CCF_II", type := (.object "com/example/ledgerline/ledgerline/Form"), accessFlags := 16409, slot := 1, constantValue := 0 }, { name := "CF2_NDM", type := (.object "com/example/ledgerline/ledgerline/Form"), accessFlags := 16409, slot := 2, constantValue := 0 }, { name := "CF2_FTP", type := (.object "com/example/ledgerline/ledgerline/Form"), accessFlags := 16409, slot := 3, constantValue := 0 }, { name := "NONE", type := (.object "com/example/ledgerline/ledgerline/Form"), accessFlags := 16409, slot := 4, constantValue := 0 }, { name := "label", type := (.object "java/lang/String"), accessFlags := 18, slot := 3, constantValue := 0 }, { name := "control", type := (.object "com/example/ledgerline/ledgerline/Control$Positions"), accessFlags := 18, slot := 4, constantValue := 0 }, { name := "$VALUES", type := (.array (.object "com/example/ledgerline/ledgerline/Form")), accessFlags := 4122, slot := 5, constantValue := 0 }]
  methods := #[k6m0, k6m1]
  instanceTypes := #[(.object "java/lang/String"), .int, .int, (.object "java/lang/String"), (.object "com/example/ledgerline/ledgerline/Control$Positions")]
  staticTypes := #[(.object "com/example/ledgerline/ledgerline/Form"), (.object "com/example/ledgerline/ledgerline/Form"), (.object "com/example/ledgerline/ledgerline/Form"), (.object "com/example/ledgerline/ledgerline/Form"), (.object "com/example/ledgerline/ledgerline/Form"), (.array (.object "com/example/ledgerline/ledgerline/Form"))]
  resolved := Array.replicate 95 none
  statics := some 0 }

def pool7 : Array CpInfo := pool [(2, .class_ 4), (1, u "java/lang/Object"), (0, u "<init>"), (0, u "()V"), (0, .class_ 8), (0, u "java/lang/Record")] 13

def k7m0 : Method := { name := "<init>", desc := "()V", sig := { parameters := [], returnType := none }, accessFlags := 4, code := none }
/-- java/lang/Record -/
def k7 : Class := { plain "java/lang/Record" (some 0) with
  accessFlags := 1057
  interfaces := #[]
  cf := some (fileOf pool7 7 #[] #[{ accessFlags := 4, nameIndex := 5, descriptorIndex := 6, attributes := #[] }] 1057 2 #[] #[])
  fields := #[]
  methods := #[k7m0]
  instanceTypes := #[]
  staticTypes := #[]
  resolved := Array.replicate 22 none
  statics := none }

def pool8 : Array CpInfo := pool [(2, .class_ 4), (1, u "java/lang/Record"), (3, .class_ 10), (1, u "com/example/ledgerline/ledgerline/Control$Positions"), (0, u "requested"), (0, u "Lcom/example/ledgerline/ledgerline/Field;"), (2, u "function"), (2, u "recordLength"), (2, u "recordCount"), (2, u "segments"), (2, u "sequence"), (27, .class_ 56), (0, u "com/example/ledgerline/ledgerline/Control")] 24

/-- com/example/ledgerline/ledgerline/Control$Positions -/
def k8 : Class := { plain "com/example/ledgerline/ledgerline/Control$Positions" (some 7) with
  accessFlags := 48
  interfaces := #[]
  cf := some (fileOf pool8 8 #[.nestHost 55] #[] 48 2 #[] #[{ accessFlags := 18, nameIndex := 11, descriptorIndex := 12, attributes := #[] }, { accessFlags := 18, nameIndex := 15, descriptorIndex := 12, attributes := #[] }, { accessFlags := 18, nameIndex := 18, descriptorIndex := 12, attributes := #[] }, { accessFlags := 18, nameIndex := 21, descriptorIndex := 12, attributes := #[] }, { accessFlags := 18, nameIndex := 24, descriptorIndex := 12, attributes := #[] }, { accessFlags := 18, nameIndex := 27, descriptorIndex := 12, attributes := #[] }])
  fields := #[{ name := "requested", type := (.object "com/example/ledgerline/ledgerline/Field"), accessFlags := 18, slot := 0, constantValue := 0 }, { name := "function", type := (.object "com/example/ledgerline/ledgerline/Field"), accessFlags := 18, slot := 1, constantValue := 0 }, { name := "recordLength", type := (.object "com/example/ledgerline/ledgerline/Field"), accessFlags := 18, slot := 2, constantValue := 0 }, { name := "recordCount", type := (.object "com/example/ledgerline/ledgerline/Field"), accessFlags := 18, slot := 3, constantValue := 0 }, { name := "segments", type := (.object "com/example/ledgerline/ledgerline/Field"), accessFlags := 18, slot := 4, constantValue := 0 }, { name := "sequence", type := (.object "com/example/ledgerline/ledgerline/Field"), accessFlags := 18, slot := 5, constantValue := 0 }]
  methods := #[]
  instanceTypes := #[(.object "com/example/ledgerline/ledgerline/Field"), (.object "com/example/ledgerline/ledgerline/Field"), (.object "com/example/ledgerline/ledgerline/Field"), (.object "com/example/ledgerline/ledgerline/Field"), (.object "com/example/ledgerline/ledgerline/Field"), (.object "com/example/ledgerline/ledgerline/Field")]
  staticTypes := #[]
  resolved := Array.replicate 81 none
  statics := none }

def pool9 : Array CpInfo := pool [(1, u "java/lang/Cloneable"), (0, .class_ 1), (0, u "java/lang/Object"), (0, .class_ 3)] 3

/-- java/lang/Cloneable -/
def k9 : Class := { plain "java/lang/Cloneable" (some 0) with
  accessFlags := 1537
  interfaces := #[]
  cf := some (fileOf pool9 2 #[] #[] 1537 4 #[] #[])
  fields := #[]
  methods := #[]
  instanceTypes := #[]
  staticTypes := #[]
  resolved := Array.replicate 8 none
  statics := none }

/-- the primitive byte -/
def k10 : Class := { plain "byte" none with kind := .primitive 'B', accessFlags := 0x411 }
/-- [B -/
def k11 : Class := { plain "[B" (some 0) with kind := .array 10 .byte, interfaces := #[9, 4], accessFlags := 1041 }

/-- the primitive int -/
def k12 : Class := { plain "int" none with kind := .primitive 'I', accessFlags := 0x411 }
/-- [I -/
def k13 : Class := { plain "[I" (some 0) with kind := .array 12 .int, interfaces := #[9, 4], accessFlags := 1041 }

/-- [Lcom/example/ledgerline/ledgerline/Form; -/
def k14 : Class := { plain "[Lcom/example/ledgerline/ledgerline/Form;" (some 0) with kind := .array 6 (.object "com/example/ledgerline/ledgerline/Form"), interfaces := #[9, 4], accessFlags := 1041 }

def heap : Heap := #[{ cls := 6, slots := #[.ref 2, .ref 3, .ref 4, .ref 5, .ref 6, .null], vm := .statics 6 },
  { cls := 8, slots := #[.null, .null, .null, .null, .null, .null], vm := .none },
  { cls := 6, slots := #[.null, .int 0, .int 0, .null, .null], vm := .none },
  { cls := 6, slots := #[.null, .int 1, .int 0, .null, .ref 1], vm := .none },
  { cls := 6, slots := #[.null, .int 2, .int 0, .null, .ref 1], vm := .none },
  { cls := 6, slots := #[.null, .int 3, .int 0, .null, .ref 1], vm := .none },
  { cls := 6, slots := #[.null, .int 4, .int 0, .null, .null], vm := .none }]
def classes : Array Class := #[k0, k1, k2, k3, k4, k5, k6, k7, k8, k9, k10, k11, k12, k13, k14]
def interned : List (Array UInt16 × Addr) := []
def slotsUsed : Nat := 37
def theMethod : MethodId := ⟨1, 1⟩
def args0 : Array Value := #[.int 5]
def aboutOver (below : List Frame) : State where
  vm := { classes := classes, interned := interned.toArray }
  heap := heap
  slotsUsed := slotsUsed
  threads := #[{ frames := .invoking theMethod args0 :: below }]
def below0 : List Frame := [.native { method := ⟨0, 0⟩, args := #[] }]
def about1 : State := aboutOver below0
def p0 : Program := .bare "" "" ""
def e0 : Env := launch0.env 0 0 0
theorem w_frames : about1.frames = Frame.invoking theMethod args0 :: below0 := rfl
set_option maxRecDepth 65536 in
theorem w_args : argsFit about1.vm theMethod args0 = true := by decide +kernel
set_option maxRecDepth 65536 in
theorem w_heap : heapFits about1 = true := by decide +kernel
set_option maxRecDepth 65536 in
theorem w_runnable : about1.curStatus? = some .runnable := by decide +kernel
set_option maxRecDepth 65536 in
theorem w_alone : about1.alone = true := by decide +kernel
set_option maxRecDepth 65536 in
theorem w_named : about1.methodNamed? x = some theMethod := by decide +kernel
set_option maxRecDepth 65536 in
theorem w_hears : about1.hears theMethod below0 = true := by decide +kernel
set_option maxRecDepth 65536 in
theorem w_ripe : about1.ripe theMethod args0 below0 = true := by decide +kernel
theorem w_running : about1.status = .running := rfl
set_option maxRecDepth 65536 in
theorem w_room : about1.hasRoom e0.platform room_1 = true :=
  launch0.hasRoom_least _ room_1 (by decide +kernel) (by decide +kernel) (by decide +kernel) (by decide +kernel) (by decide +kernel) (by decide +kernel)
theorem allAtoms_all (ts : List Jvm.Cond) (a : Array Jvm.Value) (st : Jvm.State) : (allAtoms ts).before a st = ts.all (fun c => c.before a st) := by
  induction ts with
  | nil => rfl
  | cons c t ih =>
    show (Jvm.Cond.and c (allAtoms t)).before a st = _
    rw [Jvm.Cond.before_and, ih, List.all_cons]
def words1 : List Jvm.Cond := Jvm.Cond.code x code maxLocals ret :: tables_1
/-- a 'code' word, met by the world's own term for the bytes: nothing is compared byte by byte -/
theorem code_word {y : MethodName} {bytes : ByteArray} {mx : Nat} {rt : Option FieldType} {a : Array Value} {s : State} {m : MethodId} {meth : Method} {c : Code} (h1 : s.methodNamed? y = some m) (h2 : s.vm.method? m = some meth) (h3 : meth.code = some c) (h4 : c.code = bytes)
    (h5 : (c.maxLocals == mx && c.exceptionTable.isEmpty && decide (c.maxStack ≤ mostOperands) && decide (meth.sig.returnType = rt) && !meth.locks && decide (parseMethodDescriptor y.desc = some meth.sig)) = true) : (Jvm.Cond.code y bytes mx rt).before a s = true := by
  simp only [Bool.and_eq_true, beq_iff_eq, Bool.not_eq_true', decide_eq_true_eq] at h5
  obtain ⟨⟨⟨⟨⟨g1, g2⟩, g3⟩, g4⟩, g5⟩, g6⟩ := h5
  simp [Cond.before, Cond.holds, Cond.value, h1, h2, h3, h4, g1, g2, g3, g4, g5, g6]
def isCode : Jvm.Cond → Bool
  | .code _ _ _ _ => true
  | _ => false
theorem all_split {L : List Jvm.Cond} {P : Jvm.Cond → Bool} (h1 : L.all (fun c => isCode c || P c) = true) (h2 : ∀ c ∈ L.filter isCode, P c = true) : L.all P = true := by
  refine List.all_eq_true.mpr fun c hc => ?_
  have h := List.all_eq_true.mp h1 c hc
  rcases Bool.eq_false_or_eq_true (isCode c) with hi | hi
  · exact h2 c (List.mem_filter.mpr ⟨hc, hi⟩)
  · simpa [hi] using h
set_option maxRecDepth 65536 in
theorem w_c0 : (Jvm.Cond.code x code maxLocals ret).before args0 about1 = true := code_word (m := ⟨1, 1⟩) (meth := k1m1) (c := k1c1) (by decide +kernel) rfl rfl rfl (by decide +kernel)
set_option maxRecDepth 65536 in
theorem w_c1 : (Jvm.Cond.code ({ cls := "com/example/ledgerline/ledgerline/Form", name := "hasTrailer", desc := "()Z" } : Jvm.MethodName) prog_17_method_6_code (1 : Nat) (Option.some Jvm.ClassFile.FieldType.boolean)).before args0 about1 = true := code_word (m := ⟨6, 1⟩) (meth := k6m1) (c := k6c1) (by decide +kernel) rfl rfl rfl (by decide +kernel)
set_option maxRecDepth 65536 in
theorem w_c2 : (Jvm.Cond.code ({ cls := "com/example/ledgerline/ledgerline/Form", name := "control", desc := "()Lcom/example/ledgerline/ledgerline/Control$Positions;" } : Jvm.MethodName) prog_17_method_5_code (1 : Nat) (Option.some (Jvm.ClassFile.FieldType.object "com/example/ledgerline/ledgerline/Control$Positions"))).before args0 about1 = true := code_word (m := ⟨6, 0⟩) (meth := k6m0) (c := k6c0) (by decide +kernel) rfl rfl rfl (by decide +kernel)
def codes1 : List Jvm.Cond := [Jvm.Cond.code x code maxLocals ret, Jvm.Cond.code ({ cls := "com/example/ledgerline/ledgerline/Form", name := "hasTrailer", desc := "()Z" } : Jvm.MethodName) prog_17_method_6_code (1 : Nat) (Option.some Jvm.ClassFile.FieldType.boolean), Jvm.Cond.code ({ cls := "com/example/ledgerline/ledgerline/Form", name := "control", desc := "()Lcom/example/ledgerline/ledgerline/Control$Positions;" } : Jvm.MethodName) prog_17_method_5_code (1 : Nat) (Option.some (Jvm.ClassFile.FieldType.object "com/example/ledgerline/ledgerline/Control$Positions"))]
set_option maxRecDepth 65536 in
theorem codes_eq : words1.filter isCode = codes1 := rfl
theorem w_codes : ∀ c ∈ words1.filter isCode, c.before args0 about1 = true := by
  rw [codes_eq]
  intro c hc
  simp only [codes1, List.mem_cons, List.not_mem_nil, or_false] at hc
  rcases hc with rfl | rfl | rfl
  · exact w_c0
  · exact w_c1
  · exact w_c2
set_option maxRecDepth 65536 in
theorem w_t1 : (words1.take 24).all (fun c => isCode c || c.before args0 about1) = true := by decide +kernel
set_option maxRecDepth 65536 in
theorem w_t2 : (words1.drop 24).all (fun c => isCode c || c.before args0 about1) = true := by decide +kernel
theorem w_tables : (allAtoms (Jvm.Cond.code x code maxLocals ret :: tables_1)).before args0 about1 = true := by
  rw [allAtoms_all]
  show words1.all (fun c => c.before args0 about1) = true
  refine all_split ?_ w_codes
  rw [← List.take_append_drop 24 words1, List.all_append, w_t1, w_t2]
  rfl
set_option maxRecDepth 65536 in
theorem w_case : (Jvm.Cond.and given_1 narrow_1).before args0 about1 = true := by decide +kernel
theorem w_applies : (headSpec (Jvm.Cond.code x code maxLocals ret :: tables_1) room_1).applies x e0.platform about1 = true :=
  (Spec.applies_iff w_frames).mpr ⟨w_running, w_runnable, w_alone, w_named, w_hears, w_ripe, w_room, w_tables⟩
theorem atStart : AtStart classFile x code maxLocals ret World_1 tables_1 room_1 Calls_1 rest_1 Pre_1 launch0 p0 e0 about1 theMethod args0 below0 :=
  ⟨lists_1, trivial, launch0.admits_env _ _ _, launch0.least_env, fairChoices_fair.cas, fairChoices_fair.clock, w_frames, w_args, w_heap, w_applies, trivial, trivial, w_case⟩
end start1
theorem witness_1 : WitnessClaimed_1 := ⟨start1.p0, start1.e0, start1.about1, start1.theMethod, start1.args0, start1.below0, start1.atStart⟩
end Jvm.Pilot.@@N@@
