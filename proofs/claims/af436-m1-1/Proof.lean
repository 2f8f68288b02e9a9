import JvmDerived
import JvmDerived.Pilot.@@N@@Statement
import JvmDerived.Pilot.@@N@@Code
set_option linter.unusedVariables false
set_option linter.unusedSimpArgs false
namespace Jvm.Pilot.@@N@@
open Jvm Jvm.ClassFile Sem Op Lib Jvm.Free Jvm.Stand Jvm.LawKit Jvm.RoadKit Bundle Jvm.Pilot.@@N@@.Jvm.D
def ownEnds (tb : Tables) (e : Env) (below : List Frame) (Φ : State → Outcome → Prop) (A : State) : Prop :=
  ∃ s₂ o, Steps tb e below A s₂ ∧ s₂.status = .running ∧ Ended s₂ below o ∧ Φ s₂ o
theorem ownEnds.law {tb : Tables} {e : Env} {below : List Frame} {Φ : State → Outcome → Prop} {A B : State} (k : ∀ t, Steps tb e below B t → Steps tb e below A t) (h : ownEnds tb e below Φ B) : ownEnds tb e below Φ A := by
  obtain ⟨s2, o, h1, h2⟩ := h
  exact ⟨s2, o, k _ h1, h2⟩
theorem ownEnds.tr {tb : Tables} {e : Env} {below : List Frame} {Φ : State → Outcome → Prop} {A B : State} (k : Steps tb e below A B) (h : ownEnds tb e below Φ B) : ownEnds tb e below Φ A := by
  obtain ⟨s2, o, h1, h2⟩ := h
  exact ⟨s2, o, k.trans h1, h2⟩
theorem ownEnds.cast {tb : Tables} {e : Env} {below : List Frame} {Φ : State → Outcome → Prop} {T : State} {g g' : JFrame} (q : g = g') (h : ownEnds tb e below Φ (T.setTop g')) : ownEnds tb e below Φ (T.setTop g) := q ▸ h
def ownPost (s : State) (Q : Option Value → Heap → List Loc → Prop) (C S : Nat) : State → Outcome → Prop := fun U o => ∃ v L, o = .returned v ∧ Q v U.heap L ∧ FrameEnd s o U L C S
abbrev ownMet (l : Launch) (Z : State) (y : MethodName) (bytes : ByteArray) (maxL : Nat) (rt : Option FieldType) (ws : List Jvm.Cond) (rm : Room) (as : Array Value) (h0 : Heap) (Q : Option Value → Heap → List Loc → Prop) : Prop :=
  MetFree l y (head1 (Jvm.Cond.code y bytes maxL rt :: ws) rm) (fun a U => a = as ∧ Z.Warmed39 U.vm ∧ U.heap = h0) (fun _ _ _ _ _ => True) (fun _ U o U' => ∃ v L, o = .returned v ∧ Q v U'.heap L ∧ FrameEnd U o U' L rm.cells rm.slots)
theorem ownMet.of {l : Launch} {Z : State} {y : MethodName} {bytes : ByteArray} {maxL : Nat} {rt : Option FieldType} {ws : List Jvm.Cond} {rm : Room} {as : Array Value} {h0 : Heap} {Q : Option Value → Heap → List Loc → Prop} (hpl : plainFor y = true)
    (body : ∀ (p : Program) (e : Env) (s : State) (m : MethodId) (below : List Frame) (meth : Method) (c : Code) (T0 : State), p.tables.exec = Jvm.exec → c.code = bytes → c.maxLocals = maxL → Z.Warmed39 s.vm → s.vm.findClass y.cls = some m.cls → meth.name = y.name → meth.sig.returnType = rt → meth.locks = false →
      Stand p l e rm s m as below meth c T0 [] 0 0 → T0.heap = h0 → ownEnds p.tables e below (ownPost s Q rm.cells rm.slots) (T0.setTop (entryFrame m as maxL))) : ownMet l Z y bytes maxL rt ws rm as h0 Q := by
  refine MetFree.of_bodySF hpl hisR ?_
  intro p e s m args below meth c s₁ Bd hml0 hP hK
  obtain ⟨rfl, hZ, hh⟩ := hP
  exact body p e s m below meth c s₁ Bd.exec Bd.bytes hml0 hZ (findClass_of_methodNamed Bd.named) (name_of_methodNamed Bd.named Bd.method).1 Bd.returns Bd.notSynchronized (Stand.of_body Bd) (by rw [← hh, Bd.state]; rfl)
theorem ownEqV {args : Array Value} {first s : State} {o : Option Outcome} {idx : List Nat} {a b : Term} {v : Value} (h : (Cond.eq a b).value args first o s idx = some true) (hb : b.eval args first o idx s = some v) : a.eval args first o idx s = some v := by
  simp only [Cond.value, hb] at h
  cases ha : a.eval args first o idx s with
  | none => simp [ha] at h
  | some x => cases x <;> cases v <;> simp_all
theorem ownFieldAt {args : Array Value} {first s : State} {o : Option Outcome} {idx : List Nat} {t : Term} {a : Addr} {C n d : String} (ev : t.eval args first o idx s = some (.ref a)) : (Term.field t C n d).eval args first o idx s = s.fieldOf? a C n d := by
  simp [Term.eval, ev]
theorem ownLen {s : State} {args : Array Value} {t : Term} {a : Addr} {cl : Cell} {ty : FieldType} {z : Int32} (ev : t.eval args s none [] s = some (.ref a)) (A : Arr s s.heap a cl ty) (h : (Term.length t).eval args s none [] s = some (.int z)) : cl.slots.size < 2 ^ 31 ∧ cl.slots.size.toInt32 = z := by
  have q := A.fin (Vm.Alike.refl _)
  simp only [Term.eval, ev, q, Option.bind_eq_bind, Option.bind_some, Option.pure_def] at h
  split at h
  · rename_i hs
    exact ⟨hs, by simpa using h⟩
  · cases h
theorem ownEl {s : State} {args : Array Value} {t i : Term} {a : Addr} {cl : Cell} {ty : FieldType} {j : Int32} {v : Value} (ev : t.eval args s none [] s = some (.ref a)) (A : Arr s s.heap a cl ty) (ej : i.eval args s none [] s = some (.int j)) (h : (Term.elem t i).eval args s none [] s = some v) : cl.slots[j.toNatClampNeg]? = some v := by
  have q := A.fin (Vm.Alike.refl _)
  simp only [Term.eval, ev, ej, q, Option.bind_eq_bind, Option.bind_some] at h
  split at h
  · cases h
  · exact h
section OwnKit
variable {p : Program} {l : Launch} {e : Env} {R : Room} {s : State} {m : MethodId} {args : Array Value} {below : List Frame} {meth : Method} {c : Code} {T : State} {locs : List Loc} {cells slots : Nat} {Z : State} {a0 : Array Value} {h : Heap}
theorem ownRet (X : Stand p l e R s m args below meth c T locs cells slots) (hlk : meth.locks = false) {v : Option Value} (hv : meth.sig.returnType = none → v = none) {g : JFrame} {Q : Option Value → Heap → List Loc → Prop} {C S : Nat}
    (hst : ∀ fs, (∀ (f : JFrame) (acts : List Action), f.method = m → f.locked = none → f.entered = [] → (doReturn e (T.setTop f) acts v).1 = T.setFrames fs) → Steps p.tables e below (T.setTop g) (T.setFrames fs))
    (hc : cells ≤ C) (hs : slots ≤ S) (hQ : Q v T.heap locs) : ownEnds p.tables e below (ownPost s Q C S) (T.setTop g) := by
  obtain ⟨fs, hr, hrun, hended, hW, hsame⟩ := X.leave (v := v) hv hlk
  exact ⟨_, _, hst fs hr, hrun, hended, v, locs, rfl, hQ, ⟨_, rfl⟩, hW, hsame.mono hc hs⟩
theorem ownRetN (X : Stand p l e R s m args below meth c T locs cells slots) (hlk : meth.locks = false) (hx : p.tables.exec = Jvm.exec) {pc : Nat} {Ls : Array Slot} {z : Int32} {t : FieldType} {rest : List Value} (hret : meth.sig.returnType = some t) (ht : t = .boolean ∨ t = .byte ∨ t = .char ∨ t = .short)
    (hd : decode c.code pc = .ok (.ireturn, 1)) {Q : Option Value → Heap → List Loc → Prop} {C S : Nat} (hc : cells ≤ C) (hs : slots ≤ S) (hQ : Q (some (.int (nar t z))) T.heap locs) : ownEnds p.tables e below (ownPost s Q C S) (T.setTop (mkF m pc Ls (.int z :: rest))) :=
  ownRet X hlk (fun h => by rw [hret] at h; cases h) (fun fs hr => retN X hx hret ht hd hr) hc hs hQ
theorem ownRetI (X : Stand p l e R s m args below meth c T locs cells slots) (hlk : meth.locks = false) (hx : p.tables.exec = Jvm.exec) {pc : Nat} {Ls : Array Slot} {z : Int32} {rest : List Value} (hret : meth.sig.returnType = some .int)
    (hd : decode c.code pc = .ok (.ireturn, 1)) {Q : Option Value → Heap → List Loc → Prop} {C S : Nat} (hc : cells ≤ C) (hs : slots ≤ S) (hQ : Q (some (.int z)) T.heap locs) : ownEnds p.tables e below (ownPost s Q C S) (T.setTop (mkF m pc Ls (.int z :: rest))) :=
  ownRet X hlk (fun h => by rw [hret] at h; cases h) (fun fs hr => retOut X hx hret rfl (Or.inl ⟨rfl, Or.inl rfl, z, rfl⟩) hd hr) hc hs hQ
theorem ownRetL (X : Stand p l e R s m args below meth c T locs cells slots) (hlk : meth.locks = false) (hx : p.tables.exec = Jvm.exec) {pc : Nat} {Ls : Array Slot} {z : Int64} {rest : List Value} (hret : meth.sig.returnType = some .long)
    (hd : decode c.code pc = .ok (.lreturn, 1)) {Q : Option Value → Heap → List Loc → Prop} {C S : Nat} (hc : cells ≤ C) (hs : slots ≤ S) (hQ : Q (some (.long z)) T.heap locs) : ownEnds p.tables e below (ownPost s Q C S) (T.setTop (mkF m pc Ls (.long z :: rest))) :=
  ownRet X hlk (fun h => by rw [hret] at h; cases h) (fun fs hr => retOut X hx hret rfl (Or.inr (Or.inl ⟨rfl, rfl, z, rfl⟩)) hd hr) hc hs hQ
theorem ownRetA (X : Stand p l e R s m args below meth c T locs cells slots) (hlk : meth.locks = false) (hx : p.tables.exec = Jvm.exec) {pc : Nat} {Ls : Array Slot} {w : Value} {t : FieldType} {rest : List Value} (hret : meth.sig.returnType = some t) (ht : t.isReference = true) (hw : w.isRef = true)
    (hd : decode c.code pc = .ok (.areturn, 1)) {Q : Option Value → Heap → List Loc → Prop} {C S : Nat} (hc : cells ≤ C) (hs : slots ≤ S) (hQ : Q (some w) T.heap locs) : ownEnds p.tables e below (ownPost s Q C S) (T.setTop (mkF m pc Ls (w :: rest))) :=
  ownRet X hlk (fun h => by rw [hret] at h; cases h) (fun fs hr => retOut X hx hret (by rcases ref_cases hw with rfl | ⟨a, rfl⟩ <;> cases t <;> first | rfl | (simp [FieldType.isReference] at ht)) (Or.inr (Or.inr (Or.inr (Or.inr ⟨rfl, ht, hw⟩)))) hd hr) hc hs hQ
theorem ownRetV (X : Stand p l e R s m args below meth c T locs cells slots) (hlk : meth.locks = false) (hx : p.tables.exec = Jvm.exec) {pc : Nat} {Ls : Array Slot} (hret : meth.sig.returnType = none)
    (hd : decode c.code pc = .ok (.return_, 1)) {Q : Option Value → Heap → List Loc → Prop} {C S : Nat} (hc : cells ≤ C) (hs : slots ≤ S) (hQ : Q none T.heap locs) : ownEnds p.tables e below (ownPost s Q C S) (T.setTop (mkF m pc Ls [])) :=
  ownRet X hlk (fun _ => rfl) (fun fs hr => X.returnOut hx hret hd hr) hc hs hQ
theorem ownCallS (X : Stand p l e R s m args below meth c T locs cells slots) (hx : p.tables.exec = Jvm.exec) (hZ : Z.Warmed39 s.vm) {own : String} {index : Nat} (hown : s.vm.findClass own = some m.cls) {y : MethodName} {bytes : ByteArray} {maxL : Nat} {rt : Option FieldType} {rm : Room} {as : List Value} {Q : Option Value → Heap → List Loc → Prop}
    (w1 : (Cond.methodLink own index y).before a0 Z = true) (w2 : (Cond.static y).before a0 Z = true) (w3 : (Cond.initialized y.cls).before a0 Z = true) (w4 : (Cond.code y bytes maxL rt).before a0 Z = true) (hy : y.cls ≠ "java/lang/invoke/MethodHandle" ∧ y.cls ≠ "java/lang/invoke/VarHandle")
    (hM : ownMet l Z y bytes maxL rt [] rm as.toArray h Q) (eT : T.heap = h) (W : Nat) (hf : rm.frames + 1 ≤ R.frames) (hl : W + (maxL + 11) + rm.locals ≤ R.locals) (hc : cells + rm.cells ≤ R.cells) (hs : slots + rm.slots ≤ R.slots)
    {g : JFrame} (hg : g.method = m) (hsize : g.locals.size = c.maxLocals) {rest : List Value} {ps : List FieldType} {r : Option FieldType} (hd : parseMethodDescriptor y.desc = some ⟨ps, r⟩) (hlen : as.length = ps.length) (hstack : g.stack = as.reverse ++ rest) (hW : 2 * g.monitorRoom + (rest.map fun v => v.category).sum ≤ W)
    (hdg : decode c.code g.pc = .ok (.invokestatic index, 3)) :
    ∃ v T' L, Stand p l e R s m args below meth c T' (locs ++ L) (cells + rm.cells) (slots + rm.slots) ∧ Q v T'.heap L ∧ ∀ t, Steps p.tables e below (T'.setTop { g with pc := g.pc + 3, stack := v.toList ++ rest }) t → Steps p.tables e below (T.setTop g) t := by
  obtain ⟨v, _, ⟨T1, L1, k1, n1⟩, -, X1, ⟨Lc, hQ, l1, y1, z1⟩, st⟩ := Jvm.LawKit.callS X hx (y := y) hown (mvT hZ w1) (mvT hZ w2) (mvT hZ w3) (mvT hZ w4) hy (backOf (W := W) hM hZ w4 w3 hf hl) hg hsize (argsL := as) (rest := rest) (lenOf hd hlen) hstack hW hdg (fun _ _ => ⟨rfl, eT, hc, hs⟩)
  dsimp only [Pt.U, Pt.locs, Pt.cells, Pt.slots] at X1 l1 y1 z1 st hQ
  subst l1 y1 z1
  exact ⟨v, T1, Lc, X1, hQ, st⟩
theorem ownCallC (X : Stand p l e R s m args below meth c T locs cells slots) (hx : p.tables.exec = Jvm.exec) (hZ : Z.Warmed39 s.vm) {own : String} {index : Nat} (hown : s.vm.findClass own = some m.cls) {y : MethodName} (hy1 : y.name = "<init>") {bytes : ByteArray} {maxL : Nat} {rm : Room} {a : Addr} {as : List Value} {Q : Option Value → Heap → List Loc → Prop}
    (w1 : (Cond.methodLink own index y).before a0 Z = true) (w2 : (Cond.instanceMethod y).before a0 Z = true) (w3 : (Cond.initialized y.cls).before a0 Z = true) (w4 : (Cond.code y bytes maxL none).before a0 Z = true) (hy : y.cls ≠ "java/lang/invoke/MethodHandle" ∧ y.cls ≠ "java/lang/invoke/VarHandle")
    (hM : ownMet l Z y bytes maxL none [] rm (.ref a :: as).toArray h Q) (eT : T.heap = h) (W : Nat) (hf : rm.frames + 1 ≤ R.frames) (hl : W + (maxL + 11) + rm.locals ≤ R.locals) (hc : cells + rm.cells ≤ R.cells) (hs : slots + rm.slots ≤ R.slots)
    {g : JFrame} (hg : g.method = m) (hsize : g.locals.size = c.maxLocals) {rest : List Value} {ps : List FieldType} {r : Option FieldType} (hd : parseMethodDescriptor y.desc = some ⟨ps, r⟩) (hlen : as.length = ps.length) (hstack : g.stack = as.reverse ++ .ref a :: rest) (hW : 2 * g.monitorRoom + (rest.map fun v => v.category).sum ≤ W)
    (hdg : decode c.code g.pc = .ok (.invokespecial index, 3)) :
    ∃ v T' L, Stand p l e R s m args below meth c T' (locs ++ L) (cells + rm.cells) (slots + rm.slots) ∧ Q v T'.heap L ∧ ∀ t, Steps p.tables e below (T'.setTop { g with pc := g.pc + 3, stack := v.toList ++ rest }) t → Steps p.tables e below (T.setTop g) t := by
  obtain ⟨v, _, ⟨T1, L1, k1, n1⟩, -, X1, ⟨Lc, hQ, l1, y1, z1⟩, st⟩ := X.specialBack hx (y := y) hy1 hown (mvT hZ w1) (mvT hZ w2) (mvT hZ w4) hy (backOf (W := W) hM hZ w4 w3 hf hl) hg hsize (Steps.refl _) (a := a) (argsL := as) (rest := rest) (lenOf hd hlen) hstack hW hdg (fun _ _ => ⟨rfl, eT, hc, hs⟩)
  dsimp only [Pt.U, Pt.locs, Pt.cells, Pt.slots] at X1 l1 y1 z1 st hQ
  subst l1 y1 z1
  exact ⟨v, T1, Lc, X1, hQ, fun t k => st.trans k⟩
theorem ownCallV (X : Stand p l e R s m args below meth c T locs cells slots) (hx : p.tables.exec = Jvm.exec) (hZ : Z.Warmed39 s.vm) {own C : String} {index : Nat} (hown : s.vm.findClass own = some m.cls) {y z : MethodName} {bytes : ByteArray} {maxL : Nat} {rt : Option FieldType} {rm : Room} {a : Addr} {as : List Value} {Q : Option Value → Heap → List Loc → Prop}
    (w1 : (Cond.methodLink own index y).before a0 Z = true) (w2 : (Cond.declares y).before a0 Z = true) (hnf : NotFace s y) (w5 : (Cond.selects C y z).before a0 Z = true) (w6 : (Cond.instanceMethod z).before a0 Z = true) (w3 : (Cond.initialized z.cls).before a0 Z = true) (w4 : (Cond.code z bytes maxL rt).before a0 Z = true) (hy : y.cls ≠ "java/lang/invoke/MethodHandle" ∧ y.cls ≠ "java/lang/invoke/VarHandle")
    (hM : ownMet l Z z bytes maxL rt [] rm (.ref a :: as).toArray h Q) (eT : T.heap = h) (E : Exa Z h a C) (W : Nat) (hf : rm.frames + 1 ≤ R.frames) (hl : W + (maxL + 11) + rm.locals ≤ R.locals) (hc : cells + rm.cells ≤ R.cells) (hs : slots + rm.slots ≤ R.slots)
    {g : JFrame} (hg : g.method = m) (hsize : g.locals.size = c.maxLocals) {rest : List Value} {ps : List FieldType} {r : Option FieldType} (hd : parseMethodDescriptor y.desc = some ⟨ps, r⟩) (hlen : as.length = ps.length) (hstack : g.stack = as.reverse ++ .ref a :: rest) (hW : 2 * g.monitorRoom + (rest.map fun v => v.category).sum ≤ W)
    (hdg : decode c.code g.pc = .ok (.invokevirtual index, 3)) :
    ∃ v T' L, Stand p l e R s m args below meth c T' (locs ++ L) (cells + rm.cells) (slots + rm.slots) ∧ Q v T'.heap L ∧ ∀ t, Steps p.tables e below (T'.setTop { g with pc := g.pc + 3, stack := v.toList ++ rest }) t → Steps p.tables e below (T.setTop g) t := by
  obtain ⟨cq, kq, qa, qb, qc⟩ := isOf hZ eT E
  obtain ⟨v, _, ⟨T1, L1, k1, n1⟩, -, X1, ⟨Lc, hQ, l1, y1, z1⟩, st⟩ := X.virtualBack hx (y := y) (z := z) hown (mvT hZ w1) (mvT hZ w2) hnf (mvT hZ w5) (mvT hZ w6) hy (backOf (W := W) hM hZ w4 w3 hf hl) qa qc hg hsize (Steps.refl _) (argsL := as) (rest := rest) (lenOf hd hlen) hstack hW hdg (fun _ _ => ⟨rfl, eT, hc, hs⟩)
  dsimp only [Pt.U, Pt.locs, Pt.cells, Pt.slots] at X1 l1 y1 z1 st hQ
  subst l1 y1 z1
  exact ⟨v, T1, Lc, X1, hQ, fun t k => st.trans k⟩
theorem ownSelfSel {y z : MethodName} {C : String} (hz : z.cls = y.cls) (wz : (Cond.selects C z z).before args s = true) (hinst : (Cond.instanceMethod y).before args s = true) (hpriv : s.PrivateAt y) (hy : y.cls ≠ "java/lang/invoke/MethodHandle" ∧ y.cls ≠ "java/lang/invoke/VarHandle") : (Cond.selects y.cls y y).before args s = true := by
  obtain ⟨c2, r2, m2, q1, q2, q3, q4, kP, hkP, hkPi⟩ := Cond.selects_spec wz
  exact selects_self_of_private (by rw [← hz]; exact findClass_of_methodNamed q3) hkP hkPi hpriv hinst hy
theorem ownCallP (X : Stand p l e R s m args below meth c T locs cells slots) (hx : p.tables.exec = Jvm.exec) (hZ : Z.Warmed39 s.vm) {own C D : String} {index : Nat} (hown : s.vm.findClass own = some m.cls) {y z : MethodName} {bytes : ByteArray} {maxL : Nat} {rt : Option FieldType} {rm : Room} {a : Addr} {as : List Value} {Q : Option Value → Heap → List Loc → Prop}
    (w1 : (Cond.methodLink own index y).before a0 Z = true) (hz : z.cls = y.cls) (w5 : (Cond.selects C z z).before a0 Z = true) (w6 : (Cond.instanceMethod y).before a0 Z = true) (w7 : (Cond.privateMethod y).before a0 Z = true) (w3 : (Cond.initialized y.cls).before a0 Z = true) (w4 : (Cond.code y bytes maxL rt).before a0 Z = true) (hy : y.cls ≠ "java/lang/invoke/MethodHandle" ∧ y.cls ≠ "java/lang/invoke/VarHandle")
    (hM : ownMet l Z y bytes maxL rt [] rm (.ref a :: as).toArray h Q) (eT : T.heap = h) (E : Exa Z h a D) (W : Nat) (hf : rm.frames + 1 ≤ R.frames) (hl : W + (maxL + 11) + rm.locals ≤ R.locals) (hc : cells + rm.cells ≤ R.cells) (hs : slots + rm.slots ≤ R.slots)
    {g : JFrame} (hg : g.method = m) (hsize : g.locals.size = c.maxLocals) {rest : List Value} {ps : List FieldType} {r : Option FieldType} (hd : parseMethodDescriptor y.desc = some ⟨ps, r⟩) (hlen : as.length = ps.length) (hstack : g.stack = as.reverse ++ .ref a :: rest) (hW : 2 * g.monitorRoom + (rest.map fun v => v.category).sum ≤ W)
    (hdg : decode c.code g.pc = .ok (.invokevirtual index, 3)) :
    ∃ v T' L, Stand p l e R s m args below meth c T' (locs ++ L) (cells + rm.cells) (slots + rm.slots) ∧ Q v T'.heap L ∧ ∀ t, Steps p.tables e below (T'.setTop { g with pc := g.pc + 3, stack := v.toList ++ rest }) t → Steps p.tables e below (T.setTop g) t := by
  obtain ⟨cq, q1, q2⟩ := E.cell
  have hpv : s.PrivateAt y := Cond.privateMethod_at (mvP hZ w7 (args := #[]))
  obtain ⟨v, _, ⟨T1, L1, k1, n1⟩, -, X1, ⟨Lc, hQ, l1, y1, z1⟩, st⟩ := X.privateBack hx (y := y) hown (mvT hZ w1) (mvT hZ w6) (ownSelfSel hz (mvT hZ w5) (mvT hZ w6) hpv hy) hpv (mvT hZ w4) hy (backOf (W := W) hM hZ w4 w3 hf hl) hg hsize (Steps.refl _) (a := a) (by rw [eT]; exact q1) q2 (argsL := as) (rest := rest) (lenOf hd hlen) hstack hW hdg (fun _ _ => ⟨rfl, eT, hc, hs⟩)
  dsimp only [Pt.U, Pt.locs, Pt.cells, Pt.slots] at X1 l1 y1 z1 st hQ
  subst l1 y1 z1
  exact ⟨v, T1, Lc, X1, hQ, fun t k => st.trans k⟩
end OwnKit
theorem wd_0 {Z : State} {a0 : Array Value} (hw : ∀ d ∈ tables_1, d.before a0 Z = true) : (Jvm.Cond.classLink "com/example/tallydb/tallydb/TokenCountsFreshPromptPinLaw" (7 : Nat) "com/example/tallydb/tallydb/TokenCounts").before a0 Z = true := hw _ (List.mem_of_getElem? (i := 0) rfl)
theorem wd_1 {Z : State} {a0 : Array Value} (hw : ∀ d ∈ tables_1, d.before a0 Z = true) : (Jvm.Cond.instantiable "com/example/tallydb/tallydb/TokenCounts" (7 : Nat)).before a0 Z = true := hw _ (List.mem_of_getElem? (i := 1) rfl)
theorem wd_2 {Z : State} {a0 : Array Value} (hw : ∀ d ∈ tables_1, d.before a0 Z = true) : (Jvm.Cond.initialized "com/example/tallydb/tallydb/TokenCounts").before a0 Z = true := hw _ (List.mem_of_getElem? (i := 2) rfl)
theorem wd_3 {Z : State} {a0 : Array Value} (hw : ∀ d ∈ tables_1, d.before a0 Z = true) : (Jvm.Cond.methodLink "com/example/tallydb/tallydb/TokenCountsFreshPromptPinLaw" (9 : Nat) ({ cls := "com/example/tallydb/tallydb/TokenCounts", name := "<init>", desc := "(JJJJJJJ)V" } : Jvm.MethodName)).before a0 Z = true := hw _ (List.mem_of_getElem? (i := 3) rfl)
theorem wd_4 {Z : State} {a0 : Array Value} (hw : ∀ d ∈ tables_1, d.before a0 Z = true) : (Jvm.Cond.instanceMethod ({ cls := "com/example/tallydb/tallydb/TokenCounts", name := "<init>", desc := "(JJJJJJJ)V" } : Jvm.MethodName)).before a0 Z = true := hw _ (List.mem_of_getElem? (i := 4) rfl)
theorem wd_5 {Z : State} {a0 : Array Value} (hw : ∀ d ∈ tables_1, d.before a0 Z = true) : (Jvm.Cond.code ({ cls := "com/example/tallydb/tallydb/TokenCounts", name := "<init>", desc := "(JJJJJJJ)V" } : Jvm.MethodName) prog_36_method_2_code (15 : Nat) (Option.none : Option Jvm.ClassFile.FieldType)).before a0 Z = true := hw _ (List.mem_of_getElem? (i := 5) rfl)
theorem wd_6 {Z : State} {a0 : Array Value} (hw : ∀ d ∈ tables_1, d.before a0 Z = true) : (Jvm.Cond.methodLink "com/example/tallydb/tallydb/TokenCounts" (1 : Nat) ({ cls := "java/lang/Record", name := "<init>", desc := "()V" } : Jvm.MethodName)).before a0 Z = true := hw _ (List.mem_of_getElem? (i := 6) rfl)
theorem wd_7 {Z : State} {a0 : Array Value} (hw : ∀ d ∈ tables_1, d.before a0 Z = true) : (Jvm.Cond.instanceMethod ({ cls := "java/lang/Record", name := "<init>", desc := "()V" } : Jvm.MethodName)).before a0 Z = true := hw _ (List.mem_of_getElem? (i := 7) rfl)
theorem wd_9 {Z : State} {a0 : Array Value} (hw : ∀ d ∈ tables_1, d.before a0 Z = true) : (Jvm.Cond.initialized "java/lang/Record").before a0 Z = true := hw _ (List.mem_of_getElem? (i := 9) rfl)
theorem wd_10 {Z : State} {a0 : Array Value} (hw : ∀ d ∈ tables_1, d.before a0 Z = true) : (Jvm.Cond.code ({ cls := "java/lang/Record", name := "<init>", desc := "()V" } : Jvm.MethodName) jdk_30_method_1_code (1 : Nat) (Option.none : Option Jvm.ClassFile.FieldType)).before a0 Z = true := hw _ (List.mem_of_getElem? (i := 10) rfl)
theorem wd_11 {Z : State} {a0 : Array Value} (hw : ∀ d ∈ tables_1, d.before a0 Z = true) : (Jvm.Cond.methodLink "java/lang/Record" (1 : Nat) ({ cls := "java/lang/Object", name := "<init>", desc := "()V" } : Jvm.MethodName)).before a0 Z = true := hw _ (List.mem_of_getElem? (i := 11) rfl)
theorem wd_12 {Z : State} {a0 : Array Value} (hw : ∀ d ∈ tables_1, d.before a0 Z = true) : (Jvm.Cond.instanceMethod ({ cls := "java/lang/Object", name := "<init>", desc := "()V" } : Jvm.MethodName)).before a0 Z = true := hw _ (List.mem_of_getElem? (i := 12) rfl)
theorem wd_13 {Z : State} {a0 : Array Value} (hw : ∀ d ∈ tables_1, d.before a0 Z = true) : (Jvm.Cond.code ({ cls := "java/lang/Object", name := "<init>", desc := "()V" } : Jvm.MethodName) object_method_1_code (1 : Nat) (Option.none : Option Jvm.ClassFile.FieldType)).before a0 Z = true := hw _ (List.mem_of_getElem? (i := 13) rfl)
theorem wd_14 {Z : State} {a0 : Array Value} (hw : ∀ d ∈ tables_1, d.before a0 Z = true) : (Jvm.Cond.fieldLink "com/example/tallydb/tallydb/TokenCounts" (7 : Nat) "com/example/tallydb/tallydb/TokenCounts" "prompt" "J").before a0 Z = true := hw _ (List.mem_of_getElem? (i := 14) rfl)
theorem wd_15 {Z : State} {a0 : Array Value} (hw : ∀ d ∈ tables_1, d.before a0 Z = true) : (Jvm.Cond.laysFinal "com/example/tallydb/tallydb/TokenCounts" "com/example/tallydb/tallydb/TokenCounts" "prompt" "J").before a0 Z = true := hw _ (List.mem_of_getElem? (i := 15) rfl)
theorem wd_16 {Z : State} {a0 : Array Value} (hw : ∀ d ∈ tables_1, d.before a0 Z = true) : (Jvm.Cond.fieldLink "com/example/tallydb/tallydb/TokenCounts" (13 : Nat) "com/example/tallydb/tallydb/TokenCounts" "cachedPrompt" "J").before a0 Z = true := hw _ (List.mem_of_getElem? (i := 16) rfl)
theorem wd_17 {Z : State} {a0 : Array Value} (hw : ∀ d ∈ tables_1, d.before a0 Z = true) : (Jvm.Cond.laysFinal "com/example/tallydb/tallydb/TokenCounts" "com/example/tallydb/tallydb/TokenCounts" "cachedPrompt" "J").before a0 Z = true := hw _ (List.mem_of_getElem? (i := 17) rfl)
theorem wd_18 {Z : State} {a0 : Array Value} (hw : ∀ d ∈ tables_1, d.before a0 Z = true) : (Jvm.Cond.fieldLink "com/example/tallydb/tallydb/TokenCounts" (16 : Nat) "com/example/tallydb/tallydb/TokenCounts" "cacheWritePrompt" "J").before a0 Z = true := hw _ (List.mem_of_getElem? (i := 18) rfl)
theorem wd_19 {Z : State} {a0 : Array Value} (hw : ∀ d ∈ tables_1, d.before a0 Z = true) : (Jvm.Cond.laysFinal "com/example/tallydb/tallydb/TokenCounts" "com/example/tallydb/tallydb/TokenCounts" "cacheWritePrompt" "J").before a0 Z = true := hw _ (List.mem_of_getElem? (i := 19) rfl)
theorem wd_20 {Z : State} {a0 : Array Value} (hw : ∀ d ∈ tables_1, d.before a0 Z = true) : (Jvm.Cond.fieldLink "com/example/tallydb/tallydb/TokenCounts" (19 : Nat) "com/example/tallydb/tallydb/TokenCounts" "completion" "J").before a0 Z = true := hw _ (List.mem_of_getElem? (i := 20) rfl)
theorem wd_21 {Z : State} {a0 : Array Value} (hw : ∀ d ∈ tables_1, d.before a0 Z = true) : (Jvm.Cond.laysFinal "com/example/tallydb/tallydb/TokenCounts" "com/example/tallydb/tallydb/TokenCounts" "completion" "J").before a0 Z = true := hw _ (List.mem_of_getElem? (i := 21) rfl)
theorem wd_22 {Z : State} {a0 : Array Value} (hw : ∀ d ∈ tables_1, d.before a0 Z = true) : (Jvm.Cond.fieldLink "com/example/tallydb/tallydb/TokenCounts" (22 : Nat) "com/example/tallydb/tallydb/TokenCounts" "cacheWrite1hPrompt" "J").before a0 Z = true := hw _ (List.mem_of_getElem? (i := 22) rfl)
theorem wd_23 {Z : State} {a0 : Array Value} (hw : ∀ d ∈ tables_1, d.before a0 Z = true) : (Jvm.Cond.laysFinal "com/example/tallydb/tallydb/TokenCounts" "com/example/tallydb/tallydb/TokenCounts" "cacheWrite1hPrompt" "J").before a0 Z = true := hw _ (List.mem_of_getElem? (i := 23) rfl)
theorem wd_24 {Z : State} {a0 : Array Value} (hw : ∀ d ∈ tables_1, d.before a0 Z = true) : (Jvm.Cond.fieldLink "com/example/tallydb/tallydb/TokenCounts" (25 : Nat) "com/example/tallydb/tallydb/TokenCounts" "audioPrompt" "J").before a0 Z = true := hw _ (List.mem_of_getElem? (i := 24) rfl)
theorem wd_25 {Z : State} {a0 : Array Value} (hw : ∀ d ∈ tables_1, d.before a0 Z = true) : (Jvm.Cond.laysFinal "com/example/tallydb/tallydb/TokenCounts" "com/example/tallydb/tallydb/TokenCounts" "audioPrompt" "J").before a0 Z = true := hw _ (List.mem_of_getElem? (i := 25) rfl)
theorem wd_26 {Z : State} {a0 : Array Value} (hw : ∀ d ∈ tables_1, d.before a0 Z = true) : (Jvm.Cond.fieldLink "com/example/tallydb/tallydb/TokenCounts" (28 : Nat) "com/example/tallydb/tallydb/TokenCounts" "audioCompletion" "J").before a0 Z = true := hw _ (List.mem_of_getElem? (i := 26) rfl)
theorem wd_27 {Z : State} {a0 : Array Value} (hw : ∀ d ∈ tables_1, d.before a0 Z = true) : (Jvm.Cond.laysFinal "com/example/tallydb/tallydb/TokenCounts" "com/example/tallydb/tallydb/TokenCounts" "audioCompletion" "J").before a0 Z = true := hw _ (List.mem_of_getElem? (i := 27) rfl)
theorem wd_28 {Z : State} {a0 : Array Value} (hw : ∀ d ∈ tables_1, d.before a0 Z = true) : (Jvm.Cond.methodLink "com/example/tallydb/tallydb/TokenCountsFreshPromptPinLaw" (12 : Nat) ({ cls := "com/example/tallydb/tallydb/TokenCounts", name := "freshPrompt", desc := "()J" } : Jvm.MethodName)).before a0 Z = true := hw _ (List.mem_of_getElem? (i := 28) rfl)
theorem wd_29 {Z : State} {a0 : Array Value} (hw : ∀ d ∈ tables_1, d.before a0 Z = true) : (Jvm.Cond.declares ({ cls := "com/example/tallydb/tallydb/TokenCounts", name := "freshPrompt", desc := "()J" } : Jvm.MethodName)).before a0 Z = true := hw _ (List.mem_of_getElem? (i := 29) rfl)
theorem wd_30 {Z : State} {a0 : Array Value} (hw : ∀ d ∈ tables_1, d.before a0 Z = true) : (Jvm.Cond.instanceMethod ({ cls := "com/example/tallydb/tallydb/TokenCounts", name := "freshPrompt", desc := "()J" } : Jvm.MethodName)).before a0 Z = true := hw _ (List.mem_of_getElem? (i := 30) rfl)
theorem wd_31 {Z : State} {a0 : Array Value} (hw : ∀ d ∈ tables_1, d.before a0 Z = true) : (Jvm.Cond.selects "com/example/tallydb/tallydb/TokenCounts" ({ cls := "com/example/tallydb/tallydb/TokenCounts", name := "freshPrompt", desc := "()J" } : Jvm.MethodName) ({ cls := "com/example/tallydb/tallydb/TokenCounts", name := "freshPrompt", desc := "()J" } : Jvm.MethodName)).before a0 Z = true := hw _ (List.mem_of_getElem? (i := 31) rfl)
theorem wd_32 {Z : State} {a0 : Array Value} (hw : ∀ d ∈ tables_1, d.before a0 Z = true) : (Jvm.Cond.code ({ cls := "com/example/tallydb/tallydb/TokenCounts", name := "freshPrompt", desc := "()J" } : Jvm.MethodName) prog_36_method_3_code (1 : Nat) (Option.some Jvm.ClassFile.FieldType.long)).before a0 Z = true := hw _ (List.mem_of_getElem? (i := 32) rfl)
theorem ef_rm2 : ∀ (m : MethodId) (oa : Addr), entryFrame m #[(.ref oa)] 1 = mkF m 0 #[.val (.ref oa)] [] := by intros; first | (simp [entryFrame, mkF, argsToLocals, Value.category]; done) | rfl
theorem d2_0 : decode jdk_30_method_1_code 0 = .ok (.aload_n 0, 1) := by decide +kernel
theorem d2_1 : decode jdk_30_method_1_code 1 = .ok (.invokespecial 1, 3) := by decide +kernel
theorem d2_4 : decode jdk_30_method_1_code 4 = .ok (.return_, 1) := by decide +kernel
theorem pn_2 : plainName "java/lang/Record" = true := by first | (simp [plainName, overriddenIn]; done) | decide +kernel
theorem ef_rm1 : ∀ (m : MethodId) (oa : Addr) (qa : Int64) (qb : Int64) (qc : Int64) (qd : Int64) (qe : Int64) (qf : Int64) (qg : Int64), entryFrame m #[(.ref oa), (.long qa), (.long qb), (.long qc), (.long qd), (.long qe), (.long qf), (.long qg)] 15 = mkF m 0 #[.val (.ref oa), .val (.long qa), .second, .val (.long qb), .second, .val (.long qc), .second, .val (.long qd), .second, .val (.long qe), .second, .val (.long qf), .second, .val (.long qg), .second] [] := by intros; first | (simp [entryFrame, mkF, argsToLocals, Value.category]; done) | rfl
theorem d1_0 : decode prog_36_method_2_code 0 = .ok (.aload_n 0, 1) := by decide +kernel
theorem pd_0 : parseMethodDescriptor "()V" = some ⟨[], none⟩ := by decide +kernel
theorem d1_1 : decode prog_36_method_2_code 1 = .ok (.invokespecial 1, 3) := by decide +kernel
theorem d1_4 : decode prog_36_method_2_code 4 = .ok (.aload_n 0, 1) := by decide +kernel
theorem d1_5 : decode prog_36_method_2_code 5 = .ok (.lload_n 1, 1) := by decide +kernel
theorem d1_6 : decode prog_36_method_2_code 6 = .ok (.putfield 7, 3) := by decide +kernel
theorem d1_9 : decode prog_36_method_2_code 9 = .ok (.aload_n 0, 1) := by decide +kernel
theorem d1_10 : decode prog_36_method_2_code 10 = .ok (.lload_n 3, 1) := by decide +kernel
theorem d1_11 : decode prog_36_method_2_code 11 = .ok (.putfield 13, 3) := by decide +kernel
theorem d1_14 : decode prog_36_method_2_code 14 = .ok (.aload_n 0, 1) := by decide +kernel
theorem d1_15 : decode prog_36_method_2_code 15 = .ok (.lload 5, 2) := by decide +kernel
theorem d1_17 : decode prog_36_method_2_code 17 = .ok (.putfield 16, 3) := by decide +kernel
theorem d1_20 : decode prog_36_method_2_code 20 = .ok (.aload_n 0, 1) := by decide +kernel
theorem d1_21 : decode prog_36_method_2_code 21 = .ok (.lload 7, 2) := by decide +kernel
theorem d1_23 : decode prog_36_method_2_code 23 = .ok (.putfield 19, 3) := by decide +kernel
theorem d1_26 : decode prog_36_method_2_code 26 = .ok (.aload_n 0, 1) := by decide +kernel
theorem d1_27 : decode prog_36_method_2_code 27 = .ok (.lload 9, 2) := by decide +kernel
theorem d1_29 : decode prog_36_method_2_code 29 = .ok (.putfield 22, 3) := by decide +kernel
theorem d1_32 : decode prog_36_method_2_code 32 = .ok (.aload_n 0, 1) := by decide +kernel
theorem d1_33 : decode prog_36_method_2_code 33 = .ok (.lload 11, 2) := by decide +kernel
theorem d1_35 : decode prog_36_method_2_code 35 = .ok (.putfield 25, 3) := by decide +kernel
theorem d1_38 : decode prog_36_method_2_code 38 = .ok (.aload_n 0, 1) := by decide +kernel
theorem d1_39 : decode prog_36_method_2_code 39 = .ok (.lload 13, 2) := by decide +kernel
theorem d1_41 : decode prog_36_method_2_code 41 = .ok (.putfield 28, 3) := by decide +kernel
theorem d1_44 : decode prog_36_method_2_code 44 = .ok (.return_, 1) := by decide +kernel
theorem pn_1 : plainName "com/example/tallydb/tallydb/TokenCounts" = true := by first | (simp [plainName, overriddenIn]; done) | decide +kernel
theorem ef_rm4 : ∀ (m : MethodId) (oa : Addr), entryFrame m #[(.ref oa)] 1 = mkF m 0 #[.val (.ref oa)] [] := by intros; first | (simp [entryFrame, mkF, argsToLocals, Value.category]; done) | rfl
theorem d4_0 : decode prog_36_method_3_code 0 = .ok (.aload_n 0, 1) := by decide +kernel
theorem d4_1 : decode prog_36_method_3_code 1 = .ok (.getfield 7, 3) := by decide +kernel
theorem d4_4 : decode prog_36_method_3_code 4 = .ok (.aload_n 0, 1) := by decide +kernel
theorem d4_5 : decode prog_36_method_3_code 5 = .ok (.getfield 13, 3) := by decide +kernel
theorem d4_8 : decode prog_36_method_3_code 8 = .ok (.lsub, 1) := by decide +kernel
theorem d4_9 : decode prog_36_method_3_code 9 = .ok (.aload_n 0, 1) := by decide +kernel
theorem d4_10 : decode prog_36_method_3_code 10 = .ok (.getfield 16, 3) := by decide +kernel
theorem d4_13 : decode prog_36_method_3_code 13 = .ok (.lsub, 1) := by decide +kernel
theorem d4_14 : decode prog_36_method_3_code 14 = .ok (.lreturn, 1) := by decide +kernel
theorem pn_4 : plainName "com/example/tallydb/tallydb/TokenCounts" = true := by first | (simp [plainName, overriddenIn]; done) | decide +kernel
theorem ef_rm0 : ∀ (m : MethodId) (qa : Int64) (qb : Int64) (qc : Int64) (qd : Int64) (qe : Int64) (qf : Int64), entryFrame m #[(.long qa), (.long qb), (.long qc), (.long qd), (.long qe), (.long qf)] maxLocals = mkF m 0 #[.val (.long qa), .second, .val (.long qb), .second, .val (.long qc), .second, .val (.long qd), .second, .val (.long qe), .second, .val (.long qf), .second, .unset, .unset, .unset, .unset, .unset, .unset, .unset] [] := by intros; first | (simp [entryFrame, mkF, argsToLocals, Value.category, maxLocals]; done) | rfl
theorem pd_1 : parseMethodDescriptor "(JJJJJJJ)V" = some ⟨[.long, .long, .long, .long, .long, .long, .long], none⟩ := by decide +kernel
theorem pd_2 : parseMethodDescriptor "()J" = some ⟨[], some .long⟩ := by decide +kernel
theorem pn_0 : plainName "com/example/tallydb/tallydb/TokenCountsFreshPromptPinLaw" = true := by first | (simp [plainName, overriddenIn]; done) | decide +kernel
theorem own_sum (p c w : Int64) : p - c - w + c + w = p := by
  apply Int64.toBitVec_inj.mp
  simp only [Int64.toBitVec_add, Int64.toBitVec_sub]
  generalize p.toBitVec = a
  generalize c.toBitVec = b
  generalize w.toBitVec = d
  apply BitVec.eq_of_toNat_eq
  simp only [BitVec.toNat_add, BitVec.toNat_sub]
  omega
theorem own_b {p c w f : Int64} (e : f = p - c - w) (h1 : ¬ p < 0) (h2 : ¬ c < 0) (h3 : ¬ w < 0) (h4 : ¬ p < c) (h5 : ¬ p - c < w) : ¬ f < 0 ∧ ¬ p < f := by
  subst e
  have a1 := c_lsub p c
  have a2 := c_lsub (p - c) w
  have r1 := rng64 p
  have r2 := rng64 c
  have r3 := rng64 w
  have r4 := rng64 (p - c)
  have r5 := rng64 (p - c - w)
  have e0 : (0 : Int64).toInt = 0 := rfl
  simp only [Int64.lt_iff_toInt_lt, e0] at *
  omega
set_option maxRecDepth 65536 in
set_option maxHeartbeats 40000000 in
theorem rm2 (l : Launch) (Z : State) (a0 : Array Value) (hw : ∀ d ∈ tables_1, d.before a0 Z = true) (oa : Addr)  (h0 : Heap) (n0 : Nat) (Z0 : n0 ≤ h0.size)  :
    ownMet l Z (⟨"java/lang/Record", "<init>", "()V"⟩ : MethodName) jdk_30_method_1_code 1 none [] ({ frames := 1, cells := 0, slots := 0, locals := 12 } : Room) #[(.ref oa)] h0 (fun v h L => v = none ∧ L = [] ∧ h = h0) := by
  refine ownMet.of (plainFor_of_name pn_2) ?_
  intro p e s m below meth c T0 hx hby hml hZ hown hnm hret hlk X0 e0
  refine ownEnds.cast (ef_rm2 m oa) ?_
  show ownEnds _ _ _ _ (T0.setTop (mkF m 0 #[.val (.ref oa)] []))
  refine ownEnds.law (fun t k => XS.aloadN X0.here hx rfl (hb hby d2_0) rfl rfl k) ?_
  show ownEnds _ _ _ _ (T0.setTop (mkF m 1 #[.val (.ref oa)] [(.ref oa)]))
  obtain ⟨T1, X1, e1, st1⟩ := initO X0 hx hZ hown (wd_11 hw) (wd_12 hw) (wd_13 hw) e0 (g := (mkF m 1 #[.val (.ref oa)] [(.ref oa)])) rfl (by rw [hml]; rfl) rfl (hb hby d2_1) (by decide) (W := 0) (by show 2 * 0 + _ ≤ _; exact Nat.le_of_eq rfl) (by decide)
  refine ownEnds.law st1 ?_
  show ownEnds _ _ _ _ (T1.setTop (mkF m 4 #[.val (.ref oa)] []))
  refine ownRetV X1 hlk hx hret (hb hby d2_4) (by decide) (by decide) ?_
  exact ⟨rfl, rfl, e1⟩
set_option maxRecDepth 65536 in
set_option maxHeartbeats 40000000 in
theorem rm1 (l : Launch) (Z : State) (a0 : Array Value) (hw : ∀ d ∈ tables_1, d.before a0 Z = true) (oa : Addr) (qa : Int64) (qb : Int64) (qc : Int64) (qd : Int64) (qe : Int64) (qf : Int64) (qg : Int64)  (h0 : Heap) (n0 : Nat) (Z0 : n0 ≤ h0.size) (E_oa : Exa Z h0 oa "com/example/tallydb/tallydb/TokenCounts") (g_oa : n0 ≤ oa) (F_oa_prompt : Fld Z h0 oa "com/example/tallydb/tallydb/TokenCounts" "prompt" "J" (.long (0 : Int64))) (F_oa_cachedPrompt : Fld Z h0 oa "com/example/tallydb/tallydb/TokenCounts" "cachedPrompt" "J" (.long (0 : Int64))) (F_oa_cacheWritePrompt : Fld Z h0 oa "com/example/tallydb/tallydb/TokenCounts" "cacheWritePrompt" "J" (.long (0 : Int64))) (F_oa_completion : Fld Z h0 oa "com/example/tallydb/tallydb/TokenCounts" "completion" "J" (.long (0 : Int64))) (F_oa_cacheWrite1hPrompt : Fld Z h0 oa "com/example/tallydb/tallydb/TokenCounts" "cacheWrite1hPrompt" "J" (.long (0 : Int64))) (F_oa_audioPrompt : Fld Z h0 oa "com/example/tallydb/tallydb/TokenCounts" "audioPrompt" "J" (.long (0 : Int64))) (F_oa_audioCompletion : Fld Z h0 oa "com/example/tallydb/tallydb/TokenCounts" "audioCompletion" "J" (.long (0 : Int64))) :
    ownMet l Z (⟨"com/example/tallydb/tallydb/TokenCounts", "<init>", "(JJJJJJJ)V"⟩ : MethodName) prog_36_method_2_code 15 none [] ({ frames := 2, cells := 0, slots := 0, locals := 24 } : Room) #[(.ref oa), (.long qa), (.long qb), (.long qc), (.long qd), (.long qe), (.long qf), (.long qg)] h0 (fun v h L => v = none ∧ Fr n0 L ∧ Keep h0 h [oa] ∧ Exa Z h oa "com/example/tallydb/tallydb/TokenCounts" ∧ Fld Z h oa "com/example/tallydb/tallydb/TokenCounts" "prompt" "J" (.long qa) ∧ Fld Z h oa "com/example/tallydb/tallydb/TokenCounts" "cachedPrompt" "J" (.long qb) ∧ Fld Z h oa "com/example/tallydb/tallydb/TokenCounts" "cacheWritePrompt" "J" (.long qc) ∧ Fld Z h oa "com/example/tallydb/tallydb/TokenCounts" "completion" "J" (.long qd) ∧ Fld Z h oa "com/example/tallydb/tallydb/TokenCounts" "cacheWrite1hPrompt" "J" (.long qe) ∧ Fld Z h oa "com/example/tallydb/tallydb/TokenCounts" "audioPrompt" "J" (.long qf) ∧ Fld Z h oa "com/example/tallydb/tallydb/TokenCounts" "audioCompletion" "J" (.long qg)) := by
  refine ownMet.of (plainFor_of_name pn_1) ?_
  intro p e s m below meth c T0 hx hby hml hZ hown hnm hret hlk X0 e0
  refine ownEnds.cast (ef_rm1 m oa qa qb qc qd qe qf qg) ?_
  show ownEnds _ _ _ _ (T0.setTop (mkF m 0 #[.val (.ref oa), .val (.long qa), .second, .val (.long qb), .second, .val (.long qc), .second, .val (.long qd), .second, .val (.long qe), .second, .val (.long qf), .second, .val (.long qg), .second] []))
  refine ownEnds.law (fun t k => XS.aloadN X0.here hx rfl (hb hby d1_0) rfl rfl k) ?_
  show ownEnds _ _ _ _ (T0.setTop (mkF m 1 #[.val (.ref oa), .val (.long qa), .second, .val (.long qb), .second, .val (.long qc), .second, .val (.long qd), .second, .val (.long qe), .second, .val (.long qf), .second, .val (.long qg), .second] [(.ref oa)]))
  obtain ⟨v1, T1, L1, X1, hQ1, st1⟩ := ownCallC X0 hx hZ hown (y := (⟨"java/lang/Record", "<init>", "()V"⟩ : MethodName)) rfl (a := oa) (as := []) (wd_6 hw) (wd_7 hw) (wd_9 hw) (wd_10 hw) (by decide) (rm2 l Z a0 hw oa  h0 n0 Z0 ) e0 0 (by decide) (by decide) (by decide) (by decide) (g := (mkF m 1 #[.val (.ref oa), .val (.long qa), .second, .val (.long qb), .second, .val (.long qc), .second, .val (.long qd), .second, .val (.long qe), .second, .val (.long qf), .second, .val (.long qg), .second] [(.ref oa)])) rfl (by rw [hml]; rfl) (rest := []) pd_0 rfl rfl (by show 2 * 0 + _ ≤ _; exact Nat.le_of_eq rfl) (hb hby d1_1)
  obtain ⟨rfl, rfl, e1⟩ := hQ1
  rw [List.append_nil] at X1
  refine ownEnds.law st1 ?_
  show ownEnds _ _ _ _ (T1.setTop (mkF m 4 #[.val (.ref oa), .val (.long qa), .second, .val (.long qb), .second, .val (.long qc), .second, .val (.long qd), .second, .val (.long qe), .second, .val (.long qf), .second, .val (.long qg), .second] []))
  refine ownEnds.law (fun t k => XS.aloadN X1.here hx rfl (hb hby d1_4) rfl rfl (XS.lloadN X1.here hx rfl (hb hby d1_5) rfl k)) ?_
  show ownEnds _ _ _ _ (T1.setTop (mkF m 6 #[.val (.ref oa), .val (.long qa), .second, .val (.long qb), .second, .val (.long qc), .second, .val (.long qd), .second, .val (.long qe), .second, .val (.long qf), .second, .val (.long qg), .second] [(.long qa), (.ref oa)]))
  obtain ⟨T2, h2, X2, e2, W2, st2⟩ := putF X1 hx hZ hown (host := "") (Or.inl (wd_14 hw)) Via.refl e1 F_oa_prompt E_oa (Or.inr ⟨(wd_15 hw), rfl, hnm⟩) (wd_1 hw) (ty := .long) (by decide) rfl rfl (g := (mkF m 6 #[.val (.ref oa), .val (.long qa), .second, .val (.long qb), .second, .val (.long qc), .second, .val (.long qd), .second, .val (.long qe), .second, .val (.long qf), .second, .val (.long qg), .second] [(.long qa), (.ref oa)])) rfl rfl (hb hby d1_6)
  refine ownEnds.law st2 ?_
  have N2 := Fr.snoc X2 (Fr.nil n0) g_oa
  have KK2 : Keep h0 h2 [oa] := (Keep.refl h0 [oa]).wr W2 (Or.inl (List.mem_of_getElem? (i := 0) rfl))
  have Z2 : n0 ≤ h2.size := by rw [W2.size]; exact Z0
  have Fw2 : Fld Z h2 oa "com/example/tallydb/tallydb/TokenCounts" "prompt" "J" (.long qa) := Fld.same W2 F_oa_prompt
  show ownEnds _ _ _ _ (T2.setTop (mkF m 9 #[.val (.ref oa), .val (.long qa), .second, .val (.long qb), .second, .val (.long qc), .second, .val (.long qd), .second, .val (.long qe), .second, .val (.long qf), .second, .val (.long qg), .second] []))
  refine ownEnds.law (fun t k => XS.aloadN X2.here hx rfl (hb hby d1_9) rfl rfl (XS.lloadN X2.here hx rfl (hb hby d1_10) rfl k)) ?_
  show ownEnds _ _ _ _ (T2.setTop (mkF m 11 #[.val (.ref oa), .val (.long qa), .second, .val (.long qb), .second, .val (.long qc), .second, .val (.long qd), .second, .val (.long qe), .second, .val (.long qf), .second, .val (.long qg), .second] [(.long qb), (.ref oa)]))
  have f3 := (Exa.wr W2 E_oa)
  have f4 := (Fld.other W2 F_oa_cachedPrompt (Or.inr (slot_ne (Or.inr (wd_17 hw)) (Or.inr (wd_15 hw)) (by decide) (t := .long) (t' := .long) (by decide) (by decide))))
  obtain ⟨T5, h5, X5, e5, W5, st5⟩ := putF X2 hx hZ hown (host := "") (Or.inl (wd_16 hw)) Via.refl e2 f4 f3 (Or.inr ⟨(wd_17 hw), rfl, hnm⟩) (wd_1 hw) (ty := .long) (by decide) rfl rfl (g := (mkF m 11 #[.val (.ref oa), .val (.long qa), .second, .val (.long qb), .second, .val (.long qc), .second, .val (.long qd), .second, .val (.long qe), .second, .val (.long qf), .second, .val (.long qg), .second] [(.long qb), (.ref oa)])) rfl rfl (hb hby d1_11)
  refine ownEnds.law st5 ?_
  have N5 := Fr.snoc X5 N2 g_oa
  have KK5 : Keep h0 h5 [oa] := (KK2).wr W5 (Or.inl (List.mem_of_getElem? (i := 0) rfl))
  have Z5 : n0 ≤ h5.size := by rw [W5.size]; exact Z2
  have Fw5 : Fld Z h5 oa "com/example/tallydb/tallydb/TokenCounts" "cachedPrompt" "J" (.long qb) := Fld.same W5 f4
  show ownEnds _ _ _ _ (T5.setTop (mkF m 14 #[.val (.ref oa), .val (.long qa), .second, .val (.long qb), .second, .val (.long qc), .second, .val (.long qd), .second, .val (.long qe), .second, .val (.long qf), .second, .val (.long qg), .second] []))
  refine ownEnds.law (fun t k => XS.aloadN X5.here hx rfl (hb hby d1_14) rfl rfl (XS.lload X5.here hx rfl (hb hby d1_15) rfl k)) ?_
  show ownEnds _ _ _ _ (T5.setTop (mkF m 17 #[.val (.ref oa), .val (.long qa), .second, .val (.long qb), .second, .val (.long qc), .second, .val (.long qd), .second, .val (.long qe), .second, .val (.long qf), .second, .val (.long qg), .second] [(.long qc), (.ref oa)]))
  have f6 := (Exa.wr W5 f3)
  have f7 := (Fld.other W5 (Fld.other W2 F_oa_cacheWritePrompt (Or.inr (slot_ne (Or.inr (wd_19 hw)) (Or.inr (wd_15 hw)) (by decide) (t := .long) (t' := .long) (by decide) (by decide)))) (Or.inr (slot_ne (Or.inr (wd_19 hw)) (Or.inr (wd_17 hw)) (by decide) (t := .long) (t' := .long) (by decide) (by decide))))
  obtain ⟨T8, h8, X8, e8, W8, st8⟩ := putF X5 hx hZ hown (host := "") (Or.inl (wd_18 hw)) Via.refl e5 f7 f6 (Or.inr ⟨(wd_19 hw), rfl, hnm⟩) (wd_1 hw) (ty := .long) (by decide) rfl rfl (g := (mkF m 17 #[.val (.ref oa), .val (.long qa), .second, .val (.long qb), .second, .val (.long qc), .second, .val (.long qd), .second, .val (.long qe), .second, .val (.long qf), .second, .val (.long qg), .second] [(.long qc), (.ref oa)])) rfl rfl (hb hby d1_17)
  refine ownEnds.law st8 ?_
  have N8 := Fr.snoc X8 N5 g_oa
  have KK8 : Keep h0 h8 [oa] := (KK5).wr W8 (Or.inl (List.mem_of_getElem? (i := 0) rfl))
  have Z8 : n0 ≤ h8.size := by rw [W8.size]; exact Z5
  have Fw8 : Fld Z h8 oa "com/example/tallydb/tallydb/TokenCounts" "cacheWritePrompt" "J" (.long qc) := Fld.same W8 f7
  show ownEnds _ _ _ _ (T8.setTop (mkF m 20 #[.val (.ref oa), .val (.long qa), .second, .val (.long qb), .second, .val (.long qc), .second, .val (.long qd), .second, .val (.long qe), .second, .val (.long qf), .second, .val (.long qg), .second] []))
  refine ownEnds.law (fun t k => XS.aloadN X8.here hx rfl (hb hby d1_20) rfl rfl (XS.lload X8.here hx rfl (hb hby d1_21) rfl k)) ?_
  show ownEnds _ _ _ _ (T8.setTop (mkF m 23 #[.val (.ref oa), .val (.long qa), .second, .val (.long qb), .second, .val (.long qc), .second, .val (.long qd), .second, .val (.long qe), .second, .val (.long qf), .second, .val (.long qg), .second] [(.long qd), (.ref oa)]))
  have f9 := (Exa.wr W8 f6)
  have f10 := (Fld.other W8 (Fld.other W5 (Fld.other W2 F_oa_completion (Or.inr (slot_ne (Or.inr (wd_21 hw)) (Or.inr (wd_15 hw)) (by decide) (t := .long) (t' := .long) (by decide) (by decide)))) (Or.inr (slot_ne (Or.inr (wd_21 hw)) (Or.inr (wd_17 hw)) (by decide) (t := .long) (t' := .long) (by decide) (by decide)))) (Or.inr (slot_ne (Or.inr (wd_21 hw)) (Or.inr (wd_19 hw)) (by decide) (t := .long) (t' := .long) (by decide) (by decide))))
  obtain ⟨T11, h11, X11, e11, W11, st11⟩ := putF X8 hx hZ hown (host := "") (Or.inl (wd_20 hw)) Via.refl e8 f10 f9 (Or.inr ⟨(wd_21 hw), rfl, hnm⟩) (wd_1 hw) (ty := .long) (by decide) rfl rfl (g := (mkF m 23 #[.val (.ref oa), .val (.long qa), .second, .val (.long qb), .second, .val (.long qc), .second, .val (.long qd), .second, .val (.long qe), .second, .val (.long qf), .second, .val (.long qg), .second] [(.long qd), (.ref oa)])) rfl rfl (hb hby d1_23)
  refine ownEnds.law st11 ?_
  have N11 := Fr.snoc X11 N8 g_oa
  have KK11 : Keep h0 h11 [oa] := (KK8).wr W11 (Or.inl (List.mem_of_getElem? (i := 0) rfl))
  have Z11 : n0 ≤ h11.size := by rw [W11.size]; exact Z8
  have Fw11 : Fld Z h11 oa "com/example/tallydb/tallydb/TokenCounts" "completion" "J" (.long qd) := Fld.same W11 f10
  show ownEnds _ _ _ _ (T11.setTop (mkF m 26 #[.val (.ref oa), .val (.long qa), .second, .val (.long qb), .second, .val (.long qc), .second, .val (.long qd), .second, .val (.long qe), .second, .val (.long qf), .second, .val (.long qg), .second] []))
  refine ownEnds.law (fun t k => XS.aloadN X11.here hx rfl (hb hby d1_26) rfl rfl (XS.lload X11.here hx rfl (hb hby d1_27) rfl k)) ?_
  show ownEnds _ _ _ _ (T11.setTop (mkF m 29 #[.val (.ref oa), .val (.long qa), .second, .val (.long qb), .second, .val (.long qc), .second, .val (.long qd), .second, .val (.long qe), .second, .val (.long qf), .second, .val (.long qg), .second] [(.long qe), (.ref oa)]))
  have f12 := (Exa.wr W11 f9)
  have f13 := (Fld.other W11 (Fld.other W8 (Fld.other W5 (Fld.other W2 F_oa_cacheWrite1hPrompt (Or.inr (slot_ne (Or.inr (wd_23 hw)) (Or.inr (wd_15 hw)) (by decide) (t := .long) (t' := .long) (by decide) (by decide)))) (Or.inr (slot_ne (Or.inr (wd_23 hw)) (Or.inr (wd_17 hw)) (by decide) (t := .long) (t' := .long) (by decide) (by decide)))) (Or.inr (slot_ne (Or.inr (wd_23 hw)) (Or.inr (wd_19 hw)) (by decide) (t := .long) (t' := .long) (by decide) (by decide)))) (Or.inr (slot_ne (Or.inr (wd_23 hw)) (Or.inr (wd_21 hw)) (by decide) (t := .long) (t' := .long) (by decide) (by decide))))
  obtain ⟨T14, h14, X14, e14, W14, st14⟩ := putF X11 hx hZ hown (host := "") (Or.inl (wd_22 hw)) Via.refl e11 f13 f12 (Or.inr ⟨(wd_23 hw), rfl, hnm⟩) (wd_1 hw) (ty := .long) (by decide) rfl rfl (g := (mkF m 29 #[.val (.ref oa), .val (.long qa), .second, .val (.long qb), .second, .val (.long qc), .second, .val (.long qd), .second, .val (.long qe), .second, .val (.long qf), .second, .val (.long qg), .second] [(.long qe), (.ref oa)])) rfl rfl (hb hby d1_29)
  refine ownEnds.law st14 ?_
  have N14 := Fr.snoc X14 N11 g_oa
  have KK14 : Keep h0 h14 [oa] := (KK11).wr W14 (Or.inl (List.mem_of_getElem? (i := 0) rfl))
  have Z14 : n0 ≤ h14.size := by rw [W14.size]; exact Z11
  have Fw14 : Fld Z h14 oa "com/example/tallydb/tallydb/TokenCounts" "cacheWrite1hPrompt" "J" (.long qe) := Fld.same W14 f13
  show ownEnds _ _ _ _ (T14.setTop (mkF m 32 #[.val (.ref oa), .val (.long qa), .second, .val (.long qb), .second, .val (.long qc), .second, .val (.long qd), .second, .val (.long qe), .second, .val (.long qf), .second, .val (.long qg), .second] []))
  refine ownEnds.law (fun t k => XS.aloadN X14.here hx rfl (hb hby d1_32) rfl rfl (XS.lload X14.here hx rfl (hb hby d1_33) rfl k)) ?_
  show ownEnds _ _ _ _ (T14.setTop (mkF m 35 #[.val (.ref oa), .val (.long qa), .second, .val (.long qb), .second, .val (.long qc), .second, .val (.long qd), .second, .val (.long qe), .second, .val (.long qf), .second, .val (.long qg), .second] [(.long qf), (.ref oa)]))
  have f15 := (Exa.wr W14 f12)
  have f16 := (Fld.other W14 (Fld.other W11 (Fld.other W8 (Fld.other W5 (Fld.other W2 F_oa_audioPrompt (Or.inr (slot_ne (Or.inr (wd_25 hw)) (Or.inr (wd_15 hw)) (by decide) (t := .long) (t' := .long) (by decide) (by decide)))) (Or.inr (slot_ne (Or.inr (wd_25 hw)) (Or.inr (wd_17 hw)) (by decide) (t := .long) (t' := .long) (by decide) (by decide)))) (Or.inr (slot_ne (Or.inr (wd_25 hw)) (Or.inr (wd_19 hw)) (by decide) (t := .long) (t' := .long) (by decide) (by decide)))) (Or.inr (slot_ne (Or.inr (wd_25 hw)) (Or.inr (wd_21 hw)) (by decide) (t := .long) (t' := .long) (by decide) (by decide)))) (Or.inr (slot_ne (Or.inr (wd_25 hw)) (Or.inr (wd_23 hw)) (by decide) (t := .long) (t' := .long) (by decide) (by decide))))
  obtain ⟨T17, h17, X17, e17, W17, st17⟩ := putF X14 hx hZ hown (host := "") (Or.inl (wd_24 hw)) Via.refl e14 f16 f15 (Or.inr ⟨(wd_25 hw), rfl, hnm⟩) (wd_1 hw) (ty := .long) (by decide) rfl rfl (g := (mkF m 35 #[.val (.ref oa), .val (.long qa), .second, .val (.long qb), .second, .val (.long qc), .second, .val (.long qd), .second, .val (.long qe), .second, .val (.long qf), .second, .val (.long qg), .second] [(.long qf), (.ref oa)])) rfl rfl (hb hby d1_35)
  refine ownEnds.law st17 ?_
  have N17 := Fr.snoc X17 N14 g_oa
  have KK17 : Keep h0 h17 [oa] := (KK14).wr W17 (Or.inl (List.mem_of_getElem? (i := 0) rfl))
  have Z17 : n0 ≤ h17.size := by rw [W17.size]; exact Z14
  have Fw17 : Fld Z h17 oa "com/example/tallydb/tallydb/TokenCounts" "audioPrompt" "J" (.long qf) := Fld.same W17 f16
  show ownEnds _ _ _ _ (T17.setTop (mkF m 38 #[.val (.ref oa), .val (.long qa), .second, .val (.long qb), .second, .val (.long qc), .second, .val (.long qd), .second, .val (.long qe), .second, .val (.long qf), .second, .val (.long qg), .second] []))
  refine ownEnds.law (fun t k => XS.aloadN X17.here hx rfl (hb hby d1_38) rfl rfl (XS.lload X17.here hx rfl (hb hby d1_39) rfl k)) ?_
  show ownEnds _ _ _ _ (T17.setTop (mkF m 41 #[.val (.ref oa), .val (.long qa), .second, .val (.long qb), .second, .val (.long qc), .second, .val (.long qd), .second, .val (.long qe), .second, .val (.long qf), .second, .val (.long qg), .second] [(.long qg), (.ref oa)]))
  have f18 := (Exa.wr W17 f15)
  have f19 := (Fld.other W17 (Fld.other W14 (Fld.other W11 (Fld.other W8 (Fld.other W5 (Fld.other W2 F_oa_audioCompletion (Or.inr (slot_ne (Or.inr (wd_27 hw)) (Or.inr (wd_15 hw)) (by decide) (t := .long) (t' := .long) (by decide) (by decide)))) (Or.inr (slot_ne (Or.inr (wd_27 hw)) (Or.inr (wd_17 hw)) (by decide) (t := .long) (t' := .long) (by decide) (by decide)))) (Or.inr (slot_ne (Or.inr (wd_27 hw)) (Or.inr (wd_19 hw)) (by decide) (t := .long) (t' := .long) (by decide) (by decide)))) (Or.inr (slot_ne (Or.inr (wd_27 hw)) (Or.inr (wd_21 hw)) (by decide) (t := .long) (t' := .long) (by decide) (by decide)))) (Or.inr (slot_ne (Or.inr (wd_27 hw)) (Or.inr (wd_23 hw)) (by decide) (t := .long) (t' := .long) (by decide) (by decide)))) (Or.inr (slot_ne (Or.inr (wd_27 hw)) (Or.inr (wd_25 hw)) (by decide) (t := .long) (t' := .long) (by decide) (by decide))))
  obtain ⟨T20, h20, X20, e20, W20, st20⟩ := putF X17 hx hZ hown (host := "") (Or.inl (wd_26 hw)) Via.refl e17 f19 f18 (Or.inr ⟨(wd_27 hw), rfl, hnm⟩) (wd_1 hw) (ty := .long) (by decide) rfl rfl (g := (mkF m 41 #[.val (.ref oa), .val (.long qa), .second, .val (.long qb), .second, .val (.long qc), .second, .val (.long qd), .second, .val (.long qe), .second, .val (.long qf), .second, .val (.long qg), .second] [(.long qg), (.ref oa)])) rfl rfl (hb hby d1_41)
  refine ownEnds.law st20 ?_
  have N20 := Fr.snoc X20 N17 g_oa
  have KK20 : Keep h0 h20 [oa] := (KK17).wr W20 (Or.inl (List.mem_of_getElem? (i := 0) rfl))
  have Z20 : n0 ≤ h20.size := by rw [W20.size]; exact Z17
  have Fw20 : Fld Z h20 oa "com/example/tallydb/tallydb/TokenCounts" "audioCompletion" "J" (.long qg) := Fld.same W20 f19
  show ownEnds _ _ _ _ (T20.setTop (mkF m 44 #[.val (.ref oa), .val (.long qa), .second, .val (.long qb), .second, .val (.long qc), .second, .val (.long qd), .second, .val (.long qe), .second, .val (.long qf), .second, .val (.long qg), .second] []))
  refine ownRetV X20 hlk hx hret (hb hby d1_44) (by decide) (by decide) ?_
  have f21 := (Exa.wr W20 f18)
  have f22 := (Fld.other W20 (Fld.other W17 (Fld.other W14 (Fld.other W11 (Fld.other W8 (Fld.other W5 Fw2 (Or.inr (slot_ne (Or.inr (wd_15 hw)) (Or.inr (wd_17 hw)) (by decide) (t := .long) (t' := .long) (by decide) (by decide)))) (Or.inr (slot_ne (Or.inr (wd_15 hw)) (Or.inr (wd_19 hw)) (by decide) (t := .long) (t' := .long) (by decide) (by decide)))) (Or.inr (slot_ne (Or.inr (wd_15 hw)) (Or.inr (wd_21 hw)) (by decide) (t := .long) (t' := .long) (by decide) (by decide)))) (Or.inr (slot_ne (Or.inr (wd_15 hw)) (Or.inr (wd_23 hw)) (by decide) (t := .long) (t' := .long) (by decide) (by decide)))) (Or.inr (slot_ne (Or.inr (wd_15 hw)) (Or.inr (wd_25 hw)) (by decide) (t := .long) (t' := .long) (by decide) (by decide)))) (Or.inr (slot_ne (Or.inr (wd_15 hw)) (Or.inr (wd_27 hw)) (by decide) (t := .long) (t' := .long) (by decide) (by decide))))
  have f23 := (Fld.other W20 (Fld.other W17 (Fld.other W14 (Fld.other W11 (Fld.other W8 Fw5 (Or.inr (slot_ne (Or.inr (wd_17 hw)) (Or.inr (wd_19 hw)) (by decide) (t := .long) (t' := .long) (by decide) (by decide)))) (Or.inr (slot_ne (Or.inr (wd_17 hw)) (Or.inr (wd_21 hw)) (by decide) (t := .long) (t' := .long) (by decide) (by decide)))) (Or.inr (slot_ne (Or.inr (wd_17 hw)) (Or.inr (wd_23 hw)) (by decide) (t := .long) (t' := .long) (by decide) (by decide)))) (Or.inr (slot_ne (Or.inr (wd_17 hw)) (Or.inr (wd_25 hw)) (by decide) (t := .long) (t' := .long) (by decide) (by decide)))) (Or.inr (slot_ne (Or.inr (wd_17 hw)) (Or.inr (wd_27 hw)) (by decide) (t := .long) (t' := .long) (by decide) (by decide))))
  have f24 := (Fld.other W20 (Fld.other W17 (Fld.other W14 (Fld.other W11 Fw8 (Or.inr (slot_ne (Or.inr (wd_19 hw)) (Or.inr (wd_21 hw)) (by decide) (t := .long) (t' := .long) (by decide) (by decide)))) (Or.inr (slot_ne (Or.inr (wd_19 hw)) (Or.inr (wd_23 hw)) (by decide) (t := .long) (t' := .long) (by decide) (by decide)))) (Or.inr (slot_ne (Or.inr (wd_19 hw)) (Or.inr (wd_25 hw)) (by decide) (t := .long) (t' := .long) (by decide) (by decide)))) (Or.inr (slot_ne (Or.inr (wd_19 hw)) (Or.inr (wd_27 hw)) (by decide) (t := .long) (t' := .long) (by decide) (by decide))))
  have f25 := (Fld.other W20 (Fld.other W17 (Fld.other W14 Fw11 (Or.inr (slot_ne (Or.inr (wd_21 hw)) (Or.inr (wd_23 hw)) (by decide) (t := .long) (t' := .long) (by decide) (by decide)))) (Or.inr (slot_ne (Or.inr (wd_21 hw)) (Or.inr (wd_25 hw)) (by decide) (t := .long) (t' := .long) (by decide) (by decide)))) (Or.inr (slot_ne (Or.inr (wd_21 hw)) (Or.inr (wd_27 hw)) (by decide) (t := .long) (t' := .long) (by decide) (by decide))))
  have f26 := (Fld.other W20 (Fld.other W17 Fw14 (Or.inr (slot_ne (Or.inr (wd_23 hw)) (Or.inr (wd_25 hw)) (by decide) (t := .long) (t' := .long) (by decide) (by decide)))) (Or.inr (slot_ne (Or.inr (wd_23 hw)) (Or.inr (wd_27 hw)) (by decide) (t := .long) (t' := .long) (by decide) (by decide))))
  have f27 := (Fld.other W20 Fw17 (Or.inr (slot_ne (Or.inr (wd_25 hw)) (Or.inr (wd_27 hw)) (by decide) (t := .long) (t' := .long) (by decide) (by decide))))
  rw [e20]
  exact ⟨rfl, N20, KK20, f21, f22, f23, f24, f25, f26, f27, Fw20⟩
set_option maxRecDepth 65536 in
set_option maxHeartbeats 40000000 in
theorem rm4 (l : Launch) (Z : State) (a0 : Array Value) (hw : ∀ d ∈ tables_1, d.before a0 Z = true) (oa : Addr) (va : Int64) (vb : Int64) (vc : Int64) (h0 : Heap) (n0 : Nat) (Z0 : n0 ≤ h0.size)  (F_prompt : Fld Z h0 oa "com/example/tallydb/tallydb/TokenCounts" "prompt" "J" (.long va)) (F_cachedPrompt : Fld Z h0 oa "com/example/tallydb/tallydb/TokenCounts" "cachedPrompt" "J" (.long vb)) (F_cacheWritePrompt : Fld Z h0 oa "com/example/tallydb/tallydb/TokenCounts" "cacheWritePrompt" "J" (.long vc)) :
    ownMet l Z (⟨"com/example/tallydb/tallydb/TokenCounts", "freshPrompt", "()J"⟩ : MethodName) prog_36_method_3_code 1 (some .long) [] ({ frames := 0, cells := 0, slots := 0, locals := 0 } : Room) #[(.ref oa)] h0 (fun v h L => v = some (.long ((va - vb) - vc)) ∧ L = [] ∧ h = h0) := by
  refine ownMet.of (plainFor_of_name pn_4) ?_
  intro p e s m below meth c T0 hx hby hml hZ hown hnm hret hlk X0 e0
  refine ownEnds.cast (ef_rm4 m oa) ?_
  show ownEnds _ _ _ _ (T0.setTop (mkF m 0 #[.val (.ref oa)] []))
  refine ownEnds.law (fun t k => XS.aloadN X0.here hx rfl (hb hby d4_0) rfl rfl k) ?_
  show ownEnds _ _ _ _ (T0.setTop (mkF m 1 #[.val (.ref oa)] [(.ref oa)]))
  obtain ⟨T1, X1, e1, st1⟩ := getF X0 hx hZ hown (host := "") (Or.inl (wd_14 hw)) Via.refl e0 F_prompt (g := (mkF m 1 #[.val (.ref oa)] [(.ref oa)])) rfl rfl (hb hby d4_1)
  refine ownEnds.law st1 ?_
  show ownEnds _ _ _ _ (T1.setTop (mkF m 4 #[.val (.ref oa)] [(.long va)]))
  refine ownEnds.law (fun t k => XS.aloadN X1.here hx rfl (hb hby d4_4) rfl rfl k) ?_
  show ownEnds _ _ _ _ (T1.setTop (mkF m 5 #[.val (.ref oa)] [(.ref oa), (.long va)]))
  obtain ⟨T2, X2, e2, st2⟩ := getF X1 hx hZ hown (host := "") (Or.inl (wd_16 hw)) Via.refl e1 F_cachedPrompt (g := (mkF m 5 #[.val (.ref oa)] [(.ref oa), (.long va)])) rfl rfl (hb hby d4_5)
  refine ownEnds.law st2 ?_
  show ownEnds _ _ _ _ (T2.setTop (mkF m 8 #[.val (.ref oa)] [(.long vb), (.long va)]))
  refine ownEnds.law (fun t k => XS.lsub X2.here hx rfl (hb hby d4_8) rfl (XS.aloadN X2.here hx rfl (hb hby d4_9) rfl rfl k)) ?_
  show ownEnds _ _ _ _ (T2.setTop (mkF m 10 #[.val (.ref oa)] [(.ref oa), (.long (va - vb))]))
  obtain ⟨T3, X3, e3, st3⟩ := getF X2 hx hZ hown (host := "") (Or.inl (wd_18 hw)) Via.refl e2 F_cacheWritePrompt (g := (mkF m 10 #[.val (.ref oa)] [(.ref oa), (.long (va - vb))])) rfl rfl (hb hby d4_10)
  refine ownEnds.law st3 ?_
  show ownEnds _ _ _ _ (T3.setTop (mkF m 13 #[.val (.ref oa)] [(.long vc), (.long (va - vb))]))
  refine ownEnds.law (fun t k => XS.lsub X3.here hx rfl (hb hby d4_13) rfl k) ?_
  show ownEnds _ _ _ _ (T3.setTop (mkF m 14 #[.val (.ref oa)] [(.long ((va - vb) - vc))]))
  refine ownRetL X3 hlk hx hret (hb hby d4_14) (by decide) (by decide) ?_
  exact ⟨rfl, rfl, e3⟩
set_option maxRecDepth 65536 in
set_option maxHeartbeats 40000000 in
theorem rm0 (l : Launch) (Z : State) (a0 : Array Value) (hw : ∀ d ∈ tables_1, d.before a0 Z = true) (qa : Int64) (qb : Int64) (qc : Int64) (qd : Int64) (qe : Int64) (qf : Int64)  (h0 : Heap) (n0 : Nat) (Z0 : n0 ≤ h0.size)  :
    ownMet l Z x code maxLocals ret tables_1 room_1 #[(.long qa), (.long qb), (.long qc), (.long qd), (.long qe), (.long qf)] h0 (fun v h L => v = some (.int 1) ∧ Fr n0 L) := by
  refine ownMet.of (plainFor_of_name pn_0) ?_
  intro p e s m below meth c T0 hx hby hml hZ hown hnm hret hlk X0 e0
  have hown : s.vm.findClass "com/example/tallydb/tallydb/TokenCountsFreshPromptPinLaw" = some m.cls := hown
  have hml : c.maxLocals = 19 := hml
  have hret : meth.sig.returnType = some .boolean := hret
  refine ownEnds.cast (ef_rm0 m qa qb qc qd qe qf) ?_
  show ownEnds _ _ _ _ (T0.setTop (mkF m 0 #[.val (.long qa), .second, .val (.long qb), .second, .val (.long qc), .second, .val (.long qd), .second, .val (.long qe), .second, .val (.long qf), .second, .unset, .unset, .unset, .unset, .unset, .unset, .unset] []))
  obtain ⟨T1, h1, X1, e1, E1, A1, D1, -, st1⟩ := newO X0 hx hZ hown (wd_0 hw) (wd_1 hw) (wd_2 hw) e0 (g := (mkF m 0 #[.val (.long qa), .second, .val (.long qb), .second, .val (.long qc), .second, .val (.long qd), .second, .val (.long qe), .second, .val (.long qf), .second, .unset, .unset, .unset, .unset, .unset, .unset, .unset] [])) rfl (hb hby at_0) (by decide) (by decide)
  obtain ⟨b1, g1⟩ : ∃ z, z = h0.size := ⟨_, rfl⟩
  rw [← g1] at A1 D1 st1
  refine ownEnds.law st1 ?_
  have g_b1 : n0 ≤ b1 := Nat.le_trans Z0 (Nat.le_of_eq g1.symm)
  have Z1 : n0 ≤ h1.size := Nat.le_trans Z0 E1.1
  have F2 : Fld Z h1 b1 "com/example/tallydb/tallydb/TokenCounts" "prompt" "J" (.long (0 : Int64)) := D1 (Or.inr (wd_15 hw)) (ty := .long) (by decide)
  have F3 : Fld Z h1 b1 "com/example/tallydb/tallydb/TokenCounts" "cachedPrompt" "J" (.long (0 : Int64)) := D1 (Or.inr (wd_17 hw)) (ty := .long) (by decide)
  have F4 : Fld Z h1 b1 "com/example/tallydb/tallydb/TokenCounts" "cacheWritePrompt" "J" (.long (0 : Int64)) := D1 (Or.inr (wd_19 hw)) (ty := .long) (by decide)
  have F5 : Fld Z h1 b1 "com/example/tallydb/tallydb/TokenCounts" "completion" "J" (.long (0 : Int64)) := D1 (Or.inr (wd_21 hw)) (ty := .long) (by decide)
  have F6 : Fld Z h1 b1 "com/example/tallydb/tallydb/TokenCounts" "cacheWrite1hPrompt" "J" (.long (0 : Int64)) := D1 (Or.inr (wd_23 hw)) (ty := .long) (by decide)
  have F7 : Fld Z h1 b1 "com/example/tallydb/tallydb/TokenCounts" "audioPrompt" "J" (.long (0 : Int64)) := D1 (Or.inr (wd_25 hw)) (ty := .long) (by decide)
  have F8 : Fld Z h1 b1 "com/example/tallydb/tallydb/TokenCounts" "audioCompletion" "J" (.long (0 : Int64)) := D1 (Or.inr (wd_27 hw)) (ty := .long) (by decide)
  show ownEnds _ _ _ _ (T1.setTop (mkF m 3 #[.val (.long qa), .second, .val (.long qb), .second, .val (.long qc), .second, .val (.long qd), .second, .val (.long qe), .second, .val (.long qf), .second, .unset, .unset, .unset, .unset, .unset, .unset, .unset] [(.ref b1)]))
  refine ownEnds.law (fun t k => XS.dup X1.here hx rfl (hb hby at_3) rfl rfl (XS.lloadN X1.here hx rfl (hb hby at_4) rfl (XS.lloadN X1.here hx rfl (hb hby at_5) rfl (XS.lload X1.here hx rfl (hb hby at_6) rfl (XS.lload X1.here hx rfl (hb hby at_8) rfl (XS.lload X1.here hx rfl (hb hby at_10) rfl (XS.lload X1.here hx rfl (hb hby at_12) rfl (XS.lload X1.here hx rfl (hb hby at_14) rfl (XS.lload X1.here hx rfl (hb hby at_16) rfl (XS.lxor X1.here hx rfl (hb hby at_18) rfl k)))))))))) ?_
  show ownEnds _ _ _ _ (T1.setTop (mkF m 19 #[.val (.long qa), .second, .val (.long qb), .second, .val (.long qc), .second, .val (.long qd), .second, .val (.long qe), .second, .val (.long qf), .second, .unset, .unset, .unset, .unset, .unset, .unset, .unset] [(.long (qd ^^^ qe)), (.long qf), (.long qe), (.long qd), (.long qc), (.long qb), (.long qa), (.ref b1), (.ref b1)]))
  obtain ⟨v9, T9, L9, X9, hQ9, st9⟩ := ownCallC X1 hx hZ hown (y := (⟨"com/example/tallydb/tallydb/TokenCounts", "<init>", "(JJJJJJJ)V"⟩ : MethodName)) rfl (a := b1) (as := [(.long qa), (.long qb), (.long qc), (.long qd), (.long qe), (.long qf), (.long (qd ^^^ qe))]) (wd_3 hw) (wd_4 hw) (wd_2 hw) (wd_5 hw) (by decide) (rm1 l Z a0 hw b1 qa qb qc qd qe qf (qd ^^^ qe)  h1 n0 Z1 A1 g_b1 F2 F3 F4 F5 F6 F7 F8) e1 1 (by decide) (by decide) (by decide) (by decide) (g := (mkF m 19 #[.val (.long qa), .second, .val (.long qb), .second, .val (.long qc), .second, .val (.long qd), .second, .val (.long qe), .second, .val (.long qf), .second, .unset, .unset, .unset, .unset, .unset, .unset, .unset] [(.long (qd ^^^ qe)), (.long qf), (.long qe), (.long qd), (.long qc), (.long qb), (.long qa), (.ref b1), (.ref b1)])) rfl (by rw [hml]; rfl) (rest := [(.ref b1)]) pd_1 rfl rfl (by show 2 * 0 + _ ≤ _; exact Nat.le_of_eq rfl) (hb hby at_19)
  obtain ⟨rfl, Nq9, Kq9, Eq9, Fc9_0, Fc9_1, Fc9_2, Fc9_3, Fc9_4, Fc9_5, Fc9_6⟩ := hQ9
  have N9 := Fr.app (Fr.nil n0) Nq9
  have Z9 : n0 ≤ T9.heap.size := Nat.le_trans Z1 Kq9.1
  refine ownEnds.law st9 ?_
  show ownEnds _ _ _ _ (T9.setTop (mkF m 22 #[.val (.long qa), .second, .val (.long qb), .second, .val (.long qc), .second, .val (.long qd), .second, .val (.long qe), .second, .val (.long qf), .second, .unset, .unset, .unset, .unset, .unset, .unset, .unset] [(.ref b1)]))
  refine ownEnds.law (fun t k => XS.astore X9.here hx rfl (hb hby at_22) rfl rfl (l' := #[.val (.long qa), .second, .val (.long qb), .second, .val (.long qc), .second, .val (.long qd), .second, .val (.long qe), .second, .val (.long qf), .second, .val (.ref b1), .unset, .unset, .unset, .unset, .unset, .unset]) rfl k) ?_
  show ownEnds _ _ _ _ (T9.setTop (mkF m 24 #[.val (.long qa), .second, .val (.long qb), .second, .val (.long qc), .second, .val (.long qd), .second, .val (.long qe), .second, .val (.long qf), .second, .val (.ref b1), .unset, .unset, .unset, .unset, .unset, .unset] []))
  obtain ⟨T10, h10, X10, e10, E10, A10, D10, -, st10⟩ := newO X9 hx hZ hown (wd_0 hw) (wd_1 hw) (wd_2 hw) rfl (g := (mkF m 24 #[.val (.long qa), .second, .val (.long qb), .second, .val (.long qc), .second, .val (.long qd), .second, .val (.long qe), .second, .val (.long qf), .second, .val (.ref b1), .unset, .unset, .unset, .unset, .unset, .unset] [])) rfl (hb hby at_24) (by decide) (by decide)
  obtain ⟨b10, g10⟩ : ∃ z, z = T9.heap.size := ⟨_, rfl⟩
  rw [← g10] at A10 D10 st10
  refine ownEnds.law st10 ?_
  have ne_b1_b10 : b1 ≠ b10 := Nat.ne_of_lt (Nat.lt_of_lt_of_eq Eq9.lt g10.symm)
  have g_b10 : n0 ≤ b10 := Nat.le_trans Z9 (Nat.le_of_eq g10.symm)
  have Z10 : n0 ≤ h10.size := Nat.le_trans Z9 E10.1
  have F11 : Fld Z h10 b10 "com/example/tallydb/tallydb/TokenCounts" "prompt" "J" (.long (0 : Int64)) := D10 (Or.inr (wd_15 hw)) (ty := .long) (by decide)
  have F12 : Fld Z h10 b10 "com/example/tallydb/tallydb/TokenCounts" "cachedPrompt" "J" (.long (0 : Int64)) := D10 (Or.inr (wd_17 hw)) (ty := .long) (by decide)
  have F13 : Fld Z h10 b10 "com/example/tallydb/tallydb/TokenCounts" "cacheWritePrompt" "J" (.long (0 : Int64)) := D10 (Or.inr (wd_19 hw)) (ty := .long) (by decide)
  have F14 : Fld Z h10 b10 "com/example/tallydb/tallydb/TokenCounts" "completion" "J" (.long (0 : Int64)) := D10 (Or.inr (wd_21 hw)) (ty := .long) (by decide)
  have F15 : Fld Z h10 b10 "com/example/tallydb/tallydb/TokenCounts" "cacheWrite1hPrompt" "J" (.long (0 : Int64)) := D10 (Or.inr (wd_23 hw)) (ty := .long) (by decide)
  have F16 : Fld Z h10 b10 "com/example/tallydb/tallydb/TokenCounts" "audioPrompt" "J" (.long (0 : Int64)) := D10 (Or.inr (wd_25 hw)) (ty := .long) (by decide)
  have F17 : Fld Z h10 b10 "com/example/tallydb/tallydb/TokenCounts" "audioCompletion" "J" (.long (0 : Int64)) := D10 (Or.inr (wd_27 hw)) (ty := .long) (by decide)
  show ownEnds _ _ _ _ (T10.setTop (mkF m 27 #[.val (.long qa), .second, .val (.long qb), .second, .val (.long qc), .second, .val (.long qd), .second, .val (.long qe), .second, .val (.long qf), .second, .val (.ref b1), .unset, .unset, .unset, .unset, .unset, .unset] [(.ref b10)]))
  refine ownEnds.law (fun t k => XS.dup X10.here hx rfl (hb hby at_27) rfl rfl (XS.lloadN X10.here hx rfl (hb hby at_28) rfl (XS.lloadN X10.here hx rfl (hb hby at_29) rfl (XS.lload X10.here hx rfl (hb hby at_30) rfl (XS.lconst X10.here hx rfl (hb hby at_32) (XS.lconst X10.here hx rfl (hb hby at_33) (XS.lconst X10.here hx rfl (hb hby at_34) (XS.lconst X10.here hx rfl (hb hby at_35) k)))))))) ?_
  show ownEnds _ _ _ _ (T10.setTop (mkF m 36 #[.val (.long qa), .second, .val (.long qb), .second, .val (.long qc), .second, .val (.long qd), .second, .val (.long qe), .second, .val (.long qf), .second, .val (.ref b1), .unset, .unset, .unset, .unset, .unset, .unset] [(.long (0 : Int64)), (.long (0 : Int64)), (.long (0 : Int64)), (.long (0 : Int64)), (.long qc), (.long qb), (.long qa), (.ref b10), (.ref b10)]))
  obtain ⟨v18, T18, L18, X18, hQ18, st18⟩ := ownCallC X10 hx hZ hown (y := (⟨"com/example/tallydb/tallydb/TokenCounts", "<init>", "(JJJJJJJ)V"⟩ : MethodName)) rfl (a := b10) (as := [(.long qa), (.long qb), (.long qc), (.long (0 : Int64)), (.long (0 : Int64)), (.long (0 : Int64)), (.long (0 : Int64))]) (wd_3 hw) (wd_4 hw) (wd_2 hw) (wd_5 hw) (by decide) (rm1 l Z a0 hw b10 qa qb qc (0 : Int64) (0 : Int64) (0 : Int64) (0 : Int64)  h10 n0 Z10 A10 g_b10 F11 F12 F13 F14 F15 F16 F17) e10 1 (by decide) (by decide) (by decide) (by decide) (g := (mkF m 36 #[.val (.long qa), .second, .val (.long qb), .second, .val (.long qc), .second, .val (.long qd), .second, .val (.long qe), .second, .val (.long qf), .second, .val (.ref b1), .unset, .unset, .unset, .unset, .unset, .unset] [(.long (0 : Int64)), (.long (0 : Int64)), (.long (0 : Int64)), (.long (0 : Int64)), (.long qc), (.long qb), (.long qa), (.ref b10), (.ref b10)])) rfl (by rw [hml]; rfl) (rest := [(.ref b10)]) pd_1 rfl rfl (by show 2 * 0 + _ ≤ _; exact Nat.le_of_eq rfl) (hb hby at_36)
  obtain ⟨rfl, Nq18, Kq18, Eq18, Fc18_0, Fc18_1, Fc18_2, Fc18_3, Fc18_4, Fc18_5, Fc18_6⟩ := hQ18
  have N18 := Fr.app N9 Nq18
  have Z18 : n0 ≤ T18.heap.size := Nat.le_trans Z10 Kq18.1
  refine ownEnds.law st18 ?_
  show ownEnds _ _ _ _ (T18.setTop (mkF m 39 #[.val (.long qa), .second, .val (.long qb), .second, .val (.long qc), .second, .val (.long qd), .second, .val (.long qe), .second, .val (.long qf), .second, .val (.ref b1), .unset, .unset, .unset, .unset, .unset, .unset] [(.ref b10)]))
  refine ownEnds.law (fun t k => XS.astore X18.here hx rfl (hb hby at_39) rfl rfl (l' := #[.val (.long qa), .second, .val (.long qb), .second, .val (.long qc), .second, .val (.long qd), .second, .val (.long qe), .second, .val (.long qf), .second, .val (.ref b1), .val (.ref b10), .unset, .unset, .unset, .unset, .unset]) rfl (XS.aload X18.here hx rfl (hb hby at_41) rfl rfl k)) ?_
  show ownEnds _ _ _ _ (T18.setTop (mkF m 43 #[.val (.long qa), .second, .val (.long qb), .second, .val (.long qc), .second, .val (.long qd), .second, .val (.long qe), .second, .val (.long qf), .second, .val (.ref b1), .val (.ref b10), .unset, .unset, .unset, .unset, .unset] [(.ref b1)]))
  have f20 := (Fld.keep (Fld.ext E10 Fc9_0) Kq18 (ninS ne_b1_b10 nin0))
  have f21 := (Fld.keep (Fld.ext E10 Fc9_1) Kq18 (ninS ne_b1_b10 nin0))
  have f22 := (Fld.keep (Fld.ext E10 Fc9_2) Kq18 (ninS ne_b1_b10 nin0))
  have f23 := (Exa.keep (Exa.ext E10 Eq9) Kq18)
  obtain ⟨v19, T19, L19, X19, hQ19, st19⟩ := ownCallV X18 hx hZ hown (y := (⟨"com/example/tallydb/tallydb/TokenCounts", "freshPrompt", "()J"⟩ : MethodName)) (z := (⟨"com/example/tallydb/tallydb/TokenCounts", "freshPrompt", "()J"⟩ : MethodName)) (a := b1) (as := []) (wd_28 hw) (wd_29 hw) (notFace_of_selects (args := #[]) (mvT hZ (wd_31 hw))) (wd_31 hw) (wd_30 hw) (wd_2 hw) (wd_32 hw) (by decide) (rm4 l Z a0 hw b1 qa qb qc T18.heap n0 Z18 f20 f21 f22) rfl f23 0 (by decide) (by decide) (by decide) (by decide) (g := (mkF m 43 #[.val (.long qa), .second, .val (.long qb), .second, .val (.long qc), .second, .val (.long qd), .second, .val (.long qe), .second, .val (.long qf), .second, .val (.ref b1), .val (.ref b10), .unset, .unset, .unset, .unset, .unset] [(.ref b1)])) rfl (by rw [hml]; rfl) (rest := []) pd_2 rfl rfl (by show 2 * 0 + _ ≤ _; exact Nat.le_of_eq rfl) (hb hby at_43)
  obtain ⟨rfl, rfl, e19⟩ := hQ19
  rw [List.append_nil] at X19
  refine ownEnds.law st19 ?_
  show ownEnds _ _ _ _ (T19.setTop (mkF m 46 #[.val (.long qa), .second, .val (.long qb), .second, .val (.long qc), .second, .val (.long qd), .second, .val (.long qe), .second, .val (.long qf), .second, .val (.ref b1), .val (.ref b10), .unset, .unset, .unset, .unset, .unset] [(.long ((qa - qb) - qc))]))
  obtain ⟨ff, e_ff⟩ : ∃ z : Int64, z = ((qa - qb) - qc) := ⟨_, rfl⟩
  rw [← e_ff]
  show ownEnds _ _ _ _ (T19.setTop (mkF m 46 #[.val (.long qa), .second, .val (.long qb), .second, .val (.long qc), .second, .val (.long qd), .second, .val (.long qe), .second, .val (.long qf), .second, .val (.ref b1), .val (.ref b10), .unset, .unset, .unset, .unset, .unset] [(.long ff)]))
  refine ownEnds.law (fun t k => XS.lstore X19.here hx rfl (hb hby at_46) rfl (l' := #[.val (.long qa), .second, .val (.long qb), .second, .val (.long qc), .second, .val (.long qd), .second, .val (.long qe), .second, .val (.long qf), .second, .val (.ref b1), .val (.ref b10), .val (.long ff), .second, .unset, .unset, .unset]) rfl (XS.lload X19.here hx rfl (hb hby at_48) rfl (XS.lloadN X19.here hx rfl (hb hby at_50) rfl (XS.ladd X19.here hx rfl (hb hby at_51) rfl (XS.lload X19.here hx rfl (hb hby at_52) rfl (XS.ladd X19.here hx rfl (hb hby at_54) rfl (XS.lloadN X19.here hx rfl (hb hby at_55) rfl (XS.lcmp X19.here hx rfl (hb hby at_56) rfl k)))))))) ?_
  show ownEnds _ _ _ _ (T19.setTop (mkF m 57 #[.val (.long qa), .second, .val (.long qb), .second, .val (.long qc), .second, .val (.long qd), .second, .val (.long qe), .second, .val (.long qf), .second, .val (.ref b1), .val (.ref b10), .val (.long ff), .second, .unset, .unset, .unset] [(.int (lcmpW ((ff + qb) + qc) qa))]))
  have hc57 : ((ff + qb) + qc) = qa := by rw [e_ff]; exact own_sum _ _ _
  refine ownEnds.law (fun t => XS.ifNo X19.here hx rfl (hb hby at_57) rfl ((if0 _ _).trans (teq ((lw_eq _ _).mpr hc57)).2)) ?_
  show ownEnds _ _ _ _ (T19.setTop (mkF m 60 #[.val (.long qa), .second, .val (.long qb), .second, .val (.long qc), .second, .val (.long qd), .second, .val (.long qe), .second, .val (.long qf), .second, .val (.ref b1), .val (.ref b10), .val (.long ff), .second, .unset, .unset, .unset] []))
  refine ownEnds.law (fun t k => XS.iconst X19.here hx rfl (hb hby at_60) (XS.goto X19.here hx rfl (pc0 := 61) (pc' := 65) rfl (hb hby at_61) (by decide) (by decide) (XS.istore X19.here hx rfl (hb hby at_65) rfl (l' := #[.val (.long qa), .second, .val (.long qb), .second, .val (.long qc), .second, .val (.long qd), .second, .val (.long qe), .second, .val (.long qf), .second, .val (.ref b1), .val (.ref b10), .val (.long ff), .second, .val (.int (1 : Int32)), .unset, .unset]) rfl (XS.lload X19.here hx rfl (hb hby at_67) rfl (XS.aload X19.here hx rfl (hb hby at_69) rfl rfl k))))) ?_
  show ownEnds _ _ _ _ (T19.setTop (mkF m 71 #[.val (.long qa), .second, .val (.long qb), .second, .val (.long qc), .second, .val (.long qd), .second, .val (.long qe), .second, .val (.long qf), .second, .val (.ref b1), .val (.ref b10), .val (.long ff), .second, .val (.int (1 : Int32)), .unset, .unset] [(.ref b10), (.long ff)]))
  obtain ⟨v24, T24, L24, X24, hQ24, st24⟩ := ownCallV X19 hx hZ hown (y := (⟨"com/example/tallydb/tallydb/TokenCounts", "freshPrompt", "()J"⟩ : MethodName)) (z := (⟨"com/example/tallydb/tallydb/TokenCounts", "freshPrompt", "()J"⟩ : MethodName)) (a := b10) (as := []) (wd_28 hw) (wd_29 hw) (notFace_of_selects (args := #[]) (mvT hZ (wd_31 hw))) (wd_31 hw) (wd_30 hw) (wd_2 hw) (wd_32 hw) (by decide) (rm4 l Z a0 hw b10 qa qb qc T18.heap n0 Z18 Fc18_0 Fc18_1 Fc18_2) e19 Eq18 2 (by decide) (by decide) (by decide) (by decide) (g := (mkF m 71 #[.val (.long qa), .second, .val (.long qb), .second, .val (.long qc), .second, .val (.long qd), .second, .val (.long qe), .second, .val (.long qf), .second, .val (.ref b1), .val (.ref b10), .val (.long ff), .second, .val (.int (1 : Int32)), .unset, .unset] [(.ref b10), (.long ff)])) rfl (by rw [hml]; rfl) (rest := [(.long ff)]) pd_2 rfl rfl (by show 2 * 0 + _ ≤ _; exact Nat.le_of_eq rfl) (hb hby at_71)
  obtain ⟨rfl, rfl, e24⟩ := hQ24
  rw [List.append_nil] at X24
  refine ownEnds.law st24 ?_
  show ownEnds _ _ _ _ (T24.setTop (mkF m 74 #[.val (.long qa), .second, .val (.long qb), .second, .val (.long qc), .second, .val (.long qd), .second, .val (.long qe), .second, .val (.long qf), .second, .val (.ref b1), .val (.ref b10), .val (.long ff), .second, .val (.int (1 : Int32)), .unset, .unset] [(.long ((qa - qb) - qc)), (.long ff)]))
  refine ownEnds.law (fun t k => XS.lcmp X24.here hx rfl (hb hby at_74) rfl k) ?_
  show ownEnds _ _ _ _ (T24.setTop (mkF m 75 #[.val (.long qa), .second, .val (.long qb), .second, .val (.long qc), .second, .val (.long qd), .second, .val (.long qe), .second, .val (.long qf), .second, .val (.ref b1), .val (.ref b10), .val (.long ff), .second, .val (.int (1 : Int32)), .unset, .unset] [(.int (lcmpW ff ((qa - qb) - qc)))]))
  have hc75 : ff = ((qa - qb) - qc) := e_ff
  refine ownEnds.law (fun t => XS.ifNo X24.here hx rfl (hb hby at_75) rfl ((if0 _ _).trans (teq ((lw_eq _ _).mpr hc75)).2)) ?_
  show ownEnds _ _ _ _ (T24.setTop (mkF m 78 #[.val (.long qa), .second, .val (.long qb), .second, .val (.long qc), .second, .val (.long qd), .second, .val (.long qe), .second, .val (.long qf), .second, .val (.ref b1), .val (.ref b10), .val (.long ff), .second, .val (.int (1 : Int32)), .unset, .unset] []))
  refine ownEnds.law (fun t k => XS.iconst X24.here hx rfl (hb hby at_78) (XS.goto X24.here hx rfl (pc0 := 79) (pc' := 83) rfl (hb hby at_79) (by decide) (by decide) (XS.istore X24.here hx rfl (hb hby at_83) rfl (l' := #[.val (.long qa), .second, .val (.long qb), .second, .val (.long qc), .second, .val (.long qd), .second, .val (.long qe), .second, .val (.long qf), .second, .val (.ref b1), .val (.ref b10), .val (.long ff), .second, .val (.int (1 : Int32)), .val (.int (1 : Int32)), .unset]) rfl (XS.iconst X24.here hx rfl (hb hby at_85) (XS.istore X24.here hx rfl (hb hby at_86) rfl (l' := #[.val (.long qa), .second, .val (.long qb), .second, .val (.long qc), .second, .val (.long qd), .second, .val (.long qe), .second, .val (.long qf), .second, .val (.ref b1), .val (.ref b10), .val (.long ff), .second, .val (.int (1 : Int32)), .val (.int (1 : Int32)), .val (.int (1 : Int32))]) rfl (XS.lloadN X24.here hx rfl (hb hby at_88) rfl (XS.lconst X24.here hx rfl (hb hby at_89) (XS.lcmp X24.here hx rfl (hb hby at_90) rfl k)))))))) ?_
  show ownEnds _ _ _ _ (T24.setTop (mkF m 91 #[.val (.long qa), .second, .val (.long qb), .second, .val (.long qc), .second, .val (.long qd), .second, .val (.long qe), .second, .val (.long qf), .second, .val (.ref b1), .val (.ref b10), .val (.long ff), .second, .val (.int (1 : Int32)), .val (.int (1 : Int32)), .val (.int (1 : Int32))] [(.int (lcmpW qa (0 : Int64)))]))
  by_cases hc91 : qa < (0 : Int64)
  · refine ownEnds.law (fun t => XS.ifYes X24.here hx rfl (pc0 := 91) (pc' := 143) rfl (hb hby at_91) rfl ((if0 _ _).trans (tlt ((lw_lt _ _).mpr hc91)).1) (by decide) (by decide)) ?_
    show ownEnds _ _ _ _ (T24.setTop (mkF m 143 #[.val (.long qa), .second, .val (.long qb), .second, .val (.long qc), .second, .val (.long qd), .second, .val (.long qe), .second, .val (.long qf), .second, .val (.ref b1), .val (.ref b10), .val (.long ff), .second, .val (.int (1 : Int32)), .val (.int (1 : Int32)), .val (.int (1 : Int32))] []))
    refine ownEnds.law (fun t k => XS.iload X24.here hx rfl (hb hby at_143) rfl k) ?_
    show ownEnds _ _ _ _ (T24.setTop (mkF m 145 #[.val (.long qa), .second, .val (.long qb), .second, .val (.long qc), .second, .val (.long qd), .second, .val (.long qe), .second, .val (.long qf), .second, .val (.ref b1), .val (.ref b10), .val (.long ff), .second, .val (.int (1 : Int32)), .val (.int (1 : Int32)), .val (.int (1 : Int32))] [(.int (1 : Int32))]))
    refine ownEnds.law (fun t => XS.ifNo X24.here hx rfl (hb hby at_145) rfl ((if0 _ _).trans (feq (by decide : ¬ ((1 : Int32) = (0 : Int32)))).1)) ?_
    show ownEnds _ _ _ _ (T24.setTop (mkF m 148 #[.val (.long qa), .second, .val (.long qb), .second, .val (.long qc), .second, .val (.long qd), .second, .val (.long qe), .second, .val (.long qf), .second, .val (.ref b1), .val (.ref b10), .val (.long ff), .second, .val (.int (1 : Int32)), .val (.int (1 : Int32)), .val (.int (1 : Int32))] []))
    refine ownEnds.law (fun t k => XS.iload X24.here hx rfl (hb hby at_148) rfl k) ?_
    show ownEnds _ _ _ _ (T24.setTop (mkF m 150 #[.val (.long qa), .second, .val (.long qb), .second, .val (.long qc), .second, .val (.long qd), .second, .val (.long qe), .second, .val (.long qf), .second, .val (.ref b1), .val (.ref b10), .val (.long ff), .second, .val (.int (1 : Int32)), .val (.int (1 : Int32)), .val (.int (1 : Int32))] [(.int (1 : Int32))]))
    refine ownEnds.law (fun t => XS.ifNo X24.here hx rfl (hb hby at_150) rfl ((if0 _ _).trans (feq (by decide : ¬ ((1 : Int32) = (0 : Int32)))).1)) ?_
    show ownEnds _ _ _ _ (T24.setTop (mkF m 153 #[.val (.long qa), .second, .val (.long qb), .second, .val (.long qc), .second, .val (.long qd), .second, .val (.long qe), .second, .val (.long qf), .second, .val (.ref b1), .val (.ref b10), .val (.long ff), .second, .val (.int (1 : Int32)), .val (.int (1 : Int32)), .val (.int (1 : Int32))] []))
    refine ownEnds.law (fun t k => XS.iload X24.here hx rfl (hb hby at_153) rfl k) ?_
    show ownEnds _ _ _ _ (T24.setTop (mkF m 155 #[.val (.long qa), .second, .val (.long qb), .second, .val (.long qc), .second, .val (.long qd), .second, .val (.long qe), .second, .val (.long qf), .second, .val (.ref b1), .val (.ref b10), .val (.long ff), .second, .val (.int (1 : Int32)), .val (.int (1 : Int32)), .val (.int (1 : Int32))] [(.int (1 : Int32))]))
    refine ownEnds.law (fun t => XS.ifNo X24.here hx rfl (hb hby at_155) rfl ((if0 _ _).trans (feq (by decide : ¬ ((1 : Int32) = (0 : Int32)))).1)) ?_
    show ownEnds _ _ _ _ (T24.setTop (mkF m 158 #[.val (.long qa), .second, .val (.long qb), .second, .val (.long qc), .second, .val (.long qd), .second, .val (.long qe), .second, .val (.long qf), .second, .val (.ref b1), .val (.ref b10), .val (.long ff), .second, .val (.int (1 : Int32)), .val (.int (1 : Int32)), .val (.int (1 : Int32))] []))
    refine ownEnds.law (fun t k => XS.iconst X24.here hx rfl (hb hby at_158) (XS.goto X24.here hx rfl (pc0 := 159) (pc' := 163) rfl (hb hby at_159) (by decide) (by decide) k)) ?_
    show ownEnds _ _ _ _ (T24.setTop (mkF m 163 #[.val (.long qa), .second, .val (.long qb), .second, .val (.long qc), .second, .val (.long qd), .second, .val (.long qe), .second, .val (.long qf), .second, .val (.ref b1), .val (.ref b10), .val (.long ff), .second, .val (.int (1 : Int32)), .val (.int (1 : Int32)), .val (.int (1 : Int32))] [(.int (1 : Int32))]))
    refine ownRetN X24 hlk hx (t := .boolean) hret (by simp) (hb hby at_163) (by decide) (by decide) ?_
    exact ⟨rfl, N18⟩
  · refine ownEnds.law (fun t => XS.ifNo X24.here hx rfl (hb hby at_91) rfl ((if0 _ _).trans (flt (fun q => hc91 ((lw_lt _ _).mp q))).1)) ?_
    show ownEnds _ _ _ _ (T24.setTop (mkF m 94 #[.val (.long qa), .second, .val (.long qb), .second, .val (.long qc), .second, .val (.long qd), .second, .val (.long qe), .second, .val (.long qf), .second, .val (.ref b1), .val (.ref b10), .val (.long ff), .second, .val (.int (1 : Int32)), .val (.int (1 : Int32)), .val (.int (1 : Int32))] []))
    refine ownEnds.law (fun t k => XS.lloadN X24.here hx rfl (hb hby at_94) rfl (XS.lconst X24.here hx rfl (hb hby at_95) (XS.lcmp X24.here hx rfl (hb hby at_96) rfl k))) ?_
    show ownEnds _ _ _ _ (T24.setTop (mkF m 97 #[.val (.long qa), .second, .val (.long qb), .second, .val (.long qc), .second, .val (.long qd), .second, .val (.long qe), .second, .val (.long qf), .second, .val (.ref b1), .val (.ref b10), .val (.long ff), .second, .val (.int (1 : Int32)), .val (.int (1 : Int32)), .val (.int (1 : Int32))] [(.int (lcmpW qb (0 : Int64)))]))
    by_cases hc97 : qb < (0 : Int64)
    · refine ownEnds.law (fun t => XS.ifYes X24.here hx rfl (pc0 := 97) (pc' := 143) rfl (hb hby at_97) rfl ((if0 _ _).trans (tlt ((lw_lt _ _).mpr hc97)).1) (by decide) (by decide)) ?_
      show ownEnds _ _ _ _ (T24.setTop (mkF m 143 #[.val (.long qa), .second, .val (.long qb), .second, .val (.long qc), .second, .val (.long qd), .second, .val (.long qe), .second, .val (.long qf), .second, .val (.ref b1), .val (.ref b10), .val (.long ff), .second, .val (.int (1 : Int32)), .val (.int (1 : Int32)), .val (.int (1 : Int32))] []))
      refine ownEnds.law (fun t k => XS.iload X24.here hx rfl (hb hby at_143) rfl k) ?_
      show ownEnds _ _ _ _ (T24.setTop (mkF m 145 #[.val (.long qa), .second, .val (.long qb), .second, .val (.long qc), .second, .val (.long qd), .second, .val (.long qe), .second, .val (.long qf), .second, .val (.ref b1), .val (.ref b10), .val (.long ff), .second, .val (.int (1 : Int32)), .val (.int (1 : Int32)), .val (.int (1 : Int32))] [(.int (1 : Int32))]))
      refine ownEnds.law (fun t => XS.ifNo X24.here hx rfl (hb hby at_145) rfl ((if0 _ _).trans (feq (by decide : ¬ ((1 : Int32) = (0 : Int32)))).1)) ?_
      show ownEnds _ _ _ _ (T24.setTop (mkF m 148 #[.val (.long qa), .second, .val (.long qb), .second, .val (.long qc), .second, .val (.long qd), .second, .val (.long qe), .second, .val (.long qf), .second, .val (.ref b1), .val (.ref b10), .val (.long ff), .second, .val (.int (1 : Int32)), .val (.int (1 : Int32)), .val (.int (1 : Int32))] []))
      refine ownEnds.law (fun t k => XS.iload X24.here hx rfl (hb hby at_148) rfl k) ?_
      show ownEnds _ _ _ _ (T24.setTop (mkF m 150 #[.val (.long qa), .second, .val (.long qb), .second, .val (.long qc), .second, .val (.long qd), .second, .val (.long qe), .second, .val (.long qf), .second, .val (.ref b1), .val (.ref b10), .val (.long ff), .second, .val (.int (1 : Int32)), .val (.int (1 : Int32)), .val (.int (1 : Int32))] [(.int (1 : Int32))]))
      refine ownEnds.law (fun t => XS.ifNo X24.here hx rfl (hb hby at_150) rfl ((if0 _ _).trans (feq (by decide : ¬ ((1 : Int32) = (0 : Int32)))).1)) ?_
      show ownEnds _ _ _ _ (T24.setTop (mkF m 153 #[.val (.long qa), .second, .val (.long qb), .second, .val (.long qc), .second, .val (.long qd), .second, .val (.long qe), .second, .val (.long qf), .second, .val (.ref b1), .val (.ref b10), .val (.long ff), .second, .val (.int (1 : Int32)), .val (.int (1 : Int32)), .val (.int (1 : Int32))] []))
      refine ownEnds.law (fun t k => XS.iload X24.here hx rfl (hb hby at_153) rfl k) ?_
      show ownEnds _ _ _ _ (T24.setTop (mkF m 155 #[.val (.long qa), .second, .val (.long qb), .second, .val (.long qc), .second, .val (.long qd), .second, .val (.long qe), .second, .val (.long qf), .second, .val (.ref b1), .val (.ref b10), .val (.long ff), .second, .val (.int (1 : Int32)), .val (.int (1 : Int32)), .val (.int (1 : Int32))] [(.int (1 : Int32))]))
      refine ownEnds.law (fun t => XS.ifNo X24.here hx rfl (hb hby at_155) rfl ((if0 _ _).trans (feq (by decide : ¬ ((1 : Int32) = (0 : Int32)))).1)) ?_
      show ownEnds _ _ _ _ (T24.setTop (mkF m 158 #[.val (.long qa), .second, .val (.long qb), .second, .val (.long qc), .second, .val (.long qd), .second, .val (.long qe), .second, .val (.long qf), .second, .val (.ref b1), .val (.ref b10), .val (.long ff), .second, .val (.int (1 : Int32)), .val (.int (1 : Int32)), .val (.int (1 : Int32))] []))
      refine ownEnds.law (fun t k => XS.iconst X24.here hx rfl (hb hby at_158) (XS.goto X24.here hx rfl (pc0 := 159) (pc' := 163) rfl (hb hby at_159) (by decide) (by decide) k)) ?_
      show ownEnds _ _ _ _ (T24.setTop (mkF m 163 #[.val (.long qa), .second, .val (.long qb), .second, .val (.long qc), .second, .val (.long qd), .second, .val (.long qe), .second, .val (.long qf), .second, .val (.ref b1), .val (.ref b10), .val (.long ff), .second, .val (.int (1 : Int32)), .val (.int (1 : Int32)), .val (.int (1 : Int32))] [(.int (1 : Int32))]))
      refine ownRetN X24 hlk hx (t := .boolean) hret (by simp) (hb hby at_163) (by decide) (by decide) ?_
      exact ⟨rfl, N18⟩
    · refine ownEnds.law (fun t => XS.ifNo X24.here hx rfl (hb hby at_97) rfl ((if0 _ _).trans (flt (fun q => hc97 ((lw_lt _ _).mp q))).1)) ?_
      show ownEnds _ _ _ _ (T24.setTop (mkF m 100 #[.val (.long qa), .second, .val (.long qb), .second, .val (.long qc), .second, .val (.long qd), .second, .val (.long qe), .second, .val (.long qf), .second, .val (.ref b1), .val (.ref b10), .val (.long ff), .second, .val (.int (1 : Int32)), .val (.int (1 : Int32)), .val (.int (1 : Int32))] []))
      refine ownEnds.law (fun t k => XS.lload X24.here hx rfl (hb hby at_100) rfl (XS.lconst X24.here hx rfl (hb hby at_102) (XS.lcmp X24.here hx rfl (hb hby at_103) rfl k))) ?_
      show ownEnds _ _ _ _ (T24.setTop (mkF m 104 #[.val (.long qa), .second, .val (.long qb), .second, .val (.long qc), .second, .val (.long qd), .second, .val (.long qe), .second, .val (.long qf), .second, .val (.ref b1), .val (.ref b10), .val (.long ff), .second, .val (.int (1 : Int32)), .val (.int (1 : Int32)), .val (.int (1 : Int32))] [(.int (lcmpW qc (0 : Int64)))]))
      by_cases hc104 : qc < (0 : Int64)
      · refine ownEnds.law (fun t => XS.ifYes X24.here hx rfl (pc0 := 104) (pc' := 143) rfl (hb hby at_104) rfl ((if0 _ _).trans (tlt ((lw_lt _ _).mpr hc104)).1) (by decide) (by decide)) ?_
        show ownEnds _ _ _ _ (T24.setTop (mkF m 143 #[.val (.long qa), .second, .val (.long qb), .second, .val (.long qc), .second, .val (.long qd), .second, .val (.long qe), .second, .val (.long qf), .second, .val (.ref b1), .val (.ref b10), .val (.long ff), .second, .val (.int (1 : Int32)), .val (.int (1 : Int32)), .val (.int (1 : Int32))] []))
        refine ownEnds.law (fun t k => XS.iload X24.here hx rfl (hb hby at_143) rfl k) ?_
        show ownEnds _ _ _ _ (T24.setTop (mkF m 145 #[.val (.long qa), .second, .val (.long qb), .second, .val (.long qc), .second, .val (.long qd), .second, .val (.long qe), .second, .val (.long qf), .second, .val (.ref b1), .val (.ref b10), .val (.long ff), .second, .val (.int (1 : Int32)), .val (.int (1 : Int32)), .val (.int (1 : Int32))] [(.int (1 : Int32))]))
        refine ownEnds.law (fun t => XS.ifNo X24.here hx rfl (hb hby at_145) rfl ((if0 _ _).trans (feq (by decide : ¬ ((1 : Int32) = (0 : Int32)))).1)) ?_
        show ownEnds _ _ _ _ (T24.setTop (mkF m 148 #[.val (.long qa), .second, .val (.long qb), .second, .val (.long qc), .second, .val (.long qd), .second, .val (.long qe), .second, .val (.long qf), .second, .val (.ref b1), .val (.ref b10), .val (.long ff), .second, .val (.int (1 : Int32)), .val (.int (1 : Int32)), .val (.int (1 : Int32))] []))
        refine ownEnds.law (fun t k => XS.iload X24.here hx rfl (hb hby at_148) rfl k) ?_
        show ownEnds _ _ _ _ (T24.setTop (mkF m 150 #[.val (.long qa), .second, .val (.long qb), .second, .val (.long qc), .second, .val (.long qd), .second, .val (.long qe), .second, .val (.long qf), .second, .val (.ref b1), .val (.ref b10), .val (.long ff), .second, .val (.int (1 : Int32)), .val (.int (1 : Int32)), .val (.int (1 : Int32))] [(.int (1 : Int32))]))
        refine ownEnds.law (fun t => XS.ifNo X24.here hx rfl (hb hby at_150) rfl ((if0 _ _).trans (feq (by decide : ¬ ((1 : Int32) = (0 : Int32)))).1)) ?_
        show ownEnds _ _ _ _ (T24.setTop (mkF m 153 #[.val (.long qa), .second, .val (.long qb), .second, .val (.long qc), .second, .val (.long qd), .second, .val (.long qe), .second, .val (.long qf), .second, .val (.ref b1), .val (.ref b10), .val (.long ff), .second, .val (.int (1 : Int32)), .val (.int (1 : Int32)), .val (.int (1 : Int32))] []))
        refine ownEnds.law (fun t k => XS.iload X24.here hx rfl (hb hby at_153) rfl k) ?_
        show ownEnds _ _ _ _ (T24.setTop (mkF m 155 #[.val (.long qa), .second, .val (.long qb), .second, .val (.long qc), .second, .val (.long qd), .second, .val (.long qe), .second, .val (.long qf), .second, .val (.ref b1), .val (.ref b10), .val (.long ff), .second, .val (.int (1 : Int32)), .val (.int (1 : Int32)), .val (.int (1 : Int32))] [(.int (1 : Int32))]))
        refine ownEnds.law (fun t => XS.ifNo X24.here hx rfl (hb hby at_155) rfl ((if0 _ _).trans (feq (by decide : ¬ ((1 : Int32) = (0 : Int32)))).1)) ?_
        show ownEnds _ _ _ _ (T24.setTop (mkF m 158 #[.val (.long qa), .second, .val (.long qb), .second, .val (.long qc), .second, .val (.long qd), .second, .val (.long qe), .second, .val (.long qf), .second, .val (.ref b1), .val (.ref b10), .val (.long ff), .second, .val (.int (1 : Int32)), .val (.int (1 : Int32)), .val (.int (1 : Int32))] []))
        refine ownEnds.law (fun t k => XS.iconst X24.here hx rfl (hb hby at_158) (XS.goto X24.here hx rfl (pc0 := 159) (pc' := 163) rfl (hb hby at_159) (by decide) (by decide) k)) ?_
        show ownEnds _ _ _ _ (T24.setTop (mkF m 163 #[.val (.long qa), .second, .val (.long qb), .second, .val (.long qc), .second, .val (.long qd), .second, .val (.long qe), .second, .val (.long qf), .second, .val (.ref b1), .val (.ref b10), .val (.long ff), .second, .val (.int (1 : Int32)), .val (.int (1 : Int32)), .val (.int (1 : Int32))] [(.int (1 : Int32))]))
        refine ownRetN X24 hlk hx (t := .boolean) hret (by simp) (hb hby at_163) (by decide) (by decide) ?_
        exact ⟨rfl, N18⟩
      · refine ownEnds.law (fun t => XS.ifNo X24.here hx rfl (hb hby at_104) rfl ((if0 _ _).trans (flt (fun q => hc104 ((lw_lt _ _).mp q))).1)) ?_
        show ownEnds _ _ _ _ (T24.setTop (mkF m 107 #[.val (.long qa), .second, .val (.long qb), .second, .val (.long qc), .second, .val (.long qd), .second, .val (.long qe), .second, .val (.long qf), .second, .val (.ref b1), .val (.ref b10), .val (.long ff), .second, .val (.int (1 : Int32)), .val (.int (1 : Int32)), .val (.int (1 : Int32))] []))
        refine ownEnds.law (fun t k => XS.lloadN X24.here hx rfl (hb hby at_107) rfl (XS.lloadN X24.here hx rfl (hb hby at_108) rfl (XS.lcmp X24.here hx rfl (hb hby at_109) rfl k))) ?_
        show ownEnds _ _ _ _ (T24.setTop (mkF m 110 #[.val (.long qa), .second, .val (.long qb), .second, .val (.long qc), .second, .val (.long qd), .second, .val (.long qe), .second, .val (.long qf), .second, .val (.ref b1), .val (.ref b10), .val (.long ff), .second, .val (.int (1 : Int32)), .val (.int (1 : Int32)), .val (.int (1 : Int32))] [(.int (lcmpW qb qa))]))
        by_cases hc110 : qa < qb
        · refine ownEnds.law (fun t => XS.ifYes X24.here hx rfl (pc0 := 110) (pc' := 143) rfl (hb hby at_110) rfl ((if0 _ _).trans (tlt ((lw_gt _ _).mpr hc110)).2.2.1) (by decide) (by decide)) ?_
          show ownEnds _ _ _ _ (T24.setTop (mkF m 143 #[.val (.long qa), .second, .val (.long qb), .second, .val (.long qc), .second, .val (.long qd), .second, .val (.long qe), .second, .val (.long qf), .second, .val (.ref b1), .val (.ref b10), .val (.long ff), .second, .val (.int (1 : Int32)), .val (.int (1 : Int32)), .val (.int (1 : Int32))] []))
          refine ownEnds.law (fun t k => XS.iload X24.here hx rfl (hb hby at_143) rfl k) ?_
          show ownEnds _ _ _ _ (T24.setTop (mkF m 145 #[.val (.long qa), .second, .val (.long qb), .second, .val (.long qc), .second, .val (.long qd), .second, .val (.long qe), .second, .val (.long qf), .second, .val (.ref b1), .val (.ref b10), .val (.long ff), .second, .val (.int (1 : Int32)), .val (.int (1 : Int32)), .val (.int (1 : Int32))] [(.int (1 : Int32))]))
          refine ownEnds.law (fun t => XS.ifNo X24.here hx rfl (hb hby at_145) rfl ((if0 _ _).trans (feq (by decide : ¬ ((1 : Int32) = (0 : Int32)))).1)) ?_
          show ownEnds _ _ _ _ (T24.setTop (mkF m 148 #[.val (.long qa), .second, .val (.long qb), .second, .val (.long qc), .second, .val (.long qd), .second, .val (.long qe), .second, .val (.long qf), .second, .val (.ref b1), .val (.ref b10), .val (.long ff), .second, .val (.int (1 : Int32)), .val (.int (1 : Int32)), .val (.int (1 : Int32))] []))
          refine ownEnds.law (fun t k => XS.iload X24.here hx rfl (hb hby at_148) rfl k) ?_
          show ownEnds _ _ _ _ (T24.setTop (mkF m 150 #[.val (.long qa), .second, .val (.long qb), .second, .val (.long qc), .second, .val (.long qd), .second, .val (.long qe), .second, .val (.long qf), .second, .val (.ref b1), .val (.ref b10), .val (.long ff), .second, .val (.int (1 : Int32)), .val (.int (1 : Int32)), .val (.int (1 : Int32))] [(.int (1 : Int32))]))
          refine ownEnds.law (fun t => XS.ifNo X24.here hx rfl (hb hby at_150) rfl ((if0 _ _).trans (feq (by decide : ¬ ((1 : Int32) = (0 : Int32)))).1)) ?_
          show ownEnds _ _ _ _ (T24.setTop (mkF m 153 #[.val (.long qa), .second, .val (.long qb), .second, .val (.long qc), .second, .val (.long qd), .second, .val (.long qe), .second, .val (.long qf), .second, .val (.ref b1), .val (.ref b10), .val (.long ff), .second, .val (.int (1 : Int32)), .val (.int (1 : Int32)), .val (.int (1 : Int32))] []))
          refine ownEnds.law (fun t k => XS.iload X24.here hx rfl (hb hby at_153) rfl k) ?_
          show ownEnds _ _ _ _ (T24.setTop (mkF m 155 #[.val (.long qa), .second, .val (.long qb), .second, .val (.long qc), .second, .val (.long qd), .second, .val (.long qe), .second, .val (.long qf), .second, .val (.ref b1), .val (.ref b10), .val (.long ff), .second, .val (.int (1 : Int32)), .val (.int (1 : Int32)), .val (.int (1 : Int32))] [(.int (1 : Int32))]))
          refine ownEnds.law (fun t => XS.ifNo X24.here hx rfl (hb hby at_155) rfl ((if0 _ _).trans (feq (by decide : ¬ ((1 : Int32) = (0 : Int32)))).1)) ?_
          show ownEnds _ _ _ _ (T24.setTop (mkF m 158 #[.val (.long qa), .second, .val (.long qb), .second, .val (.long qc), .second, .val (.long qd), .second, .val (.long qe), .second, .val (.long qf), .second, .val (.ref b1), .val (.ref b10), .val (.long ff), .second, .val (.int (1 : Int32)), .val (.int (1 : Int32)), .val (.int (1 : Int32))] []))
          refine ownEnds.law (fun t k => XS.iconst X24.here hx rfl (hb hby at_158) (XS.goto X24.here hx rfl (pc0 := 159) (pc' := 163) rfl (hb hby at_159) (by decide) (by decide) k)) ?_
          show ownEnds _ _ _ _ (T24.setTop (mkF m 163 #[.val (.long qa), .second, .val (.long qb), .second, .val (.long qc), .second, .val (.long qd), .second, .val (.long qe), .second, .val (.long qf), .second, .val (.ref b1), .val (.ref b10), .val (.long ff), .second, .val (.int (1 : Int32)), .val (.int (1 : Int32)), .val (.int (1 : Int32))] [(.int (1 : Int32))]))
          refine ownRetN X24 hlk hx (t := .boolean) hret (by simp) (hb hby at_163) (by decide) (by decide) ?_
          exact ⟨rfl, N18⟩
        · refine ownEnds.law (fun t => XS.ifNo X24.here hx rfl (hb hby at_110) rfl ((if0 _ _).trans (flt (fun q => hc110 ((lw_gt _ _).mp q))).2.2.1)) ?_
          show ownEnds _ _ _ _ (T24.setTop (mkF m 113 #[.val (.long qa), .second, .val (.long qb), .second, .val (.long qc), .second, .val (.long qd), .second, .val (.long qe), .second, .val (.long qf), .second, .val (.ref b1), .val (.ref b10), .val (.long ff), .second, .val (.int (1 : Int32)), .val (.int (1 : Int32)), .val (.int (1 : Int32))] []))
          refine ownEnds.law (fun t k => XS.lload X24.here hx rfl (hb hby at_113) rfl (XS.lloadN X24.here hx rfl (hb hby at_115) rfl (XS.lloadN X24.here hx rfl (hb hby at_116) rfl (XS.lsub X24.here hx rfl (hb hby at_117) rfl (XS.lcmp X24.here hx rfl (hb hby at_118) rfl k))))) ?_
          show ownEnds _ _ _ _ (T24.setTop (mkF m 119 #[.val (.long qa), .second, .val (.long qb), .second, .val (.long qc), .second, .val (.long qd), .second, .val (.long qe), .second, .val (.long qf), .second, .val (.ref b1), .val (.ref b10), .val (.long ff), .second, .val (.int (1 : Int32)), .val (.int (1 : Int32)), .val (.int (1 : Int32))] [(.int (lcmpW qc (qa - qb)))]))
          by_cases hc119 : (qa - qb) < qc
          · refine ownEnds.law (fun t => XS.ifYes X24.here hx rfl (pc0 := 119) (pc' := 143) rfl (hb hby at_119) rfl ((if0 _ _).trans (tlt ((lw_gt _ _).mpr hc119)).2.2.1) (by decide) (by decide)) ?_
            show ownEnds _ _ _ _ (T24.setTop (mkF m 143 #[.val (.long qa), .second, .val (.long qb), .second, .val (.long qc), .second, .val (.long qd), .second, .val (.long qe), .second, .val (.long qf), .second, .val (.ref b1), .val (.ref b10), .val (.long ff), .second, .val (.int (1 : Int32)), .val (.int (1 : Int32)), .val (.int (1 : Int32))] []))
            refine ownEnds.law (fun t k => XS.iload X24.here hx rfl (hb hby at_143) rfl k) ?_
            show ownEnds _ _ _ _ (T24.setTop (mkF m 145 #[.val (.long qa), .second, .val (.long qb), .second, .val (.long qc), .second, .val (.long qd), .second, .val (.long qe), .second, .val (.long qf), .second, .val (.ref b1), .val (.ref b10), .val (.long ff), .second, .val (.int (1 : Int32)), .val (.int (1 : Int32)), .val (.int (1 : Int32))] [(.int (1 : Int32))]))
            refine ownEnds.law (fun t => XS.ifNo X24.here hx rfl (hb hby at_145) rfl ((if0 _ _).trans (feq (by decide : ¬ ((1 : Int32) = (0 : Int32)))).1)) ?_
            show ownEnds _ _ _ _ (T24.setTop (mkF m 148 #[.val (.long qa), .second, .val (.long qb), .second, .val (.long qc), .second, .val (.long qd), .second, .val (.long qe), .second, .val (.long qf), .second, .val (.ref b1), .val (.ref b10), .val (.long ff), .second, .val (.int (1 : Int32)), .val (.int (1 : Int32)), .val (.int (1 : Int32))] []))
            refine ownEnds.law (fun t k => XS.iload X24.here hx rfl (hb hby at_148) rfl k) ?_
            show ownEnds _ _ _ _ (T24.setTop (mkF m 150 #[.val (.long qa), .second, .val (.long qb), .second, .val (.long qc), .second, .val (.long qd), .second, .val (.long qe), .second, .val (.long qf), .second, .val (.ref b1), .val (.ref b10), .val (.long ff), .second, .val (.int (1 : Int32)), .val (.int (1 : Int32)), .val (.int (1 : Int32))] [(.int (1 : Int32))]))
            refine ownEnds.law (fun t => XS.ifNo X24.here hx rfl (hb hby at_150) rfl ((if0 _ _).trans (feq (by decide : ¬ ((1 : Int32) = (0 : Int32)))).1)) ?_
            show ownEnds _ _ _ _ (T24.setTop (mkF m 153 #[.val (.long qa), .second, .val (.long qb), .second, .val (.long qc), .second, .val (.long qd), .second, .val (.long qe), .second, .val (.long qf), .second, .val (.ref b1), .val (.ref b10), .val (.long ff), .second, .val (.int (1 : Int32)), .val (.int (1 : Int32)), .val (.int (1 : Int32))] []))
            refine ownEnds.law (fun t k => XS.iload X24.here hx rfl (hb hby at_153) rfl k) ?_
            show ownEnds _ _ _ _ (T24.setTop (mkF m 155 #[.val (.long qa), .second, .val (.long qb), .second, .val (.long qc), .second, .val (.long qd), .second, .val (.long qe), .second, .val (.long qf), .second, .val (.ref b1), .val (.ref b10), .val (.long ff), .second, .val (.int (1 : Int32)), .val (.int (1 : Int32)), .val (.int (1 : Int32))] [(.int (1 : Int32))]))
            refine ownEnds.law (fun t => XS.ifNo X24.here hx rfl (hb hby at_155) rfl ((if0 _ _).trans (feq (by decide : ¬ ((1 : Int32) = (0 : Int32)))).1)) ?_
            show ownEnds _ _ _ _ (T24.setTop (mkF m 158 #[.val (.long qa), .second, .val (.long qb), .second, .val (.long qc), .second, .val (.long qd), .second, .val (.long qe), .second, .val (.long qf), .second, .val (.ref b1), .val (.ref b10), .val (.long ff), .second, .val (.int (1 : Int32)), .val (.int (1 : Int32)), .val (.int (1 : Int32))] []))
            refine ownEnds.law (fun t k => XS.iconst X24.here hx rfl (hb hby at_158) (XS.goto X24.here hx rfl (pc0 := 159) (pc' := 163) rfl (hb hby at_159) (by decide) (by decide) k)) ?_
            show ownEnds _ _ _ _ (T24.setTop (mkF m 163 #[.val (.long qa), .second, .val (.long qb), .second, .val (.long qc), .second, .val (.long qd), .second, .val (.long qe), .second, .val (.long qf), .second, .val (.ref b1), .val (.ref b10), .val (.long ff), .second, .val (.int (1 : Int32)), .val (.int (1 : Int32)), .val (.int (1 : Int32))] [(.int (1 : Int32))]))
            refine ownRetN X24 hlk hx (t := .boolean) hret (by simp) (hb hby at_163) (by decide) (by decide) ?_
            exact ⟨rfl, N18⟩
          · refine ownEnds.law (fun t => XS.ifNo X24.here hx rfl (hb hby at_119) rfl ((if0 _ _).trans (flt (fun q => hc119 ((lw_gt _ _).mp q))).2.2.1)) ?_
            show ownEnds _ _ _ _ (T24.setTop (mkF m 122 #[.val (.long qa), .second, .val (.long qb), .second, .val (.long qc), .second, .val (.long qd), .second, .val (.long qe), .second, .val (.long qf), .second, .val (.ref b1), .val (.ref b10), .val (.long ff), .second, .val (.int (1 : Int32)), .val (.int (1 : Int32)), .val (.int (1 : Int32))] []))
            refine ownEnds.law (fun t k => XS.lconst X24.here hx rfl (hb hby at_122) (XS.lload X24.here hx rfl (hb hby at_123) rfl (XS.lcmp X24.here hx rfl (hb hby at_125) rfl k))) ?_
            show ownEnds _ _ _ _ (T24.setTop (mkF m 126 #[.val (.long qa), .second, .val (.long qb), .second, .val (.long qc), .second, .val (.long qd), .second, .val (.long qe), .second, .val (.long qf), .second, .val (.ref b1), .val (.ref b10), .val (.long ff), .second, .val (.int (1 : Int32)), .val (.int (1 : Int32)), .val (.int (1 : Int32))] [(.int (lcmpW (0 : Int64) ff))]))
            have hc126 : ¬ (ff < (0 : Int64)) := (own_b e_ff hc91 hc97 hc104 hc110 hc119).1
            refine ownEnds.law (fun t => XS.ifNo X24.here hx rfl (hb hby at_126) rfl ((if0 _ _).trans (flt (fun q => hc126 ((lw_gt _ _).mp q))).2.2.1)) ?_
            show ownEnds _ _ _ _ (T24.setTop (mkF m 129 #[.val (.long qa), .second, .val (.long qb), .second, .val (.long qc), .second, .val (.long qd), .second, .val (.long qe), .second, .val (.long qf), .second, .val (.ref b1), .val (.ref b10), .val (.long ff), .second, .val (.int (1 : Int32)), .val (.int (1 : Int32)), .val (.int (1 : Int32))] []))
            refine ownEnds.law (fun t k => XS.lload X24.here hx rfl (hb hby at_129) rfl (XS.lloadN X24.here hx rfl (hb hby at_131) rfl (XS.lcmp X24.here hx rfl (hb hby at_132) rfl k))) ?_
            show ownEnds _ _ _ _ (T24.setTop (mkF m 133 #[.val (.long qa), .second, .val (.long qb), .second, .val (.long qc), .second, .val (.long qd), .second, .val (.long qe), .second, .val (.long qf), .second, .val (.ref b1), .val (.ref b10), .val (.long ff), .second, .val (.int (1 : Int32)), .val (.int (1 : Int32)), .val (.int (1 : Int32))] [(.int (lcmpW ff qa))]))
            have hc133 : ¬ (qa < ff) := (own_b e_ff hc91 hc97 hc104 hc110 hc119).2
            refine ownEnds.law (fun t => XS.ifNo X24.here hx rfl (hb hby at_133) rfl ((if0 _ _).trans (flt (fun q => hc133 ((lw_gt _ _).mp q))).2.2.1)) ?_
            show ownEnds _ _ _ _ (T24.setTop (mkF m 136 #[.val (.long qa), .second, .val (.long qb), .second, .val (.long qc), .second, .val (.long qd), .second, .val (.long qe), .second, .val (.long qf), .second, .val (.ref b1), .val (.ref b10), .val (.long ff), .second, .val (.int (1 : Int32)), .val (.int (1 : Int32)), .val (.int (1 : Int32))] []))
            refine ownEnds.law (fun t k => XS.iconst X24.here hx rfl (hb hby at_136) (XS.goto X24.here hx rfl (pc0 := 137) (pc' := 141) rfl (hb hby at_137) (by decide) (by decide) (XS.istore X24.here hx rfl (hb hby at_141) rfl (l' := #[.val (.long qa), .second, .val (.long qb), .second, .val (.long qc), .second, .val (.long qd), .second, .val (.long qe), .second, .val (.long qf), .second, .val (.ref b1), .val (.ref b10), .val (.long ff), .second, .val (.int (1 : Int32)), .val (.int (1 : Int32)), .val (.int (1 : Int32))]) rfl (XS.iload X24.here hx rfl (hb hby at_143) rfl k)))) ?_
            show ownEnds _ _ _ _ (T24.setTop (mkF m 145 #[.val (.long qa), .second, .val (.long qb), .second, .val (.long qc), .second, .val (.long qd), .second, .val (.long qe), .second, .val (.long qf), .second, .val (.ref b1), .val (.ref b10), .val (.long ff), .second, .val (.int (1 : Int32)), .val (.int (1 : Int32)), .val (.int (1 : Int32))] [(.int (1 : Int32))]))
            refine ownEnds.law (fun t => XS.ifNo X24.here hx rfl (hb hby at_145) rfl ((if0 _ _).trans (feq (by decide : ¬ ((1 : Int32) = (0 : Int32)))).1)) ?_
            show ownEnds _ _ _ _ (T24.setTop (mkF m 148 #[.val (.long qa), .second, .val (.long qb), .second, .val (.long qc), .second, .val (.long qd), .second, .val (.long qe), .second, .val (.long qf), .second, .val (.ref b1), .val (.ref b10), .val (.long ff), .second, .val (.int (1 : Int32)), .val (.int (1 : Int32)), .val (.int (1 : Int32))] []))
            refine ownEnds.law (fun t k => XS.iload X24.here hx rfl (hb hby at_148) rfl k) ?_
            show ownEnds _ _ _ _ (T24.setTop (mkF m 150 #[.val (.long qa), .second, .val (.long qb), .second, .val (.long qc), .second, .val (.long qd), .second, .val (.long qe), .second, .val (.long qf), .second, .val (.ref b1), .val (.ref b10), .val (.long ff), .second, .val (.int (1 : Int32)), .val (.int (1 : Int32)), .val (.int (1 : Int32))] [(.int (1 : Int32))]))
            refine ownEnds.law (fun t => XS.ifNo X24.here hx rfl (hb hby at_150) rfl ((if0 _ _).trans (feq (by decide : ¬ ((1 : Int32) = (0 : Int32)))).1)) ?_
            show ownEnds _ _ _ _ (T24.setTop (mkF m 153 #[.val (.long qa), .second, .val (.long qb), .second, .val (.long qc), .second, .val (.long qd), .second, .val (.long qe), .second, .val (.long qf), .second, .val (.ref b1), .val (.ref b10), .val (.long ff), .second, .val (.int (1 : Int32)), .val (.int (1 : Int32)), .val (.int (1 : Int32))] []))
            refine ownEnds.law (fun t k => XS.iload X24.here hx rfl (hb hby at_153) rfl k) ?_
            show ownEnds _ _ _ _ (T24.setTop (mkF m 155 #[.val (.long qa), .second, .val (.long qb), .second, .val (.long qc), .second, .val (.long qd), .second, .val (.long qe), .second, .val (.long qf), .second, .val (.ref b1), .val (.ref b10), .val (.long ff), .second, .val (.int (1 : Int32)), .val (.int (1 : Int32)), .val (.int (1 : Int32))] [(.int (1 : Int32))]))
            refine ownEnds.law (fun t => XS.ifNo X24.here hx rfl (hb hby at_155) rfl ((if0 _ _).trans (feq (by decide : ¬ ((1 : Int32) = (0 : Int32)))).1)) ?_
            show ownEnds _ _ _ _ (T24.setTop (mkF m 158 #[.val (.long qa), .second, .val (.long qb), .second, .val (.long qc), .second, .val (.long qd), .second, .val (.long qe), .second, .val (.long qf), .second, .val (.ref b1), .val (.ref b10), .val (.long ff), .second, .val (.int (1 : Int32)), .val (.int (1 : Int32)), .val (.int (1 : Int32))] []))
            refine ownEnds.law (fun t k => XS.iconst X24.here hx rfl (hb hby at_158) (XS.goto X24.here hx rfl (pc0 := 159) (pc' := 163) rfl (hb hby at_159) (by decide) (by decide) k)) ?_
            show ownEnds _ _ _ _ (T24.setTop (mkF m 163 #[.val (.long qa), .second, .val (.long qb), .second, .val (.long qc), .second, .val (.long qd), .second, .val (.long qe), .second, .val (.long qf), .second, .val (.ref b1), .val (.ref b10), .val (.long ff), .second, .val (.int (1 : Int32)), .val (.int (1 : Int32)), .val (.int (1 : Int32))] [(.int (1 : Int32))]))
            refine ownRetN X24 hlk hx (t := .boolean) hret (by simp) (hb hby at_163) (by decide) (by decide) ?_
            exact ⟨rfl, N18⟩
set_option maxRecDepth 65536 in
set_option maxHeartbeats 40000000 in
theorem comes_1 {Post : Tables → Env → Array Value → State → Outcome → State → Prop} (hpost : ∀ tb e args s v u, (limb_1_1.after args s (.returned v) u = true ∧ limb_1_2.after args s (.returned v) u = true ∧ True) → FrameEnd s (.returned v) u (Jvm.fieldLocs frame_1_writes args s ++ Jvm.arrayLocs frame_1_arrays args s ++ Jvm.staticLocs frame_1_statics s) 16 128 → Post tb e args s (.returned v) u) :
    ArmFor flags0 classFile x code maxLocals ret World_1 tables_1 room_1 Calls_1 rest_1 Pre_1 Post := by
  intro l hfl _ _ p e ha hc hk s m args below hf hA hF happ hP
  obtain ⟨hcalls, hrest, hpre⟩ := hP
  obtain ⟨-, -, -, hnamed, -, -, -, hat⟩ := (Spec.applies_iff hf).mp happ
  obtain ⟨hg, hn⟩ := and_e (Cond.before_iff.mp (show (Jvm.Cond.and given_1 narrow_1).before args s = true from hpre))
  obtain ⟨gg1, gg2⟩ := and_e hg
  obtain ⟨gg3, gg4⟩ := and_e gg2
  obtain ⟨gg5, gg6⟩ := and_e gg4
  obtain ⟨gg7, gg8⟩ := and_e gg6
  obtain ⟨gg9, gg10⟩ := and_e gg8
  obtain ⟨gg11, gg12⟩ := and_e gg10
  obtain ⟨w0, w1, w2, w3, w4, w5, rfl⟩ : ∃ w0 w1 w2 w3 w4 w5 : Value, args = #[w0, w1, w2, w3, w4, w5] := by
    have hs : args.size = 6 := by simpa [Cond.value, given_1] using gg1
    obtain ⟨L⟩ := args
    match L, hs with
    | [w0, w1, w2, w3, w4, w5], _ => exact ⟨w0, w1, w2, w3, w4, w5, rfl⟩
  have hw := fun d (hd : d ∈ tables_1) => atoms_spec (ws := Jvm.Cond.code x code maxLocals ret :: tables_1) hat d (List.mem_cons_of_mem _ hd)
  have hfit : Fit s := fun {y c} hc i hi => by
    obtain ⟨ha, rfl⟩ := Array.getElem?_eq_some_iff.mp hc
    have q := List.all_eq_true.mp ((Array.all_eq_true_iff_forall_mem.mp hF) _ (Array.getElem_mem ha)) i (List.mem_range.mpr hi)
    simpa [Array.getElem?_eq_getElem hi] using q
  obtain ⟨i0, ei0⟩ := isL_v gg3
  obtain rfl : w0 = (.long i0) := Option.some.inj ei0
  obtain ⟨i1, ei1⟩ := isL_v gg5
  obtain rfl : w1 = (.long i1) := Option.some.inj ei1
  obtain ⟨i2, ei2⟩ := isL_v gg7
  obtain rfl : w2 = (.long i2) := Option.some.inj ei2
  obtain ⟨i3, ei3⟩ := isL_v gg9
  obtain rfl : w3 = (.long i3) := Option.some.inj ei3
  obtain ⟨i4, ei4⟩ := isL_v gg11
  obtain rfl : w4 = (.long i4) := Option.some.inj ei4
  obtain ⟨i5, ei5⟩ := isL_v gg12
  obtain rfl : w5 = (.long i5) := Option.some.inj ei5
  obtain ⟨n, o, h1, h2, h3, _, L, rfl, ⟨rfl, N⟩, hq⟩ := rm0 l s _ hw i0 i1 i2 i3 i4 i5  s.heap s.heap.size (Nat.le_refl _)  p e ha hc hk s m _ below hf ((Spec.applies_iff_loose hf).mp happ).1 ⟨rfl, State.Warmed39.refl s, rfl⟩ trivial
  refine ⟨n, _, h1, h2, h3, hpost _ _ _ _ _ _ ⟨Cond.after_iff.mpr rfl, Cond.after_iff.mpr (eq_i res_at (Term.int_eval (1)) rfl), trivial⟩ ⟨hq.1, hq.2.1, (hq.2.2.sift fun y hy => Or.inr (N y hy)).mono (by decide) (by decide)⟩⟩
theorem main_1_1 : Claimed_1_1 := comes_1 fun _ _ _ _ _ _ h hF => ⟨h.1, hF⟩
theorem main_1_2 : Claimed_1_2 := comes_1 fun _ _ _ _ _ _ h hF => ⟨h.2.1, hF⟩
end Jvm.Pilot.@@N@@
namespace Jvm.Pilot.@@N@@
open Jvm Jvm.ClassFile Sem Op Lib Jvm.Free Jvm.Stand Jvm.Pilot.@@N@@.Jvm.D
/-! MADE BY PROGRAM (witnessworld.py) out of the Statement's table words and the real class files: 10 classes; the members and pool entries that the words name. The judged class is class 1, her method 1. -/
namespace start1
open Jvm.ClassFile
def u (s : String) : CpInfo := .utf8 (stringToUtf16 s)
/-- a pool by its gaps: so many unusable entries, then the entry; so many at the end -/
def gap : Nat → List CpInfo → List CpInfo
  | 0, r => r
  | n + 1, r => .unusable :: gap n r
def poolList (es : List (Nat × CpInfo)) (last : Nat) : List CpInfo := es.foldr (fun e r => gap e.1 (e.2 :: r)) (gap last [])
def pool (es : List (Nat × CpInfo)) (last : Nat) : Array CpInfo := ⟨poolList es last⟩
def fileOf (pool : Array CpInfo) (this : Nat) (attrs : Array Attribute := #[]) (ms : Array MethodInfo := #[]) (fl : Nat := 33) (sup : Nat := 0) (ifs : Array Nat := #[]) (fds : Array FieldInfo := #[]) : ClassFile where
  minorVersion := 0
  majorVersion := 65
  constantPool := pool
  accessFlags := fl
  thisClass := this
  superClass := sup
  interfaces := ifs
  fields := fds
  methods := ms
  attributes := attrs
def plain (name : String) (sup : Option ClassId) : Class where
  name := name
  kind := .ordinary
  loader := none
  accessFlags := 33
  super := sup
  interfaces := #[]
  cf := none
  fields := #[]
  methods := #[]
  instanceTypes := #[]
  staticTypes := #[]
  resolved := #[]
  callSites := []
  init := .initialized
  statics := none
  mirror := none

def pool0 : Array CpInfo := pool [(5, u "<init>"), (0, u "()V"), (1, .class_ 10), (1, u "java/lang/Object")] 113

def k0c0 : Code := { maxStack := 0, maxLocals := 1, code := object_method_1_code, exceptionTable := #[], attributes := #[] }
def k0m0 : Method := { name := "<init>", desc := "()V", sig := { parameters := [], returnType := none }, accessFlags := 1, code := some k0c0 }
/-- java/lang/Object -/
def k0 : Class := { plain "java/lang/Object" none with
  accessFlags := 33
  interfaces := #[]
  cf := some (fileOf pool0 8 #[] #[{ accessFlags := 1, nameIndex := 5, descriptorIndex := 6, attributes := #[] }] 33 0 #[] #[])
  fields := #[]
  methods := #[k0m0]
  instanceTypes := #[]
  staticTypes := #[]
  resolved := Array.replicate 124 none
  statics := none }

def pool1 : Array CpInfo := pool [(2, .class_ 4), (1, u "java/lang/Object"), (0, u "<init>"), (0, u "()V"), (0, .class_ 8), (0, u "com/example/tallydb/tallydb/TokenCounts"), (0, .methodref 7 10), (0, .nameAndType 5 11), (0, u "(JJJJJJJ)V"), (0, .methodref 7 13), (0, .nameAndType 14 15), (0, u "freshPrompt"), (0, u "()J"), (0, .class_ 17), (0, u "com/example/tallydb/tallydb/TokenCountsFreshPromptPinLaw"), (2, u "law"), (0, u "(JJJJJJ)Z")] 3

def k1m0 : Method := { name := "<init>", desc := "()V", sig := { parameters := [], returnType := none }, accessFlags := 1, code := none }
def k1c1 : Code := { maxStack := 18, maxLocals := 19, code := code, exceptionTable := #[], attributes := #[] }
def k1m1 : Method := { name := "law", desc := "(JJJJJJ)Z", sig := { parameters := [.long, .long, .long, .long, .long, .long], returnType := some .boolean }, accessFlags := 9, code := some k1c1 }
/-- com/example/tallydb/tallydb/TokenCountsFreshPromptPinLaw -/
def k1 : Class := { plain "com/example/tallydb/tallydb/TokenCountsFreshPromptPinLaw" (some 0) with
  accessFlags := 49
  interfaces := #[]
  cf := some (fileOf pool1 16 #[] #[{ accessFlags := 1, nameIndex := 5, descriptorIndex := 6, attributes := #[] }, { accessFlags := 9, nameIndex := 20, descriptorIndex := 21, attributes := #[] }] 49 2 #[] #[])
  fields := #[]
  methods := #[k1m0, k1m1]
  instanceTypes := #[]
  staticTypes := #[]
  resolved := Array.replicate 25 none
  statics := none }

def pool2 : Array CpInfo := pool [(1, .methodref 2 3), (0, .class_ 4), (0, .nameAndType 5 6), (0, u "java/lang/Object"), (0, u "<init>"), (0, u "()V"), (0, .class_ 8), (0, u "java/lang/Record")] 13

def k2c0 : Code := { maxStack := 1, maxLocals := 1, code := jdk_30_method_1_code, exceptionTable := #[], attributes := #[] }
def k2m0 : Method := { name := "<init>", desc := "()V", sig := { parameters := [], returnType := none }, accessFlags := 4, code := some k2c0 }
/-- java/lang/Record -/
def k2 : Class := { plain "java/lang/Record" (some 0) with
  accessFlags := 1057
  interfaces := #[]
  cf := some (fileOf pool2 7 #[] #[{ accessFlags := 4, nameIndex := 5, descriptorIndex := 6, attributes := #[] }] 1057 2 #[] #[])
  fields := #[]
  methods := #[k2m0]
  instanceTypes := #[]
  staticTypes := #[]
  resolved := Array.replicate 22 none
  statics := none }

def pool3 : Array CpInfo := pool [(1, .methodref 2 3), (0, .class_ 4), (0, .nameAndType 5 6), (0, u "java/lang/Record"), (0, u "<init>"), (0, u "()V"), (0, .fieldref 8 9), (0, .class_ 10), (0, .nameAndType 11 12), (0, u "com/example/tallydb/tallydb/TokenCounts"), (0, u "prompt"), (0, u "J"), (0, .fieldref 8 14), (0, .nameAndType 15 12), (0, u "cachedPrompt"), (0, .fieldref 8 17), (0, .nameAndType 18 12), (0, u "cacheWritePrompt"), (0, .fieldref 8 20), (0, .nameAndType 21 12), (0, u "completion"), (0, .fieldref 8 23), (0, .nameAndType 24 12), (0, u "cacheWrite1hPrompt"), (0, .fieldref 8 26), (0, .nameAndType 27 12), (0, u "audioPrompt"), (0, .fieldref 8 29), (0, .nameAndType 30 12), (0, u "audioCompletion"), (2, u "(JJJJJJJ)V"), (2, u "freshPrompt"), (0, u "()J")] 50

def k3c0 : Code := { maxStack := 3, maxLocals := 15, code := prog_36_method_2_code, exceptionTable := #[], attributes := #[] }
def k3m0 : Method := { name := "<init>", desc := "(JJJJJJJ)V", sig := { parameters := [.long, .long, .long, .long, .long, .long, .long], returnType := none }, accessFlags := 1, code := some k3c0 }
def k3c1 : Code := { maxStack := 4, maxLocals := 1, code := prog_36_method_3_code, exceptionTable := #[], attributes := #[] }
def k3m1 : Method := { name := "freshPrompt", desc := "()J", sig := { parameters := [], returnType := some .long }, accessFlags := 1, code := some k3c1 }
/-- com/example/tallydb/tallydb/TokenCounts -/
def k3 : Class := { plain "com/example/tallydb/tallydb/TokenCounts" (some 2) with
  accessFlags := 49
  interfaces := #[]
  cf := some (fileOf pool3 8 #[] #[{ accessFlags := 1, nameIndex := 5, descriptorIndex := 33, attributes := #[] }, { accessFlags := 1, nameIndex := 36, descriptorIndex := 37, attributes := #[] }] 49 2 #[] #[{ accessFlags := 18, nameIndex := 11, descriptorIndex := 12, attributes := #[] }, { accessFlags := 18, nameIndex := 15, descriptorIndex := 12, attributes := #[] }, { accessFlags := 18, nameIndex := 18, descriptorIndex := 12, attributes := #[] }, { accessFlags := 18, nameIndex := 21, descriptorIndex := 12, attributes := #[] }, { accessFlags := 18, nameIndex := 24, descriptorIndex := 12, attributes := #[] }, { accessFlags := 18, nameIndex := 27, descriptorIndex := 12, attributes := #[] }, { accessFlags := 18, nameIndex := 30, descriptorIndex := 12, attributes := #[] }])
  fields := #[{ name := "prompt", type := .long, accessFlags := 18, slot := 0, constantValue := 0 }, { name := "cachedPrompt", type := .long, accessFlags := 18, slot := 1, constantValue := 0 }, { name := "cacheWritePrompt", type := .long, accessFlags := 18, slot := 2, constantValue := 0 }, { name := "completion", type := .long, accessFlags := 18, slot := 3, constantValue := 0 }, { name := "cacheWrite1hPrompt", type := .long, accessFlags := 18, slot := 4, constantValue := 0 }, { name := "audioPrompt", type := .long, accessFlags := 18, slot := 5, constantValue := 0 }, { name := "audioCompletion", type := .long, accessFlags := 18, slot := 6, constantValue := 0 }]
  methods := #[k3m0, k3m1]
  instanceTypes := #[.long, .long, .long, .long, .long, .long, .long]
  staticTypes := #[]
  resolved := Array.replicate 88 none
  statics := none }

def pool4 : Array CpInfo := pool [(1, u "java/lang/Cloneable"), (0, .class_ 1), (0, u "java/lang/Object"), (0, .class_ 3)] 3

/-- java/lang/Cloneable -/
def k4 : Class := { plain "java/lang/Cloneable" (some 0) with
  accessFlags := 1537
  interfaces := #[]
  cf := some (fileOf pool4 2 #[] #[] 1537 4 #[] #[])
  fields := #[]
  methods := #[]
  instanceTypes := #[]
  staticTypes := #[]
  resolved := Array.replicate 8 none
  statics := none }

def pool5 : Array CpInfo := pool [(1, u "java/io/Serializable"), (0, .class_ 1), (0, u "java/lang/Object"), (0, .class_ 3)] 3

/-- java/io/Serializable -/
def k5 : Class := { plain "java/io/Serializable" (some 0) with
  accessFlags := 1537
  interfaces := #[]
  cf := some (fileOf pool5 2 #[] #[] 1537 4 #[] #[])
  fields := #[]
  methods := #[]
  instanceTypes := #[]
  staticTypes := #[]
  resolved := Array.replicate 8 none
  statics := none }

/-- the primitive byte -/
def k6 : Class := { plain "byte" none with kind := .primitive 'B', accessFlags := 0x411 }
/-- [B -/
def k7 : Class := { plain "[B" (some 0) with kind := .array 6 .byte, interfaces := #[4, 5], accessFlags := 1041 }

/-- the primitive int -/
def k8 : Class := { plain "int" none with kind := .primitive 'I', accessFlags := 0x411 }
/-- [I -/
def k9 : Class := { plain "[I" (some 0) with kind := .array 8 .int, interfaces := #[4, 5], accessFlags := 1041 }

def heap : Heap := #[]
def classes : Array Class := #[k0, k1, k2, k3, k4, k5, k6, k7, k8, k9]
def interned : List (Array UInt16 × Addr) := []
def slotsUsed : Nat := 0
def theMethod : MethodId := ⟨1, 1⟩
def args0 : Array Value := #[.long 9, .long 3, .long 2, .long 7, .long 8, .long 1]
def aboutOver (below : List Frame) : State where
  vm := { classes := classes, interned := interned.toArray }
  heap := heap
  slotsUsed := slotsUsed
  threads := #[{ frames := .invoking theMethod args0 :: below }]
def below0 : List Frame := [.native { method := ⟨0, 0⟩, args := #[] }]
def about1 : State := aboutOver below0
def p0 : Program := .bare "" "" ""
def e0 : Env := launch0.env 0 0 0
theorem w_frames : about1.frames = Frame.invoking theMethod args0 :: below0 := rfl
set_option maxRecDepth 65536 in
theorem w_args : argsFit about1.vm theMethod args0 = true := by decide +kernel
set_option maxRecDepth 65536 in
theorem w_heap : heapFits about1 = true := by decide +kernel
set_option maxRecDepth 65536 in
theorem w_runnable : about1.curStatus? = some .runnable := by decide +kernel
set_option maxRecDepth 65536 in
theorem w_alone : about1.alone = true := by decide +kernel
set_option maxRecDepth 65536 in
theorem w_named : about1.methodNamed? x = some theMethod := by decide +kernel
set_option maxRecDepth 65536 in
theorem w_hears : about1.hears theMethod below0 = true := by decide +kernel
set_option maxRecDepth 65536 in
theorem w_ripe : about1.ripe theMethod args0 below0 = true := by decide +kernel
theorem w_running : about1.status = .running := rfl
set_option maxRecDepth 65536 in
theorem w_room : about1.hasRoom e0.platform room_1 = true :=
  launch0.hasRoom_least _ room_1 (by decide +kernel) (by decide +kernel) (by decide +kernel) (by decide +kernel) (by decide +kernel) (by decide +kernel)
theorem allAtoms_all (ts : List Jvm.Cond) (a : Array Jvm.Value) (st : Jvm.State) : (allAtoms ts).before a st = ts.all (fun c => c.before a st) := by
  induction ts with
  | nil => rfl
  | cons c t ih =>
    show (Jvm.Cond.and c (allAtoms t)).before a st = _
    rw [Jvm.Cond.before_and, ih, List.all_cons]
def words1 : List Jvm.Cond := Jvm.Cond.code x code maxLocals ret :: tables_1
/-- a 'code' word, met by the world's own term for the bytes: nothing is compared byte by byte -/
theorem code_word {y : MethodName} {bytes : ByteArray} {mx : Nat} {rt : Option FieldType} {a : Array Value} {s : State} {m : MethodId} {meth : Method} {c : Code} (h1 : s.methodNamed? y = some m) (h2 : s.vm.method? m = some meth) (h3 : meth.code = some c) (h4 : c.code = bytes)
    (h5 : (c.maxLocals == mx && c.exceptionTable.isEmpty && decide (c.maxStack ≤ mostOperands) && decide (meth.sig.returnType = rt) && !meth.locks && decide (parseMethodDescriptor y.desc = some meth.sig)) = true) : (Jvm.Cond.code y bytes mx rt).before a s = true := by
  simp only [Bool.and_eq_true, beq_iff_eq, Bool.not_eq_true', decide_eq_true_eq] at h5
  obtain ⟨⟨⟨⟨⟨g1, g2⟩, g3⟩, g4⟩, g5⟩, g6⟩ := h5
  simp [Cond.before, Cond.holds, Cond.value, h1, h2, h3, h4, g1, g2, g3, g4, g5, g6]
def isCode : Jvm.Cond → Bool
  | .code _ _ _ _ => true
  | _ => false
theorem all_split {L : List Jvm.Cond} {P : Jvm.Cond → Bool} (h1 : L.all (fun c => isCode c || P c) = true) (h2 : ∀ c ∈ L.filter isCode, P c = true) : L.all P = true := by
  refine List.all_eq_true.mpr fun c hc => ?_
  have h := List.all_eq_true.mp h1 c hc
  rcases Bool.eq_false_or_eq_true (isCode c) with hi | hi
  · exact h2 c (List.mem_filter.mpr ⟨hc, hi⟩)
  · simpa [hi] using h
set_option maxRecDepth 65536 in
theorem w_c0 : (Jvm.Cond.code x code maxLocals ret).before args0 about1 = true := code_word (m := ⟨1, 1⟩) (meth := k1m1) (c := k1c1) (by decide +kernel) rfl rfl rfl (by decide +kernel)
set_option maxRecDepth 65536 in
theorem w_c1 : (Jvm.Cond.code ({ cls := "com/example/tallydb/tallydb/TokenCounts", name := "<init>", desc := "(JJJJJJJ)V" } : Jvm.MethodName) prog_36_method_2_code (15 : Nat) (Option.none : Option Jvm.ClassFile.FieldType)).before args0 about1 = true := code_word (m := ⟨3, 0⟩) (meth := k3m0) (c := k3c0) (by decide +kernel) rfl rfl rfl (by decide +kernel)
set_option maxRecDepth 65536 in
theorem w_c2 : (Jvm.Cond.code ({ cls := "java/lang/Record", name := "<init>", desc := "()V" } : Jvm.MethodName) jdk_30_method_1_code (1 : Nat) (Option.none : Option Jvm.ClassFile.FieldType)).before args0 about1 = true := code_word (m := ⟨2, 0⟩) (meth := k2m0) (c := k2c0) (by decide +kernel) rfl rfl rfl (by decide +kernel)
set_option maxRecDepth 65536 in
theorem w_c3 : (Jvm.Cond.code ({ cls := "java/lang/Object", name := "<init>", desc := "()V" } : Jvm.MethodName) object_method_1_code (1 : Nat) (Option.none : Option Jvm.ClassFile.FieldType)).before args0 about1 = true := code_word (m := ⟨0, 0⟩) (meth := k0m0) (c := k0c0) (by decide +kernel) rfl rfl rfl (by decide +kernel)
set_option maxRecDepth 65536 in
theorem w_c4 : (Jvm.Cond.code ({ cls := "com/example/tallydb/tallydb/TokenCounts", name := "freshPrompt", desc := "()J" } : Jvm.MethodName) prog_36_method_3_code (1 : Nat) (Option.some Jvm.ClassFile.FieldType.long)).before args0 about1 = true := code_word (m := ⟨3, 1⟩) (meth := k3m1) (c := k3c1) (by decide +kernel) rfl rfl rfl (by decide +kernel)
def codes1 : List Jvm.Cond := [Jvm.Cond.code x code maxLocals ret, Jvm.Cond.code ({ cls := "com/example/tallydb/tallydb/TokenCounts", name := "<init>", desc := "(JJJJJJJ)V" } : Jvm.MethodName) prog_36_method_2_code (15 : Nat) (Option.none : Option Jvm.ClassFile.FieldType), Jvm.Cond.code ({ cls := "java/lang/Record", name := "<init>", desc := "()V" } : Jvm.MethodName) jdk_30_method_1_code (1 : Nat) (Option.none : Option Jvm.ClassFile.FieldType), Jvm.Cond.code ({ cls := "java/lang/Object", name := "<init>", desc := "()V" } : Jvm.MethodName) object_method_1_code (1 : Nat) (Option.none : Option Jvm.ClassFile.FieldType), Jvm.Cond.code ({ cls := "com/example/tallydb/tallydb/TokenCounts", name := "freshPrompt", desc := "()J" } : Jvm.MethodName) prog_36_method_3_code (1 : Nat) (Option.some Jvm.ClassFile.FieldType.long)]
set_option maxRecDepth 65536 in
theorem codes_eq : words1.filter isCode = codes1 := rfl
theorem w_codes : ∀ c ∈ words1.filter isCode, c.before args0 about1 = true := by
  rw [codes_eq]
  intro c hc
  simp only [codes1, List.mem_cons, List.not_mem_nil, or_false] at hc
  rcases hc with rfl | rfl | rfl | rfl | rfl
  · exact w_c0
  · exact w_c1
  · exact w_c2
  · exact w_c3
  · exact w_c4
set_option maxRecDepth 65536 in
theorem w_t1 : (words1.take 24).all (fun c => isCode c || c.before args0 about1) = true := by decide +kernel
set_option maxRecDepth 65536 in
theorem w_t2 : (words1.drop 24).all (fun c => isCode c || c.before args0 about1) = true := by decide +kernel
theorem w_tables : (allAtoms (Jvm.Cond.code x code maxLocals ret :: tables_1)).before args0 about1 = true := by
  rw [allAtoms_all]
  show words1.all (fun c => c.before args0 about1) = true
  refine all_split ?_ w_codes
  rw [← List.take_append_drop 24 words1, List.all_append, w_t1, w_t2]
  rfl
set_option maxRecDepth 65536 in
theorem w_case : (Jvm.Cond.and given_1 narrow_1).before args0 about1 = true := by decide +kernel
theorem w_applies : (headSpec (Jvm.Cond.code x code maxLocals ret :: tables_1) room_1).applies x e0.platform about1 = true :=
  (Spec.applies_iff w_frames).mpr ⟨w_running, w_runnable, w_alone, w_named, w_hears, w_ripe, w_room, w_tables⟩
theorem atStart : AtStart classFile x code maxLocals ret World_1 tables_1 room_1 Calls_1 rest_1 Pre_1 launch0 p0 e0 about1 theMethod args0 below0 :=
  ⟨lists_1, trivial, launch0.admits_env _ _ _, launch0.least_env, fairChoices_fair.cas, fairChoices_fair.clock, w_frames, w_args, w_heap, w_applies, trivial, trivial, w_case⟩
end start1
theorem witness_1 : WitnessClaimed_1 := ⟨start1.p0, start1.e0, start1.about1, start1.theMethod, start1.args0, start1.below0, start1.atStart⟩
end Jvm.Pilot.@@N@@
