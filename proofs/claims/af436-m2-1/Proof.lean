import JvmDerived
import JvmDerived.Pilot.@@N@@Statement
import JvmDerived.Pilot.@@N@@Code
set_option linter.unusedVariables false
set_option linter.unusedSimpArgs false
namespace Jvm.Pilot.@@N@@
open Jvm Jvm.ClassFile Sem Op Lib Jvm.Free Jvm.Stand Jvm.LawKit Jvm.RoadKit Bundle Jvm.Pilot.@@N@@.Jvm.D
def ownEnds (tb : Tables) (e : Env) (below : List Frame) (Φ : State → Outcome → Prop) (A : State) : Prop :=
  ∃ s₂ o, Steps tb e below A s₂ ∧ s₂.status = .running ∧ Ended s₂ below o ∧ Φ s₂ o
theorem ownEnds.law {tb : Tables} {e : Env} {below : List Frame} {Φ : State → Outcome → Prop} {A B : State} (k : ∀ t, Steps tb e below B t → Steps tb e below A t) (h : ownEnds tb e below Φ B) : ownEnds tb e below Φ A := by
  obtain ⟨s2, o, h1, h2⟩ := h
  exact ⟨s2, o, k _ h1, h2⟩
theorem ownEnds.tr {tb : Tables} {e : Env} {below : List Frame} {Φ : State → Outcome → Prop} {A B : State} (k : Steps tb e below A B) (h : ownEnds tb e below Φ B) : ownEnds tb e below Φ A := by
  obtain ⟨s2, o, h1, h2⟩ := h
  exact ⟨s2, o, k.trans h1, h2⟩
theorem ownEnds.cast {tb : Tables} {e : Env} {below : List Frame} {Φ : State → Outcome → Prop} {T : State} {g g' : JFrame} (q : g = g') (h : ownEnds tb e below Φ (T.setTop g')) : ownEnds tb e below Φ (T.setTop g) := q ▸ h
def ownPost (s : State) (Q : Option Value → Heap → List Loc → Prop) (C S : Nat) : State → Outcome → Prop := fun U o => ∃ v L, o = .returned v ∧ Q v U.heap L ∧ FrameEnd s o U L C S
abbrev ownMet (l : Launch) (Z : State) (y : MethodName) (bytes : ByteArray) (maxL : Nat) (rt : Option FieldType) (ws : List Jvm.Cond) (rm : Room) (as : Array Value) (h0 : Heap) (Q : Option Value → Heap → List Loc → Prop) : Prop :=
  MetFree l y (head1 (Jvm.Cond.code y bytes maxL rt :: ws) rm) (fun a U => a = as ∧ Z.Warmed39 U.vm ∧ U.heap = h0) (fun _ _ _ _ _ => True) (fun _ U o U' => ∃ v L, o = .returned v ∧ Q v U'.heap L ∧ FrameEnd U o U' L rm.cells rm.slots)
theorem ownMet.of {l : Launch} {Z : State} {y : MethodName} {bytes : ByteArray} {maxL : Nat} {rt : Option FieldType} {ws : List Jvm.Cond} {rm : Room} {as : Array Value} {h0 : Heap} {Q : Option Value → Heap → List Loc → Prop} (hpl : plainFor y = true)
    (body : ∀ (p : Program) (e : Env) (s : State) (m : MethodId) (below : List Frame) (meth : Method) (c : Code) (T0 : State), p.tables.exec = Jvm.exec → c.code = bytes → c.maxLocals = maxL → Z.Warmed39 s.vm → s.vm.findClass y.cls = some m.cls → meth.name = y.name → meth.sig.returnType = rt → meth.locks = false →
      Stand p l e rm s m as below meth c T0 [] 0 0 → T0.heap = h0 → ownEnds p.tables e below (ownPost s Q rm.cells rm.slots) (T0.setTop (entryFrame m as maxL))) : ownMet l Z y bytes maxL rt ws rm as h0 Q := by
  refine MetFree.of_bodySF hpl hisR ?_
  intro p e s m args below meth c s₁ Bd hml0 hP hK
  obtain ⟨rfl, hZ, hh⟩ := hP
  exact body p e s m below meth c s₁ Bd.exec Bd.bytes hml0 hZ (findClass_of_methodNamed Bd.named) (name_of_methodNamed Bd.named Bd.method).1 Bd.returns Bd.notSynchronized (Stand.of_body Bd) (by rw [← hh, Bd.state]; rfl)
theorem ownEqV {args : Array Value} {first s : State} {o : Option Outcome} {idx : List Nat} {a b : Term} {v : Value} (h : (Cond.eq a b).value args first o s idx = some true) (hb : b.eval args first o idx s = some v) : a.eval args first o idx s = some v := by
  simp only [Cond.value, hb] at h
  cases ha : a.eval args first o idx s with
  | none => simp [ha] at h
  | some x => cases x <;> cases v <;> simp_all
theorem ownFieldAt {args : Array Value} {first s : State} {o : Option Outcome} {idx : List Nat} {t : Term} {a : Addr} {C n d : String} (ev : t.eval args first o idx s = some (.ref a)) : (Term.field t C n d).eval args first o idx s = s.fieldOf? a C n d := by
  simp [Term.eval, ev]
theorem ownLen {s : State} {args : Array Value} {t : Term} {a : Addr} {cl : Cell} {ty : FieldType} {z : Int32} (ev : t.eval args s none [] s = some (.ref a)) (A : Arr s s.heap a cl ty) (h : (Term.length t).eval args s none [] s = some (.int z)) : cl.slots.size < 2 ^ 31 ∧ cl.slots.size.toInt32 = z := by
  have q := A.fin (Vm.Alike.refl _)
  simp only [Term.eval, ev, q, Option.bind_eq_bind, Option.bind_some, Option.pure_def] at h
  split at h
  · rename_i hs
    exact ⟨hs, by simpa using h⟩
  · cases h
theorem ownEl {s : State} {args : Array Value} {t i : Term} {a : Addr} {cl : Cell} {ty : FieldType} {j : Int32} {v : Value} (ev : t.eval args s none [] s = some (.ref a)) (A : Arr s s.heap a cl ty) (ej : i.eval args s none [] s = some (.int j)) (h : (Term.elem t i).eval args s none [] s = some v) : cl.slots[j.toNatClampNeg]? = some v := by
  have q := A.fin (Vm.Alike.refl _)
  simp only [Term.eval, ev, ej, q, Option.bind_eq_bind, Option.bind_some] at h
  split at h
  · cases h
  · exact h
section OwnKit
variable {p : Program} {l : Launch} {e : Env} {R : Room} {s : State} {m : MethodId} {args : Array Value} {below : List Frame} {meth : Method} {c : Code} {T : State} {locs : List Loc} {cells slots : Nat} {Z : State} {a0 : Array Value} {h : Heap}
theorem ownRet (X : Stand p l e R s m args below meth c T locs cells slots) (hlk : meth.locks = false) {v : Option Value} (hv : meth.sig.returnType = none → v = none) {g : JFrame} {Q : Option Value → Heap → List Loc → Prop} {C S : Nat}
    (hst : ∀ fs, (∀ (f : JFrame) (acts : List Action), f.method = m → f.locked = none → f.entered = [] → (doReturn e (T.setTop f) acts v).1 = T.setFrames fs) → Steps p.tables e below (T.setTop g) (T.setFrames fs))
    (hc : cells ≤ C) (hs : slots ≤ S) (hQ : Q v T.heap locs) : ownEnds p.tables e below (ownPost s Q C S) (T.setTop g) := by
  obtain ⟨fs, hr, hrun, hended, hW, hsame⟩ := X.leave (v := v) hv hlk
  exact ⟨_, _, hst fs hr, hrun, hended, v, locs, rfl, hQ, ⟨_, rfl⟩, hW, hsame.mono hc hs⟩
theorem ownRetN (X : Stand p l e R s m args below meth c T locs cells slots) (hlk : meth.locks = false) (hx : p.tables.exec = Jvm.exec) {pc : Nat} {Ls : Array Slot} {z : Int32} {t : FieldType} {rest : List Value} (hret : meth.sig.returnType = some t) (ht : t = .boolean ∨ t = .byte ∨ t = .char ∨ t = .short)
    (hd : decode c.code pc = .ok (.ireturn, 1)) {Q : Option Value → Heap → List Loc → Prop} {C S : Nat} (hc : cells ≤ C) (hs : slots ≤ S) (hQ : Q (some (.int (nar t z))) T.heap locs) : ownEnds p.tables e below (ownPost s Q C S) (T.setTop (mkF m pc Ls (.int z :: rest))) :=
  ownRet X hlk (fun h => by rw [hret] at h; cases h) (fun fs hr => retN X hx hret ht hd hr) hc hs hQ
theorem ownRetI (X : Stand p l e R s m args below meth c T locs cells slots) (hlk : meth.locks = false) (hx : p.tables.exec = Jvm.exec) {pc : Nat} {Ls : Array Slot} {z : Int32} {rest : List Value} (hret : meth.sig.returnType = some .int)
    (hd : decode c.code pc = .ok (.ireturn, 1)) {Q : Option Value → Heap → List Loc → Prop} {C S : Nat} (hc : cells ≤ C) (hs : slots ≤ S) (hQ : Q (some (.int z)) T.heap locs) : ownEnds p.tables e below (ownPost s Q C S) (T.setTop (mkF m pc Ls (.int z :: rest))) :=
  ownRet X hlk (fun h => by rw [hret] at h; cases h) (fun fs hr => retOut X hx hret rfl (Or.inl ⟨rfl, Or.inl rfl, z, rfl⟩) hd hr) hc hs hQ
theorem ownRetL (X : Stand p l e R s m args below meth c T locs cells slots) (hlk : meth.locks = false) (hx : p.tables.exec = Jvm.exec) {pc : Nat} {Ls : Array Slot} {z : Int64} {rest : List Value} (hret : meth.sig.returnType = some .long)
    (hd : decode c.code pc = .ok (.lreturn, 1)) {Q : Option Value → Heap → List Loc → Prop} {C S : Nat} (hc : cells ≤ C) (hs : slots ≤ S) (hQ : Q (some (.long z)) T.heap locs) : ownEnds p.tables e below (ownPost s Q C S) (T.setTop (mkF m pc Ls (.long z :: rest))) :=
  ownRet X hlk (fun h => by rw [hret] at h; cases h) (fun fs hr => retOut X hx hret rfl (Or.inr (Or.inl ⟨rfl, rfl, z, rfl⟩)) hd hr) hc hs hQ
theorem ownRetA (X : Stand p l e R s m args below meth c T locs cells slots) (hlk : meth.locks = false) (hx : p.tables.exec = Jvm.exec) {pc : Nat} {Ls : Array Slot} {w : Value} {t : FieldType} {rest : List Value} (hret : meth.sig.returnType = some t) (ht : t.isReference = true) (hw : w.isRef = true)
    (hd : decode c.code pc = .ok (.areturn, 1)) {Q : Option Value → Heap → List Loc → Prop} {C S : Nat} (hc : cells ≤ C) (hs : slots ≤ S) (hQ : Q (some w) T.heap locs) : ownEnds p.tables e below (ownPost s Q C S) (T.setTop (mkF m pc Ls (w :: rest))) :=
  ownRet X hlk (fun h => by rw [hret] at h; cases h) (fun fs hr => retOut X hx hret (by rcases ref_cases hw with rfl | ⟨a, rfl⟩ <;> cases t <;> first | rfl | (simp [FieldType.isReference] at ht)) (Or.inr (Or.inr (Or.inr (Or.inr ⟨rfl, ht, hw⟩)))) hd hr) hc hs hQ
theorem ownRetV (X : Stand p l e R s m args below meth c T locs cells slots) (hlk : meth.locks = false) (hx : p.tables.exec = Jvm.exec) {pc : Nat} {Ls : Array Slot} (hret : meth.sig.returnType = none)
    (hd : decode c.code pc = .ok (.return_, 1)) {Q : Option Value → Heap → List Loc → Prop} {C S : Nat} (hc : cells ≤ C) (hs : slots ≤ S) (hQ : Q none T.heap locs) : ownEnds p.tables e below (ownPost s Q C S) (T.setTop (mkF m pc Ls [])) :=
  ownRet X hlk (fun _ => rfl) (fun fs hr => X.returnOut hx hret hd hr) hc hs hQ
theorem ownCallS (X : Stand p l e R s m args below meth c T locs cells slots) (hx : p.tables.exec = Jvm.exec) (hZ : Z.Warmed39 s.vm) {own : String} {index : Nat} (hown : s.vm.findClass own = some m.cls) {y : MethodName} {bytes : ByteArray} {maxL : Nat} {rt : Option FieldType} {rm : Room} {as : List Value} {Q : Option Value → Heap → List Loc → Prop}
    (w1 : (Cond.methodLink own index y).before a0 Z = true) (w2 : (Cond.static y).before a0 Z = true) (w3 : (Cond.initialized y.cls).before a0 Z = true) (w4 : (Cond.code y bytes maxL rt).before a0 Z = true) (hy : y.cls ≠ "java/lang/invoke/MethodHandle" ∧ y.cls ≠ "java/lang/invoke/VarHandle")
    (hM : ownMet l Z y bytes maxL rt [] rm as.toArray h Q) (eT : T.heap = h) (W : Nat) (hf : rm.frames + 1 ≤ R.frames) (hl : W + (maxL + 11) + rm.locals ≤ R.locals) (hc : cells + rm.cells ≤ R.cells) (hs : slots + rm.slots ≤ R.slots)
    {g : JFrame} (hg : g.method = m) (hsize : g.locals.size = c.maxLocals) {rest : List Value} {ps : List FieldType} {r : Option FieldType} (hd : parseMethodDescriptor y.desc = some ⟨ps, r⟩) (hlen : as.length = ps.length) (hstack : g.stack = as.reverse ++ rest) (hW : 2 * g.monitorRoom + (rest.map fun v => v.category).sum ≤ W)
    (hdg : decode c.code g.pc = .ok (.invokestatic index, 3)) :
    ∃ v T' L, Stand p l e R s m args below meth c T' (locs ++ L) (cells + rm.cells) (slots + rm.slots) ∧ Q v T'.heap L ∧ ∀ t, Steps p.tables e below (T'.setTop { g with pc := g.pc + 3, stack := v.toList ++ rest }) t → Steps p.tables e below (T.setTop g) t := by
  obtain ⟨v, _, ⟨T1, L1, k1, n1⟩, -, X1, ⟨Lc, hQ, l1, y1, z1⟩, st⟩ := Jvm.LawKit.callS X hx (y := y) hown (mvT hZ w1) (mvT hZ w2) (mvT hZ w3) (mvT hZ w4) hy (backOf (W := W) hM hZ w4 w3 hf hl) hg hsize (argsL := as) (rest := rest) (lenOf hd hlen) hstack hW hdg (fun _ _ => ⟨rfl, eT, hc, hs⟩)
  dsimp only [Pt.U, Pt.locs, Pt.cells, Pt.slots] at X1 l1 y1 z1 st hQ
  subst l1 y1 z1
  exact ⟨v, T1, Lc, X1, hQ, st⟩
theorem ownCallC (X : Stand p l e R s m args below meth c T locs cells slots) (hx : p.tables.exec = Jvm.exec) (hZ : Z.Warmed39 s.vm) {own : String} {index : Nat} (hown : s.vm.findClass own = some m.cls) {y : MethodName} (hy1 : y.name = "<init>") {bytes : ByteArray} {maxL : Nat} {rm : Room} {a : Addr} {as : List Value} {Q : Option Value → Heap → List Loc → Prop}
    (w1 : (Cond.methodLink own index y).before a0 Z = true) (w2 : (Cond.instanceMethod y).before a0 Z = true) (w3 : (Cond.initialized y.cls).before a0 Z = true) (w4 : (Cond.code y bytes maxL none).before a0 Z = true) (hy : y.cls ≠ "java/lang/invoke/MethodHandle" ∧ y.cls ≠ "java/lang/invoke/VarHandle")
    (hM : ownMet l Z y bytes maxL none [] rm (.ref a :: as).toArray h Q) (eT : T.heap = h) (W : Nat) (hf : rm.frames + 1 ≤ R.frames) (hl : W + (maxL + 11) + rm.locals ≤ R.locals) (hc : cells + rm.cells ≤ R.cells) (hs : slots + rm.slots ≤ R.slots)
    {g : JFrame} (hg : g.method = m) (hsize : g.locals.size = c.maxLocals) {rest : List Value} {ps : List FieldType} {r : Option FieldType} (hd : parseMethodDescriptor y.desc = some ⟨ps, r⟩) (hlen : as.length = ps.length) (hstack : g.stack = as.reverse ++ .ref a :: rest) (hW : 2 * g.monitorRoom + (rest.map fun v => v.category).sum ≤ W)
    (hdg : decode c.code g.pc = .ok (.invokespecial index, 3)) :
    ∃ v T' L, Stand p l e R s m args below meth c T' (locs ++ L) (cells + rm.cells) (slots + rm.slots) ∧ Q v T'.heap L ∧ ∀ t, Steps p.tables e below (T'.setTop { g with pc := g.pc + 3, stack := v.toList ++ rest }) t → Steps p.tables e below (T.setTop g) t := by
  obtain ⟨v, _, ⟨T1, L1, k1, n1⟩, -, X1, ⟨Lc, hQ, l1, y1, z1⟩, st⟩ := X.specialBack hx (y := y) hy1 hown (mvT hZ w1) (mvT hZ w2) (mvT hZ w4) hy (backOf (W := W) hM hZ w4 w3 hf hl) hg hsize (Steps.refl _) (a := a) (argsL := as) (rest := rest) (lenOf hd hlen) hstack hW hdg (fun _ _ => ⟨rfl, eT, hc, hs⟩)
  dsimp only [Pt.U, Pt.locs, Pt.cells, Pt.slots] at X1 l1 y1 z1 st hQ
  subst l1 y1 z1
  exact ⟨v, T1, Lc, X1, hQ, fun t k => st.trans k⟩
theorem ownCallV (X : Stand p l e R s m args below meth c T locs cells slots) (hx : p.tables.exec = Jvm.exec) (hZ : Z.Warmed39 s.vm) {own C : String} {index : Nat} (hown : s.vm.findClass own = some m.cls) {y z : MethodName} {bytes : ByteArray} {maxL : Nat} {rt : Option FieldType} {rm : Room} {a : Addr} {as : List Value} {Q : Option Value → Heap → List Loc → Prop}
    (w1 : (Cond.methodLink own index y).before a0 Z = true) (w2 : (Cond.declares y).before a0 Z = true) (hnf : NotFace s y) (w5 : (Cond.selects C y z).before a0 Z = true) (w6 : (Cond.instanceMethod z).before a0 Z = true) (w3 : (Cond.initialized z.cls).before a0 Z = true) (w4 : (Cond.code z bytes maxL rt).before a0 Z = true) (hy : y.cls ≠ "java/lang/invoke/MethodHandle" ∧ y.cls ≠ "java/lang/invoke/VarHandle")
    (hM : ownMet l Z z bytes maxL rt [] rm (.ref a :: as).toArray h Q) (eT : T.heap = h) (E : Exa Z h a C) (W : Nat) (hf : rm.frames + 1 ≤ R.frames) (hl : W + (maxL + 11) + rm.locals ≤ R.locals) (hc : cells + rm.cells ≤ R.cells) (hs : slots + rm.slots ≤ R.slots)
    {g : JFrame} (hg : g.method = m) (hsize : g.locals.size = c.maxLocals) {rest : List Value} {ps : List FieldType} {r : Option FieldType} (hd : parseMethodDescriptor y.desc = some ⟨ps, r⟩) (hlen : as.length = ps.length) (hstack : g.stack = as.reverse ++ .ref a :: rest) (hW : 2 * g.monitorRoom + (rest.map fun v => v.category).sum ≤ W)
    (hdg : decode c.code g.pc = .ok (.invokevirtual index, 3)) :
    ∃ v T' L, Stand p l e R s m args below meth c T' (locs ++ L) (cells + rm.cells) (slots + rm.slots) ∧ Q v T'.heap L ∧ ∀ t, Steps p.tables e below (T'.setTop { g with pc := g.pc + 3, stack := v.toList ++ rest }) t → Steps p.tables e below (T.setTop g) t := by
  obtain ⟨cq, kq, qa, qb, qc⟩ := isOf hZ eT E
  obtain ⟨v, _, ⟨T1, L1, k1, n1⟩, -, X1, ⟨Lc, hQ, l1, y1, z1⟩, st⟩ := X.virtualBack hx (y := y) (z := z) hown (mvT hZ w1) (mvT hZ w2) hnf (mvT hZ w5) (mvT hZ w6) hy (backOf (W := W) hM hZ w4 w3 hf hl) qa qc hg hsize (Steps.refl _) (argsL := as) (rest := rest) (lenOf hd hlen) hstack hW hdg (fun _ _ => ⟨rfl, eT, hc, hs⟩)
  dsimp only [Pt.U, Pt.locs, Pt.cells, Pt.slots] at X1 l1 y1 z1 st hQ
  subst l1 y1 z1
  exact ⟨v, T1, Lc, X1, hQ, fun t k => st.trans k⟩
theorem ownSelfSel {y z : MethodName} {C : String} (hz : z.cls = y.cls) (wz : (Cond.selects C z z).before args s = true) (hinst : (Cond.instanceMethod y).before args s = true) (hpriv : s.PrivateAt y) (hy : y.cls ≠ "java/lang/invoke/MethodHandle" ∧ y.cls ≠ "java/lang/invoke/VarHandle") : (Cond.selects y.cls y y).before args s = true := by
  obtain ⟨c2, r2, m2, q1, q2, q3, q4, kP, hkP, hkPi⟩ := Cond.selects_spec wz
  exact selects_self_of_private (by rw [← hz]; exact findClass_of_methodNamed q3) hkP hkPi hpriv hinst hy
theorem ownCallP (X : Stand p l e R s m args below meth c T locs cells slots) (hx : p.tables.exec = Jvm.exec) (hZ : Z.Warmed39 s.vm) {own C D : String} {index : Nat} (hown : s.vm.findClass own = some m.cls) {y z : MethodName} {bytes : ByteArray} {maxL : Nat} {rt : Option FieldType} {rm : Room} {a : Addr} {as : List Value} {Q : Option Value → Heap → List Loc → Prop}
    (w1 : (Cond.methodLink own index y).before a0 Z = true) (hz : z.cls = y.cls) (w5 : (Cond.selects C z z).before a0 Z = true) (w6 : (Cond.instanceMethod y).before a0 Z = true) (w7 : (Cond.privateMethod y).before a0 Z = true) (w3 : (Cond.initialized y.cls).before a0 Z = true) (w4 : (Cond.code y bytes maxL rt).before a0 Z = true) (hy : y.cls ≠ "java/lang/invoke/MethodHandle" ∧ y.cls ≠ "java/lang/invoke/VarHandle")
    (hM : ownMet l Z y bytes maxL rt [] rm (.ref a :: as).toArray h Q) (eT : T.heap = h) (E : Exa Z h a D) (W : Nat) (hf : rm.frames + 1 ≤ R.frames) (hl : W + (maxL + 11) + rm.locals ≤ R.locals) (hc : cells + rm.cells ≤ R.cells) (hs : slots + rm.slots ≤ R.slots)
    {g : JFrame} (hg : g.method = m) (hsize : g.locals.size = c.maxLocals) {rest : List Value} {ps : List FieldType} {r : Option FieldType} (hd : parseMethodDescriptor y.desc = some ⟨ps, r⟩) (hlen : as.length = ps.length) (hstack : g.stack = as.reverse ++ .ref a :: rest) (hW : 2 * g.monitorRoom + (rest.map fun v => v.category).sum ≤ W)
    (hdg : decode c.code g.pc = .ok (.invokevirtual index, 3)) :
    ∃ v T' L, Stand p l e R s m args below meth c T' (locs ++ L) (cells + rm.cells) (slots + rm.slots) ∧ Q v T'.heap L ∧ ∀ t, Steps p.tables e below (T'.setTop { g with pc := g.pc + 3, stack := v.toList ++ rest }) t → Steps p.tables e below (T.setTop g) t := by
  obtain ⟨cq, q1, q2⟩ := E.cell
  have hpv : s.PrivateAt y := Cond.privateMethod_at (mvP hZ w7 (args := #[]))
  obtain ⟨v, _, ⟨T1, L1, k1, n1⟩, -, X1, ⟨Lc, hQ, l1, y1, z1⟩, st⟩ := X.privateBack hx (y := y) hown (mvT hZ w1) (mvT hZ w6) (ownSelfSel hz (mvT hZ w5) (mvT hZ w6) hpv hy) hpv (mvT hZ w4) hy (backOf (W := W) hM hZ w4 w3 hf hl) hg hsize (Steps.refl _) (a := a) (by rw [eT]; exact q1) q2 (argsL := as) (rest := rest) (lenOf hd hlen) hstack hW hdg (fun _ _ => ⟨rfl, eT, hc, hs⟩)
  dsimp only [Pt.U, Pt.locs, Pt.cells, Pt.slots] at X1 l1 y1 z1 st hQ
  subst l1 y1 z1
  exact ⟨v, T1, Lc, X1, hQ, fun t k => st.trans k⟩
end OwnKit
theorem wd_0 {Z : State} {a0 : Array Value} (hw : ∀ d ∈ tables_1, d.before a0 Z = true) : (Jvm.Cond.constant "com/example/tallydb/tallydb/PriceKindRequiredPinLaw" (31 : Nat) (2147483647 : Int32)).before a0 Z = true := hw _ (List.mem_of_getElem? (i := 0) rfl)
theorem wd_1 {Z : State} {a0 : Array Value} (hw : ∀ d ∈ tables_1, d.before a0 Z = true) : (Jvm.Cond.methodLink "com/example/tallydb/tallydb/PriceKindRequiredPinLaw" (32 : Nat) ({ cls := "com/example/tallydb/tallydb/PriceKindRequiredPinLaw", name := "pick", desc := "(I)Lcom/example/tallydb/tallydb/PriceKind;" } : Jvm.MethodName)).before a0 Z = true := hw _ (List.mem_of_getElem? (i := 1) rfl)
theorem wd_2 {Z : State} {a0 : Array Value} (hw : ∀ d ∈ tables_1, d.before a0 Z = true) : (Jvm.Cond.static ({ cls := "com/example/tallydb/tallydb/PriceKindRequiredPinLaw", name := "pick", desc := "(I)Lcom/example/tallydb/tallydb/PriceKind;" } : Jvm.MethodName)).before a0 Z = true := hw _ (List.mem_of_getElem? (i := 2) rfl)
theorem wd_3 {Z : State} {a0 : Array Value} (hw : ∀ d ∈ tables_1, d.before a0 Z = true) : (Jvm.Cond.initialized "com/example/tallydb/tallydb/PriceKindRequiredPinLaw").before a0 Z = true := hw _ (List.mem_of_getElem? (i := 3) rfl)
theorem wd_4 {Z : State} {a0 : Array Value} (hw : ∀ d ∈ tables_1, d.before a0 Z = true) : (Jvm.Cond.code ({ cls := "com/example/tallydb/tallydb/PriceKindRequiredPinLaw", name := "pick", desc := "(I)Lcom/example/tallydb/tallydb/PriceKind;" } : Jvm.MethodName) method_2_code (1 : Nat) (Option.some (Jvm.ClassFile.FieldType.object "com/example/tallydb/tallydb/PriceKind"))).before a0 Z = true := hw _ (List.mem_of_getElem? (i := 4) rfl)
theorem wd_5 {Z : State} {a0 : Array Value} (hw : ∀ d ∈ tables_1, d.before a0 Z = true) : (Jvm.Cond.fieldLink "com/example/tallydb/tallydb/PriceKindRequiredPinLaw" (7 : Nat) "com/example/tallydb/tallydb/PriceKind" "PROMPT" "Lcom/example/tallydb/tallydb/PriceKind;").before a0 Z = true := hw _ (List.mem_of_getElem? (i := 5) rfl)
theorem wd_6 {Z : State} {a0 : Array Value} (hw : ∀ d ∈ tables_1, d.before a0 Z = true) : (Jvm.Cond.initialized "com/example/tallydb/tallydb/PriceKind").before a0 Z = true := hw _ (List.mem_of_getElem? (i := 6) rfl)
theorem wd_7 {Z : State} {a0 : Array Value} (hw : ∀ d ∈ tables_1, d.before a0 Z = true) : (Jvm.Cond.laysStatic "com/example/tallydb/tallydb/PriceKind" "PROMPT" "Lcom/example/tallydb/tallydb/PriceKind;").before a0 Z = true := hw _ (List.mem_of_getElem? (i := 7) rfl)
theorem wd_8 {Z : State} {a0 : Array Value} (hw : ∀ d ∈ tables_1, d.before a0 Z = true) : (Jvm.Cond.methodLink "com/example/tallydb/tallydb/PriceKindRequiredPinLaw" (38 : Nat) ({ cls := "com/example/tallydb/tallydb/PriceKind", name := "required", desc := "()Z" } : Jvm.MethodName)).before a0 Z = true := hw _ (List.mem_of_getElem? (i := 8) rfl)
theorem wd_9 {Z : State} {a0 : Array Value} (hw : ∀ d ∈ tables_1, d.before a0 Z = true) : (Jvm.Cond.declares ({ cls := "com/example/tallydb/tallydb/PriceKind", name := "required", desc := "()Z" } : Jvm.MethodName)).before a0 Z = true := hw _ (List.mem_of_getElem? (i := 9) rfl)
theorem wd_10 {Z : State} {a0 : Array Value} (hw : ∀ d ∈ tables_1, d.before a0 Z = true) : (Jvm.Cond.instanceMethod ({ cls := "com/example/tallydb/tallydb/PriceKind", name := "required", desc := "()Z" } : Jvm.MethodName)).before a0 Z = true := hw _ (List.mem_of_getElem? (i := 10) rfl)
theorem wd_11 {Z : State} {a0 : Array Value} (hw : ∀ d ∈ tables_1, d.before a0 Z = true) : (Jvm.Cond.selects "com/example/tallydb/tallydb/PriceKind" ({ cls := "com/example/tallydb/tallydb/PriceKind", name := "required", desc := "()Z" } : Jvm.MethodName) ({ cls := "com/example/tallydb/tallydb/PriceKind", name := "required", desc := "()Z" } : Jvm.MethodName)).before a0 Z = true := hw _ (List.mem_of_getElem? (i := 11) rfl)
theorem wd_12 {Z : State} {a0 : Array Value} (hw : ∀ d ∈ tables_1, d.before a0 Z = true) : (Jvm.Cond.code ({ cls := "com/example/tallydb/tallydb/PriceKind", name := "required", desc := "()Z" } : Jvm.MethodName) prog_25_method_6_code (1 : Nat) (Option.some Jvm.ClassFile.FieldType.boolean)).before a0 Z = true := hw _ (List.mem_of_getElem? (i := 12) rfl)
theorem wd_13 {Z : State} {a0 : Array Value} (hw : ∀ d ∈ tables_1, d.before a0 Z = true) : (Jvm.Cond.fieldLink "com/example/tallydb/tallydb/PriceKind" (44 : Nat) "com/example/tallydb/tallydb/PriceKind" "fallback" "Lcom/example/tallydb/tallydb/PriceKind;").before a0 Z = true := hw _ (List.mem_of_getElem? (i := 13) rfl)
theorem wd_15 {Z : State} {a0 : Array Value} (hw : ∀ d ∈ tables_1, d.before a0 Z = true) : (Jvm.Cond.methodLink "com/example/tallydb/tallydb/PriceKindRequiredPinLaw" (42 : Nat) ({ cls := "com/example/tallydb/tallydb/PriceKind", name := "fallback", desc := "()Lcom/example/tallydb/tallydb/PriceKind;" } : Jvm.MethodName)).before a0 Z = true := hw _ (List.mem_of_getElem? (i := 15) rfl)
theorem wd_16 {Z : State} {a0 : Array Value} (hw : ∀ d ∈ tables_1, d.before a0 Z = true) : (Jvm.Cond.declares ({ cls := "com/example/tallydb/tallydb/PriceKind", name := "fallback", desc := "()Lcom/example/tallydb/tallydb/PriceKind;" } : Jvm.MethodName)).before a0 Z = true := hw _ (List.mem_of_getElem? (i := 16) rfl)
theorem wd_17 {Z : State} {a0 : Array Value} (hw : ∀ d ∈ tables_1, d.before a0 Z = true) : (Jvm.Cond.instanceMethod ({ cls := "com/example/tallydb/tallydb/PriceKind", name := "fallback", desc := "()Lcom/example/tallydb/tallydb/PriceKind;" } : Jvm.MethodName)).before a0 Z = true := hw _ (List.mem_of_getElem? (i := 17) rfl)
theorem wd_18 {Z : State} {a0 : Array Value} (hw : ∀ d ∈ tables_1, d.before a0 Z = true) : (Jvm.Cond.selects "com/example/tallydb/tallydb/PriceKind" ({ cls := "com/example/tallydb/tallydb/PriceKind", name := "fallback", desc := "()Lcom/example/tallydb/tallydb/PriceKind;" } : Jvm.MethodName) ({ cls := "com/example/tallydb/tallydb/PriceKind", name := "fallback", desc := "()Lcom/example/tallydb/tallydb/PriceKind;" } : Jvm.MethodName)).before a0 Z = true := hw _ (List.mem_of_getElem? (i := 18) rfl)
theorem wd_19 {Z : State} {a0 : Array Value} (hw : ∀ d ∈ tables_1, d.before a0 Z = true) : (Jvm.Cond.code ({ cls := "com/example/tallydb/tallydb/PriceKind", name := "fallback", desc := "()Lcom/example/tallydb/tallydb/PriceKind;" } : Jvm.MethodName) prog_25_method_5_code (1 : Nat) (Option.some (Jvm.ClassFile.FieldType.object "com/example/tallydb/tallydb/PriceKind"))).before a0 Z = true := hw _ (List.mem_of_getElem? (i := 19) rfl)
theorem wd_20 {Z : State} {a0 : Array Value} (hw : ∀ d ∈ tables_1, d.before a0 Z = true) : (Jvm.Cond.fieldLink "com/example/tallydb/tallydb/PriceKindRequiredPinLaw" (19 : Nat) "com/example/tallydb/tallydb/PriceKind" "CACHE_WRITE_PROMPT" "Lcom/example/tallydb/tallydb/PriceKind;").before a0 Z = true := hw _ (List.mem_of_getElem? (i := 20) rfl)
theorem wd_21 {Z : State} {a0 : Array Value} (hw : ∀ d ∈ tables_1, d.before a0 Z = true) : (Jvm.Cond.laysStatic "com/example/tallydb/tallydb/PriceKind" "CACHE_WRITE_PROMPT" "Lcom/example/tallydb/tallydb/PriceKind;").before a0 Z = true := hw _ (List.mem_of_getElem? (i := 21) rfl)
theorem wd_22 {Z : State} {a0 : Array Value} (hw : ∀ d ∈ tables_1, d.before a0 Z = true) : (Jvm.Cond.fieldLink "com/example/tallydb/tallydb/PriceKindRequiredPinLaw" (25 : Nat) "com/example/tallydb/tallydb/PriceKind" "AUDIO_PROMPT" "Lcom/example/tallydb/tallydb/PriceKind;").before a0 Z = true := hw _ (List.mem_of_getElem? (i := 22) rfl)
theorem wd_23 {Z : State} {a0 : Array Value} (hw : ∀ d ∈ tables_1, d.before a0 Z = true) : (Jvm.Cond.laysStatic "com/example/tallydb/tallydb/PriceKind" "AUDIO_PROMPT" "Lcom/example/tallydb/tallydb/PriceKind;").before a0 Z = true := hw _ (List.mem_of_getElem? (i := 23) rfl)
theorem wd_24 {Z : State} {a0 : Array Value} (hw : ∀ d ∈ tables_1, d.before a0 Z = true) : (Jvm.Cond.fieldLink "com/example/tallydb/tallydb/PriceKindRequiredPinLaw" (28 : Nat) "com/example/tallydb/tallydb/PriceKind" "AUDIO_COMPLETION" "Lcom/example/tallydb/tallydb/PriceKind;").before a0 Z = true := hw _ (List.mem_of_getElem? (i := 24) rfl)
theorem wd_25 {Z : State} {a0 : Array Value} (hw : ∀ d ∈ tables_1, d.before a0 Z = true) : (Jvm.Cond.laysStatic "com/example/tallydb/tallydb/PriceKind" "AUDIO_COMPLETION" "Lcom/example/tallydb/tallydb/PriceKind;").before a0 Z = true := hw _ (List.mem_of_getElem? (i := 25) rfl)
theorem wd_26 {Z : State} {a0 : Array Value} (hw : ∀ d ∈ tables_1, d.before a0 Z = true) : (Jvm.Cond.laysStatic "com/example/tallydb/tallydb/PriceKind" "COMPLETION" "Lcom/example/tallydb/tallydb/PriceKind;").before a0 Z = true := hw _ (List.mem_of_getElem? (i := 26) rfl)
theorem wd_27 {Z : State} {a0 : Array Value} (hw : ∀ d ∈ tables_1, d.before a0 Z = true) : (Jvm.Cond.fieldLink "com/example/tallydb/tallydb/PriceKindRequiredPinLaw" (22 : Nat) "com/example/tallydb/tallydb/PriceKind" "CACHE_WRITE_1H_PROMPT" "Lcom/example/tallydb/tallydb/PriceKind;").before a0 Z = true := hw _ (List.mem_of_getElem? (i := 27) rfl)
theorem wd_28 {Z : State} {a0 : Array Value} (hw : ∀ d ∈ tables_1, d.before a0 Z = true) : (Jvm.Cond.laysStatic "com/example/tallydb/tallydb/PriceKind" "CACHE_WRITE_1H_PROMPT" "Lcom/example/tallydb/tallydb/PriceKind;").before a0 Z = true := hw _ (List.mem_of_getElem? (i := 28) rfl)
theorem wd_29 {Z : State} {a0 : Array Value} (hw : ∀ d ∈ tables_1, d.before a0 Z = true) : (Jvm.Cond.fieldLink "com/example/tallydb/tallydb/PriceKindRequiredPinLaw" (16 : Nat) "com/example/tallydb/tallydb/PriceKind" "COMPLETION" "Lcom/example/tallydb/tallydb/PriceKind;").before a0 Z = true := hw _ (List.mem_of_getElem? (i := 29) rfl)
theorem wd_30 {Z : State} {a0 : Array Value} (hw : ∀ d ∈ tables_1, d.before a0 Z = true) : (Jvm.Cond.fieldLink "com/example/tallydb/tallydb/PriceKindRequiredPinLaw" (13 : Nat) "com/example/tallydb/tallydb/PriceKind" "CACHED_PROMPT" "Lcom/example/tallydb/tallydb/PriceKind;").before a0 Z = true := hw _ (List.mem_of_getElem? (i := 30) rfl)
theorem wd_31 {Z : State} {a0 : Array Value} (hw : ∀ d ∈ tables_1, d.before a0 Z = true) : (Jvm.Cond.laysStatic "com/example/tallydb/tallydb/PriceKind" "CACHED_PROMPT" "Lcom/example/tallydb/tallydb/PriceKind;").before a0 Z = true := hw _ (List.mem_of_getElem? (i := 31) rfl)
theorem ef_rm1 : ∀ (m : MethodId) (xk : Int32), entryFrame m #[(.int xk)] 1 = mkF m 0 #[.val (.int xk)] [] := by intros; first | (simp [entryFrame, mkF, argsToLocals, Value.category]; done) | rfl
theorem d1_0 : decode method_2_code 0 = .ok (.iload_n 0, 1) := by decide +kernel
theorem d1_1 : decode method_2_code 1 = .ok (.ifCond .ne 7, 3) := by decide +kernel
theorem d1_4 : decode method_2_code 4 = .ok (.getstatic 7, 3) := by decide +kernel
theorem d1_7 : decode method_2_code 7 = .ok (.areturn, 1) := by decide +kernel
theorem d1_8 : decode method_2_code 8 = .ok (.iload_n 0, 1) := by decide +kernel
theorem d1_9 : decode method_2_code 9 = .ok (.iconst 1, 1) := by decide +kernel
theorem d1_10 : decode method_2_code 10 = .ok (.if_icmp .ne 7, 3) := by decide +kernel
theorem d1_13 : decode method_2_code 13 = .ok (.getstatic 13, 3) := by decide +kernel
theorem d1_16 : decode method_2_code 16 = .ok (.areturn, 1) := by decide +kernel
theorem d1_17 : decode method_2_code 17 = .ok (.iload_n 0, 1) := by decide +kernel
theorem d1_18 : decode method_2_code 18 = .ok (.iconst 2, 1) := by decide +kernel
theorem d1_19 : decode method_2_code 19 = .ok (.if_icmp .ne 7, 3) := by decide +kernel
theorem d1_22 : decode method_2_code 22 = .ok (.getstatic 16, 3) := by decide +kernel
theorem d1_25 : decode method_2_code 25 = .ok (.areturn, 1) := by decide +kernel
theorem d1_26 : decode method_2_code 26 = .ok (.iload_n 0, 1) := by decide +kernel
theorem d1_27 : decode method_2_code 27 = .ok (.iconst 3, 1) := by decide +kernel
theorem d1_28 : decode method_2_code 28 = .ok (.if_icmp .ne 7, 3) := by decide +kernel
theorem d1_31 : decode method_2_code 31 = .ok (.getstatic 19, 3) := by decide +kernel
theorem d1_34 : decode method_2_code 34 = .ok (.areturn, 1) := by decide +kernel
theorem d1_35 : decode method_2_code 35 = .ok (.iload_n 0, 1) := by decide +kernel
theorem d1_36 : decode method_2_code 36 = .ok (.iconst 4, 1) := by decide +kernel
theorem d1_37 : decode method_2_code 37 = .ok (.if_icmp .ne 7, 3) := by decide +kernel
theorem d1_40 : decode method_2_code 40 = .ok (.getstatic 22, 3) := by decide +kernel
theorem d1_43 : decode method_2_code 43 = .ok (.areturn, 1) := by decide +kernel
theorem d1_44 : decode method_2_code 44 = .ok (.iload_n 0, 1) := by decide +kernel
theorem d1_45 : decode method_2_code 45 = .ok (.iconst 5, 1) := by decide +kernel
theorem d1_46 : decode method_2_code 46 = .ok (.if_icmp .ne 7, 3) := by decide +kernel
theorem d1_49 : decode method_2_code 49 = .ok (.getstatic 25, 3) := by decide +kernel
theorem d1_52 : decode method_2_code 52 = .ok (.areturn, 1) := by decide +kernel
theorem d1_53 : decode method_2_code 53 = .ok (.getstatic 28, 3) := by decide +kernel
theorem d1_56 : decode method_2_code 56 = .ok (.areturn, 1) := by decide +kernel
theorem pn_1 : plainName "com/example/tallydb/tallydb/PriceKindRequiredPinLaw" = true := by first | (simp [plainName, overriddenIn]; done) | decide +kernel
theorem ef_rm2n : ∀ (m : MethodId) (oa : Addr), entryFrame m #[(.ref oa)] 1 = mkF m 0 #[.val (.ref oa)] [] := by intros; first | (simp [entryFrame, mkF, argsToLocals, Value.category]; done) | rfl
theorem d2_0 : decode prog_25_method_6_code 0 = .ok (.aload_n 0, 1) := by decide +kernel
theorem d2_1 : decode prog_25_method_6_code 1 = .ok (.getfield 44, 3) := by decide +kernel
theorem d2_4 : decode prog_25_method_6_code 4 = .ok (.ifnonnull 7, 3) := by decide +kernel
theorem d2_7 : decode prog_25_method_6_code 7 = .ok (.iconst 1, 1) := by decide +kernel
theorem d2_8 : decode prog_25_method_6_code 8 = .ok (.goto 4, 3) := by decide +kernel
theorem d2_12 : decode prog_25_method_6_code 12 = .ok (.ireturn, 1) := by decide +kernel
theorem pn_2 : plainName "com/example/tallydb/tallydb/PriceKind" = true := by first | (simp [plainName, overriddenIn]; done) | decide +kernel
theorem ef_rm3n : ∀ (m : MethodId) (oa : Addr), entryFrame m #[(.ref oa)] 1 = mkF m 0 #[.val (.ref oa)] [] := by intros; first | (simp [entryFrame, mkF, argsToLocals, Value.category]; done) | rfl
theorem d3_0 : decode prog_25_method_5_code 0 = .ok (.aload_n 0, 1) := by decide +kernel
theorem d3_1 : decode prog_25_method_5_code 1 = .ok (.getfield 44, 3) := by decide +kernel
theorem d3_4 : decode prog_25_method_5_code 4 = .ok (.areturn, 1) := by decide +kernel
theorem pn_3 : plainName "com/example/tallydb/tallydb/PriceKind" = true := by first | (simp [plainName, overriddenIn]; done) | decide +kernel
theorem ef_rm2r : ∀ (m : MethodId) (oa : Addr), entryFrame m #[(.ref oa)] 1 = mkF m 0 #[.val (.ref oa)] [] := by intros; first | (simp [entryFrame, mkF, argsToLocals, Value.category]; done) | rfl
theorem d2_11 : decode prog_25_method_6_code 11 = .ok (.iconst 0, 1) := by decide +kernel
theorem ef_rm3r : ∀ (m : MethodId) (oa : Addr), entryFrame m #[(.ref oa)] 1 = mkF m 0 #[.val (.ref oa)] [] := by intros; first | (simp [entryFrame, mkF, argsToLocals, Value.category]; done) | rfl
theorem ef_rm0 : ∀ (m : MethodId) (xx : Int32), entryFrame m #[(.int xx)] maxLocals = mkF m 0 #[.val (.int xx), .unset, .unset, .unset, .unset] [] := by intros; first | (simp [entryFrame, mkF, argsToLocals, Value.category, maxLocals]; done) | rfl
theorem pd_0 : parseMethodDescriptor "(I)Lcom/example/tallydb/tallydb/PriceKind;" = some ⟨[.int], some (.object "com/example/tallydb/tallydb/PriceKind")⟩ := by decide +kernel
theorem pd_1 : parseMethodDescriptor "()Z" = some ⟨[], some .boolean⟩ := by decide +kernel
theorem pd_2 : parseMethodDescriptor "()Lcom/example/tallydb/tallydb/PriceKind;" = some ⟨[], some (.object "com/example/tallydb/tallydb/PriceKind")⟩ := by decide +kernel
theorem pn_0 : plainName "com/example/tallydb/tallydb/PriceKindRequiredPinLaw" = true := by first | (simp [plainName, overriddenIn]; done) | decide +kernel
def PK (k : Int32) (a0 a1 a2 a3 a4 a5 a6 : Addr) : Addr := if k = 0 then a0 else if k = 1 then a1 else if k = 2 then a2 else if k = 3 then a3 else if k = 4 then a4 else if k = 5 then a5 else a6
theorem own_k (a : Int32) : (a &&& 2147483647) % 7 = 0 ∨ (a &&& 2147483647) % 7 = 1 ∨ (a &&& 2147483647) % 7 = 2 ∨ (a &&& 2147483647) % 7 = 3 ∨ (a &&& 2147483647) % 7 = 4 ∨ (a &&& 2147483647) % 7 = 5 ∨ (a &&& 2147483647) % 7 = 6 := by
  have e : (a &&& 2147483647).toInt = a.toInt % (2 ^ 31 : Nat) := c_mask a 2147483647 31 (by decide) (by decide)
  have q := (c_irem (a &&& 2147483647) 7 7 rfl).1 (by rw [e]; omega)
  generalize (a &&& 2147483647) % 7 = r at *
  simp only [← Int32.toInt_inj, Int32.reduceToInt]
  omega
set_option maxRecDepth 65536 in
set_option maxHeartbeats 40000000 in
theorem rm1 (l : Launch) (Z : State) (a0 : Array Value) (hw : ∀ d ∈ tables_1, d.before a0 Z = true) (xk : Int32) (A_PROMPT A_CACHED_PROMPT A_COMPLETION A_CACHE_WRITE_PROMPT A_CACHE_WRITE_1H_PROMPT A_AUDIO_PROMPT A_AUDIO_COMPLETION : Addr) (h0 : Heap) (n0 : Nat) (Z0 : n0 ≤ h0.size) (S_PROMPT : Sta Z h0 "com/example/tallydb/tallydb/PriceKind" "PROMPT" "Lcom/example/tallydb/tallydb/PriceKind;" (.ref A_PROMPT)) (S_CACHED_PROMPT : Sta Z h0 "com/example/tallydb/tallydb/PriceKind" "CACHED_PROMPT" "Lcom/example/tallydb/tallydb/PriceKind;" (.ref A_CACHED_PROMPT)) (S_COMPLETION : Sta Z h0 "com/example/tallydb/tallydb/PriceKind" "COMPLETION" "Lcom/example/tallydb/tallydb/PriceKind;" (.ref A_COMPLETION)) (S_CACHE_WRITE_PROMPT : Sta Z h0 "com/example/tallydb/tallydb/PriceKind" "CACHE_WRITE_PROMPT" "Lcom/example/tallydb/tallydb/PriceKind;" (.ref A_CACHE_WRITE_PROMPT)) (S_CACHE_WRITE_1H_PROMPT : Sta Z h0 "com/example/tallydb/tallydb/PriceKind" "CACHE_WRITE_1H_PROMPT" "Lcom/example/tallydb/tallydb/PriceKind;" (.ref A_CACHE_WRITE_1H_PROMPT)) (S_AUDIO_PROMPT : Sta Z h0 "com/example/tallydb/tallydb/PriceKind" "AUDIO_PROMPT" "Lcom/example/tallydb/tallydb/PriceKind;" (.ref A_AUDIO_PROMPT)) (S_AUDIO_COMPLETION : Sta Z h0 "com/example/tallydb/tallydb/PriceKind" "AUDIO_COMPLETION" "Lcom/example/tallydb/tallydb/PriceKind;" (.ref A_AUDIO_COMPLETION)) :
    ownMet l Z (⟨"com/example/tallydb/tallydb/PriceKindRequiredPinLaw", "pick", "(I)Lcom/example/tallydb/tallydb/PriceKind;"⟩ : MethodName) method_2_code 1 (some (.object "com/example/tallydb/tallydb/PriceKind")) [] ({ frames := 0, cells := 0, slots := 0, locals := 0 } : Room) #[(.int xk)] h0 (fun v h L => v = some (.ref (PK xk A_PROMPT A_CACHED_PROMPT A_COMPLETION A_CACHE_WRITE_PROMPT A_CACHE_WRITE_1H_PROMPT A_AUDIO_PROMPT A_AUDIO_COMPLETION)) ∧ L = [] ∧ h = h0) := by
  refine ownMet.of (plainFor_of_name pn_1) ?_
  intro p e s m below meth c T0 hx hby hml hZ hown hnm hret hlk X0 e0
  refine ownEnds.cast (ef_rm1 m xk) ?_
  show ownEnds _ _ _ _ (T0.setTop (mkF m 0 #[.val (.int xk)] []))
  refine ownEnds.law (fun t k => XS.iloadN X0.here hx rfl (hb hby d1_0) rfl k) ?_
  show ownEnds _ _ _ _ (T0.setTop (mkF m 1 #[.val (.int xk)] [(.int xk)]))
  by_cases hc1 : xk = (0 : Int32)
  · refine ownEnds.law (fun t => XS.ifNo X0.here hx rfl (hb hby d1_1) rfl ((if0 _ _).trans (teq hc1).2)) ?_
    show ownEnds _ _ _ _ (T0.setTop (mkF m 4 #[.val (.int xk)] []))
    obtain ⟨T1, X1, e1, st1⟩ := getS2 X0 hx hZ hown (host := "") (Or.inl (wd_5 hw)) Via.refl e0 S_PROMPT (g := (mkF m 4 #[.val (.int xk)] [])) rfl (hb hby d1_4)
    refine ownEnds.law st1 ?_
    show ownEnds _ _ _ _ (T1.setTop (mkF m 7 #[.val (.int xk)] [(.ref A_PROMPT)]))
    refine ownRetA X1 hlk hx hret rfl rfl (hb hby d1_7) (by decide) (by decide) ?_
    exact ⟨by simp_all [PK], rfl, e1⟩
  · refine ownEnds.law (fun t => XS.ifYes X0.here hx rfl (pc0 := 1) (pc' := 8) rfl (hb hby d1_1) rfl ((if0 _ _).trans (feq hc1).2) (by decide) (by decide)) ?_
    show ownEnds _ _ _ _ (T0.setTop (mkF m 8 #[.val (.int xk)] []))
    refine ownEnds.law (fun t k => XS.iloadN X0.here hx rfl (hb hby d1_8) rfl (XS.iconst X0.here hx rfl (hb hby d1_9) k)) ?_
    show ownEnds _ _ _ _ (T0.setTop (mkF m 10 #[.val (.int xk)] [(.int (1 : Int32)), (.int xk)]))
    by_cases hc10 : xk = (1 : Int32)
    · refine ownEnds.law (fun t => XS.icmpNo X0.here hx rfl (hb hby d1_10) rfl (teq hc10).2) ?_
      show ownEnds _ _ _ _ (T0.setTop (mkF m 13 #[.val (.int xk)] []))
      obtain ⟨T2, X2, e2, st2⟩ := getS2 X0 hx hZ hown (host := "") (Or.inl (wd_30 hw)) Via.refl e0 S_CACHED_PROMPT (g := (mkF m 13 #[.val (.int xk)] [])) rfl (hb hby d1_13)
      refine ownEnds.law st2 ?_
      show ownEnds _ _ _ _ (T2.setTop (mkF m 16 #[.val (.int xk)] [(.ref A_CACHED_PROMPT)]))
      refine ownRetA X2 hlk hx hret rfl rfl (hb hby d1_16) (by decide) (by decide) ?_
      exact ⟨by simp_all [PK], rfl, e2⟩
    · refine ownEnds.law (fun t => XS.icmpYes X0.here hx rfl (pc0 := 10) (pc' := 17) rfl (hb hby d1_10) rfl (feq hc10).2 (by decide) (by decide)) ?_
      show ownEnds _ _ _ _ (T0.setTop (mkF m 17 #[.val (.int xk)] []))
      refine ownEnds.law (fun t k => XS.iloadN X0.here hx rfl (hb hby d1_17) rfl (XS.iconst X0.here hx rfl (hb hby d1_18) k)) ?_
      show ownEnds _ _ _ _ (T0.setTop (mkF m 19 #[.val (.int xk)] [(.int (2 : Int32)), (.int xk)]))
      by_cases hc19 : xk = (2 : Int32)
      · refine ownEnds.law (fun t => XS.icmpNo X0.here hx rfl (hb hby d1_19) rfl (teq hc19).2) ?_
        show ownEnds _ _ _ _ (T0.setTop (mkF m 22 #[.val (.int xk)] []))
        obtain ⟨T3, X3, e3, st3⟩ := getS2 X0 hx hZ hown (host := "") (Or.inl (wd_29 hw)) Via.refl e0 S_COMPLETION (g := (mkF m 22 #[.val (.int xk)] [])) rfl (hb hby d1_22)
        refine ownEnds.law st3 ?_
        show ownEnds _ _ _ _ (T3.setTop (mkF m 25 #[.val (.int xk)] [(.ref A_COMPLETION)]))
        refine ownRetA X3 hlk hx hret rfl rfl (hb hby d1_25) (by decide) (by decide) ?_
        exact ⟨by simp_all [PK], rfl, e3⟩
      · refine ownEnds.law (fun t => XS.icmpYes X0.here hx rfl (pc0 := 19) (pc' := 26) rfl (hb hby d1_19) rfl (feq hc19).2 (by decide) (by decide)) ?_
        show ownEnds _ _ _ _ (T0.setTop (mkF m 26 #[.val (.int xk)] []))
        refine ownEnds.law (fun t k => XS.iloadN X0.here hx rfl (hb hby d1_26) rfl (XS.iconst X0.here hx rfl (hb hby d1_27) k)) ?_
        show ownEnds _ _ _ _ (T0.setTop (mkF m 28 #[.val (.int xk)] [(.int (3 : Int32)), (.int xk)]))
        by_cases hc28 : xk = (3 : Int32)
        · refine ownEnds.law (fun t => XS.icmpNo X0.here hx rfl (hb hby d1_28) rfl (teq hc28).2) ?_
          show ownEnds _ _ _ _ (T0.setTop (mkF m 31 #[.val (.int xk)] []))
          obtain ⟨T4, X4, e4, st4⟩ := getS2 X0 hx hZ hown (host := "") (Or.inl (wd_20 hw)) Via.refl e0 S_CACHE_WRITE_PROMPT (g := (mkF m 31 #[.val (.int xk)] [])) rfl (hb hby d1_31)
          refine ownEnds.law st4 ?_
          show ownEnds _ _ _ _ (T4.setTop (mkF m 34 #[.val (.int xk)] [(.ref A_CACHE_WRITE_PROMPT)]))
          refine ownRetA X4 hlk hx hret rfl rfl (hb hby d1_34) (by decide) (by decide) ?_
          exact ⟨by simp_all [PK], rfl, e4⟩
        · refine ownEnds.law (fun t => XS.icmpYes X0.here hx rfl (pc0 := 28) (pc' := 35) rfl (hb hby d1_28) rfl (feq hc28).2 (by decide) (by decide)) ?_
          show ownEnds _ _ _ _ (T0.setTop (mkF m 35 #[.val (.int xk)] []))
          refine ownEnds.law (fun t k => XS.iloadN X0.here hx rfl (hb hby d1_35) rfl (XS.iconst X0.here hx rfl (hb hby d1_36) k)) ?_
          show ownEnds _ _ _ _ (T0.setTop (mkF m 37 #[.val (.int xk)] [(.int (4 : Int32)), (.int xk)]))
          by_cases hc37 : xk = (4 : Int32)
          · refine ownEnds.law (fun t => XS.icmpNo X0.here hx rfl (hb hby d1_37) rfl (teq hc37).2) ?_
            show ownEnds _ _ _ _ (T0.setTop (mkF m 40 #[.val (.int xk)] []))
            obtain ⟨T5, X5, e5, st5⟩ := getS2 X0 hx hZ hown (host := "") (Or.inl (wd_27 hw)) Via.refl e0 S_CACHE_WRITE_1H_PROMPT (g := (mkF m 40 #[.val (.int xk)] [])) rfl (hb hby d1_40)
            refine ownEnds.law st5 ?_
            show ownEnds _ _ _ _ (T5.setTop (mkF m 43 #[.val (.int xk)] [(.ref A_CACHE_WRITE_1H_PROMPT)]))
            refine ownRetA X5 hlk hx hret rfl rfl (hb hby d1_43) (by decide) (by decide) ?_
            exact ⟨by simp_all [PK], rfl, e5⟩
          · refine ownEnds.law (fun t => XS.icmpYes X0.here hx rfl (pc0 := 37) (pc' := 44) rfl (hb hby d1_37) rfl (feq hc37).2 (by decide) (by decide)) ?_
            show ownEnds _ _ _ _ (T0.setTop (mkF m 44 #[.val (.int xk)] []))
            refine ownEnds.law (fun t k => XS.iloadN X0.here hx rfl (hb hby d1_44) rfl (XS.iconst X0.here hx rfl (hb hby d1_45) k)) ?_
            show ownEnds _ _ _ _ (T0.setTop (mkF m 46 #[.val (.int xk)] [(.int (5 : Int32)), (.int xk)]))
            by_cases hc46 : xk = (5 : Int32)
            · refine ownEnds.law (fun t => XS.icmpNo X0.here hx rfl (hb hby d1_46) rfl (teq hc46).2) ?_
              show ownEnds _ _ _ _ (T0.setTop (mkF m 49 #[.val (.int xk)] []))
              obtain ⟨T6, X6, e6, st6⟩ := getS2 X0 hx hZ hown (host := "") (Or.inl (wd_22 hw)) Via.refl e0 S_AUDIO_PROMPT (g := (mkF m 49 #[.val (.int xk)] [])) rfl (hb hby d1_49)
              refine ownEnds.law st6 ?_
              show ownEnds _ _ _ _ (T6.setTop (mkF m 52 #[.val (.int xk)] [(.ref A_AUDIO_PROMPT)]))
              refine ownRetA X6 hlk hx hret rfl rfl (hb hby d1_52) (by decide) (by decide) ?_
              exact ⟨by simp_all [PK], rfl, e6⟩
            · refine ownEnds.law (fun t => XS.icmpYes X0.here hx rfl (pc0 := 46) (pc' := 53) rfl (hb hby d1_46) rfl (feq hc46).2 (by decide) (by decide)) ?_
              show ownEnds _ _ _ _ (T0.setTop (mkF m 53 #[.val (.int xk)] []))
              obtain ⟨T7, X7, e7, st7⟩ := getS2 X0 hx hZ hown (host := "") (Or.inl (wd_24 hw)) Via.refl e0 S_AUDIO_COMPLETION (g := (mkF m 53 #[.val (.int xk)] [])) rfl (hb hby d1_53)
              refine ownEnds.law st7 ?_
              show ownEnds _ _ _ _ (T7.setTop (mkF m 56 #[.val (.int xk)] [(.ref A_AUDIO_COMPLETION)]))
              refine ownRetA X7 hlk hx hret rfl rfl (hb hby d1_56) (by decide) (by decide) ?_
              exact ⟨by simp_all [PK], rfl, e7⟩
set_option maxRecDepth 65536 in
set_option maxHeartbeats 40000000 in
theorem rm2n (l : Launch) (Z : State) (a0 : Array Value) (hw : ∀ d ∈ tables_1, d.before a0 Z = true) (oa : Addr)  (h0 : Heap) (n0 : Nat) (Z0 : n0 ≤ h0.size) (F_fb : Fld Z h0 oa "com/example/tallydb/tallydb/PriceKind" "fallback" "Lcom/example/tallydb/tallydb/PriceKind;" .null) :
    ownMet l Z (⟨"com/example/tallydb/tallydb/PriceKind", "required", "()Z"⟩ : MethodName) prog_25_method_6_code 1 (some .boolean) [] ({ frames := 0, cells := 0, slots := 0, locals := 0 } : Room) #[(.ref oa)] h0 (fun v h L => v = some (.int 1) ∧ L = [] ∧ h = h0) := by
  refine ownMet.of (plainFor_of_name pn_2) ?_
  intro p e s m below meth c T0 hx hby hml hZ hown hnm hret hlk X0 e0
  refine ownEnds.cast (ef_rm2n m oa) ?_
  show ownEnds _ _ _ _ (T0.setTop (mkF m 0 #[.val (.ref oa)] []))
  refine ownEnds.law (fun t k => XS.aloadN X0.here hx rfl (hb hby d2_0) rfl rfl k) ?_
  show ownEnds _ _ _ _ (T0.setTop (mkF m 1 #[.val (.ref oa)] [(.ref oa)]))
  obtain ⟨T1, X1, e1, st1⟩ := getF X0 hx hZ hown (host := "") (Or.inl (wd_13 hw)) Via.refl e0 F_fb (g := (mkF m 1 #[.val (.ref oa)] [(.ref oa)])) rfl rfl (hb hby d2_1)
  refine ownEnds.law st1 ?_
  show ownEnds _ _ _ _ (T1.setTop (mkF m 4 #[.val (.ref oa)] [.null]))
  refine ownEnds.law (fun t k => XS.ifnonnullNo X1.here hx rfl (hb hby d2_4) rfl (XS.iconst X1.here hx rfl (hb hby d2_7) (XS.goto X1.here hx rfl (pc0 := 8) (pc' := 12) rfl (hb hby d2_8) (by decide) (by decide) k))) ?_
  show ownEnds _ _ _ _ (T1.setTop (mkF m 12 #[.val (.ref oa)] [(.int (1 : Int32))]))
  refine ownRetN X1 hlk hx (t := .boolean) hret (by simp) (hb hby d2_12) (by decide) (by decide) ?_
  exact ⟨rfl, rfl, e1⟩
set_option maxRecDepth 65536 in
set_option maxHeartbeats 40000000 in
theorem rm3n (l : Launch) (Z : State) (a0 : Array Value) (hw : ∀ d ∈ tables_1, d.before a0 Z = true) (oa : Addr)  (h0 : Heap) (n0 : Nat) (Z0 : n0 ≤ h0.size) (F_fb : Fld Z h0 oa "com/example/tallydb/tallydb/PriceKind" "fallback" "Lcom/example/tallydb/tallydb/PriceKind;" .null) :
    ownMet l Z (⟨"com/example/tallydb/tallydb/PriceKind", "fallback", "()Lcom/example/tallydb/tallydb/PriceKind;"⟩ : MethodName) prog_25_method_5_code 1 (some (.object "com/example/tallydb/tallydb/PriceKind")) [] ({ frames := 0, cells := 0, slots := 0, locals := 0 } : Room) #[(.ref oa)] h0 (fun v h L => v = some .null ∧ L = [] ∧ h = h0) := by
  refine ownMet.of (plainFor_of_name pn_3) ?_
  intro p e s m below meth c T0 hx hby hml hZ hown hnm hret hlk X0 e0
  refine ownEnds.cast (ef_rm3n m oa) ?_
  show ownEnds _ _ _ _ (T0.setTop (mkF m 0 #[.val (.ref oa)] []))
  refine ownEnds.law (fun t k => XS.aloadN X0.here hx rfl (hb hby d3_0) rfl rfl k) ?_
  show ownEnds _ _ _ _ (T0.setTop (mkF m 1 #[.val (.ref oa)] [(.ref oa)]))
  obtain ⟨T1, X1, e1, st1⟩ := getF X0 hx hZ hown (host := "") (Or.inl (wd_13 hw)) Via.refl e0 F_fb (g := (mkF m 1 #[.val (.ref oa)] [(.ref oa)])) rfl rfl (hb hby d3_1)
  refine ownEnds.law st1 ?_
  show ownEnds _ _ _ _ (T1.setTop (mkF m 4 #[.val (.ref oa)] [.null]))
  refine ownRetA X1 hlk hx hret rfl rfl (hb hby d3_4) (by decide) (by decide) ?_
  exact ⟨rfl, rfl, e1⟩
set_option maxRecDepth 65536 in
set_option maxHeartbeats 40000000 in
theorem rm2r (l : Launch) (Z : State) (a0 : Array Value) (hw : ∀ d ∈ tables_1, d.before a0 Z = true) (oa : Addr) (vf : Addr) (h0 : Heap) (n0 : Nat) (Z0 : n0 ≤ h0.size) (F_fb : Fld Z h0 oa "com/example/tallydb/tallydb/PriceKind" "fallback" "Lcom/example/tallydb/tallydb/PriceKind;" (.ref vf)) :
    ownMet l Z (⟨"com/example/tallydb/tallydb/PriceKind", "required", "()Z"⟩ : MethodName) prog_25_method_6_code 1 (some .boolean) [] ({ frames := 0, cells := 0, slots := 0, locals := 0 } : Room) #[(.ref oa)] h0 (fun v h L => v = some (.int 0) ∧ L = [] ∧ h = h0) := by
  refine ownMet.of (plainFor_of_name pn_2) ?_
  intro p e s m below meth c T0 hx hby hml hZ hown hnm hret hlk X0 e0
  refine ownEnds.cast (ef_rm2r m oa) ?_
  show ownEnds _ _ _ _ (T0.setTop (mkF m 0 #[.val (.ref oa)] []))
  refine ownEnds.law (fun t k => XS.aloadN X0.here hx rfl (hb hby d2_0) rfl rfl k) ?_
  show ownEnds _ _ _ _ (T0.setTop (mkF m 1 #[.val (.ref oa)] [(.ref oa)]))
  obtain ⟨T1, X1, e1, st1⟩ := getF X0 hx hZ hown (host := "") (Or.inl (wd_13 hw)) Via.refl e0 F_fb (g := (mkF m 1 #[.val (.ref oa)] [(.ref oa)])) rfl rfl (hb hby d2_1)
  refine ownEnds.law st1 ?_
  show ownEnds _ _ _ _ (T1.setTop (mkF m 4 #[.val (.ref oa)] [(.ref vf)]))
  refine ownEnds.law (fun t k => XS.ifnonnullYes X1.here hx rfl (pc0 := 4) (pc' := 11) rfl (hb hby d2_4) rfl (by decide) (by decide) (XS.iconst X1.here hx rfl (hb hby d2_11) k)) ?_
  show ownEnds _ _ _ _ (T1.setTop (mkF m 12 #[.val (.ref oa)] [(.int (0 : Int32))]))
  refine ownRetN X1 hlk hx (t := .boolean) hret (by simp) (hb hby d2_12) (by decide) (by decide) ?_
  exact ⟨rfl, rfl, e1⟩
set_option maxRecDepth 65536 in
set_option maxHeartbeats 40000000 in
theorem rm3r (l : Launch) (Z : State) (a0 : Array Value) (hw : ∀ d ∈ tables_1, d.before a0 Z = true) (oa : Addr) (vf : Addr) (h0 : Heap) (n0 : Nat) (Z0 : n0 ≤ h0.size) (F_fb : Fld Z h0 oa "com/example/tallydb/tallydb/PriceKind" "fallback" "Lcom/example/tallydb/tallydb/PriceKind;" (.ref vf)) :
    ownMet l Z (⟨"com/example/tallydb/tallydb/PriceKind", "fallback", "()Lcom/example/tallydb/tallydb/PriceKind;"⟩ : MethodName) prog_25_method_5_code 1 (some (.object "com/example/tallydb/tallydb/PriceKind")) [] ({ frames := 0, cells := 0, slots := 0, locals := 0 } : Room) #[(.ref oa)] h0 (fun v h L => v = some (.ref vf) ∧ L = [] ∧ h = h0) := by
  refine ownMet.of (plainFor_of_name pn_3) ?_
  intro p e s m below meth c T0 hx hby hml hZ hown hnm hret hlk X0 e0
  refine ownEnds.cast (ef_rm3r m oa) ?_
  show ownEnds _ _ _ _ (T0.setTop (mkF m 0 #[.val (.ref oa)] []))
  refine ownEnds.law (fun t k => XS.aloadN X0.here hx rfl (hb hby d3_0) rfl rfl k) ?_
  show ownEnds _ _ _ _ (T0.setTop (mkF m 1 #[.val (.ref oa)] [(.ref oa)]))
  obtain ⟨T1, X1, e1, st1⟩ := getF X0 hx hZ hown (host := "") (Or.inl (wd_13 hw)) Via.refl e0 F_fb (g := (mkF m 1 #[.val (.ref oa)] [(.ref oa)])) rfl rfl (hb hby d3_1)
  refine ownEnds.law st1 ?_
  show ownEnds _ _ _ _ (T1.setTop (mkF m 4 #[.val (.ref oa)] [(.ref vf)]))
  refine ownRetA X1 hlk hx hret rfl rfl (hb hby d3_4) (by decide) (by decide) ?_
  exact ⟨rfl, rfl, e1⟩
set_option maxRecDepth 65536 in
set_option maxHeartbeats 40000000 in
theorem rm0 (l : Launch) (Z : State) (a0 : Array Value) (hw : ∀ d ∈ tables_1, d.before a0 Z = true) (xx : Int32) (A_PROMPT A_CACHED_PROMPT A_COMPLETION A_CACHE_WRITE_PROMPT A_CACHE_WRITE_1H_PROMPT A_AUDIO_PROMPT A_AUDIO_COMPLETION : Addr) (h0 : Heap) (n0 : Nat) (Z0 : n0 ≤ h0.size) (S_PROMPT : Sta Z h0 "com/example/tallydb/tallydb/PriceKind" "PROMPT" "Lcom/example/tallydb/tallydb/PriceKind;" (.ref A_PROMPT)) (E_PROMPT : Exa Z h0 A_PROMPT "com/example/tallydb/tallydb/PriceKind") (F_PROMPT_fallback : Fld Z h0 A_PROMPT "com/example/tallydb/tallydb/PriceKind" "fallback" "Lcom/example/tallydb/tallydb/PriceKind;" .null) (S_CACHED_PROMPT : Sta Z h0 "com/example/tallydb/tallydb/PriceKind" "CACHED_PROMPT" "Lcom/example/tallydb/tallydb/PriceKind;" (.ref A_CACHED_PROMPT)) (E_CACHED_PROMPT : Exa Z h0 A_CACHED_PROMPT "com/example/tallydb/tallydb/PriceKind") (F_CACHED_PROMPT_fallback : Fld Z h0 A_CACHED_PROMPT "com/example/tallydb/tallydb/PriceKind" "fallback" "Lcom/example/tallydb/tallydb/PriceKind;" (.ref A_PROMPT)) (S_COMPLETION : Sta Z h0 "com/example/tallydb/tallydb/PriceKind" "COMPLETION" "Lcom/example/tallydb/tallydb/PriceKind;" (.ref A_COMPLETION)) (E_COMPLETION : Exa Z h0 A_COMPLETION "com/example/tallydb/tallydb/PriceKind") (F_COMPLETION_fallback : Fld Z h0 A_COMPLETION "com/example/tallydb/tallydb/PriceKind" "fallback" "Lcom/example/tallydb/tallydb/PriceKind;" .null) (S_CACHE_WRITE_PROMPT : Sta Z h0 "com/example/tallydb/tallydb/PriceKind" "CACHE_WRITE_PROMPT" "Lcom/example/tallydb/tallydb/PriceKind;" (.ref A_CACHE_WRITE_PROMPT)) (E_CACHE_WRITE_PROMPT : Exa Z h0 A_CACHE_WRITE_PROMPT "com/example/tallydb/tallydb/PriceKind") (F_CACHE_WRITE_PROMPT_fallback : Fld Z h0 A_CACHE_WRITE_PROMPT "com/example/tallydb/tallydb/PriceKind" "fallback" "Lcom/example/tallydb/tallydb/PriceKind;" (.ref A_PROMPT)) (S_CACHE_WRITE_1H_PROMPT : Sta Z h0 "com/example/tallydb/tallydb/PriceKind" "CACHE_WRITE_1H_PROMPT" "Lcom/example/tallydb/tallydb/PriceKind;" (.ref A_CACHE_WRITE_1H_PROMPT)) (E_CACHE_WRITE_1H_PROMPT : Exa Z h0 A_CACHE_WRITE_1H_PROMPT "com/example/tallydb/tallydb/PriceKind") (F_CACHE_WRITE_1H_PROMPT_fallback : Fld Z h0 A_CACHE_WRITE_1H_PROMPT "com/example/tallydb/tallydb/PriceKind" "fallback" "Lcom/example/tallydb/tallydb/PriceKind;" (.ref A_CACHE_WRITE_PROMPT)) (S_AUDIO_PROMPT : Sta Z h0 "com/example/tallydb/tallydb/PriceKind" "AUDIO_PROMPT" "Lcom/example/tallydb/tallydb/PriceKind;" (.ref A_AUDIO_PROMPT)) (E_AUDIO_PROMPT : Exa Z h0 A_AUDIO_PROMPT "com/example/tallydb/tallydb/PriceKind") (F_AUDIO_PROMPT_fallback : Fld Z h0 A_AUDIO_PROMPT "com/example/tallydb/tallydb/PriceKind" "fallback" "Lcom/example/tallydb/tallydb/PriceKind;" (.ref A_PROMPT)) (S_AUDIO_COMPLETION : Sta Z h0 "com/example/tallydb/tallydb/PriceKind" "AUDIO_COMPLETION" "Lcom/example/tallydb/tallydb/PriceKind;" (.ref A_AUDIO_COMPLETION)) (E_AUDIO_COMPLETION : Exa Z h0 A_AUDIO_COMPLETION "com/example/tallydb/tallydb/PriceKind") (F_AUDIO_COMPLETION_fallback : Fld Z h0 A_AUDIO_COMPLETION "com/example/tallydb/tallydb/PriceKind" "fallback" "Lcom/example/tallydb/tallydb/PriceKind;" (.ref A_COMPLETION)) :
    ownMet l Z x code maxLocals ret tables_1 room_1 #[(.int xx)] h0 (fun v h L => v = some (.int 1) ∧ Fr n0 L) := by
  refine ownMet.of (plainFor_of_name pn_0) ?_
  intro p e s m below meth c T0 hx hby hml hZ hown hnm hret hlk X0 e0
  have hown : s.vm.findClass "com/example/tallydb/tallydb/PriceKindRequiredPinLaw" = some m.cls := hown
  have hml : c.maxLocals = 5 := hml
  have hret : meth.sig.returnType = some .boolean := hret
  refine ownEnds.cast (ef_rm0 m xx) ?_
  show ownEnds _ _ _ _ (T0.setTop (mkF m 0 #[.val (.int xx), .unset, .unset, .unset, .unset] []))
  refine ownEnds.law (fun t k => XS.iloadN X0.here hx rfl (hb hby at_0) rfl (X0.ldcInt hx hown (mvT hZ (wd_0 hw)) (g := (mkF m 1 #[.val (.int xx), .unset, .unset, .unset, .unset] [(.int xx)])) rfl (hb hby at_1) _ (XS.iand X0.here hx rfl (hb hby at_3) rfl (XS.bipush X0.here hx rfl (hb hby at_4) (iremM X0 hx rfl (hb hby at_6) rfl (by decide) k))))) ?_
  show ownEnds _ _ _ _ (T0.setTop (mkF m 7 #[.val (.int xx), .unset, .unset, .unset, .unset] [(.int ((xx &&& (2147483647 : Int32)) % (7 : Int32)))]))
  obtain ⟨k0, e_k0⟩ : ∃ z : Int32, z = ((xx &&& (2147483647 : Int32)) % (7 : Int32)) := ⟨_, rfl⟩
  rw [← e_k0]
  show ownEnds _ _ _ _ (T0.setTop (mkF m 7 #[.val (.int xx), .unset, .unset, .unset, .unset] [(.int k0)]))
  refine ownEnds.law (fun t k => XS.istoreN X0.here hx rfl (hb hby at_7) rfl (l' := #[.val (.int xx), .val (.int k0), .unset, .unset, .unset]) rfl k) ?_
  show ownEnds _ _ _ _ (T0.setTop (mkF m 8 #[.val (.int xx), .val (.int k0), .unset, .unset, .unset] []))
  have hk := own_k xx
  rw [← e_k0] at hk
  clear e_k0
  rcases hk with rfl | rfl | rfl | rfl | rfl | rfl | rfl
  · show ownEnds _ _ _ _ (T0.setTop (mkF m 8 #[.val (.int xx), .val (.int (0 : Int32)), .unset, .unset, .unset] []))
    refine ownEnds.law (fun t k => XS.iloadN X0.here hx rfl (hb hby at_8) rfl k) ?_
    show ownEnds _ _ _ _ (T0.setTop (mkF m 9 #[.val (.int xx), .val (.int (0 : Int32)), .unset, .unset, .unset] [(.int (0 : Int32))]))
    obtain ⟨v1, T1, L1, X1, hQ1, st1⟩ := ownCallS X0 hx hZ hown (y := (⟨"com/example/tallydb/tallydb/PriceKindRequiredPinLaw", "pick", "(I)Lcom/example/tallydb/tallydb/PriceKind;"⟩ : MethodName)) (as := [(.int (0 : Int32))]) (wd_1 hw) (wd_2 hw) (wd_3 hw) (wd_4 hw) (by decide) (rm1 l Z a0 hw (0 : Int32) A_PROMPT A_CACHED_PROMPT A_COMPLETION A_CACHE_WRITE_PROMPT A_CACHE_WRITE_1H_PROMPT A_AUDIO_PROMPT A_AUDIO_COMPLETION h0 n0 Z0 S_PROMPT S_CACHED_PROMPT S_COMPLETION S_CACHE_WRITE_PROMPT S_CACHE_WRITE_1H_PROMPT S_AUDIO_PROMPT S_AUDIO_COMPLETION) e0 0 (by decide) (by decide) (by decide) (by decide) (g := (mkF m 9 #[.val (.int xx), .val (.int (0 : Int32)), .unset, .unset, .unset] [(.int (0 : Int32))])) rfl (by rw [hml]; rfl) (rest := []) pd_0 rfl rfl (by show 2 * 0 + _ ≤ _; exact Nat.le_of_eq rfl) (hb hby at_9)
    obtain ⟨hv1, rfl, e1⟩ := hQ1
    rw [List.append_nil] at X1
    have hw1 : v1 = some (.ref A_PROMPT) := hv1.trans (by simp [PK])
    subst hw1
    refine ownEnds.law st1 ?_
    show ownEnds _ _ _ _ (T1.setTop (mkF m 12 #[.val (.int xx), .val (.int (0 : Int32)), .unset, .unset, .unset] [(.ref A_PROMPT)]))
    refine ownEnds.law (fun t k => XS.astoreN X1.here hx rfl (hb hby at_12) rfl rfl (l' := #[.val (.int xx), .val (.int (0 : Int32)), .val (.ref A_PROMPT), .unset, .unset]) rfl (XS.iloadN X1.here hx rfl (hb hby at_13) rfl k)) ?_
    show ownEnds _ _ _ _ (T1.setTop (mkF m 14 #[.val (.int xx), .val (.int (0 : Int32)), .val (.ref A_PROMPT), .unset, .unset] [(.int (0 : Int32))]))
    refine ownEnds.law (fun t => XS.ifYes X1.here hx rfl (pc0 := 14) (pc' := 22) rfl (hb hby at_14) rfl ((if0 _ _).trans (teq (rfl : (0 : Int32) = (0 : Int32))).1) (by decide) (by decide)) ?_
    show ownEnds _ _ _ _ (T1.setTop (mkF m 22 #[.val (.int xx), .val (.int (0 : Int32)), .val (.ref A_PROMPT), .unset, .unset] []))
    refine ownEnds.law (fun t k => XS.iconst X1.here hx rfl (hb hby at_22) (XS.goto X1.here hx rfl (pc0 := 23) (pc' := 27) rfl (hb hby at_23) (by decide) (by decide) (XS.istoreN X1.here hx rfl (hb hby at_27) rfl (l' := #[.val (.int xx), .val (.int (0 : Int32)), .val (.ref A_PROMPT), .val (.int (1 : Int32)), .unset]) rfl (XS.aloadN X1.here hx rfl (hb hby at_28) rfl rfl k)))) ?_
    show ownEnds _ _ _ _ (T1.setTop (mkF m 29 #[.val (.int xx), .val (.int (0 : Int32)), .val (.ref A_PROMPT), .val (.int (1 : Int32)), .unset] [(.ref A_PROMPT)]))
    obtain ⟨v2, T2, L2, X2, hQ2, st2⟩ := ownCallV X1 hx hZ hown (y := (⟨"com/example/tallydb/tallydb/PriceKind", "required", "()Z"⟩ : MethodName)) (z := (⟨"com/example/tallydb/tallydb/PriceKind", "required", "()Z"⟩ : MethodName)) (a := A_PROMPT) (as := []) (wd_8 hw) (wd_9 hw) (notFace_of_selects (args := #[]) (mvT hZ (wd_11 hw))) (wd_11 hw) (wd_10 hw) (wd_6 hw) (wd_12 hw) (by decide) (rm2n l Z a0 hw A_PROMPT  h0 n0 Z0 F_PROMPT_fallback) e1 E_PROMPT 0 (by decide) (by decide) (by decide) (by decide) (g := (mkF m 29 #[.val (.int xx), .val (.int (0 : Int32)), .val (.ref A_PROMPT), .val (.int (1 : Int32)), .unset] [(.ref A_PROMPT)])) rfl (by rw [hml]; rfl) (rest := []) pd_1 rfl rfl (by show 2 * 0 + _ ≤ _; exact Nat.le_of_eq rfl) (hb hby at_29)
    obtain ⟨rfl, rfl, e2⟩ := hQ2
    rw [List.append_nil] at X2
    refine ownEnds.law st2 ?_
    show ownEnds _ _ _ _ (T2.setTop (mkF m 32 #[.val (.int xx), .val (.int (0 : Int32)), .val (.ref A_PROMPT), .val (.int (1 : Int32)), .unset] [(.int (1 : Int32))]))
    refine ownEnds.law (fun t k => XS.istore X2.here hx rfl (hb hby at_32) rfl (l' := #[.val (.int xx), .val (.int (0 : Int32)), .val (.ref A_PROMPT), .val (.int (1 : Int32)), .val (.int (1 : Int32))]) rfl (XS.iload X2.here hx rfl (hb hby at_34) rfl (XS.iloadN X2.here hx rfl (hb hby at_36) rfl k))) ?_
    show ownEnds _ _ _ _ (T2.setTop (mkF m 37 #[.val (.int xx), .val (.int (0 : Int32)), .val (.ref A_PROMPT), .val (.int (1 : Int32)), .val (.int (1 : Int32))] [(.int (1 : Int32)), (.int (1 : Int32))]))
    refine ownEnds.law (fun t => XS.icmpNo X2.here hx rfl (hb hby at_37) rfl (teq (rfl : (1 : Int32) = (1 : Int32))).2) ?_
    show ownEnds _ _ _ _ (T2.setTop (mkF m 40 #[.val (.int xx), .val (.int (0 : Int32)), .val (.ref A_PROMPT), .val (.int (1 : Int32)), .val (.int (1 : Int32))] []))
    refine ownEnds.law (fun t k => XS.iload X2.here hx rfl (hb hby at_40) rfl (XS.aloadN X2.here hx rfl (hb hby at_42) rfl rfl k)) ?_
    show ownEnds _ _ _ _ (T2.setTop (mkF m 43 #[.val (.int xx), .val (.int (0 : Int32)), .val (.ref A_PROMPT), .val (.int (1 : Int32)), .val (.int (1 : Int32))] [(.ref A_PROMPT), (.int (1 : Int32))]))
    obtain ⟨v3, T3, L3, X3, hQ3, st3⟩ := ownCallV X2 hx hZ hown (y := (⟨"com/example/tallydb/tallydb/PriceKind", "fallback", "()Lcom/example/tallydb/tallydb/PriceKind;"⟩ : MethodName)) (z := (⟨"com/example/tallydb/tallydb/PriceKind", "fallback", "()Lcom/example/tallydb/tallydb/PriceKind;"⟩ : MethodName)) (a := A_PROMPT) (as := []) (wd_15 hw) (wd_16 hw) (notFace_of_selects (args := #[]) (mvT hZ (wd_18 hw))) (wd_18 hw) (wd_17 hw) (wd_6 hw) (wd_19 hw) (by decide) (rm3n l Z a0 hw A_PROMPT  h0 n0 Z0 F_PROMPT_fallback) e2 E_PROMPT 1 (by decide) (by decide) (by decide) (by decide) (g := (mkF m 43 #[.val (.int xx), .val (.int (0 : Int32)), .val (.ref A_PROMPT), .val (.int (1 : Int32)), .val (.int (1 : Int32))] [(.ref A_PROMPT), (.int (1 : Int32))])) rfl (by rw [hml]; rfl) (rest := [(.int (1 : Int32))]) pd_2 rfl rfl (by show 2 * 0 + _ ≤ _; exact Nat.le_of_eq rfl) (hb hby at_43)
    obtain ⟨rfl, rfl, e3⟩ := hQ3
    rw [List.append_nil] at X3
    refine ownEnds.law st3 ?_
    show ownEnds _ _ _ _ (T3.setTop (mkF m 46 #[.val (.int xx), .val (.int (0 : Int32)), .val (.ref A_PROMPT), .val (.int (1 : Int32)), .val (.int (1 : Int32))] [.null, (.int (1 : Int32))]))
    refine ownEnds.law (fun t k => XS.ifnonnullNo X3.here hx rfl (hb hby at_46) rfl (XS.iconst X3.here hx rfl (hb hby at_49) (XS.goto X3.here hx rfl (pc0 := 50) (pc' := 54) rfl (hb hby at_50) (by decide) (by decide) k))) ?_
    show ownEnds _ _ _ _ (T3.setTop (mkF m 54 #[.val (.int xx), .val (.int (0 : Int32)), .val (.ref A_PROMPT), .val (.int (1 : Int32)), .val (.int (1 : Int32))] [(.int (1 : Int32)), (.int (1 : Int32))]))
    refine ownEnds.law (fun t => XS.icmpNo X3.here hx rfl (hb hby at_54) rfl (teq (rfl : (1 : Int32) = (1 : Int32))).2) ?_
    show ownEnds _ _ _ _ (T3.setTop (mkF m 57 #[.val (.int xx), .val (.int (0 : Int32)), .val (.ref A_PROMPT), .val (.int (1 : Int32)), .val (.int (1 : Int32))] []))
    refine ownEnds.law (fun t k => XS.iconst X3.here hx rfl (hb hby at_57) (XS.goto X3.here hx rfl (pc0 := 58) (pc' := 62) rfl (hb hby at_58) (by decide) (by decide) k)) ?_
    show ownEnds _ _ _ _ (T3.setTop (mkF m 62 #[.val (.int xx), .val (.int (0 : Int32)), .val (.ref A_PROMPT), .val (.int (1 : Int32)), .val (.int (1 : Int32))] [(.int (1 : Int32))]))
    refine ownRetN X3 hlk hx (t := .boolean) hret (by simp) (hb hby at_62) (by decide) (by decide) ?_
    exact ⟨rfl, Fr.nil n0⟩
  · show ownEnds _ _ _ _ (T0.setTop (mkF m 8 #[.val (.int xx), .val (.int (1 : Int32)), .unset, .unset, .unset] []))
    refine ownEnds.law (fun t k => XS.iloadN X0.here hx rfl (hb hby at_8) rfl k) ?_
    show ownEnds _ _ _ _ (T0.setTop (mkF m 9 #[.val (.int xx), .val (.int (1 : Int32)), .unset, .unset, .unset] [(.int (1 : Int32))]))
    obtain ⟨v4, T4, L4, X4, hQ4, st4⟩ := ownCallS X0 hx hZ hown (y := (⟨"com/example/tallydb/tallydb/PriceKindRequiredPinLaw", "pick", "(I)Lcom/example/tallydb/tallydb/PriceKind;"⟩ : MethodName)) (as := [(.int (1 : Int32))]) (wd_1 hw) (wd_2 hw) (wd_3 hw) (wd_4 hw) (by decide) (rm1 l Z a0 hw (1 : Int32) A_PROMPT A_CACHED_PROMPT A_COMPLETION A_CACHE_WRITE_PROMPT A_CACHE_WRITE_1H_PROMPT A_AUDIO_PROMPT A_AUDIO_COMPLETION h0 n0 Z0 S_PROMPT S_CACHED_PROMPT S_COMPLETION S_CACHE_WRITE_PROMPT S_CACHE_WRITE_1H_PROMPT S_AUDIO_PROMPT S_AUDIO_COMPLETION) e0 0 (by decide) (by decide) (by decide) (by decide) (g := (mkF m 9 #[.val (.int xx), .val (.int (1 : Int32)), .unset, .unset, .unset] [(.int (1 : Int32))])) rfl (by rw [hml]; rfl) (rest := []) pd_0 rfl rfl (by show 2 * 0 + _ ≤ _; exact Nat.le_of_eq rfl) (hb hby at_9)
    obtain ⟨hv4, rfl, e4⟩ := hQ4
    rw [List.append_nil] at X4
    have hw4 : v4 = some (.ref A_CACHED_PROMPT) := hv4.trans (by simp [PK])
    subst hw4
    refine ownEnds.law st4 ?_
    show ownEnds _ _ _ _ (T4.setTop (mkF m 12 #[.val (.int xx), .val (.int (1 : Int32)), .unset, .unset, .unset] [(.ref A_CACHED_PROMPT)]))
    refine ownEnds.law (fun t k => XS.astoreN X4.here hx rfl (hb hby at_12) rfl rfl (l' := #[.val (.int xx), .val (.int (1 : Int32)), .val (.ref A_CACHED_PROMPT), .unset, .unset]) rfl (XS.iloadN X4.here hx rfl (hb hby at_13) rfl k)) ?_
    show ownEnds _ _ _ _ (T4.setTop (mkF m 14 #[.val (.int xx), .val (.int (1 : Int32)), .val (.ref A_CACHED_PROMPT), .unset, .unset] [(.int (1 : Int32))]))
    refine ownEnds.law (fun t => XS.ifNo X4.here hx rfl (hb hby at_14) rfl ((if0 _ _).trans (feq (by decide : ¬ ((1 : Int32) = (0 : Int32)))).1)) ?_
    show ownEnds _ _ _ _ (T4.setTop (mkF m 17 #[.val (.int xx), .val (.int (1 : Int32)), .val (.ref A_CACHED_PROMPT), .unset, .unset] []))
    refine ownEnds.law (fun t k => XS.iloadN X4.here hx rfl (hb hby at_17) rfl (XS.iconst X4.here hx rfl (hb hby at_18) k)) ?_
    show ownEnds _ _ _ _ (T4.setTop (mkF m 19 #[.val (.int xx), .val (.int (1 : Int32)), .val (.ref A_CACHED_PROMPT), .unset, .unset] [(.int (2 : Int32)), (.int (1 : Int32))]))
    refine ownEnds.law (fun t => XS.icmpYes X4.here hx rfl (pc0 := 19) (pc' := 26) rfl (hb hby at_19) rfl (feq (by decide : ¬ ((1 : Int32) = (2 : Int32)))).2 (by decide) (by decide)) ?_
    show ownEnds _ _ _ _ (T4.setTop (mkF m 26 #[.val (.int xx), .val (.int (1 : Int32)), .val (.ref A_CACHED_PROMPT), .unset, .unset] []))
    refine ownEnds.law (fun t k => XS.iconst X4.here hx rfl (hb hby at_26) (XS.istoreN X4.here hx rfl (hb hby at_27) rfl (l' := #[.val (.int xx), .val (.int (1 : Int32)), .val (.ref A_CACHED_PROMPT), .val (.int (0 : Int32)), .unset]) rfl (XS.aloadN X4.here hx rfl (hb hby at_28) rfl rfl k))) ?_
    show ownEnds _ _ _ _ (T4.setTop (mkF m 29 #[.val (.int xx), .val (.int (1 : Int32)), .val (.ref A_CACHED_PROMPT), .val (.int (0 : Int32)), .unset] [(.ref A_CACHED_PROMPT)]))
    obtain ⟨v5, T5, L5, X5, hQ5, st5⟩ := ownCallV X4 hx hZ hown (y := (⟨"com/example/tallydb/tallydb/PriceKind", "required", "()Z"⟩ : MethodName)) (z := (⟨"com/example/tallydb/tallydb/PriceKind", "required", "()Z"⟩ : MethodName)) (a := A_CACHED_PROMPT) (as := []) (wd_8 hw) (wd_9 hw) (notFace_of_selects (args := #[]) (mvT hZ (wd_11 hw))) (wd_11 hw) (wd_10 hw) (wd_6 hw) (wd_12 hw) (by decide) (rm2r l Z a0 hw A_CACHED_PROMPT A_PROMPT h0 n0 Z0 F_CACHED_PROMPT_fallback) e4 E_CACHED_PROMPT 0 (by decide) (by decide) (by decide) (by decide) (g := (mkF m 29 #[.val (.int xx), .val (.int (1 : Int32)), .val (.ref A_CACHED_PROMPT), .val (.int (0 : Int32)), .unset] [(.ref A_CACHED_PROMPT)])) rfl (by rw [hml]; rfl) (rest := []) pd_1 rfl rfl (by show 2 * 0 + _ ≤ _; exact Nat.le_of_eq rfl) (hb hby at_29)
    obtain ⟨rfl, rfl, e5⟩ := hQ5
    rw [List.append_nil] at X5
    refine ownEnds.law st5 ?_
    show ownEnds _ _ _ _ (T5.setTop (mkF m 32 #[.val (.int xx), .val (.int (1 : Int32)), .val (.ref A_CACHED_PROMPT), .val (.int (0 : Int32)), .unset] [(.int (0 : Int32))]))
    refine ownEnds.law (fun t k => XS.istore X5.here hx rfl (hb hby at_32) rfl (l' := #[.val (.int xx), .val (.int (1 : Int32)), .val (.ref A_CACHED_PROMPT), .val (.int (0 : Int32)), .val (.int (0 : Int32))]) rfl (XS.iload X5.here hx rfl (hb hby at_34) rfl (XS.iloadN X5.here hx rfl (hb hby at_36) rfl k))) ?_
    show ownEnds _ _ _ _ (T5.setTop (mkF m 37 #[.val (.int xx), .val (.int (1 : Int32)), .val (.ref A_CACHED_PROMPT), .val (.int (0 : Int32)), .val (.int (0 : Int32))] [(.int (0 : Int32)), (.int (0 : Int32))]))
    refine ownEnds.law (fun t => XS.icmpNo X5.here hx rfl (hb hby at_37) rfl (teq (rfl : (0 : Int32) = (0 : Int32))).2) ?_
    show ownEnds _ _ _ _ (T5.setTop (mkF m 40 #[.val (.int xx), .val (.int (1 : Int32)), .val (.ref A_CACHED_PROMPT), .val (.int (0 : Int32)), .val (.int (0 : Int32))] []))
    refine ownEnds.law (fun t k => XS.iload X5.here hx rfl (hb hby at_40) rfl (XS.aloadN X5.here hx rfl (hb hby at_42) rfl rfl k)) ?_
    show ownEnds _ _ _ _ (T5.setTop (mkF m 43 #[.val (.int xx), .val (.int (1 : Int32)), .val (.ref A_CACHED_PROMPT), .val (.int (0 : Int32)), .val (.int (0 : Int32))] [(.ref A_CACHED_PROMPT), (.int (0 : Int32))]))
    obtain ⟨v6, T6, L6, X6, hQ6, st6⟩ := ownCallV X5 hx hZ hown (y := (⟨"com/example/tallydb/tallydb/PriceKind", "fallback", "()Lcom/example/tallydb/tallydb/PriceKind;"⟩ : MethodName)) (z := (⟨"com/example/tallydb/tallydb/PriceKind", "fallback", "()Lcom/example/tallydb/tallydb/PriceKind;"⟩ : MethodName)) (a := A_CACHED_PROMPT) (as := []) (wd_15 hw) (wd_16 hw) (notFace_of_selects (args := #[]) (mvT hZ (wd_18 hw))) (wd_18 hw) (wd_17 hw) (wd_6 hw) (wd_19 hw) (by decide) (rm3r l Z a0 hw A_CACHED_PROMPT A_PROMPT h0 n0 Z0 F_CACHED_PROMPT_fallback) e5 E_CACHED_PROMPT 1 (by decide) (by decide) (by decide) (by decide) (g := (mkF m 43 #[.val (.int xx), .val (.int (1 : Int32)), .val (.ref A_CACHED_PROMPT), .val (.int (0 : Int32)), .val (.int (0 : Int32))] [(.ref A_CACHED_PROMPT), (.int (0 : Int32))])) rfl (by rw [hml]; rfl) (rest := [(.int (0 : Int32))]) pd_2 rfl rfl (by show 2 * 0 + _ ≤ _; exact Nat.le_of_eq rfl) (hb hby at_43)
    obtain ⟨rfl, rfl, e6⟩ := hQ6
    rw [List.append_nil] at X6
    refine ownEnds.law st6 ?_
    show ownEnds _ _ _ _ (T6.setTop (mkF m 46 #[.val (.int xx), .val (.int (1 : Int32)), .val (.ref A_CACHED_PROMPT), .val (.int (0 : Int32)), .val (.int (0 : Int32))] [(.ref A_PROMPT), (.int (0 : Int32))]))
    refine ownEnds.law (fun t k => XS.ifnonnullYes X6.here hx rfl (pc0 := 46) (pc' := 53) rfl (hb hby at_46) rfl (by decide) (by decide) (XS.iconst X6.here hx rfl (hb hby at_53) k)) ?_
    show ownEnds _ _ _ _ (T6.setTop (mkF m 54 #[.val (.int xx), .val (.int (1 : Int32)), .val (.ref A_CACHED_PROMPT), .val (.int (0 : Int32)), .val (.int (0 : Int32))] [(.int (0 : Int32)), (.int (0 : Int32))]))
    refine ownEnds.law (fun t => XS.icmpNo X6.here hx rfl (hb hby at_54) rfl (teq (rfl : (0 : Int32) = (0 : Int32))).2) ?_
    show ownEnds _ _ _ _ (T6.setTop (mkF m 57 #[.val (.int xx), .val (.int (1 : Int32)), .val (.ref A_CACHED_PROMPT), .val (.int (0 : Int32)), .val (.int (0 : Int32))] []))
    refine ownEnds.law (fun t k => XS.iconst X6.here hx rfl (hb hby at_57) (XS.goto X6.here hx rfl (pc0 := 58) (pc' := 62) rfl (hb hby at_58) (by decide) (by decide) k)) ?_
    show ownEnds _ _ _ _ (T6.setTop (mkF m 62 #[.val (.int xx), .val (.int (1 : Int32)), .val (.ref A_CACHED_PROMPT), .val (.int (0 : Int32)), .val (.int (0 : Int32))] [(.int (1 : Int32))]))
    refine ownRetN X6 hlk hx (t := .boolean) hret (by simp) (hb hby at_62) (by decide) (by decide) ?_
    exact ⟨rfl, Fr.nil n0⟩
  · show ownEnds _ _ _ _ (T0.setTop (mkF m 8 #[.val (.int xx), .val (.int (2 : Int32)), .unset, .unset, .unset] []))
    refine ownEnds.law (fun t k => XS.iloadN X0.here hx rfl (hb hby at_8) rfl k) ?_
    show ownEnds _ _ _ _ (T0.setTop (mkF m 9 #[.val (.int xx), .val (.int (2 : Int32)), .unset, .unset, .unset] [(.int (2 : Int32))]))
    obtain ⟨v7, T7, L7, X7, hQ7, st7⟩ := ownCallS X0 hx hZ hown (y := (⟨"com/example/tallydb/tallydb/PriceKindRequiredPinLaw", "pick", "(I)Lcom/example/tallydb/tallydb/PriceKind;"⟩ : MethodName)) (as := [(.int (2 : Int32))]) (wd_1 hw) (wd_2 hw) (wd_3 hw) (wd_4 hw) (by decide) (rm1 l Z a0 hw (2 : Int32) A_PROMPT A_CACHED_PROMPT A_COMPLETION A_CACHE_WRITE_PROMPT A_CACHE_WRITE_1H_PROMPT A_AUDIO_PROMPT A_AUDIO_COMPLETION h0 n0 Z0 S_PROMPT S_CACHED_PROMPT S_COMPLETION S_CACHE_WRITE_PROMPT S_CACHE_WRITE_1H_PROMPT S_AUDIO_PROMPT S_AUDIO_COMPLETION) e0 0 (by decide) (by decide) (by decide) (by decide) (g := (mkF m 9 #[.val (.int xx), .val (.int (2 : Int32)), .unset, .unset, .unset] [(.int (2 : Int32))])) rfl (by rw [hml]; rfl) (rest := []) pd_0 rfl rfl (by show 2 * 0 + _ ≤ _; exact Nat.le_of_eq rfl) (hb hby at_9)
    obtain ⟨hv7, rfl, e7⟩ := hQ7
    rw [List.append_nil] at X7
    have hw7 : v7 = some (.ref A_COMPLETION) := hv7.trans (by simp [PK])
    subst hw7
    refine ownEnds.law st7 ?_
    show ownEnds _ _ _ _ (T7.setTop (mkF m 12 #[.val (.int xx), .val (.int (2 : Int32)), .unset, .unset, .unset] [(.ref A_COMPLETION)]))
    refine ownEnds.law (fun t k => XS.astoreN X7.here hx rfl (hb hby at_12) rfl rfl (l' := #[.val (.int xx), .val (.int (2 : Int32)), .val (.ref A_COMPLETION), .unset, .unset]) rfl (XS.iloadN X7.here hx rfl (hb hby at_13) rfl k)) ?_
    show ownEnds _ _ _ _ (T7.setTop (mkF m 14 #[.val (.int xx), .val (.int (2 : Int32)), .val (.ref A_COMPLETION), .unset, .unset] [(.int (2 : Int32))]))
    refine ownEnds.law (fun t => XS.ifNo X7.here hx rfl (hb hby at_14) rfl ((if0 _ _).trans (feq (by decide : ¬ ((2 : Int32) = (0 : Int32)))).1)) ?_
    show ownEnds _ _ _ _ (T7.setTop (mkF m 17 #[.val (.int xx), .val (.int (2 : Int32)), .val (.ref A_COMPLETION), .unset, .unset] []))
    refine ownEnds.law (fun t k => XS.iloadN X7.here hx rfl (hb hby at_17) rfl (XS.iconst X7.here hx rfl (hb hby at_18) k)) ?_
    show ownEnds _ _ _ _ (T7.setTop (mkF m 19 #[.val (.int xx), .val (.int (2 : Int32)), .val (.ref A_COMPLETION), .unset, .unset] [(.int (2 : Int32)), (.int (2 : Int32))]))
    refine ownEnds.law (fun t => XS.icmpNo X7.here hx rfl (hb hby at_19) rfl (teq (rfl : (2 : Int32) = (2 : Int32))).2) ?_
    show ownEnds _ _ _ _ (T7.setTop (mkF m 22 #[.val (.int xx), .val (.int (2 : Int32)), .val (.ref A_COMPLETION), .unset, .unset] []))
    refine ownEnds.law (fun t k => XS.iconst X7.here hx rfl (hb hby at_22) (XS.goto X7.here hx rfl (pc0 := 23) (pc' := 27) rfl (hb hby at_23) (by decide) (by decide) (XS.istoreN X7.here hx rfl (hb hby at_27) rfl (l' := #[.val (.int xx), .val (.int (2 : Int32)), .val (.ref A_COMPLETION), .val (.int (1 : Int32)), .unset]) rfl (XS.aloadN X7.here hx rfl (hb hby at_28) rfl rfl k)))) ?_
    show ownEnds _ _ _ _ (T7.setTop (mkF m 29 #[.val (.int xx), .val (.int (2 : Int32)), .val (.ref A_COMPLETION), .val (.int (1 : Int32)), .unset] [(.ref A_COMPLETION)]))
    obtain ⟨v8, T8, L8, X8, hQ8, st8⟩ := ownCallV X7 hx hZ hown (y := (⟨"com/example/tallydb/tallydb/PriceKind", "required", "()Z"⟩ : MethodName)) (z := (⟨"com/example/tallydb/tallydb/PriceKind", "required", "()Z"⟩ : MethodName)) (a := A_COMPLETION) (as := []) (wd_8 hw) (wd_9 hw) (notFace_of_selects (args := #[]) (mvT hZ (wd_11 hw))) (wd_11 hw) (wd_10 hw) (wd_6 hw) (wd_12 hw) (by decide) (rm2n l Z a0 hw A_COMPLETION  h0 n0 Z0 F_COMPLETION_fallback) e7 E_COMPLETION 0 (by decide) (by decide) (by decide) (by decide) (g := (mkF m 29 #[.val (.int xx), .val (.int (2 : Int32)), .val (.ref A_COMPLETION), .val (.int (1 : Int32)), .unset] [(.ref A_COMPLETION)])) rfl (by rw [hml]; rfl) (rest := []) pd_1 rfl rfl (by show 2 * 0 + _ ≤ _; exact Nat.le_of_eq rfl) (hb hby at_29)
    obtain ⟨rfl, rfl, e8⟩ := hQ8
    rw [List.append_nil] at X8
    refine ownEnds.law st8 ?_
    show ownEnds _ _ _ _ (T8.setTop (mkF m 32 #[.val (.int xx), .val (.int (2 : Int32)), .val (.ref A_COMPLETION), .val (.int (1 : Int32)), .unset] [(.int (1 : Int32))]))
    refine ownEnds.law (fun t k => XS.istore X8.here hx rfl (hb hby at_32) rfl (l' := #[.val (.int xx), .val (.int (2 : Int32)), .val (.ref A_COMPLETION), .val (.int (1 : Int32)), .val (.int (1 : Int32))]) rfl (XS.iload X8.here hx rfl (hb hby at_34) rfl (XS.iloadN X8.here hx rfl (hb hby at_36) rfl k))) ?_
    show ownEnds _ _ _ _ (T8.setTop (mkF m 37 #[.val (.int xx), .val (.int (2 : Int32)), .val (.ref A_COMPLETION), .val (.int (1 : Int32)), .val (.int (1 : Int32))] [(.int (1 : Int32)), (.int (1 : Int32))]))
    refine ownEnds.law (fun t => XS.icmpNo X8.here hx rfl (hb hby at_37) rfl (teq (rfl : (1 : Int32) = (1 : Int32))).2) ?_
    show ownEnds _ _ _ _ (T8.setTop (mkF m 40 #[.val (.int xx), .val (.int (2 : Int32)), .val (.ref A_COMPLETION), .val (.int (1 : Int32)), .val (.int (1 : Int32))] []))
    refine ownEnds.law (fun t k => XS.iload X8.here hx rfl (hb hby at_40) rfl (XS.aloadN X8.here hx rfl (hb hby at_42) rfl rfl k)) ?_
    show ownEnds _ _ _ _ (T8.setTop (mkF m 43 #[.val (.int xx), .val (.int (2 : Int32)), .val (.ref A_COMPLETION), .val (.int (1 : Int32)), .val (.int (1 : Int32))] [(.ref A_COMPLETION), (.int (1 : Int32))]))
    obtain ⟨v9, T9, L9, X9, hQ9, st9⟩ := ownCallV X8 hx hZ hown (y := (⟨"com/example/tallydb/tallydb/PriceKind", "fallback", "()Lcom/example/tallydb/tallydb/PriceKind;"⟩ : MethodName)) (z := (⟨"com/example/tallydb/tallydb/PriceKind", "fallback", "()Lcom/example/tallydb/tallydb/PriceKind;"⟩ : MethodName)) (a := A_COMPLETION) (as := []) (wd_15 hw) (wd_16 hw) (notFace_of_selects (args := #[]) (mvT hZ (wd_18 hw))) (wd_18 hw) (wd_17 hw) (wd_6 hw) (wd_19 hw) (by decide) (rm3n l Z a0 hw A_COMPLETION  h0 n0 Z0 F_COMPLETION_fallback) e8 E_COMPLETION 1 (by decide) (by decide) (by decide) (by decide) (g := (mkF m 43 #[.val (.int xx), .val (.int (2 : Int32)), .val (.ref A_COMPLETION), .val (.int (1 : Int32)), .val (.int (1 : Int32))] [(.ref A_COMPLETION), (.int (1 : Int32))])) rfl (by rw [hml]; rfl) (rest := [(.int (1 : Int32))]) pd_2 rfl rfl (by show 2 * 0 + _ ≤ _; exact Nat.le_of_eq rfl) (hb hby at_43)
    obtain ⟨rfl, rfl, e9⟩ := hQ9
    rw [List.append_nil] at X9
    refine ownEnds.law st9 ?_
    show ownEnds _ _ _ _ (T9.setTop (mkF m 46 #[.val (.int xx), .val (.int (2 : Int32)), .val (.ref A_COMPLETION), .val (.int (1 : Int32)), .val (.int (1 : Int32))] [.null, (.int (1 : Int32))]))
    refine ownEnds.law (fun t k => XS.ifnonnullNo X9.here hx rfl (hb hby at_46) rfl (XS.iconst X9.here hx rfl (hb hby at_49) (XS.goto X9.here hx rfl (pc0 := 50) (pc' := 54) rfl (hb hby at_50) (by decide) (by decide) k))) ?_
    show ownEnds _ _ _ _ (T9.setTop (mkF m 54 #[.val (.int xx), .val (.int (2 : Int32)), .val (.ref A_COMPLETION), .val (.int (1 : Int32)), .val (.int (1 : Int32))] [(.int (1 : Int32)), (.int (1 : Int32))]))
    refine ownEnds.law (fun t => XS.icmpNo X9.here hx rfl (hb hby at_54) rfl (teq (rfl : (1 : Int32) = (1 : Int32))).2) ?_
    show ownEnds _ _ _ _ (T9.setTop (mkF m 57 #[.val (.int xx), .val (.int (2 : Int32)), .val (.ref A_COMPLETION), .val (.int (1 : Int32)), .val (.int (1 : Int32))] []))
    refine ownEnds.law (fun t k => XS.iconst X9.here hx rfl (hb hby at_57) (XS.goto X9.here hx rfl (pc0 := 58) (pc' := 62) rfl (hb hby at_58) (by decide) (by decide) k)) ?_
    show ownEnds _ _ _ _ (T9.setTop (mkF m 62 #[.val (.int xx), .val (.int (2 : Int32)), .val (.ref A_COMPLETION), .val (.int (1 : Int32)), .val (.int (1 : Int32))] [(.int (1 : Int32))]))
    refine ownRetN X9 hlk hx (t := .boolean) hret (by simp) (hb hby at_62) (by decide) (by decide) ?_
    exact ⟨rfl, Fr.nil n0⟩
  · show ownEnds _ _ _ _ (T0.setTop (mkF m 8 #[.val (.int xx), .val (.int (3 : Int32)), .unset, .unset, .unset] []))
    refine ownEnds.law (fun t k => XS.iloadN X0.here hx rfl (hb hby at_8) rfl k) ?_
    show ownEnds _ _ _ _ (T0.setTop (mkF m 9 #[.val (.int xx), .val (.int (3 : Int32)), .unset, .unset, .unset] [(.int (3 : Int32))]))
    obtain ⟨v10, T10, L10, X10, hQ10, st10⟩ := ownCallS X0 hx hZ hown (y := (⟨"com/example/tallydb/tallydb/PriceKindRequiredPinLaw", "pick", "(I)Lcom/example/tallydb/tallydb/PriceKind;"⟩ : MethodName)) (as := [(.int (3 : Int32))]) (wd_1 hw) (wd_2 hw) (wd_3 hw) (wd_4 hw) (by decide) (rm1 l Z a0 hw (3 : Int32) A_PROMPT A_CACHED_PROMPT A_COMPLETION A_CACHE_WRITE_PROMPT A_CACHE_WRITE_1H_PROMPT A_AUDIO_PROMPT A_AUDIO_COMPLETION h0 n0 Z0 S_PROMPT S_CACHED_PROMPT S_COMPLETION S_CACHE_WRITE_PROMPT S_CACHE_WRITE_1H_PROMPT S_AUDIO_PROMPT S_AUDIO_COMPLETION) e0 0 (by decide) (by decide) (by decide) (by decide) (g := (mkF m 9 #[.val (.int xx), .val (.int (3 : Int32)), .unset, .unset, .unset] [(.int (3 : Int32))])) rfl (by rw [hml]; rfl) (rest := []) pd_0 rfl rfl (by show 2 * 0 + _ ≤ _; exact Nat.le_of_eq rfl) (hb hby at_9)
    obtain ⟨hv10, rfl, e10⟩ := hQ10
    rw [List.append_nil] at X10
    have hw10 : v10 = some (.ref A_CACHE_WRITE_PROMPT) := hv10.trans (by simp [PK])
    subst hw10
    refine ownEnds.law st10 ?_
    show ownEnds _ _ _ _ (T10.setTop (mkF m 12 #[.val (.int xx), .val (.int (3 : Int32)), .unset, .unset, .unset] [(.ref A_CACHE_WRITE_PROMPT)]))
    refine ownEnds.law (fun t k => XS.astoreN X10.here hx rfl (hb hby at_12) rfl rfl (l' := #[.val (.int xx), .val (.int (3 : Int32)), .val (.ref A_CACHE_WRITE_PROMPT), .unset, .unset]) rfl (XS.iloadN X10.here hx rfl (hb hby at_13) rfl k)) ?_
    show ownEnds _ _ _ _ (T10.setTop (mkF m 14 #[.val (.int xx), .val (.int (3 : Int32)), .val (.ref A_CACHE_WRITE_PROMPT), .unset, .unset] [(.int (3 : Int32))]))
    refine ownEnds.law (fun t => XS.ifNo X10.here hx rfl (hb hby at_14) rfl ((if0 _ _).trans (feq (by decide : ¬ ((3 : Int32) = (0 : Int32)))).1)) ?_
    show ownEnds _ _ _ _ (T10.setTop (mkF m 17 #[.val (.int xx), .val (.int (3 : Int32)), .val (.ref A_CACHE_WRITE_PROMPT), .unset, .unset] []))
    refine ownEnds.law (fun t k => XS.iloadN X10.here hx rfl (hb hby at_17) rfl (XS.iconst X10.here hx rfl (hb hby at_18) k)) ?_
    show ownEnds _ _ _ _ (T10.setTop (mkF m 19 #[.val (.int xx), .val (.int (3 : Int32)), .val (.ref A_CACHE_WRITE_PROMPT), .unset, .unset] [(.int (2 : Int32)), (.int (3 : Int32))]))
    refine ownEnds.law (fun t => XS.icmpYes X10.here hx rfl (pc0 := 19) (pc' := 26) rfl (hb hby at_19) rfl (feq (by decide : ¬ ((3 : Int32) = (2 : Int32)))).2 (by decide) (by decide)) ?_
    show ownEnds _ _ _ _ (T10.setTop (mkF m 26 #[.val (.int xx), .val (.int (3 : Int32)), .val (.ref A_CACHE_WRITE_PROMPT), .unset, .unset] []))
    refine ownEnds.law (fun t k => XS.iconst X10.here hx rfl (hb hby at_26) (XS.istoreN X10.here hx rfl (hb hby at_27) rfl (l' := #[.val (.int xx), .val (.int (3 : Int32)), .val (.ref A_CACHE_WRITE_PROMPT), .val (.int (0 : Int32)), .unset]) rfl (XS.aloadN X10.here hx rfl (hb hby at_28) rfl rfl k))) ?_
    show ownEnds _ _ _ _ (T10.setTop (mkF m 29 #[.val (.int xx), .val (.int (3 : Int32)), .val (.ref A_CACHE_WRITE_PROMPT), .val (.int (0 : Int32)), .unset] [(.ref A_CACHE_WRITE_PROMPT)]))
    obtain ⟨v11, T11, L11, X11, hQ11, st11⟩ := ownCallV X10 hx hZ hown (y := (⟨"com/example/tallydb/tallydb/PriceKind", "required", "()Z"⟩ : MethodName)) (z := (⟨"com/example/tallydb/tallydb/PriceKind", "required", "()Z"⟩ : MethodName)) (a := A_CACHE_WRITE_PROMPT) (as := []) (wd_8 hw) (wd_9 hw) (notFace_of_selects (args := #[]) (mvT hZ (wd_11 hw))) (wd_11 hw) (wd_10 hw) (wd_6 hw) (wd_12 hw) (by decide) (rm2r l Z a0 hw A_CACHE_WRITE_PROMPT A_PROMPT h0 n0 Z0 F_CACHE_WRITE_PROMPT_fallback) e10 E_CACHE_WRITE_PROMPT 0 (by decide) (by decide) (by decide) (by decide) (g := (mkF m 29 #[.val (.int xx), .val (.int (3 : Int32)), .val (.ref A_CACHE_WRITE_PROMPT), .val (.int (0 : Int32)), .unset] [(.ref A_CACHE_WRITE_PROMPT)])) rfl (by rw [hml]; rfl) (rest := []) pd_1 rfl rfl (by show 2 * 0 + _ ≤ _; exact Nat.le_of_eq rfl) (hb hby at_29)
    obtain ⟨rfl, rfl, e11⟩ := hQ11
    rw [List.append_nil] at X11
    refine ownEnds.law st11 ?_
    show ownEnds _ _ _ _ (T11.setTop (mkF m 32 #[.val (.int xx), .val (.int (3 : Int32)), .val (.ref A_CACHE_WRITE_PROMPT), .val (.int (0 : Int32)), .unset] [(.int (0 : Int32))]))
    refine ownEnds.law (fun t k => XS.istore X11.here hx rfl (hb hby at_32) rfl (l' := #[.val (.int xx), .val (.int (3 : Int32)), .val (.ref A_CACHE_WRITE_PROMPT), .val (.int (0 : Int32)), .val (.int (0 : Int32))]) rfl (XS.iload X11.here hx rfl (hb hby at_34) rfl (XS.iloadN X11.here hx rfl (hb hby at_36) rfl k))) ?_
    show ownEnds _ _ _ _ (T11.setTop (mkF m 37 #[.val (.int xx), .val (.int (3 : Int32)), .val (.ref A_CACHE_WRITE_PROMPT), .val (.int (0 : Int32)), .val (.int (0 : Int32))] [(.int (0 : Int32)), (.int (0 : Int32))]))
    refine ownEnds.law (fun t => XS.icmpNo X11.here hx rfl (hb hby at_37) rfl (teq (rfl : (0 : Int32) = (0 : Int32))).2) ?_
    show ownEnds _ _ _ _ (T11.setTop (mkF m 40 #[.val (.int xx), .val (.int (3 : Int32)), .val (.ref A_CACHE_WRITE_PROMPT), .val (.int (0 : Int32)), .val (.int (0 : Int32))] []))
    refine ownEnds.law (fun t k => XS.iload X11.here hx rfl (hb hby at_40) rfl (XS.aloadN X11.here hx rfl (hb hby at_42) rfl rfl k)) ?_
    show ownEnds _ _ _ _ (T11.setTop (mkF m 43 #[.val (.int xx), .val (.int (3 : Int32)), .val (.ref A_CACHE_WRITE_PROMPT), .val (.int (0 : Int32)), .val (.int (0 : Int32))] [(.ref A_CACHE_WRITE_PROMPT), (.int (0 : Int32))]))
    obtain ⟨v12, T12, L12, X12, hQ12, st12⟩ := ownCallV X11 hx hZ hown (y := (⟨"com/example/tallydb/tallydb/PriceKind", "fallback", "()Lcom/example/tallydb/tallydb/PriceKind;"⟩ : MethodName)) (z := (⟨"com/example/tallydb/tallydb/PriceKind", "fallback", "()Lcom/example/tallydb/tallydb/PriceKind;"⟩ : MethodName)) (a := A_CACHE_WRITE_PROMPT) (as := []) (wd_15 hw) (wd_16 hw) (notFace_of_selects (args := #[]) (mvT hZ (wd_18 hw))) (wd_18 hw) (wd_17 hw) (wd_6 hw) (wd_19 hw) (by decide) (rm3r l Z a0 hw A_CACHE_WRITE_PROMPT A_PROMPT h0 n0 Z0 F_CACHE_WRITE_PROMPT_fallback) e11 E_CACHE_WRITE_PROMPT 1 (by decide) (by decide) (by decide) (by decide) (g := (mkF m 43 #[.val (.int xx), .val (.int (3 : Int32)), .val (.ref A_CACHE_WRITE_PROMPT), .val (.int (0 : Int32)), .val (.int (0 : Int32))] [(.ref A_CACHE_WRITE_PROMPT), (.int (0 : Int32))])) rfl (by rw [hml]; rfl) (rest := [(.int (0 : Int32))]) pd_2 rfl rfl (by show 2 * 0 + _ ≤ _; exact Nat.le_of_eq rfl) (hb hby at_43)
    obtain ⟨rfl, rfl, e12⟩ := hQ12
    rw [List.append_nil] at X12
    refine ownEnds.law st12 ?_
    show ownEnds _ _ _ _ (T12.setTop (mkF m 46 #[.val (.int xx), .val (.int (3 : Int32)), .val (.ref A_CACHE_WRITE_PROMPT), .val (.int (0 : Int32)), .val (.int (0 : Int32))] [(.ref A_PROMPT), (.int (0 : Int32))]))
    refine ownEnds.law (fun t k => XS.ifnonnullYes X12.here hx rfl (pc0 := 46) (pc' := 53) rfl (hb hby at_46) rfl (by decide) (by decide) (XS.iconst X12.here hx rfl (hb hby at_53) k)) ?_
    show ownEnds _ _ _ _ (T12.setTop (mkF m 54 #[.val (.int xx), .val (.int (3 : Int32)), .val (.ref A_CACHE_WRITE_PROMPT), .val (.int (0 : Int32)), .val (.int (0 : Int32))] [(.int (0 : Int32)), (.int (0 : Int32))]))
    refine ownEnds.law (fun t => XS.icmpNo X12.here hx rfl (hb hby at_54) rfl (teq (rfl : (0 : Int32) = (0 : Int32))).2) ?_
    show ownEnds _ _ _ _ (T12.setTop (mkF m 57 #[.val (.int xx), .val (.int (3 : Int32)), .val (.ref A_CACHE_WRITE_PROMPT), .val (.int (0 : Int32)), .val (.int (0 : Int32))] []))
    refine ownEnds.law (fun t k => XS.iconst X12.here hx rfl (hb hby at_57) (XS.goto X12.here hx rfl (pc0 := 58) (pc' := 62) rfl (hb hby at_58) (by decide) (by decide) k)) ?_
    show ownEnds _ _ _ _ (T12.setTop (mkF m 62 #[.val (.int xx), .val (.int (3 : Int32)), .val (.ref A_CACHE_WRITE_PROMPT), .val (.int (0 : Int32)), .val (.int (0 : Int32))] [(.int (1 : Int32))]))
    refine ownRetN X12 hlk hx (t := .boolean) hret (by simp) (hb hby at_62) (by decide) (by decide) ?_
    exact ⟨rfl, Fr.nil n0⟩
  · show ownEnds _ _ _ _ (T0.setTop (mkF m 8 #[.val (.int xx), .val (.int (4 : Int32)), .unset, .unset, .unset] []))
    refine ownEnds.law (fun t k => XS.iloadN X0.here hx rfl (hb hby at_8) rfl k) ?_
    show ownEnds _ _ _ _ (T0.setTop (mkF m 9 #[.val (.int xx), .val (.int (4 : Int32)), .unset, .unset, .unset] [(.int (4 : Int32))]))
    obtain ⟨v13, T13, L13, X13, hQ13, st13⟩ := ownCallS X0 hx hZ hown (y := (⟨"com/example/tallydb/tallydb/PriceKindRequiredPinLaw", "pick", "(I)Lcom/example/tallydb/tallydb/PriceKind;"⟩ : MethodName)) (as := [(.int (4 : Int32))]) (wd_1 hw) (wd_2 hw) (wd_3 hw) (wd_4 hw) (by decide) (rm1 l Z a0 hw (4 : Int32) A_PROMPT A_CACHED_PROMPT A_COMPLETION A_CACHE_WRITE_PROMPT A_CACHE_WRITE_1H_PROMPT A_AUDIO_PROMPT A_AUDIO_COMPLETION h0 n0 Z0 S_PROMPT S_CACHED_PROMPT S_COMPLETION S_CACHE_WRITE_PROMPT S_CACHE_WRITE_1H_PROMPT S_AUDIO_PROMPT S_AUDIO_COMPLETION) e0 0 (by decide) (by decide) (by decide) (by decide) (g := (mkF m 9 #[.val (.int xx), .val (.int (4 : Int32)), .unset, .unset, .unset] [(.int (4 : Int32))])) rfl (by rw [hml]; rfl) (rest := []) pd_0 rfl rfl (by show 2 * 0 + _ ≤ _; exact Nat.le_of_eq rfl) (hb hby at_9)
    obtain ⟨hv13, rfl, e13⟩ := hQ13
    rw [List.append_nil] at X13
    have hw13 : v13 = some (.ref A_CACHE_WRITE_1H_PROMPT) := hv13.trans (by simp [PK])
    subst hw13
    refine ownEnds.law st13 ?_
    show ownEnds _ _ _ _ (T13.setTop (mkF m 12 #[.val (.int xx), .val (.int (4 : Int32)), .unset, .unset, .unset] [(.ref A_CACHE_WRITE_1H_PROMPT)]))
    refine ownEnds.law (fun t k => XS.astoreN X13.here hx rfl (hb hby at_12) rfl rfl (l' := #[.val (.int xx), .val (.int (4 : Int32)), .val (.ref A_CACHE_WRITE_1H_PROMPT), .unset, .unset]) rfl (XS.iloadN X13.here hx rfl (hb hby at_13) rfl k)) ?_
    show ownEnds _ _ _ _ (T13.setTop (mkF m 14 #[.val (.int xx), .val (.int (4 : Int32)), .val (.ref A_CACHE_WRITE_1H_PROMPT), .unset, .unset] [(.int (4 : Int32))]))
    refine ownEnds.law (fun t => XS.ifNo X13.here hx rfl (hb hby at_14) rfl ((if0 _ _).trans (feq (by decide : ¬ ((4 : Int32) = (0 : Int32)))).1)) ?_
    show ownEnds _ _ _ _ (T13.setTop (mkF m 17 #[.val (.int xx), .val (.int (4 : Int32)), .val (.ref A_CACHE_WRITE_1H_PROMPT), .unset, .unset] []))
    refine ownEnds.law (fun t k => XS.iloadN X13.here hx rfl (hb hby at_17) rfl (XS.iconst X13.here hx rfl (hb hby at_18) k)) ?_
    show ownEnds _ _ _ _ (T13.setTop (mkF m 19 #[.val (.int xx), .val (.int (4 : Int32)), .val (.ref A_CACHE_WRITE_1H_PROMPT), .unset, .unset] [(.int (2 : Int32)), (.int (4 : Int32))]))
    refine ownEnds.law (fun t => XS.icmpYes X13.here hx rfl (pc0 := 19) (pc' := 26) rfl (hb hby at_19) rfl (feq (by decide : ¬ ((4 : Int32) = (2 : Int32)))).2 (by decide) (by decide)) ?_
    show ownEnds _ _ _ _ (T13.setTop (mkF m 26 #[.val (.int xx), .val (.int (4 : Int32)), .val (.ref A_CACHE_WRITE_1H_PROMPT), .unset, .unset] []))
    refine ownEnds.law (fun t k => XS.iconst X13.here hx rfl (hb hby at_26) (XS.istoreN X13.here hx rfl (hb hby at_27) rfl (l' := #[.val (.int xx), .val (.int (4 : Int32)), .val (.ref A_CACHE_WRITE_1H_PROMPT), .val (.int (0 : Int32)), .unset]) rfl (XS.aloadN X13.here hx rfl (hb hby at_28) rfl rfl k))) ?_
    show ownEnds _ _ _ _ (T13.setTop (mkF m 29 #[.val (.int xx), .val (.int (4 : Int32)), .val (.ref A_CACHE_WRITE_1H_PROMPT), .val (.int (0 : Int32)), .unset] [(.ref A_CACHE_WRITE_1H_PROMPT)]))
    obtain ⟨v14, T14, L14, X14, hQ14, st14⟩ := ownCallV X13 hx hZ hown (y := (⟨"com/example/tallydb/tallydb/PriceKind", "required", "()Z"⟩ : MethodName)) (z := (⟨"com/example/tallydb/tallydb/PriceKind", "required", "()Z"⟩ : MethodName)) (a := A_CACHE_WRITE_1H_PROMPT) (as := []) (wd_8 hw) (wd_9 hw) (notFace_of_selects (args := #[]) (mvT hZ (wd_11 hw))) (wd_11 hw) (wd_10 hw) (wd_6 hw) (wd_12 hw) (by decide) (rm2r l Z a0 hw A_CACHE_WRITE_1H_PROMPT A_CACHE_WRITE_PROMPT h0 n0 Z0 F_CACHE_WRITE_1H_PROMPT_fallback) e13 E_CACHE_WRITE_1H_PROMPT 0 (by decide) (by decide) (by decide) (by decide) (g := (mkF m 29 #[.val (.int xx), .val (.int (4 : Int32)), .val (.ref A_CACHE_WRITE_1H_PROMPT), .val (.int (0 : Int32)), .unset] [(.ref A_CACHE_WRITE_1H_PROMPT)])) rfl (by rw [hml]; rfl) (rest := []) pd_1 rfl rfl (by show 2 * 0 + _ ≤ _; exact Nat.le_of_eq rfl) (hb hby at_29)
    obtain ⟨rfl, rfl, e14⟩ := hQ14
    rw [List.append_nil] at X14
    refine ownEnds.law st14 ?_
    show ownEnds _ _ _ _ (T14.setTop (mkF m 32 #[.val (.int xx), .val (.int (4 : Int32)), .val (.ref A_CACHE_WRITE_1H_PROMPT), .val (.int (0 : Int32)), .unset] [(.int (0 : Int32))]))
    refine ownEnds.law (fun t k => XS.istore X14.here hx rfl (hb hby at_32) rfl (l' := #[.val (.int xx), .val (.int (4 : Int32)), .val (.ref A_CACHE_WRITE_1H_PROMPT), .val (.int (0 : Int32)), .val (.int (0 : Int32))]) rfl (XS.iload X14.here hx rfl (hb hby at_34) rfl (XS.iloadN X14.here hx rfl (hb hby at_36) rfl k))) ?_
    show ownEnds _ _ _ _ (T14.setTop (mkF m 37 #[.val (.int xx), .val (.int (4 : Int32)), .val (.ref A_CACHE_WRITE_1H_PROMPT), .val (.int (0 : Int32)), .val (.int (0 : Int32))] [(.int (0 : Int32)), (.int (0 : Int32))]))
    refine ownEnds.law (fun t => XS.icmpNo X14.here hx rfl (hb hby at_37) rfl (teq (rfl : (0 : Int32) = (0 : Int32))).2) ?_
    show ownEnds _ _ _ _ (T14.setTop (mkF m 40 #[.val (.int xx), .val (.int (4 : Int32)), .val (.ref A_CACHE_WRITE_1H_PROMPT), .val (.int (0 : Int32)), .val (.int (0 : Int32))] []))
    refine ownEnds.law (fun t k => XS.iload X14.here hx rfl (hb hby at_40) rfl (XS.aloadN X14.here hx rfl (hb hby at_42) rfl rfl k)) ?_
    show ownEnds _ _ _ _ (T14.setTop (mkF m 43 #[.val (.int xx), .val (.int (4 : Int32)), .val (.ref A_CACHE_WRITE_1H_PROMPT), .val (.int (0 : Int32)), .val (.int (0 : Int32))] [(.ref A_CACHE_WRITE_1H_PROMPT), (.int (0 : Int32))]))
    obtain ⟨v15, T15, L15, X15, hQ15, st15⟩ := ownCallV X14 hx hZ hown (y := (⟨"com/example/tallydb/tallydb/PriceKind", "fallback", "()Lcom/example/tallydb/tallydb/PriceKind;"⟩ : MethodName)) (z := (⟨"com/example/tallydb/tallydb/PriceKind", "fallback", "()Lcom/example/tallydb/tallydb/PriceKind;"⟩ : MethodName)) (a := A_CACHE_WRITE_1H_PROMPT) (as := []) (wd_15 hw) (wd_16 hw) (notFace_of_selects (args := #[]) (mvT hZ (wd_18 hw))) (wd_18 hw) (wd_17 hw) (wd_6 hw) (wd_19 hw) (by decide) (rm3r l Z a0 hw A_CACHE_WRITE_1H_PROMPT A_CACHE_WRITE_PROMPT h0 n0 Z0 F_CACHE_WRITE_1H_PROMPT_fallback) e14 E_CACHE_WRITE_1H_PROMPT 1 (by decide) (by decide) (by decide) (by decide) (g := (mkF m 43 #[.val (.int xx), .val (.int (4 : Int32)), .val (.ref A_CACHE_WRITE_1H_PROMPT), .val (.int (0 : Int32)), .val (.int (0 : Int32))] [(.ref A_CACHE_WRITE_1H_PROMPT), (.int (0 : Int32))])) rfl (by rw [hml]; rfl) (rest := [(.int (0 : Int32))]) pd_2 rfl rfl (by show 2 * 0 + _ ≤ _; exact Nat.le_of_eq rfl) (hb hby at_43)
    obtain ⟨rfl, rfl, e15⟩ := hQ15
    rw [List.append_nil] at X15
    refine ownEnds.law st15 ?_
    show ownEnds _ _ _ _ (T15.setTop (mkF m 46 #[.val (.int xx), .val (.int (4 : Int32)), .val (.ref A_CACHE_WRITE_1H_PROMPT), .val (.int (0 : Int32)), .val (.int (0 : Int32))] [(.ref A_CACHE_WRITE_PROMPT), (.int (0 : Int32))]))
    refine ownEnds.law (fun t k => XS.ifnonnullYes X15.here hx rfl (pc0 := 46) (pc' := 53) rfl (hb hby at_46) rfl (by decide) (by decide) (XS.iconst X15.here hx rfl (hb hby at_53) k)) ?_
    show ownEnds _ _ _ _ (T15.setTop (mkF m 54 #[.val (.int xx), .val (.int (4 : Int32)), .val (.ref A_CACHE_WRITE_1H_PROMPT), .val (.int (0 : Int32)), .val (.int (0 : Int32))] [(.int (0 : Int32)), (.int (0 : Int32))]))
    refine ownEnds.law (fun t => XS.icmpNo X15.here hx rfl (hb hby at_54) rfl (teq (rfl : (0 : Int32) = (0 : Int32))).2) ?_
    show ownEnds _ _ _ _ (T15.setTop (mkF m 57 #[.val (.int xx), .val (.int (4 : Int32)), .val (.ref A_CACHE_WRITE_1H_PROMPT), .val (.int (0 : Int32)), .val (.int (0 : Int32))] []))
    refine ownEnds.law (fun t k => XS.iconst X15.here hx rfl (hb hby at_57) (XS.goto X15.here hx rfl (pc0 := 58) (pc' := 62) rfl (hb hby at_58) (by decide) (by decide) k)) ?_
    show ownEnds _ _ _ _ (T15.setTop (mkF m 62 #[.val (.int xx), .val (.int (4 : Int32)), .val (.ref A_CACHE_WRITE_1H_PROMPT), .val (.int (0 : Int32)), .val (.int (0 : Int32))] [(.int (1 : Int32))]))
    refine ownRetN X15 hlk hx (t := .boolean) hret (by simp) (hb hby at_62) (by decide) (by decide) ?_
    exact ⟨rfl, Fr.nil n0⟩
  · show ownEnds _ _ _ _ (T0.setTop (mkF m 8 #[.val (.int xx), .val (.int (5 : Int32)), .unset, .unset, .unset] []))
    refine ownEnds.law (fun t k => XS.iloadN X0.here hx rfl (hb hby at_8) rfl k) ?_
    show ownEnds _ _ _ _ (T0.setTop (mkF m 9 #[.val (.int xx), .val (.int (5 : Int32)), .unset, .unset, .unset] [(.int (5 : Int32))]))
    obtain ⟨v16, T16, L16, X16, hQ16, st16⟩ := ownCallS X0 hx hZ hown (y := (⟨"com/example/tallydb/tallydb/PriceKindRequiredPinLaw", "pick", "(I)Lcom/example/tallydb/tallydb/PriceKind;"⟩ : MethodName)) (as := [(.int (5 : Int32))]) (wd_1 hw) (wd_2 hw) (wd_3 hw) (wd_4 hw) (by decide) (rm1 l Z a0 hw (5 : Int32) A_PROMPT A_CACHED_PROMPT A_COMPLETION A_CACHE_WRITE_PROMPT A_CACHE_WRITE_1H_PROMPT A_AUDIO_PROMPT A_AUDIO_COMPLETION h0 n0 Z0 S_PROMPT S_CACHED_PROMPT S_COMPLETION S_CACHE_WRITE_PROMPT S_CACHE_WRITE_1H_PROMPT S_AUDIO_PROMPT S_AUDIO_COMPLETION) e0 0 (by decide) (by decide) (by decide) (by decide) (g := (mkF m 9 #[.val (.int xx), .val (.int (5 : Int32)), .unset, .unset, .unset] [(.int (5 : Int32))])) rfl (by rw [hml]; rfl) (rest := []) pd_0 rfl rfl (by show 2 * 0 + _ ≤ _; exact Nat.le_of_eq rfl) (hb hby at_9)
    obtain ⟨hv16, rfl, e16⟩ := hQ16
    rw [List.append_nil] at X16
    have hw16 : v16 = some (.ref A_AUDIO_PROMPT) := hv16.trans (by simp [PK])
    subst hw16
    refine ownEnds.law st16 ?_
    show ownEnds _ _ _ _ (T16.setTop (mkF m 12 #[.val (.int xx), .val (.int (5 : Int32)), .unset, .unset, .unset] [(.ref A_AUDIO_PROMPT)]))
    refine ownEnds.law (fun t k => XS.astoreN X16.here hx rfl (hb hby at_12) rfl rfl (l' := #[.val (.int xx), .val (.int (5 : Int32)), .val (.ref A_AUDIO_PROMPT), .unset, .unset]) rfl (XS.iloadN X16.here hx rfl (hb hby at_13) rfl k)) ?_
    show ownEnds _ _ _ _ (T16.setTop (mkF m 14 #[.val (.int xx), .val (.int (5 : Int32)), .val (.ref A_AUDIO_PROMPT), .unset, .unset] [(.int (5 : Int32))]))
    refine ownEnds.law (fun t => XS.ifNo X16.here hx rfl (hb hby at_14) rfl ((if0 _ _).trans (feq (by decide : ¬ ((5 : Int32) = (0 : Int32)))).1)) ?_
    show ownEnds _ _ _ _ (T16.setTop (mkF m 17 #[.val (.int xx), .val (.int (5 : Int32)), .val (.ref A_AUDIO_PROMPT), .unset, .unset] []))
    refine ownEnds.law (fun t k => XS.iloadN X16.here hx rfl (hb hby at_17) rfl (XS.iconst X16.here hx rfl (hb hby at_18) k)) ?_
    show ownEnds _ _ _ _ (T16.setTop (mkF m 19 #[.val (.int xx), .val (.int (5 : Int32)), .val (.ref A_AUDIO_PROMPT), .unset, .unset] [(.int (2 : Int32)), (.int (5 : Int32))]))
    refine ownEnds.law (fun t => XS.icmpYes X16.here hx rfl (pc0 := 19) (pc' := 26) rfl (hb hby at_19) rfl (feq (by decide : ¬ ((5 : Int32) = (2 : Int32)))).2 (by decide) (by decide)) ?_
    show ownEnds _ _ _ _ (T16.setTop (mkF m 26 #[.val (.int xx), .val (.int (5 : Int32)), .val (.ref A_AUDIO_PROMPT), .unset, .unset] []))
    refine ownEnds.law (fun t k => XS.iconst X16.here hx rfl (hb hby at_26) (XS.istoreN X16.here hx rfl (hb hby at_27) rfl (l' := #[.val (.int xx), .val (.int (5 : Int32)), .val (.ref A_AUDIO_PROMPT), .val (.int (0 : Int32)), .unset]) rfl (XS.aloadN X16.here hx rfl (hb hby at_28) rfl rfl k))) ?_
    show ownEnds _ _ _ _ (T16.setTop (mkF m 29 #[.val (.int xx), .val (.int (5 : Int32)), .val (.ref A_AUDIO_PROMPT), .val (.int (0 : Int32)), .unset] [(.ref A_AUDIO_PROMPT)]))
    obtain ⟨v17, T17, L17, X17, hQ17, st17⟩ := ownCallV X16 hx hZ hown (y := (⟨"com/example/tallydb/tallydb/PriceKind", "required", "()Z"⟩ : MethodName)) (z := (⟨"com/example/tallydb/tallydb/PriceKind", "required", "()Z"⟩ : MethodName)) (a := A_AUDIO_PROMPT) (as := []) (wd_8 hw) (wd_9 hw) (notFace_of_selects (args := #[]) (mvT hZ (wd_11 hw))) (wd_11 hw) (wd_10 hw) (wd_6 hw) (wd_12 hw) (by decide) (rm2r l Z a0 hw A_AUDIO_PROMPT A_PROMPT h0 n0 Z0 F_AUDIO_PROMPT_fallback) e16 E_AUDIO_PROMPT 0 (by decide) (by decide) (by decide) (by decide) (g := (mkF m 29 #[.val (.int xx), .val (.int (5 : Int32)), .val (.ref A_AUDIO_PROMPT), .val (.int (0 : Int32)), .unset] [(.ref A_AUDIO_PROMPT)])) rfl (by rw [hml]; rfl) (rest := []) pd_1 rfl rfl (by show 2 * 0 + _ ≤ _; exact Nat.le_of_eq rfl) (hb hby at_29)
    obtain ⟨rfl, rfl, e17⟩ := hQ17
    rw [List.append_nil] at X17
    refine ownEnds.law st17 ?_
    show ownEnds _ _ _ _ (T17.setTop (mkF m 32 #[.val (.int xx), .val (.int (5 : Int32)), .val (.ref A_AUDIO_PROMPT), .val (.int (0 : Int32)), .unset] [(.int (0 : Int32))]))
    refine ownEnds.law (fun t k => XS.istore X17.here hx rfl (hb hby at_32) rfl (l' := #[.val (.int xx), .val (.int (5 : Int32)), .val (.ref A_AUDIO_PROMPT), .val (.int (0 : Int32)), .val (.int (0 : Int32))]) rfl (XS.iload X17.here hx rfl (hb hby at_34) rfl (XS.iloadN X17.here hx rfl (hb hby at_36) rfl k))) ?_
    show ownEnds _ _ _ _ (T17.setTop (mkF m 37 #[.val (.int xx), .val (.int (5 : Int32)), .val (.ref A_AUDIO_PROMPT), .val (.int (0 : Int32)), .val (.int (0 : Int32))] [(.int (0 : Int32)), (.int (0 : Int32))]))
    refine ownEnds.law (fun t => XS.icmpNo X17.here hx rfl (hb hby at_37) rfl (teq (rfl : (0 : Int32) = (0 : Int32))).2) ?_
    show ownEnds _ _ _ _ (T17.setTop (mkF m 40 #[.val (.int xx), .val (.int (5 : Int32)), .val (.ref A_AUDIO_PROMPT), .val (.int (0 : Int32)), .val (.int (0 : Int32))] []))
    refine ownEnds.law (fun t k => XS.iload X17.here hx rfl (hb hby at_40) rfl (XS.aloadN X17.here hx rfl (hb hby at_42) rfl rfl k)) ?_
    show ownEnds _ _ _ _ (T17.setTop (mkF m 43 #[.val (.int xx), .val (.int (5 : Int32)), .val (.ref A_AUDIO_PROMPT), .val (.int (0 : Int32)), .val (.int (0 : Int32))] [(.ref A_AUDIO_PROMPT), (.int (0 : Int32))]))
    obtain ⟨v18, T18, L18, X18, hQ18, st18⟩ := ownCallV X17 hx hZ hown (y := (⟨"com/example/tallydb/tallydb/PriceKind", "fallback", "()Lcom/example/tallydb/tallydb/PriceKind;"⟩ : MethodName)) (z := (⟨"com/example/tallydb/tallydb/PriceKind", "fallback", "()Lcom/example/tallydb/tallydb/PriceKind;"⟩ : MethodName)) (a := A_AUDIO_PROMPT) (as := []) (wd_15 hw) (wd_16 hw) (notFace_of_selects (args := #[]) (mvT hZ (wd_18 hw))) (wd_18 hw) (wd_17 hw) (wd_6 hw) (wd_19 hw) (by decide) (rm3r l Z a0 hw A_AUDIO_PROMPT A_PROMPT h0 n0 Z0 F_AUDIO_PROMPT_fallback) e17 E_AUDIO_PROMPT 1 (by decide) (by decide) (by decide) (by decide) (g := (mkF m 43 #[.val (.int xx), .val (.int (5 : Int32)), .val (.ref A_AUDIO_PROMPT), .val (.int (0 : Int32)), .val (.int (0 : Int32))] [(.ref A_AUDIO_PROMPT), (.int (0 : Int32))])) rfl (by rw [hml]; rfl) (rest := [(.int (0 : Int32))]) pd_2 rfl rfl (by show 2 * 0 + _ ≤ _; exact Nat.le_of_eq rfl) (hb hby at_43)
    obtain ⟨rfl, rfl, e18⟩ := hQ18
    rw [List.append_nil] at X18
    refine ownEnds.law st18 ?_
    show ownEnds _ _ _ _ (T18.setTop (mkF m 46 #[.val (.int xx), .val (.int (5 : Int32)), .val (.ref A_AUDIO_PROMPT), .val (.int (0 : Int32)), .val (.int (0 : Int32))] [(.ref A_PROMPT), (.int (0 : Int32))]))
    refine ownEnds.law (fun t k => XS.ifnonnullYes X18.here hx rfl (pc0 := 46) (pc' := 53) rfl (hb hby at_46) rfl (by decide) (by decide) (XS.iconst X18.here hx rfl (hb hby at_53) k)) ?_
    show ownEnds _ _ _ _ (T18.setTop (mkF m 54 #[.val (.int xx), .val (.int (5 : Int32)), .val (.ref A_AUDIO_PROMPT), .val (.int (0 : Int32)), .val (.int (0 : Int32))] [(.int (0 : Int32)), (.int (0 : Int32))]))
    refine ownEnds.law (fun t => XS.icmpNo X18.here hx rfl (hb hby at_54) rfl (teq (rfl : (0 : Int32) = (0 : Int32))).2) ?_
    show ownEnds _ _ _ _ (T18.setTop (mkF m 57 #[.val (.int xx), .val (.int (5 : Int32)), .val (.ref A_AUDIO_PROMPT), .val (.int (0 : Int32)), .val (.int (0 : Int32))] []))
    refine ownEnds.law (fun t k => XS.iconst X18.here hx rfl (hb hby at_57) (XS.goto X18.here hx rfl (pc0 := 58) (pc' := 62) rfl (hb hby at_58) (by decide) (by decide) k)) ?_
    show ownEnds _ _ _ _ (T18.setTop (mkF m 62 #[.val (.int xx), .val (.int (5 : Int32)), .val (.ref A_AUDIO_PROMPT), .val (.int (0 : Int32)), .val (.int (0 : Int32))] [(.int (1 : Int32))]))
    refine ownRetN X18 hlk hx (t := .boolean) hret (by simp) (hb hby at_62) (by decide) (by decide) ?_
    exact ⟨rfl, Fr.nil n0⟩
  · show ownEnds _ _ _ _ (T0.setTop (mkF m 8 #[.val (.int xx), .val (.int (6 : Int32)), .unset, .unset, .unset] []))
    refine ownEnds.law (fun t k => XS.iloadN X0.here hx rfl (hb hby at_8) rfl k) ?_
    show ownEnds _ _ _ _ (T0.setTop (mkF m 9 #[.val (.int xx), .val (.int (6 : Int32)), .unset, .unset, .unset] [(.int (6 : Int32))]))
    obtain ⟨v19, T19, L19, X19, hQ19, st19⟩ := ownCallS X0 hx hZ hown (y := (⟨"com/example/tallydb/tallydb/PriceKindRequiredPinLaw", "pick", "(I)Lcom/example/tallydb/tallydb/PriceKind;"⟩ : MethodName)) (as := [(.int (6 : Int32))]) (wd_1 hw) (wd_2 hw) (wd_3 hw) (wd_4 hw) (by decide) (rm1 l Z a0 hw (6 : Int32) A_PROMPT A_CACHED_PROMPT A_COMPLETION A_CACHE_WRITE_PROMPT A_CACHE_WRITE_1H_PROMPT A_AUDIO_PROMPT A_AUDIO_COMPLETION h0 n0 Z0 S_PROMPT S_CACHED_PROMPT S_COMPLETION S_CACHE_WRITE_PROMPT S_CACHE_WRITE_1H_PROMPT S_AUDIO_PROMPT S_AUDIO_COMPLETION) e0 0 (by decide) (by decide) (by decide) (by decide) (g := (mkF m 9 #[.val (.int xx), .val (.int (6 : Int32)), .unset, .unset, .unset] [(.int (6 : Int32))])) rfl (by rw [hml]; rfl) (rest := []) pd_0 rfl rfl (by show 2 * 0 + _ ≤ _; exact Nat.le_of_eq rfl) (hb hby at_9)
    obtain ⟨hv19, rfl, e19⟩ := hQ19
    rw [List.append_nil] at X19
    have hw19 : v19 = some (.ref A_AUDIO_COMPLETION) := hv19.trans (by simp [PK])
    subst hw19
    refine ownEnds.law st19 ?_
    show ownEnds _ _ _ _ (T19.setTop (mkF m 12 #[.val (.int xx), .val (.int (6 : Int32)), .unset, .unset, .unset] [(.ref A_AUDIO_COMPLETION)]))
    refine ownEnds.law (fun t k => XS.astoreN X19.here hx rfl (hb hby at_12) rfl rfl (l' := #[.val (.int xx), .val (.int (6 : Int32)), .val (.ref A_AUDIO_COMPLETION), .unset, .unset]) rfl (XS.iloadN X19.here hx rfl (hb hby at_13) rfl k)) ?_
    show ownEnds _ _ _ _ (T19.setTop (mkF m 14 #[.val (.int xx), .val (.int (6 : Int32)), .val (.ref A_AUDIO_COMPLETION), .unset, .unset] [(.int (6 : Int32))]))
    refine ownEnds.law (fun t => XS.ifNo X19.here hx rfl (hb hby at_14) rfl ((if0 _ _).trans (feq (by decide : ¬ ((6 : Int32) = (0 : Int32)))).1)) ?_
    show ownEnds _ _ _ _ (T19.setTop (mkF m 17 #[.val (.int xx), .val (.int (6 : Int32)), .val (.ref A_AUDIO_COMPLETION), .unset, .unset] []))
    refine ownEnds.law (fun t k => XS.iloadN X19.here hx rfl (hb hby at_17) rfl (XS.iconst X19.here hx rfl (hb hby at_18) k)) ?_
    show ownEnds _ _ _ _ (T19.setTop (mkF m 19 #[.val (.int xx), .val (.int (6 : Int32)), .val (.ref A_AUDIO_COMPLETION), .unset, .unset] [(.int (2 : Int32)), (.int (6 : Int32))]))
    refine ownEnds.law (fun t => XS.icmpYes X19.here hx rfl (pc0 := 19) (pc' := 26) rfl (hb hby at_19) rfl (feq (by decide : ¬ ((6 : Int32) = (2 : Int32)))).2 (by decide) (by decide)) ?_
    show ownEnds _ _ _ _ (T19.setTop (mkF m 26 #[.val (.int xx), .val (.int (6 : Int32)), .val (.ref A_AUDIO_COMPLETION), .unset, .unset] []))
    refine ownEnds.law (fun t k => XS.iconst X19.here hx rfl (hb hby at_26) (XS.istoreN X19.here hx rfl (hb hby at_27) rfl (l' := #[.val (.int xx), .val (.int (6 : Int32)), .val (.ref A_AUDIO_COMPLETION), .val (.int (0 : Int32)), .unset]) rfl (XS.aloadN X19.here hx rfl (hb hby at_28) rfl rfl k))) ?_
    show ownEnds _ _ _ _ (T19.setTop (mkF m 29 #[.val (.int xx), .val (.int (6 : Int32)), .val (.ref A_AUDIO_COMPLETION), .val (.int (0 : Int32)), .unset] [(.ref A_AUDIO_COMPLETION)]))
    obtain ⟨v20, T20, L20, X20, hQ20, st20⟩ := ownCallV X19 hx hZ hown (y := (⟨"com/example/tallydb/tallydb/PriceKind", "required", "()Z"⟩ : MethodName)) (z := (⟨"com/example/tallydb/tallydb/PriceKind", "required", "()Z"⟩ : MethodName)) (a := A_AUDIO_COMPLETION) (as := []) (wd_8 hw) (wd_9 hw) (notFace_of_selects (args := #[]) (mvT hZ (wd_11 hw))) (wd_11 hw) (wd_10 hw) (wd_6 hw) (wd_12 hw) (by decide) (rm2r l Z a0 hw A_AUDIO_COMPLETION A_COMPLETION h0 n0 Z0 F_AUDIO_COMPLETION_fallback) e19 E_AUDIO_COMPLETION 0 (by decide) (by decide) (by decide) (by decide) (g := (mkF m 29 #[.val (.int xx), .val (.int (6 : Int32)), .val (.ref A_AUDIO_COMPLETION), .val (.int (0 : Int32)), .unset] [(.ref A_AUDIO_COMPLETION)])) rfl (by rw [hml]; rfl) (rest := []) pd_1 rfl rfl (by show 2 * 0 + _ ≤ _; exact Nat.le_of_eq rfl) (hb hby at_29)
    obtain ⟨rfl, rfl, e20⟩ := hQ20
    rw [List.append_nil] at X20
    refine ownEnds.law st20 ?_
    show ownEnds _ _ _ _ (T20.setTop (mkF m 32 #[.val (.int xx), .val (.int (6 : Int32)), .val (.ref A_AUDIO_COMPLETION), .val (.int (0 : Int32)), .unset] [(.int (0 : Int32))]))
    refine ownEnds.law (fun t k => XS.istore X20.here hx rfl (hb hby at_32) rfl (l' := #[.val (.int xx), .val (.int (6 : Int32)), .val (.ref A_AUDIO_COMPLETION), .val (.int (0 : Int32)), .val (.int (0 : Int32))]) rfl (XS.iload X20.here hx rfl (hb hby at_34) rfl (XS.iloadN X20.here hx rfl (hb hby at_36) rfl k))) ?_
    show ownEnds _ _ _ _ (T20.setTop (mkF m 37 #[.val (.int xx), .val (.int (6 : Int32)), .val (.ref A_AUDIO_COMPLETION), .val (.int (0 : Int32)), .val (.int (0 : Int32))] [(.int (0 : Int32)), (.int (0 : Int32))]))
    refine ownEnds.law (fun t => XS.icmpNo X20.here hx rfl (hb hby at_37) rfl (teq (rfl : (0 : Int32) = (0 : Int32))).2) ?_
    show ownEnds _ _ _ _ (T20.setTop (mkF m 40 #[.val (.int xx), .val (.int (6 : Int32)), .val (.ref A_AUDIO_COMPLETION), .val (.int (0 : Int32)), .val (.int (0 : Int32))] []))
    refine ownEnds.law (fun t k => XS.iload X20.here hx rfl (hb hby at_40) rfl (XS.aloadN X20.here hx rfl (hb hby at_42) rfl rfl k)) ?_
    show ownEnds _ _ _ _ (T20.setTop (mkF m 43 #[.val (.int xx), .val (.int (6 : Int32)), .val (.ref A_AUDIO_COMPLETION), .val (.int (0 : Int32)), .val (.int (0 : Int32))] [(.ref A_AUDIO_COMPLETION), (.int (0 : Int32))]))
    obtain ⟨v21, T21, L21, X21, hQ21, st21⟩ := ownCallV X20 hx hZ hown (y := (⟨"com/example/tallydb/tallydb/PriceKind", "fallback", "()Lcom/example/tallydb/tallydb/PriceKind;"⟩ : MethodName)) (z := (⟨"com/example/tallydb/tallydb/PriceKind", "fallback", "()Lcom/example/tallydb/tallydb/PriceKind;"⟩ : MethodName)) (a := A_AUDIO_COMPLETION) (as := []) (wd_15 hw) (wd_16 hw) (notFace_of_selects (args := #[]) (mvT hZ (wd_18 hw))) (wd_18 hw) (wd_17 hw) (wd_6 hw) (wd_19 hw) (by decide) (rm3r l Z a0 hw A_AUDIO_COMPLETION A_COMPLETION h0 n0 Z0 F_AUDIO_COMPLETION_fallback) e20 E_AUDIO_COMPLETION 1 (by decide) (by decide) (by decide) (by decide) (g := (mkF m 43 #[.val (.int xx), .val (.int (6 : Int32)), .val (.ref A_AUDIO_COMPLETION), .val (.int (0 : Int32)), .val (.int (0 : Int32))] [(.ref A_AUDIO_COMPLETION), (.int (0 : Int32))])) rfl (by rw [hml]; rfl) (rest := [(.int (0 : Int32))]) pd_2 rfl rfl (by show 2 * 0 + _ ≤ _; exact Nat.le_of_eq rfl) (hb hby at_43)
    obtain ⟨rfl, rfl, e21⟩ := hQ21
    rw [List.append_nil] at X21
    refine ownEnds.law st21 ?_
    show ownEnds _ _ _ _ (T21.setTop (mkF m 46 #[.val (.int xx), .val (.int (6 : Int32)), .val (.ref A_AUDIO_COMPLETION), .val (.int (0 : Int32)), .val (.int (0 : Int32))] [(.ref A_COMPLETION), (.int (0 : Int32))]))
    refine ownEnds.law (fun t k => XS.ifnonnullYes X21.here hx rfl (pc0 := 46) (pc' := 53) rfl (hb hby at_46) rfl (by decide) (by decide) (XS.iconst X21.here hx rfl (hb hby at_53) k)) ?_
    show ownEnds _ _ _ _ (T21.setTop (mkF m 54 #[.val (.int xx), .val (.int (6 : Int32)), .val (.ref A_AUDIO_COMPLETION), .val (.int (0 : Int32)), .val (.int (0 : Int32))] [(.int (0 : Int32)), (.int (0 : Int32))]))
    refine ownEnds.law (fun t => XS.icmpNo X21.here hx rfl (hb hby at_54) rfl (teq (rfl : (0 : Int32) = (0 : Int32))).2) ?_
    show ownEnds _ _ _ _ (T21.setTop (mkF m 57 #[.val (.int xx), .val (.int (6 : Int32)), .val (.ref A_AUDIO_COMPLETION), .val (.int (0 : Int32)), .val (.int (0 : Int32))] []))
    refine ownEnds.law (fun t k => XS.iconst X21.here hx rfl (hb hby at_57) (XS.goto X21.here hx rfl (pc0 := 58) (pc' := 62) rfl (hb hby at_58) (by decide) (by decide) k)) ?_
    show ownEnds _ _ _ _ (T21.setTop (mkF m 62 #[.val (.int xx), .val (.int (6 : Int32)), .val (.ref A_AUDIO_COMPLETION), .val (.int (0 : Int32)), .val (.int (0 : Int32))] [(.int (1 : Int32))]))
    refine ownRetN X21 hlk hx (t := .boolean) hret (by simp) (hb hby at_62) (by decide) (by decide) ?_
    exact ⟨rfl, Fr.nil n0⟩
set_option maxRecDepth 65536 in
set_option maxHeartbeats 40000000 in
theorem comes_1 {Post : Tables → Env → Array Value → State → Outcome → State → Prop} (hpost : ∀ tb e args s v u, (limb_1_1.after args s (.returned v) u = true ∧ limb_1_2.after args s (.returned v) u = true ∧ True) → FrameEnd s (.returned v) u (Jvm.fieldLocs frame_1_writes args s ++ Jvm.arrayLocs frame_1_arrays args s ++ Jvm.staticLocs frame_1_statics s) 0 0 → Post tb e args s (.returned v) u) :
    ArmFor flags0 classFile x code maxLocals ret World_1 tables_1 room_1 Calls_1 rest_1 Pre_1 Post := by
  intro l hfl _ _ p e ha hc hk s m args below hf hA hF happ hP
  obtain ⟨hcalls, hrest, hpre⟩ := hP
  obtain ⟨-, -, -, hnamed, -, -, -, hat⟩ := (Spec.applies_iff hf).mp happ
  obtain ⟨hg, hn⟩ := and_e (Cond.before_iff.mp (show (Jvm.Cond.and given_1 narrow_1).before args s = true from hpre))
  obtain ⟨gg1, gg2⟩ := and_e hg
  obtain ⟨w0, rfl⟩ : ∃ w0 : Value, args = #[w0] := by
    have hs : args.size = 1 := by simpa [Cond.value, given_1] using gg1
    obtain ⟨L⟩ := args
    match L, hs with
    | [w0], _ => exact ⟨w0, rfl⟩
  have hw := fun d (hd : d ∈ tables_1) => atoms_spec (ws := Jvm.Cond.code x code maxLocals ret :: tables_1) hat d (List.mem_cons_of_mem _ hd)
  have hfit : Fit s := fun {y c} hc i hi => by
    obtain ⟨ha, rfl⟩ := Array.getElem?_eq_some_iff.mp hc
    have q := List.all_eq_true.mp ((Array.all_eq_true_iff_forall_mem.mp hF) _ (Array.getElem_mem ha)) i (List.mem_range.mpr hi)
    simpa [Array.getElem?_eq_getElem hi] using q
  obtain ⟨i0, ei0⟩ := is_v gg2
  obtain rfl : w0 = (.int i0) := Option.some.inj ei0
  obtain ⟨na1, nb1⟩ := and_e hn
  obtain ⟨na2, nb2⟩ := and_e nb1
  obtain ⟨na3, nb3⟩ := and_e nb2
  obtain ⟨na4, nb4⟩ := and_e nb3
  obtain ⟨na5, nb5⟩ := and_e nb4
  obtain ⟨na6, nb6⟩ := and_e nb5
  obtain ⟨na7, nb7⟩ := and_e nb6
  obtain ⟨na8, nb8⟩ := and_e nb7
  obtain ⟨na9, nb9⟩ := and_e nb8
  obtain ⟨na10, nb10⟩ := and_e nb9
  obtain ⟨na11, nb11⟩ := and_e nb10
  obtain ⟨na12, nb12⟩ := and_e nb11
  obtain ⟨na13, nb13⟩ := and_e nb12
  obtain ⟨A_PROMPT, ev_PROMPT⟩ := exa_v na1
  have S_PROMPT := Sta.start ev_PROMPT (Or.inr ⟨(wd_6 hw), (wd_7 hw)⟩)
  have E_PROMPT := Exa.start ev_PROMPT na1
  obtain ⟨A_CACHE_WRITE_PROMPT, ev_CACHE_WRITE_PROMPT⟩ := exa_v na3
  have S_CACHE_WRITE_PROMPT := Sta.start ev_CACHE_WRITE_PROMPT (Or.inr ⟨(wd_6 hw), (wd_21 hw)⟩)
  have E_CACHE_WRITE_PROMPT := Exa.start ev_CACHE_WRITE_PROMPT na3
  obtain ⟨A_AUDIO_PROMPT, ev_AUDIO_PROMPT⟩ := exa_v na5
  have S_AUDIO_PROMPT := Sta.start ev_AUDIO_PROMPT (Or.inr ⟨(wd_6 hw), (wd_23 hw)⟩)
  have E_AUDIO_PROMPT := Exa.start ev_AUDIO_PROMPT na5
  obtain ⟨A_AUDIO_COMPLETION, ev_AUDIO_COMPLETION⟩ := exa_v na7
  have S_AUDIO_COMPLETION := Sta.start ev_AUDIO_COMPLETION (Or.inr ⟨(wd_6 hw), (wd_25 hw)⟩)
  have E_AUDIO_COMPLETION := Exa.start ev_AUDIO_COMPLETION na7
  obtain ⟨A_COMPLETION, ev_COMPLETION⟩ := exa_v na8
  have S_COMPLETION := Sta.start ev_COMPLETION (Or.inr ⟨(wd_6 hw), (wd_26 hw)⟩)
  have E_COMPLETION := Exa.start ev_COMPLETION na8
  obtain ⟨A_CACHE_WRITE_1H_PROMPT, ev_CACHE_WRITE_1H_PROMPT⟩ := exa_v na10
  have S_CACHE_WRITE_1H_PROMPT := Sta.start ev_CACHE_WRITE_1H_PROMPT (Or.inr ⟨(wd_6 hw), (wd_28 hw)⟩)
  have E_CACHE_WRITE_1H_PROMPT := Exa.start ev_CACHE_WRITE_1H_PROMPT na10
  obtain ⟨A_CACHED_PROMPT, ev_CACHED_PROMPT⟩ := exa_v na13
  have S_CACHED_PROMPT := Sta.start ev_CACHED_PROMPT (Or.inr ⟨(wd_6 hw), (wd_31 hw)⟩)
  have E_CACHED_PROMPT := Exa.start ev_CACHED_PROMPT na13
  have F_PROMPT_fallback := Fld.start ((ownFieldAt ev_PROMPT).symm.trans (ownEqV na2 rfl))
  have F_CACHE_WRITE_PROMPT_fallback := Fld.start ((ownFieldAt ev_CACHE_WRITE_PROMPT).symm.trans (ownEqV na4 ev_PROMPT))
  have F_AUDIO_PROMPT_fallback := Fld.start ((ownFieldAt ev_AUDIO_PROMPT).symm.trans (ownEqV na6 ev_PROMPT))
  have F_AUDIO_COMPLETION_fallback := Fld.start ((ownFieldAt ev_AUDIO_COMPLETION).symm.trans (ownEqV na9 ev_COMPLETION))
  have F_CACHE_WRITE_1H_PROMPT_fallback := Fld.start ((ownFieldAt ev_CACHE_WRITE_1H_PROMPT).symm.trans (ownEqV na11 ev_CACHE_WRITE_PROMPT))
  have F_COMPLETION_fallback := Fld.start ((ownFieldAt ev_COMPLETION).symm.trans (ownEqV na12 rfl))
  have F_CACHED_PROMPT_fallback := Fld.start ((ownFieldAt ev_CACHED_PROMPT).symm.trans (ownEqV nb13 ev_PROMPT))
  obtain ⟨n, o, h1, h2, h3, _, L, rfl, ⟨rfl, N⟩, hq⟩ := rm0 l s _ hw i0 A_PROMPT A_CACHED_PROMPT A_COMPLETION A_CACHE_WRITE_PROMPT A_CACHE_WRITE_1H_PROMPT A_AUDIO_PROMPT A_AUDIO_COMPLETION s.heap s.heap.size (Nat.le_refl _) S_PROMPT E_PROMPT F_PROMPT_fallback S_CACHED_PROMPT E_CACHED_PROMPT F_CACHED_PROMPT_fallback S_COMPLETION E_COMPLETION F_COMPLETION_fallback S_CACHE_WRITE_PROMPT E_CACHE_WRITE_PROMPT F_CACHE_WRITE_PROMPT_fallback S_CACHE_WRITE_1H_PROMPT E_CACHE_WRITE_1H_PROMPT F_CACHE_WRITE_1H_PROMPT_fallback S_AUDIO_PROMPT E_AUDIO_PROMPT F_AUDIO_PROMPT_fallback S_AUDIO_COMPLETION E_AUDIO_COMPLETION F_AUDIO_COMPLETION_fallback p e ha hc hk s m _ below hf ((Spec.applies_iff_loose hf).mp happ).1 ⟨rfl, State.Warmed39.refl s, rfl⟩ trivial
  refine ⟨n, _, h1, h2, h3, hpost _ _ _ _ _ _ ⟨Cond.after_iff.mpr rfl, Cond.after_iff.mpr (eq_i res_at (Term.int_eval (1)) rfl), trivial⟩ ⟨hq.1, hq.2.1, (hq.2.2.sift fun y hy => Or.inr (N y hy)).mono (by decide) (by decide)⟩⟩
theorem main_1_1 : Claimed_1_1 := comes_1 fun _ _ _ _ _ _ h hF => ⟨h.1, hF⟩
theorem main_1_2 : Claimed_1_2 := comes_1 fun _ _ _ _ _ _ h hF => ⟨h.2.1, hF⟩
end Jvm.Pilot.@@N@@
namespace Jvm.Pilot.@@N@@
open Jvm Jvm.ClassFile Sem Op Lib Jvm.Free Jvm.Stand Jvm.Pilot.@@N@@.Jvm.D
/-! MADE BY PROGRAM (witnessworld.py) out of the Statement's table words and the real class files: 12 classes; the members and pool entries that the words name. The judged class is class 1, her method 2. -/
namespace start1
open Jvm.ClassFile
def u (s : String) : CpInfo := .utf8 (stringToUtf16 s)
/-- a pool by its gaps: so many unusable entries, then the entry; so many at the end -/
def gap : Nat → List CpInfo → List CpInfo
  | 0, r => r
  | n + 1, r => .unusable :: gap n r
def poolList (es : List (Nat × CpInfo)) (last : Nat) : List CpInfo := es.foldr (fun e r => gap e.1 (e.2 :: r)) (gap last [])
def pool (es : List (Nat × CpInfo)) (last : Nat) : Array CpInfo := ⟨poolList es last⟩
def fileOf (pool : Array CpInfo) (this : Nat) (attrs : Array Attribute := #[]) (ms : Array MethodInfo := #[]) (fl : Nat := 33) (sup : Nat := 0) (ifs : Array Nat := #[]) (fds : Array FieldInfo := #[]) : ClassFile where
  minorVersion := 0
  majorVersion := 65
  constantPool := pool
  accessFlags := fl
  thisClass := this
  superClass := sup
  interfaces := ifs
  fields := fds
  methods := ms
  attributes := attrs
def plain (name : String) (sup : Option ClassId) : Class where
  name := name
  kind := .ordinary
  loader := none
  accessFlags := 33
  super := sup
  interfaces := #[]
  cf := none
  fields := #[]
  methods := #[]
  instanceTypes := #[]
  staticTypes := #[]
  resolved := #[]
  callSites := []
  init := .initialized
  statics := none
  mirror := none

def pool0 : Array CpInfo := pool [(5, u "<init>"), (0, u "()V"), (1, .class_ 10), (1, u "java/lang/Object")] 113

def k0m0 : Method := { name := "<init>", desc := "()V", sig := { parameters := [], returnType := none }, accessFlags := 1, code := none }
/-- java/lang/Object -/
def k0 : Class := { plain "java/lang/Object" none with
  accessFlags := 33
  interfaces := #[]
  cf := some (fileOf pool0 8 #[] #[{ accessFlags := 1, nameIndex := 5, descriptorIndex := 6, attributes := #[] }] 33 0 #[] #[])
  fields := #[]
  methods := #[k0m0]
  instanceTypes := #[]
  staticTypes := #[]
  resolved := Array.replicate 124 none
  statics := none }

def pool1 : Array CpInfo := pool [(2, .class_ 4), (1, u "java/lang/Object"), (0, u "<init>"), (0, u "()V"), (0, .fieldref 8 9), (0, .class_ 10), (0, .nameAndType 11 12), (0, u "com/example/tallydb/tallydb/PriceKind"), (0, u "PROMPT"), (0, u "Lcom/example/tallydb/tallydb/PriceKind;"), (0, .fieldref 8 14), (0, .nameAndType 15 12), (0, u "CACHED_PROMPT"), (0, .fieldref 8 17), (0, .nameAndType 18 12), (0, u "COMPLETION"), (0, .fieldref 8 20), (0, .nameAndType 21 12), (0, u "CACHE_WRITE_PROMPT"), (0, .fieldref 8 23), (0, .nameAndType 24 12), (0, u "CACHE_WRITE_1H_PROMPT"), (0, .fieldref 8 26), (0, .nameAndType 27 12), (0, u "AUDIO_PROMPT"), (0, .fieldref 8 29), (0, .nameAndType 30 12), (0, u "AUDIO_COMPLETION"), (0, .integer 2147483647), (0, .methodref 33 34), (0, .class_ 35), (0, .nameAndType 36 37), (0, u "com/example/tallydb/tallydb/PriceKindRequiredPinLaw"), (0, u "pick"), (0, u "(I)Lcom/example/tallydb/tallydb/PriceKind;"), (0, .methodref 8 39), (0, .nameAndType 40 41), (0, u "required"), (0, u "()Z"), (0, .methodref 8 43), (0, .nameAndType 44 45), (0, u "fallback"), (0, u "()Lcom/example/tallydb/tallydb/PriceKind;"), (3, u "law"), (0, u "(I)Z")] 2

def k1m0 : Method := { name := "<init>", desc := "()V", sig := { parameters := [], returnType := none }, accessFlags := 1, code := none }
def k1c1 : Code := { maxStack := 2, maxLocals := 1, code := method_2_code, exceptionTable := #[], attributes := #[] }
def k1m1 : Method := { name := "pick", desc := "(I)Lcom/example/tallydb/tallydb/PriceKind;", sig := { parameters := [.int], returnType := some (.object "com/example/tallydb/tallydb/PriceKind") }, accessFlags := 10, code := some k1c1 }
def k1c2 : Code := { maxStack := 2, maxLocals := 5, code := code, exceptionTable := #[], attributes := #[] }
def k1m2 : Method := { name := "law", desc := "(I)Z", sig := { parameters := [.int], returnType := some .boolean }, accessFlags := 9, code := some k1c2 }
/-- com/example/tallydb/tallydb/PriceKindRequiredPinLaw -/
def k1 : Class := { plain "com/example/tallydb/tallydb/PriceKindRequiredPinLaw" (some 0) with
  accessFlags := 49
  interfaces := #[]
  cf := some (fileOf pool1 33 #[] #[{ accessFlags := 1, nameIndex := 5, descriptorIndex := 6, attributes := #[] }, { accessFlags := 10, nameIndex := 36, descriptorIndex := 37, attributes := #[] }, { accessFlags := 9, nameIndex := 49, descriptorIndex := 50, attributes := #[] }] 49 2 #[] #[])
  fields := #[]
  methods := #[k1m0, k1m1, k1m2]
  instanceTypes := #[]
  staticTypes := #[]
  resolved := Array.replicate 53 none
  statics := none }

def pool2 : Array CpInfo := pool [(1, .class_ 2), (0, u "java/lang/constant/Constable"), (0, .class_ 4), (0, u "java/lang/Object")] 6

/-- java/lang/constant/Constable -/
def k2 : Class := { plain "java/lang/constant/Constable" (some 0) with
  accessFlags := 1537
  interfaces := #[]
  cf := some (fileOf pool2 1 #[] #[] 1537 3 #[] #[])
  fields := #[]
  methods := #[]
  instanceTypes := #[]
  staticTypes := #[]
  resolved := Array.replicate 11 none
  statics := none }

def pool3 : Array CpInfo := pool [(1, .class_ 2), (0, u "java/lang/Comparable"), (0, .class_ 4), (0, u "java/lang/Object")] 7

/-- java/lang/Comparable -/
def k3 : Class := { plain "java/lang/Comparable" (some 0) with
  accessFlags := 1537
  interfaces := #[]
  cf := some (fileOf pool3 1 #[] #[] 1537 3 #[] #[])
  fields := #[]
  methods := #[]
  instanceTypes := #[]
  staticTypes := #[]
  resolved := Array.replicate 12 none
  statics := none }

def pool4 : Array CpInfo := pool [(1, .class_ 2), (0, u "java/io/Serializable"), (0, .class_ 4), (0, u "java/lang/Object")] 2

/-- java/io/Serializable -/
def k4 : Class := { plain "java/io/Serializable" (some 0) with
  accessFlags := 1537
  interfaces := #[]
  cf := some (fileOf pool4 1 #[] #[] 1537 3 #[] #[])
  fields := #[]
  methods := #[]
  instanceTypes := #[]
  staticTypes := #[]
  resolved := Array.replicate 7 none
  statics := none }

def pool5 : Array CpInfo := pool [(2, .class_ 4), (1, u "java/lang/Enum"), (0, u "name"), (0, u "Ljava/lang/String;"), (2, u "ordinal"), (0, u "I"), (1, .class_ 14), (1, u "java/lang/Object"), (4, u "hash"), (86, .class_ 108), (1, u "java/lang/Enum$EnumDesc"), (2, .class_ 112), (0, u "java/lang/constant/Constable"), (0, .class_ 114), (0, u "java/lang/Comparable"), (0, .class_ 116), (0, u "java/io/Serializable")] 87

/-- java/lang/Enum -/
def k5 : Class := { plain "java/lang/Enum" (some 0) with
  accessFlags := 1057
  interfaces := #[2, 3, 4]
  cf := some (fileOf pool5 2 #[.nestMembers #[106]] #[] 1057 12 #[111, 113, 115] #[{ accessFlags := 18, nameIndex := 5, descriptorIndex := 6, attributes := #[] }, { accessFlags := 18, nameIndex := 9, descriptorIndex := 10, attributes := #[] }, { accessFlags := 2, nameIndex := 19, descriptorIndex := 10, attributes := #[] }])
  fields := #[{ name := "name", type := (.object "java/lang/String"), accessFlags := 18, slot := 0, constantValue := 0 }, { name := "ordinal", type := .int, accessFlags := 18, slot := 1, constantValue := 0 }, { name := "hash", type := .int, accessFlags := 2, slot := 2, constantValue := 0 }]
  methods := #[]
  instanceTypes := #[(.object "java/lang/String"), .int, .int]
  staticTypes := #[]
  resolved := Array.replicate 204 none
  statics := none }

def pool6 : Array CpInfo := pool [(1, .class_ 2), (0, u "com/example/tallydb/tallydb/PriceKind"), (2, u "PROMPT"), (0, u "Lcom/example/tallydb/tallydb/PriceKind;"), (2, u "CACHED_PROMPT"), (2, u "COMPLETION"), (2, u "CACHE_WRITE_PROMPT"), (2, u "CACHE_WRITE_1H_PROMPT"), (2, u "AUDIO_PROMPT"), (2, u "AUDIO_COMPLETION"), (2, u "$VALUES"), (0, u "[Lcom/example/tallydb/tallydb/PriceKind;"), (6, .class_ 37), (1, u "java/lang/Enum"), (6, .fieldref 1 45), (0, .nameAndType 46 6), (0, u "fallback"), (2, u "tokens"), (0, u "Ljava/util/function/ToLongFunction;"), (62, u "()Lcom/example/tallydb/tallydb/PriceKind;"), (0, u "required"), (0, u "()Z")] 55

def k6c0 : Code := { maxStack := 1, maxLocals := 1, code := prog_25_method_5_code, exceptionTable := #[], attributes := #[] }
def k6m0 : Method := { name := "fallback", desc := "()Lcom/example/tallydb/tallydb/PriceKind;", sig := { parameters := [], returnType := some (.object "com/example/tallydb/tallydb/PriceKind") }, accessFlags := 1, code := some k6c0 }
def k6c1 : Code := { maxStack := 1, maxLocals := 1, code := prog_25_method_6_code, exceptionTable := #[], attributes := #[] }
def k6m1 : Method := { name := "required", desc := "()Z", sig := { parameters := [], returnType := some .boolean }, accessFlags := 1, code := some k6c1 }
/-- com/example/tallydb/tallydb/PriceKind -/
def k6 : Class := { plain "com/example/tallydb/tallydb/PriceKind" (some 5) with
  accessFlags := 16433
  interfaces := #[]
  cf := some (fileOf pool6 1 #[] #[{ accessFlags := 1, nameIndex := 46, descriptorIndex := 113, attributes := #[] }, { accessFlags := 1, nameIndex := 114, descriptorIndex := 115, attributes := #[] }] 16433 35 #[] #[{ accessFlags := 16409, nameIndex := 5, descriptorIndex := 6, attributes := #[] }, { accessFlags := 16409, nameIndex := 9, descriptorIndex := 6, attributes := #[] }, { accessFlags := 16409, nameIndex := 12, descriptorIndex := 6, attributes := #[] }, { accessFlags := 16409, nameIndex := 15, descriptorIndex := 6, attributes := #[] }, { accessFlags := 16409, nameIndex := 18, descriptorIndex := 6, attributes := #[] }, { accessFlags := 16409, nameIndex := 21, descriptorIndex := 6, attributes := #[] }, { accessFlags := 16409, nameIndex := 24, descriptorIndex := 6, attributes := #[] }, { accessFlags := 18, nameIndex := 46, descriptorIndex := 6, attributes := #[] }, { accessFlags := 18, nameIndex := 49, descriptorIndex := 50, attributes := #[] }, { accessFlags := 4122, nameIndex := 27, descriptorIndex := 28, attributes := #[] }])
  fields := #[{ name := "PROMPT", type := (.object "com/example/tallydb/tallydb/PriceKind"), accessFlags := 16409, slot := 0, constantValue := 0 }, { name := "CACHED_PROMPT", type := (.object "com/example/tallydb/tallydb/PriceKind"), accessFlags := 16409, slot := 1, constantValue := 0 }, { name := "COMPLETION", type := (.object "com/example/tallydb/tallydb/PriceKind"), accessFlags := 16409, slot := 2, constantValue := 0 }, { name := "CACHE_WRITE_PROMPT", type := (.object "com/example/tallydb/tallydb/PriceKind"), accessFlags := 16409, slot := 3, constantValue := 0 }, { name := "CACHE_WRITE_1H_PROMPT", type := (.object "com/example/tallydb/tallydb/PriceKind"), accessFlags := 16409, slot := 4, constantValue := 0 }, { name := "AUDIO_PROMPT", type := (.object "com/example/tallydb/tallydb/PriceKind"), accessFlags := 16409, slot := 5, constantValue := 0 }, { name := "AUDIO_COMPLETION", type := (.object "com/example/tallydb/tallydb/PriceKind"), accessFlags := 16409, slot := 6, constantValue := 0 }, { name := "fallback", type := (.object "com/example/tallydb/tallydb/PriceKind"), accessFlags := 18, slot := 3, constantValue := 0 }, { name := "tokens", type := (.object "java/util/function/ToLongFunction"), accessFlags := 18, slot := 4, constantValue := 0 }, { name := "$VALUES", type := (.array (.object "com/example/tallydb/tallydb/PriceKind")), accessFlags := 4122, slot := 7, constantValue := 0 }]
  methods := #[k6m0, k6m1]
  instanceTypes := #[(.object "java/lang/String"), .int, .int, (.object "com/example/tallydb/tallydb/PriceKind"), (.object "java/util/function/ToLongFunction")]
  staticTypes := #[(.object "com/example/tallydb/tallydb/PriceKind"), (.object "com/example/tallydb/tallydb/PriceKind"), (.object "com/example/tallydb/tallydb/PriceKind"), (.object "com/example/tallydb/tallydb/PriceKind"), (.object "com/example/tallydb/tallydb/PriceKind"), (.object "com/example/tallydb/tallydb/PriceKind"), (.object "com/example/tallydb/tallydb/PriceKind"), (.array (.object "com/example/tallydb/tallydb/PriceKind"))]
  resolved := Array.replicate 171 none
  statics := some 0 }

def pool7 : Array CpInfo := pool [(1, u "java/lang/Cloneable"), (0, .class_ 1), (0, u "java/lang/Object"), (0, .class_ 3)] 3

/-- java/lang/Cloneable -/
def k7 : Class := { plain "java/lang/Cloneable" (some 0) with
  accessFlags := 1537
  interfaces := #[]
  cf := some (fileOf pool7 2 #[] #[] 1537 4 #[] #[])
  fields := #[]
  methods := #[]
  instanceTypes := #[]
  staticTypes := #[]
  resolved := Array.replicate 8 none
  statics := none }

/-- the primitive byte -/
def k8 : Class := { plain "byte" none with kind := .primitive 'B', accessFlags := 0x411 }
/-- [B -/
def k9 : Class := { plain "[B" (some 0) with kind := .array 8 .byte, interfaces := #[7, 4], accessFlags := 1041 }

/-- the primitive int -/
def k10 : Class := { plain "int" none with kind := .primitive 'I', accessFlags := 0x411 }
/-- [I -/
def k11 : Class := { plain "[I" (some 0) with kind := .array 10 .int, interfaces := #[7, 4], accessFlags := 1041 }

def heap : Heap := #[{ cls := 6, slots := #[.ref 1, .ref 2, .ref 3, .ref 4, .ref 5, .ref 6, .ref 7, .null], vm := .statics 6 },
  { cls := 6, slots := #[.null, .int 0, .int 0, .null, .null], vm := .none },
  { cls := 6, slots := #[.null, .int 1, .int 0, .ref 1, .null], vm := .none },
  { cls := 6, slots := #[.null, .int 2, .int 0, .null, .null], vm := .none },
  { cls := 6, slots := #[.null, .int 3, .int 0, .ref 1, .null], vm := .none },
  { cls := 6, slots := #[.null, .int 4, .int 0, .ref 4, .null], vm := .none },
  { cls := 6, slots := #[.null, .int 5, .int 0, .ref 1, .null], vm := .none },
  { cls := 6, slots := #[.null, .int 6, .int 0, .ref 3, .null], vm := .none }]
def classes : Array Class := #[k0, k1, k2, k3, k4, k5, k6, k7, k8, k9, k10, k11]
def interned : List (Array UInt16 × Addr) := []
def slotsUsed : Nat := 43
def theMethod : MethodId := ⟨1, 2⟩
def args0 : Array Value := #[.int 5]
def aboutOver (below : List Frame) : State where
  vm := { classes := classes, interned := interned.toArray }
  heap := heap
  slotsUsed := slotsUsed
  threads := #[{ frames := .invoking theMethod args0 :: below }]
def below0 : List Frame := [.native { method := ⟨0, 0⟩, args := #[] }]
def about1 : State := aboutOver below0
def p0 : Program := .bare "" "" ""
def e0 : Env := launch0.env 0 0 0
theorem w_frames : about1.frames = Frame.invoking theMethod args0 :: below0 := rfl
set_option maxRecDepth 65536 in
theorem w_args : argsFit about1.vm theMethod args0 = true := by decide +kernel
set_option maxRecDepth 65536 in
theorem w_heap : heapFits about1 = true := by decide +kernel
set_option maxRecDepth 65536 in
theorem w_runnable : about1.curStatus? = some .runnable := by decide +kernel
set_option maxRecDepth 65536 in
theorem w_alone : about1.alone = true := by decide +kernel
set_option maxRecDepth 65536 in
theorem w_named : about1.methodNamed? x = some theMethod := by decide +kernel
set_option maxRecDepth 65536 in
theorem w_hears : about1.hears theMethod below0 = true := by decide +kernel
set_option maxRecDepth 65536 in
theorem w_ripe : about1.ripe theMethod args0 below0 = true := by decide +kernel
theorem w_running : about1.status = .running := rfl
set_option maxRecDepth 65536 in
theorem w_room : about1.hasRoom e0.platform room_1 = true :=
  launch0.hasRoom_least _ room_1 (by decide +kernel) (by decide +kernel) (by decide +kernel) (by decide +kernel) (by decide +kernel) (by decide +kernel)
theorem allAtoms_all (ts : List Jvm.Cond) (a : Array Jvm.Value) (st : Jvm.State) : (allAtoms ts).before a st = ts.all (fun c => c.before a st) := by
  induction ts with
  | nil => rfl
  | cons c t ih =>
    show (Jvm.Cond.and c (allAtoms t)).before a st = _
    rw [Jvm.Cond.before_and, ih, List.all_cons]
def words1 : List Jvm.Cond := Jvm.Cond.code x code maxLocals ret :: tables_1
/-- a 'code' word, met by the world's own term for the bytes: nothing is compared byte by byte -/
theorem code_word {y : MethodName} {bytes : ByteArray} {mx : Nat} {rt : Option FieldType} {a : Array Value} {s : State} {m : MethodId} {meth : Method} {c : Code} (h1 : s.methodNamed? y = some m) (h2 : s.vm.method? m = some meth) (h3 : meth.code = some c) (h4 : c.code = bytes)
    (h5 : (c.maxLocals == mx && c.exceptionTable.isEmpty && decide (c.maxStack ≤ mostOperands) && decide (meth.sig.returnType = rt) && !meth.locks && decide (parseMethodDescriptor y.desc = some meth.sig)) = true) : (Jvm.Cond.code y bytes mx rt).before a s = true := by
  simp only [Bool.and_eq_true, beq_iff_eq, Bool.not_eq_true', decide_eq_true_eq] at h5
  obtain ⟨⟨⟨⟨⟨g1, g2⟩, g3⟩, g4⟩, g5⟩, g6⟩ := h5
  simp [Cond.before, Cond.holds, Cond.value, h1, h2, h3, h4, g1, g2, g3, g4, g5, g6]
def isCode : Jvm.Cond → Bool
  | .code _ _ _ _ => true
  | _ => false
theorem all_split {L : List Jvm.Cond} {P : Jvm.Cond → Bool} (h1 : L.all (fun c => isCode c || P c) = true) (h2 : ∀ c ∈ L.filter isCode, P c = true) : L.all P = true := by
  refine List.all_eq_true.mpr fun c hc => ?_
  have h := List.all_eq_true.mp h1 c hc
  rcases Bool.eq_false_or_eq_true (isCode c) with hi | hi
  · exact h2 c (List.mem_filter.mpr ⟨hc, hi⟩)
  · simpa [hi] using h
set_option maxRecDepth 65536 in
theorem w_c0 : (Jvm.Cond.code x code maxLocals ret).before args0 about1 = true := code_word (m := ⟨1, 2⟩) (meth := k1m2) (c := k1c2) (by decide +kernel) rfl rfl rfl (by decide +kernel)
set_option maxRecDepth 65536 in
theorem w_c1 : (Jvm.Cond.code ({ cls := "com/example/tallydb/tallydb/PriceKindRequiredPinLaw", name := "pick", desc := "(I)Lcom/example/tallydb/tallydb/PriceKind;" } : Jvm.MethodName) method_2_code (1 : Nat) (Option.some (Jvm.ClassFile.FieldType.object "com/example/tallydb/tallydb/PriceKind"))).before args0 about1 = true := code_word (m := ⟨1, 1⟩) (meth := k1m1) (c := k1c1) (by decide +kernel) rfl rfl rfl (by decide +kernel)
set_option maxRecDepth 65536 in
theorem w_c2 : (Jvm.Cond.code ({ cls := "com/example/tallydb/tallydb/PriceKind", name := "required", desc := "()Z" } : Jvm.MethodName) prog_25_method_6_code (1 : Nat) (Option.some Jvm.ClassFile.FieldType.boolean)).before args0 about1 = true := code_word (m := ⟨6, 1⟩) (meth := k6m1) (c := k6c1) (by decide +kernel) rfl rfl rfl (by decide +kernel)
set_option maxRecDepth 65536 in
theorem w_c3 : (Jvm.Cond.code ({ cls := "com/example/tallydb/tallydb/PriceKind", name := "fallback", desc := "()Lcom/example/tallydb/tallydb/PriceKind;" } : Jvm.MethodName) prog_25_method_5_code (1 : Nat) (Option.some (Jvm.ClassFile.FieldType.object "com/example/tallydb/tallydb/PriceKind"))).before args0 about1 = true := code_word (m := ⟨6, 0⟩) (meth := k6m0) (c := k6c0) (by decide +kernel) rfl rfl rfl (by decide +kernel)
def codes1 : List Jvm.Cond := [Jvm.Cond.code x code maxLocals ret, Jvm.Cond.code ({ cls := "com/example/tallydb/tallydb/PriceKindRequiredPinLaw", name := "pick", desc := "(I)Lcom/example/tallydb/tallydb/PriceKind;" } : Jvm.MethodName) method_2_code (1 : Nat) (Option.some (Jvm.ClassFile.FieldType.object "com/example/tallydb/tallydb/PriceKind")), Jvm.Cond.code ({ cls := "com/example/tallydb/tallydb/PriceKind", name := "required", desc := "()Z" } : Jvm.MethodName) prog_25_method_6_code (1 : Nat) (Option.some Jvm.ClassFile.FieldType.boolean), Jvm.Cond.code ({ cls := "com/example/tallydb/tallydb/PriceKind", name := "fallback", desc := "()Lcom/example/tallydb/tallydb/PriceKind;" } : Jvm.MethodName) prog_25_method_5_code (1 : Nat) (Option.some (Jvm.ClassFile.FieldType.object "com/example/tallydb/tallydb/PriceKind"))]
set_option maxRecDepth 65536 in
theorem codes_eq : words1.filter isCode = codes1 := rfl
theorem w_codes : ∀ c ∈ words1.filter isCode, c.before args0 about1 = true := by
  rw [codes_eq]
  intro c hc
  simp only [codes1, List.mem_cons, List.not_mem_nil, or_false] at hc
  rcases hc with rfl | rfl | rfl | rfl
  · exact w_c0
  · exact w_c1
  · exact w_c2
  · exact w_c3
set_option maxRecDepth 65536 in
theorem w_t1 : (words1.take 24).all (fun c => isCode c || c.before args0 about1) = true := by decide +kernel
set_option maxRecDepth 65536 in
theorem w_t2 : (words1.drop 24).all (fun c => isCode c || c.before args0 about1) = true := by decide +kernel
theorem w_tables : (allAtoms (Jvm.Cond.code x code maxLocals ret :: tables_1)).before args0 about1 = true := by
  rw [allAtoms_all]
  show words1.all (fun c => c.before args0 about1) = true
  refine all_split ?_ w_codes
  rw [← List.take_append_drop 24 words1, List.all_append, w_t1, w_t2]
  rfl
set_option maxRecDepth 65536 in
theorem w_case : (Jvm.Cond.and given_1 narrow_1).before args0 about1 = true := by decide +kernel
theorem w_applies : (headSpec (Jvm.Cond.code x code maxLocals ret :: tables_1) room_1).applies x e0.platform about1 = true :=
  (Spec.applies_iff w_frames).mpr ⟨w_running, w_runnable, w_alone, w_named, w_hears, w_ripe, w_room, w_tables⟩
theorem atStart : AtStart classFile x code maxLocals ret World_1 tables_1 room_1 Calls_1 rest_1 Pre_1 launch0 p0 e0 about1 theMethod args0 below0 :=
  ⟨lists_1, trivial, launch0.admits_env _ _ _, launch0.least_env, fairChoices_fair.cas, fairChoices_fair.clock, w_frames, w_args, w_heap, w_applies, trivial, trivial, w_case⟩
end start1
theorem witness_1 : WitnessClaimed_1 := ⟨start1.p0, start1.e0, start1.about1, start1.theMethod, start1.args0, start1.below0, start1.atStart⟩
end Jvm.Pilot.@@N@@
