import JvmDerived
import JvmDerived.Pilot.@@N@@Statement
import JvmDerived.Pilot.@@N@@Code
set_option linter.unusedVariables false
set_option linter.unusedSimpArgs false
namespace Jvm.Pilot.@@N@@
open Jvm Jvm.ClassFile Sem Op Lib Jvm.Free Jvm.Stand Jvm.LawKit Jvm.RoadKit Bundle Jvm.Pilot.@@N@@.Jvm.D
def ownEnds (tb : Tables) (e : Env) (below : List Frame) (Φ : State → Outcome → Prop) (A : State) : Prop :=
  ∃ s₂ o, Steps tb e below A s₂ ∧ s₂.status = .running ∧ Ended s₂ below o ∧ Φ s₂ o
theorem ownEnds.law {tb : Tables} {e : Env} {below : List Frame} {Φ : State → Outcome → Prop} {A B : State} (k : ∀ t, Steps tb e below B t → Steps tb e below A t) (h : ownEnds tb e below Φ B) : ownEnds tb e below Φ A := by
  obtain ⟨s2, o, h1, h2⟩ := h
  exact ⟨s2, o, k _ h1, h2⟩
theorem ownEnds.tr {tb : Tables} {e : Env} {below : List Frame} {Φ : State → Outcome → Prop} {A B : State} (k : Steps tb e below A B) (h : ownEnds tb e below Φ B) : ownEnds tb e below Φ A := by
  obtain ⟨s2, o, h1, h2⟩ := h
  exact ⟨s2, o, k.trans h1, h2⟩
theorem ownEnds.cast {tb : Tables} {e : Env} {below : List Frame} {Φ : State → Outcome → Prop} {T : State} {g g' : JFrame} (q : g = g') (h : ownEnds tb e below Φ (T.setTop g')) : ownEnds tb e below Φ (T.setTop g) := q ▸ h
def ownPost (s : State) (Q : Option Value → Heap → List Loc → Prop) (C S : Nat) : State → Outcome → Prop := fun U o => ∃ v L, o = .returned v ∧ Q v U.heap L ∧ FrameEnd s o U L C S
abbrev ownMet (l : Launch) (Z : State) (y : MethodName) (bytes : ByteArray) (maxL : Nat) (rt : Option FieldType) (ws : List Jvm.Cond) (rm : Room) (as : Array Value) (h0 : Heap) (Q : Option Value → Heap → List Loc → Prop) : Prop :=
  MetFree l y (head1 (Jvm.Cond.code y bytes maxL rt :: ws) rm) (fun a U => a = as ∧ Z.Warmed39 U.vm ∧ U.heap = h0) (fun _ _ _ _ _ => True) (fun _ U o U' => ∃ v L, o = .returned v ∧ Q v U'.heap L ∧ FrameEnd U o U' L rm.cells rm.slots)
theorem ownMet.of {l : Launch} {Z : State} {y : MethodName} {bytes : ByteArray} {maxL : Nat} {rt : Option FieldType} {ws : List Jvm.Cond} {rm : Room} {as : Array Value} {h0 : Heap} {Q : Option Value → Heap → List Loc → Prop} (hpl : plainFor y = true)
    (body : ∀ (p : Program) (e : Env) (s : State) (m : MethodId) (below : List Frame) (meth : Method) (c : Code) (T0 : State), p.tables.exec = Jvm.exec → c.code = bytes → c.maxLocals = maxL → Z.Warmed39 s.vm → s.vm.findClass y.cls = some m.cls → meth.name = y.name → meth.sig.returnType = rt → meth.locks = false →
      Stand p l e rm s m as below meth c T0 [] 0 0 → T0.heap = h0 → ownEnds p.tables e below (ownPost s Q rm.cells rm.slots) (T0.setTop (entryFrame m as maxL))) : ownMet l Z y bytes maxL rt ws rm as h0 Q := by
  refine MetFree.of_bodySF hpl hisR ?_
  intro p e s m args below meth c s₁ Bd hml0 hP hK
  obtain ⟨rfl, hZ, hh⟩ := hP
  exact body p e s m below meth c s₁ Bd.exec Bd.bytes hml0 hZ (findClass_of_methodNamed Bd.named) (name_of_methodNamed Bd.named Bd.method).1 Bd.returns Bd.notSynchronized (Stand.of_body Bd) (by rw [← hh, Bd.state]; rfl)
theorem ownEqV {args : Array Value} {first s : State} {o : Option Outcome} {idx : List Nat} {a b : Term} {v : Value} (h : (Cond.eq a b).value args first o s idx = some true) (hb : b.eval args first o idx s = some v) : a.eval args first o idx s = some v := by
  simp only [Cond.value, hb] at h
  cases ha : a.eval args first o idx s with
  | none => simp [ha] at h
  | some x => cases x <;> cases v <;> simp_all
theorem ownFieldAt {args : Array Value} {first s : State} {o : Option Outcome} {idx : List Nat} {t : Term} {a : Addr} {C n d : String} (ev : t.eval args first o idx s = some (.ref a)) : (Term.field t C n d).eval args first o idx s = s.fieldOf? a C n d := by
  simp [Term.eval, ev]
theorem ownLen {s : State} {args : Array Value} {t : Term} {a : Addr} {cl : Cell} {ty : FieldType} {z : Int32} (ev : t.eval args s none [] s = some (.ref a)) (A : Arr s s.heap a cl ty) (h : (Term.length t).eval args s none [] s = some (.int z)) : cl.slots.size < 2 ^ 31 ∧ cl.slots.size.toInt32 = z := by
  have q := A.fin (Vm.Alike.refl _)
  simp only [Term.eval, ev, q, Option.bind_eq_bind, Option.bind_some, Option.pure_def] at h
  split at h
  · rename_i hs
    exact ⟨hs, by simpa using h⟩
  · cases h
theorem ownEl {s : State} {args : Array Value} {t i : Term} {a : Addr} {cl : Cell} {ty : FieldType} {j : Int32} {v : Value} (ev : t.eval args s none [] s = some (.ref a)) (A : Arr s s.heap a cl ty) (ej : i.eval args s none [] s = some (.int j)) (h : (Term.elem t i).eval args s none [] s = some v) : cl.slots[j.toNatClampNeg]? = some v := by
  have q := A.fin (Vm.Alike.refl _)
  simp only [Term.eval, ev, ej, q, Option.bind_eq_bind, Option.bind_some] at h
  split at h
  · cases h
  · exact h
section OwnKit
variable {p : Program} {l : Launch} {e : Env} {R : Room} {s : State} {m : MethodId} {args : Array Value} {below : List Frame} {meth : Method} {c : Code} {T : State} {locs : List Loc} {cells slots : Nat} {Z : State} {a0 : Array Value} {h : Heap}
theorem ownRet (X : Stand p l e R s m args below meth c T locs cells slots) (hlk : meth.locks = false) {v : Option Value} (hv : meth.sig.returnType = none → v = none) {g : JFrame} {Q : Option Value → Heap → List Loc → Prop} {C S : Nat}
    (hst : ∀ fs, (∀ (f : JFrame) (acts : List Action), f.method = m → f.locked = none → f.entered = [] → (doReturn e (T.setTop f) acts v).1 = T.setFrames fs) → Steps p.tables e below (T.setTop g) (T.setFrames fs))
    (hc : cells ≤ C) (hs : slots ≤ S) (hQ : Q v T.heap locs) : ownEnds p.tables e below (ownPost s Q C S) (T.setTop g) := by
  obtain ⟨fs, hr, hrun, hended, hW, hsame⟩ := X.leave (v := v) hv hlk
  exact ⟨_, _, hst fs hr, hrun, hended, v, locs, rfl, hQ, ⟨_, rfl⟩, hW, hsame.mono hc hs⟩
theorem ownRetN (X : Stand p l e R s m args below meth c T locs cells slots) (hlk : meth.locks = false) (hx : p.tables.exec = Jvm.exec) {pc : Nat} {Ls : Array Slot} {z : Int32} {t : FieldType} {rest : List Value} (hret : meth.sig.returnType = some t) (ht : t = .boolean ∨ t = .byte ∨ t = .char ∨ t = .short)
    (hd : decode c.code pc = .ok (.ireturn, 1)) {Q : Option Value → Heap → List Loc → Prop} {C S : Nat} (hc : cells ≤ C) (hs : slots ≤ S) (hQ : Q (some (.int (nar t z))) T.heap locs) : ownEnds p.tables e below (ownPost s Q C S) (T.setTop (mkF m pc Ls (.int z :: rest))) :=
  ownRet X hlk (fun h => by rw [hret] at h; cases h) (fun fs hr => retN X hx hret ht hd hr) hc hs hQ
theorem ownRetI (X : Stand p l e R s m args below meth c T locs cells slots) (hlk : meth.locks = false) (hx : p.tables.exec = Jvm.exec) {pc : Nat} {Ls : Array Slot} {z : Int32} {rest : List Value} (hret : meth.sig.returnType = some .int)
    (hd : decode c.code pc = .ok (.ireturn, 1)) {Q : Option Value → Heap → List Loc → Prop} {C S : Nat} (hc : cells ≤ C) (hs : slots ≤ S) (hQ : Q (some (.int z)) T.heap locs) : ownEnds p.tables e below (ownPost s Q C S) (T.setTop (mkF m pc Ls (.int z :: rest))) :=
  ownRet X hlk (fun h => by rw [hret] at h; cases h) (fun fs hr => retOut X hx hret rfl (Or.inl ⟨rfl, Or.inl rfl, z, rfl⟩) hd hr) hc hs hQ
theorem ownRetL (X : Stand p l e R s m args below meth c T locs cells slots) (hlk : meth.locks = false) (hx : p.tables.exec = Jvm.exec) {pc : Nat} {Ls : Array Slot} {z : Int64} {rest : List Value} (hret : meth.sig.returnType = some .long)
    (hd : decode c.code pc = .ok (.lreturn, 1)) {Q : Option Value → Heap → List Loc → Prop} {C S : Nat} (hc : cells ≤ C) (hs : slots ≤ S) (hQ : Q (some (.long z)) T.heap locs) : ownEnds p.tables e below (ownPost s Q C S) (T.setTop (mkF m pc Ls (.long z :: rest))) :=
  ownRet X hlk (fun h => by rw [hret] at h; cases h) (fun fs hr => retOut X hx hret rfl (Or.inr (Or.inl ⟨rfl, rfl, z, rfl⟩)) hd hr) hc hs hQ
theorem ownRetA (X : Stand p l e R s m args below meth c T locs cells slots) (hlk : meth.locks = false) (hx : p.tables.exec = Jvm.exec) {pc : Nat} {Ls : Array Slot} {w : Value} {t : FieldType} {rest : List Value} (hret : meth.sig.returnType = some t) (ht : t.isReference = true) (hw : w.isRef = true)
    (hd : decode c.code pc = .ok (.areturn, 1)) {Q : Option Value → Heap → List Loc → Prop} {C S : Nat} (hc : cells ≤ C) (hs : slots ≤ S) (hQ : Q (some w) T.heap locs) : ownEnds p.tables e below (ownPost s Q C S) (T.setTop (mkF m pc Ls (w :: rest))) :=
  ownRet X hlk (fun h => by rw [hret] at h; cases h) (fun fs hr => retOut X hx hret (by rcases ref_cases hw with rfl | ⟨a, rfl⟩ <;> cases t <;> first | rfl | (simp [FieldType.isReference] at ht)) (Or.inr (Or.inr (Or.inr (Or.inr ⟨rfl, ht, hw⟩)))) hd hr) hc hs hQ
theorem ownRetV (X : Stand p l e R s m args below meth c T locs cells slots) (hlk : meth.locks = false) (hx : p.tables.exec = Jvm.exec) {pc : Nat} {Ls : Array Slot} (hret : meth.sig.returnType = none)
    (hd : decode c.code pc = .ok (.return_, 1)) {Q : Option Value → Heap → List Loc → Prop} {C S : Nat} (hc : cells ≤ C) (hs : slots ≤ S) (hQ : Q none T.heap locs) : ownEnds p.tables e below (ownPost s Q C S) (T.setTop (mkF m pc Ls [])) :=
  ownRet X hlk (fun _ => rfl) (fun fs hr => X.returnOut hx hret hd hr) hc hs hQ
theorem ownCallS (X : Stand p l e R s m args below meth c T locs cells slots) (hx : p.tables.exec = Jvm.exec) (hZ : Z.Warmed39 s.vm) {own : String} {index : Nat} (hown : s.vm.findClass own = some m.cls) {y : MethodName} {bytes : ByteArray} {maxL : Nat} {rt : Option FieldType} {rm : Room} {as : List Value} {Q : Option Value → Heap → List Loc → Prop}
    (w1 : (Cond.methodLink own index y).before a0 Z = true) (w2 : (Cond.static y).before a0 Z = true) (w3 : (Cond.initialized y.cls).before a0 Z = true) (w4 : (Cond.code y bytes maxL rt).before a0 Z = true) (hy : y.cls ≠ "java/lang/invoke/MethodHandle" ∧ y.cls ≠ "java/lang/invoke/VarHandle")
    (hM : ownMet l Z y bytes maxL rt [] rm as.toArray h Q) (eT : T.heap = h) (W : Nat) (hf : rm.frames + 1 ≤ R.frames) (hl : W + (maxL + 11) + rm.locals ≤ R.locals) (hc : cells + rm.cells ≤ R.cells) (hs : slots + rm.slots ≤ R.slots)
    {g : JFrame} (hg : g.method = m) (hsize : g.locals.size = c.maxLocals) {rest : List Value} {ps : List FieldType} {r : Option FieldType} (hd : parseMethodDescriptor y.desc = some ⟨ps, r⟩) (hlen : as.length = ps.length) (hstack : g.stack = as.reverse ++ rest) (hW : 2 * g.monitorRoom + (rest.map fun v => v.category).sum ≤ W)
    (hdg : decode c.code g.pc = .ok (.invokestatic index, 3)) :
    ∃ v T' L, Stand p l e R s m args below meth c T' (locs ++ L) (cells + rm.cells) (slots + rm.slots) ∧ Q v T'.heap L ∧ ∀ t, Steps p.tables e below (T'.setTop { g with pc := g.pc + 3, stack := v.toList ++ rest }) t → Steps p.tables e below (T.setTop g) t := by
  obtain ⟨v, _, ⟨T1, L1, k1, n1⟩, -, X1, ⟨Lc, hQ, l1, y1, z1⟩, st⟩ := Jvm.LawKit.callS X hx (y := y) hown (mvT hZ w1) (mvT hZ w2) (mvT hZ w3) (mvT hZ w4) hy (backOf (W := W) hM hZ w4 w3 hf hl) hg hsize (argsL := as) (rest := rest) (lenOf hd hlen) hstack hW hdg (fun _ _ => ⟨rfl, eT, hc, hs⟩)
  dsimp only [Pt.U, Pt.locs, Pt.cells, Pt.slots] at X1 l1 y1 z1 st hQ
  subst l1 y1 z1
  exact ⟨v, T1, Lc, X1, hQ, st⟩
theorem ownCallC (X : Stand p l e R s m args below meth c T locs cells slots) (hx : p.tables.exec = Jvm.exec) (hZ : Z.Warmed39 s.vm) {own : String} {index : Nat} (hown : s.vm.findClass own = some m.cls) {y : MethodName} (hy1 : y.name = "<init>") {bytes : ByteArray} {maxL : Nat} {rm : Room} {a : Addr} {as : List Value} {Q : Option Value → Heap → List Loc → Prop}
    (w1 : (Cond.methodLink own index y).before a0 Z = true) (w2 : (Cond.instanceMethod y).before a0 Z = true) (w3 : (Cond.initialized y.cls).before a0 Z = true) (w4 : (Cond.code y bytes maxL none).before a0 Z = true) (hy : y.cls ≠ "java/lang/invoke/MethodHandle" ∧ y.cls ≠ "java/lang/invoke/VarHandle")
    (hM : ownMet l Z y bytes maxL none [] rm (.ref a :: as).toArray h Q) (eT : T.heap = h) (W : Nat) (hf : rm.frames + 1 ≤ R.frames) (hl : W + (maxL + 11) + rm.locals ≤ R.locals) (hc : cells + rm.cells ≤ R.cells) (hs : slots + rm.slots ≤ R.slots)
    {g : JFrame} (hg : g.method = m) (hsize : g.locals.size = c.maxLocals) {rest : List Value} {ps : List FieldType} {r : Option FieldType} (hd : parseMethodDescriptor y.desc = some ⟨ps, r⟩) (hlen : as.length = ps.length) (hstack : g.stack = as.reverse ++ .ref a :: rest) (hW : 2 * g.monitorRoom + (rest.map fun v => v.category).sum ≤ W)
    (hdg : decode c.code g.pc = .ok (.invokespecial index, 3)) :
    ∃ v T' L, Stand p l e R s m args below meth c T' (locs ++ L) (cells + rm.cells) (slots + rm.slots) ∧ Q v T'.heap L ∧ ∀ t, Steps p.tables e below (T'.setTop { g with pc := g.pc + 3, stack := v.toList ++ rest }) t → Steps p.tables e below (T.setTop g) t := by
  obtain ⟨v, _, ⟨T1, L1, k1, n1⟩, -, X1, ⟨Lc, hQ, l1, y1, z1⟩, st⟩ := X.specialBack hx (y := y) hy1 hown (mvT hZ w1) (mvT hZ w2) (mvT hZ w4) hy (backOf (W := W) hM hZ w4 w3 hf hl) hg hsize (Steps.refl _) (a := a) (argsL := as) (rest := rest) (lenOf hd hlen) hstack hW hdg (fun _ _ => ⟨rfl, eT, hc, hs⟩)
  dsimp only [Pt.U, Pt.locs, Pt.cells, Pt.slots] at X1 l1 y1 z1 st hQ
  subst l1 y1 z1
  exact ⟨v, T1, Lc, X1, hQ, fun t k => st.trans k⟩
theorem ownCallV (X : Stand p l e R s m args below meth c T locs cells slots) (hx : p.tables.exec = Jvm.exec) (hZ : Z.Warmed39 s.vm) {own C : String} {index : Nat} (hown : s.vm.findClass own = some m.cls) {y z : MethodName} {bytes : ByteArray} {maxL : Nat} {rt : Option FieldType} {rm : Room} {a : Addr} {as : List Value} {Q : Option Value → Heap → List Loc → Prop}
    (w1 : (Cond.methodLink own index y).before a0 Z = true) (w2 : (Cond.declares y).before a0 Z = true) (hnf : NotFace s y) (w5 : (Cond.selects C y z).before a0 Z = true) (w6 : (Cond.instanceMethod z).before a0 Z = true) (w3 : (Cond.initialized z.cls).before a0 Z = true) (w4 : (Cond.code z bytes maxL rt).before a0 Z = true) (hy : y.cls ≠ "java/lang/invoke/MethodHandle" ∧ y.cls ≠ "java/lang/invoke/VarHandle")
    (hM : ownMet l Z z bytes maxL rt [] rm (.ref a :: as).toArray h Q) (eT : T.heap = h) (E : Exa Z h a C) (W : Nat) (hf : rm.frames + 1 ≤ R.frames) (hl : W + (maxL + 11) + rm.locals ≤ R.locals) (hc : cells + rm.cells ≤ R.cells) (hs : slots + rm.slots ≤ R.slots)
    {g : JFrame} (hg : g.method = m) (hsize : g.locals.size = c.maxLocals) {rest : List Value} {ps : List FieldType} {r : Option FieldType} (hd : parseMethodDescriptor y.desc = some ⟨ps, r⟩) (hlen : as.length = ps.length) (hstack : g.stack = as.reverse ++ .ref a :: rest) (hW : 2 * g.monitorRoom + (rest.map fun v => v.category).sum ≤ W)
    (hdg : decode c.code g.pc = .ok (.invokevirtual index, 3)) :
    ∃ v T' L, Stand p l e R s m args below meth c T' (locs ++ L) (cells + rm.cells) (slots + rm.slots) ∧ Q v T'.heap L ∧ ∀ t, Steps p.tables e below (T'.setTop { g with pc := g.pc + 3, stack := v.toList ++ rest }) t → Steps p.tables e below (T.setTop g) t := by
  obtain ⟨cq, kq, qa, qb, qc⟩ := isOf hZ eT E
  obtain ⟨v, _, ⟨T1, L1, k1, n1⟩, -, X1, ⟨Lc, hQ, l1, y1, z1⟩, st⟩ := X.virtualBack hx (y := y) (z := z) hown (mvT hZ w1) (mvT hZ w2) hnf (mvT hZ w5) (mvT hZ w6) hy (backOf (W := W) hM hZ w4 w3 hf hl) qa qc hg hsize (Steps.refl _) (argsL := as) (rest := rest) (lenOf hd hlen) hstack hW hdg (fun _ _ => ⟨rfl, eT, hc, hs⟩)
  dsimp only [Pt.U, Pt.locs, Pt.cells, Pt.slots] at X1 l1 y1 z1 st hQ
  subst l1 y1 z1
  exact ⟨v, T1, Lc, X1, hQ, fun t k => st.trans k⟩
theorem ownSelfSel {y z : MethodName} {C : String} (hz : z.cls = y.cls) (wz : (Cond.selects C z z).before args s = true) (hinst : (Cond.instanceMethod y).before args s = true) (hpriv : s.PrivateAt y) (hy : y.cls ≠ "java/lang/invoke/MethodHandle" ∧ y.cls ≠ "java/lang/invoke/VarHandle") : (Cond.selects y.cls y y).before args s = true := by
  obtain ⟨c2, r2, m2, q1, q2, q3, q4, kP, hkP, hkPi⟩ := Cond.selects_spec wz
  exact selects_self_of_private (by rw [← hz]; exact findClass_of_methodNamed q3) hkP hkPi hpriv hinst hy
theorem ownCallP (X : Stand p l e R s m args below meth c T locs cells slots) (hx : p.tables.exec = Jvm.exec) (hZ : Z.Warmed39 s.vm) {own C D : String} {index : Nat} (hown : s.vm.findClass own = some m.cls) {y z : MethodName} {bytes : ByteArray} {maxL : Nat} {rt : Option FieldType} {rm : Room} {a : Addr} {as : List Value} {Q : Option Value → Heap → List Loc → Prop}
    (w1 : (Cond.methodLink own index y).before a0 Z = true) (hz : z.cls = y.cls) (w5 : (Cond.selects C z z).before a0 Z = true) (w6 : (Cond.instanceMethod y).before a0 Z = true) (w7 : (Cond.privateMethod y).before a0 Z = true) (w3 : (Cond.initialized y.cls).before a0 Z = true) (w4 : (Cond.code y bytes maxL rt).before a0 Z = true) (hy : y.cls ≠ "java/lang/invoke/MethodHandle" ∧ y.cls ≠ "java/lang/invoke/VarHandle")
    (hM : ownMet l Z y bytes maxL rt [] rm (.ref a :: as).toArray h Q) (eT : T.heap = h) (E : Exa Z h a D) (W : Nat) (hf : rm.frames + 1 ≤ R.frames) (hl : W + (maxL + 11) + rm.locals ≤ R.locals) (hc : cells + rm.cells ≤ R.cells) (hs : slots + rm.slots ≤ R.slots)
    {g : JFrame} (hg : g.method = m) (hsize : g.locals.size = c.maxLocals) {rest : List Value} {ps : List FieldType} {r : Option FieldType} (hd : parseMethodDescriptor y.desc = some ⟨ps, r⟩) (hlen : as.length = ps.length) (hstack : g.stack = as.reverse ++ .ref a :: rest) (hW : 2 * g.monitorRoom + (rest.map fun v => v.category).sum ≤ W)
    (hdg : decode c.code g.pc = .ok (.invokevirtual index, 3)) :
    ∃ v T' L, Stand p l e R s m args below meth c T' (locs ++ L) (cells + rm.cells) (slots + rm.slots) ∧ Q v T'.heap L ∧ ∀ t, Steps p.tables e below (T'.setTop { g with pc := g.pc + 3, stack := v.toList ++ rest }) t → Steps p.tables e below (T.setTop g) t := by
  obtain ⟨cq, q1, q2⟩ := E.cell
  have hpv : s.PrivateAt y := Cond.privateMethod_at (mvP hZ w7 (args := #[]))
  obtain ⟨v, _, ⟨T1, L1, k1, n1⟩, -, X1, ⟨Lc, hQ, l1, y1, z1⟩, st⟩ := X.privateBack hx (y := y) hown (mvT hZ w1) (mvT hZ w6) (ownSelfSel hz (mvT hZ w5) (mvT hZ w6) hpv hy) hpv (mvT hZ w4) hy (backOf (W := W) hM hZ w4 w3 hf hl) hg hsize (Steps.refl _) (a := a) (by rw [eT]; exact q1) q2 (argsL := as) (rest := rest) (lenOf hd hlen) hstack hW hdg (fun _ _ => ⟨rfl, eT, hc, hs⟩)
  dsimp only [Pt.U, Pt.locs, Pt.cells, Pt.slots] at X1 l1 y1 z1 st hQ
  subst l1 y1 z1
  exact ⟨v, T1, Lc, X1, hQ, fun t k => st.trans k⟩
end OwnKit
theorem wd_0 {Z : State} {a0 : Array Value} (hw : ∀ d ∈ tables_1, d.before a0 Z = true) : (Jvm.Cond.classLink "com/example/tallydb/tallydb/TokenCountsWithSharesOfPinLaw" (7 : Nat) "com/example/tallydb/tallydb/TokenCounts").before a0 Z = true := hw _ (List.mem_of_getElem? (i := 0) rfl)
theorem wd_1 {Z : State} {a0 : Array Value} (hw : ∀ d ∈ tables_1, d.before a0 Z = true) : (Jvm.Cond.instantiable "com/example/tallydb/tallydb/TokenCounts" (7 : Nat)).before a0 Z = true := hw _ (List.mem_of_getElem? (i := 1) rfl)
theorem wd_2 {Z : State} {a0 : Array Value} (hw : ∀ d ∈ tables_1, d.before a0 Z = true) : (Jvm.Cond.initialized "com/example/tallydb/tallydb/TokenCounts").before a0 Z = true := hw _ (List.mem_of_getElem? (i := 2) rfl)
theorem wd_3 {Z : State} {a0 : Array Value} (hw : ∀ d ∈ tables_1, d.before a0 Z = true) : (Jvm.Cond.methodLink "com/example/tallydb/tallydb/TokenCountsWithSharesOfPinLaw" (9 : Nat) ({ cls := "com/example/tallydb/tallydb/TokenCounts", name := "<init>", desc := "(JJJJJJJ)V" } : Jvm.MethodName)).before a0 Z = true := hw _ (List.mem_of_getElem? (i := 3) rfl)
theorem wd_4 {Z : State} {a0 : Array Value} (hw : ∀ d ∈ tables_1, d.before a0 Z = true) : (Jvm.Cond.instanceMethod ({ cls := "com/example/tallydb/tallydb/TokenCounts", name := "<init>", desc := "(JJJJJJJ)V" } : Jvm.MethodName)).before a0 Z = true := hw _ (List.mem_of_getElem? (i := 4) rfl)
theorem wd_5 {Z : State} {a0 : Array Value} (hw : ∀ d ∈ tables_1, d.before a0 Z = true) : (Jvm.Cond.code ({ cls := "com/example/tallydb/tallydb/TokenCounts", name := "<init>", desc := "(JJJJJJJ)V" } : Jvm.MethodName) prog_36_method_2_code (15 : Nat) (Option.none : Option Jvm.ClassFile.FieldType)).before a0 Z = true := hw _ (List.mem_of_getElem? (i := 5) rfl)
theorem wd_6 {Z : State} {a0 : Array Value} (hw : ∀ d ∈ tables_1, d.before a0 Z = true) : (Jvm.Cond.methodLink "com/example/tallydb/tallydb/TokenCounts" (1 : Nat) ({ cls := "java/lang/Record", name := "<init>", desc := "()V" } : Jvm.MethodName)).before a0 Z = true := hw _ (List.mem_of_getElem? (i := 6) rfl)
theorem wd_7 {Z : State} {a0 : Array Value} (hw : ∀ d ∈ tables_1, d.before a0 Z = true) : (Jvm.Cond.instanceMethod ({ cls := "java/lang/Record", name := "<init>", desc := "()V" } : Jvm.MethodName)).before a0 Z = true := hw _ (List.mem_of_getElem? (i := 7) rfl)
theorem wd_9 {Z : State} {a0 : Array Value} (hw : ∀ d ∈ tables_1, d.before a0 Z = true) : (Jvm.Cond.initialized "java/lang/Record").before a0 Z = true := hw _ (List.mem_of_getElem? (i := 9) rfl)
theorem wd_10 {Z : State} {a0 : Array Value} (hw : ∀ d ∈ tables_1, d.before a0 Z = true) : (Jvm.Cond.code ({ cls := "java/lang/Record", name := "<init>", desc := "()V" } : Jvm.MethodName) jdk_30_method_1_code (1 : Nat) (Option.none : Option Jvm.ClassFile.FieldType)).before a0 Z = true := hw _ (List.mem_of_getElem? (i := 10) rfl)
theorem wd_11 {Z : State} {a0 : Array Value} (hw : ∀ d ∈ tables_1, d.before a0 Z = true) : (Jvm.Cond.methodLink "java/lang/Record" (1 : Nat) ({ cls := "java/lang/Object", name := "<init>", desc := "()V" } : Jvm.MethodName)).before a0 Z = true := hw _ (List.mem_of_getElem? (i := 11) rfl)
theorem wd_12 {Z : State} {a0 : Array Value} (hw : ∀ d ∈ tables_1, d.before a0 Z = true) : (Jvm.Cond.instanceMethod ({ cls := "java/lang/Object", name := "<init>", desc := "()V" } : Jvm.MethodName)).before a0 Z = true := hw _ (List.mem_of_getElem? (i := 12) rfl)
theorem wd_13 {Z : State} {a0 : Array Value} (hw : ∀ d ∈ tables_1, d.before a0 Z = true) : (Jvm.Cond.code ({ cls := "java/lang/Object", name := "<init>", desc := "()V" } : Jvm.MethodName) object_method_1_code (1 : Nat) (Option.none : Option Jvm.ClassFile.FieldType)).before a0 Z = true := hw _ (List.mem_of_getElem? (i := 13) rfl)
theorem wd_14 {Z : State} {a0 : Array Value} (hw : ∀ d ∈ tables_1, d.before a0 Z = true) : (Jvm.Cond.fieldLink "com/example/tallydb/tallydb/TokenCounts" (7 : Nat) "com/example/tallydb/tallydb/TokenCounts" "prompt" "J").before a0 Z = true := hw _ (List.mem_of_getElem? (i := 14) rfl)
theorem wd_15 {Z : State} {a0 : Array Value} (hw : ∀ d ∈ tables_1, d.before a0 Z = true) : (Jvm.Cond.laysFinal "com/example/tallydb/tallydb/TokenCounts" "com/example/tallydb/tallydb/TokenCounts" "prompt" "J").before a0 Z = true := hw _ (List.mem_of_getElem? (i := 15) rfl)
theorem wd_16 {Z : State} {a0 : Array Value} (hw : ∀ d ∈ tables_1, d.before a0 Z = true) : (Jvm.Cond.fieldLink "com/example/tallydb/tallydb/TokenCounts" (13 : Nat) "com/example/tallydb/tallydb/TokenCounts" "cachedPrompt" "J").before a0 Z = true := hw _ (List.mem_of_getElem? (i := 16) rfl)
theorem wd_17 {Z : State} {a0 : Array Value} (hw : ∀ d ∈ tables_1, d.before a0 Z = true) : (Jvm.Cond.laysFinal "com/example/tallydb/tallydb/TokenCounts" "com/example/tallydb/tallydb/TokenCounts" "cachedPrompt" "J").before a0 Z = true := hw _ (List.mem_of_getElem? (i := 17) rfl)
theorem wd_18 {Z : State} {a0 : Array Value} (hw : ∀ d ∈ tables_1, d.before a0 Z = true) : (Jvm.Cond.fieldLink "com/example/tallydb/tallydb/TokenCounts" (16 : Nat) "com/example/tallydb/tallydb/TokenCounts" "cacheWritePrompt" "J").before a0 Z = true := hw _ (List.mem_of_getElem? (i := 18) rfl)
theorem wd_19 {Z : State} {a0 : Array Value} (hw : ∀ d ∈ tables_1, d.before a0 Z = true) : (Jvm.Cond.laysFinal "com/example/tallydb/tallydb/TokenCounts" "com/example/tallydb/tallydb/TokenCounts" "cacheWritePrompt" "J").before a0 Z = true := hw _ (List.mem_of_getElem? (i := 19) rfl)
theorem wd_20 {Z : State} {a0 : Array Value} (hw : ∀ d ∈ tables_1, d.before a0 Z = true) : (Jvm.Cond.fieldLink "com/example/tallydb/tallydb/TokenCounts" (19 : Nat) "com/example/tallydb/tallydb/TokenCounts" "completion" "J").before a0 Z = true := hw _ (List.mem_of_getElem? (i := 20) rfl)
theorem wd_21 {Z : State} {a0 : Array Value} (hw : ∀ d ∈ tables_1, d.before a0 Z = true) : (Jvm.Cond.laysFinal "com/example/tallydb/tallydb/TokenCounts" "com/example/tallydb/tallydb/TokenCounts" "completion" "J").before a0 Z = true := hw _ (List.mem_of_getElem? (i := 21) rfl)
theorem wd_22 {Z : State} {a0 : Array Value} (hw : ∀ d ∈ tables_1, d.before a0 Z = true) : (Jvm.Cond.fieldLink "com/example/tallydb/tallydb/TokenCounts" (22 : Nat) "com/example/tallydb/tallydb/TokenCounts" "cacheWrite1hPrompt" "J").before a0 Z = true := hw _ (List.mem_of_getElem? (i := 22) rfl)
theorem wd_23 {Z : State} {a0 : Array Value} (hw : ∀ d ∈ tables_1, d.before a0 Z = true) : (Jvm.Cond.laysFinal "com/example/tallydb/tallydb/TokenCounts" "com/example/tallydb/tallydb/TokenCounts" "cacheWrite1hPrompt" "J").before a0 Z = true := hw _ (List.mem_of_getElem? (i := 23) rfl)
theorem wd_24 {Z : State} {a0 : Array Value} (hw : ∀ d ∈ tables_1, d.before a0 Z = true) : (Jvm.Cond.fieldLink "com/example/tallydb/tallydb/TokenCounts" (25 : Nat) "com/example/tallydb/tallydb/TokenCounts" "audioPrompt" "J").before a0 Z = true := hw _ (List.mem_of_getElem? (i := 24) rfl)
theorem wd_25 {Z : State} {a0 : Array Value} (hw : ∀ d ∈ tables_1, d.before a0 Z = true) : (Jvm.Cond.laysFinal "com/example/tallydb/tallydb/TokenCounts" "com/example/tallydb/tallydb/TokenCounts" "audioPrompt" "J").before a0 Z = true := hw _ (List.mem_of_getElem? (i := 25) rfl)
theorem wd_26 {Z : State} {a0 : Array Value} (hw : ∀ d ∈ tables_1, d.before a0 Z = true) : (Jvm.Cond.fieldLink "com/example/tallydb/tallydb/TokenCounts" (28 : Nat) "com/example/tallydb/tallydb/TokenCounts" "audioCompletion" "J").before a0 Z = true := hw _ (List.mem_of_getElem? (i := 26) rfl)
theorem wd_27 {Z : State} {a0 : Array Value} (hw : ∀ d ∈ tables_1, d.before a0 Z = true) : (Jvm.Cond.laysFinal "com/example/tallydb/tallydb/TokenCounts" "com/example/tallydb/tallydb/TokenCounts" "audioCompletion" "J").before a0 Z = true := hw _ (List.mem_of_getElem? (i := 27) rfl)
theorem wd_28 {Z : State} {a0 : Array Value} (hw : ∀ d ∈ tables_1, d.before a0 Z = true) : (Jvm.Cond.methodLink "com/example/tallydb/tallydb/TokenCountsWithSharesOfPinLaw" (12 : Nat) ({ cls := "com/example/tallydb/tallydb/TokenCounts", name := "withSharesOf", desc := "(Lcom/example/tallydb/tallydb/TokenCounts;)Lcom/example/tallydb/tallydb/TokenCounts;" } : Jvm.MethodName)).before a0 Z = true := hw _ (List.mem_of_getElem? (i := 28) rfl)
theorem wd_29 {Z : State} {a0 : Array Value} (hw : ∀ d ∈ tables_1, d.before a0 Z = true) : (Jvm.Cond.declares ({ cls := "com/example/tallydb/tallydb/TokenCounts", name := "withSharesOf", desc := "(Lcom/example/tallydb/tallydb/TokenCounts;)Lcom/example/tallydb/tallydb/TokenCounts;" } : Jvm.MethodName)).before a0 Z = true := hw _ (List.mem_of_getElem? (i := 29) rfl)
theorem wd_30 {Z : State} {a0 : Array Value} (hw : ∀ d ∈ tables_1, d.before a0 Z = true) : (Jvm.Cond.instanceMethod ({ cls := "com/example/tallydb/tallydb/TokenCounts", name := "withSharesOf", desc := "(Lcom/example/tallydb/tallydb/TokenCounts;)Lcom/example/tallydb/tallydb/TokenCounts;" } : Jvm.MethodName)).before a0 Z = true := hw _ (List.mem_of_getElem? (i := 30) rfl)
theorem wd_31 {Z : State} {a0 : Array Value} (hw : ∀ d ∈ tables_1, d.before a0 Z = true) : (Jvm.Cond.selects "com/example/tallydb/tallydb/TokenCounts" ({ cls := "com/example/tallydb/tallydb/TokenCounts", name := "withSharesOf", desc := "(Lcom/example/tallydb/tallydb/TokenCounts;)Lcom/example/tallydb/tallydb/TokenCounts;" } : Jvm.MethodName) ({ cls := "com/example/tallydb/tallydb/TokenCounts", name := "withSharesOf", desc := "(Lcom/example/tallydb/tallydb/TokenCounts;)Lcom/example/tallydb/tallydb/TokenCounts;" } : Jvm.MethodName)).before a0 Z = true := hw _ (List.mem_of_getElem? (i := 31) rfl)
theorem wd_32 {Z : State} {a0 : Array Value} (hw : ∀ d ∈ tables_1, d.before a0 Z = true) : (Jvm.Cond.code ({ cls := "com/example/tallydb/tallydb/TokenCounts", name := "withSharesOf", desc := "(Lcom/example/tallydb/tallydb/TokenCounts;)Lcom/example/tallydb/tallydb/TokenCounts;" } : Jvm.MethodName) prog_36_method_7_code (2 : Nat) (Option.some (Jvm.ClassFile.FieldType.object "com/example/tallydb/tallydb/TokenCounts"))).before a0 Z = true := hw _ (List.mem_of_getElem? (i := 32) rfl)
theorem wd_33 {Z : State} {a0 : Array Value} (hw : ∀ d ∈ tables_1, d.before a0 Z = true) : (Jvm.Cond.classLink "com/example/tallydb/tallydb/TokenCounts" (8 : Nat) "com/example/tallydb/tallydb/TokenCounts").before a0 Z = true := hw _ (List.mem_of_getElem? (i := 33) rfl)
theorem wd_34 {Z : State} {a0 : Array Value} (hw : ∀ d ∈ tables_1, d.before a0 Z = true) : (Jvm.Cond.methodLink "com/example/tallydb/tallydb/TokenCounts" (31 : Nat) ({ cls := "com/example/tallydb/tallydb/TokenCounts", name := "<init>", desc := "(JJJJJJJ)V" } : Jvm.MethodName)).before a0 Z = true := hw _ (List.mem_of_getElem? (i := 34) rfl)
theorem wd_35 {Z : State} {a0 : Array Value} (hw : ∀ d ∈ tables_1, d.before a0 Z = true) : (Jvm.Cond.methodLink "com/example/tallydb/tallydb/TokenCountsWithSharesOfPinLaw" (16 : Nat) ({ cls := "com/example/tallydb/tallydb/TokenCounts", name := "prompt", desc := "()J" } : Jvm.MethodName)).before a0 Z = true := hw _ (List.mem_of_getElem? (i := 35) rfl)
theorem wd_36 {Z : State} {a0 : Array Value} (hw : ∀ d ∈ tables_1, d.before a0 Z = true) : (Jvm.Cond.declares ({ cls := "com/example/tallydb/tallydb/TokenCounts", name := "prompt", desc := "()J" } : Jvm.MethodName)).before a0 Z = true := hw _ (List.mem_of_getElem? (i := 36) rfl)
theorem wd_37 {Z : State} {a0 : Array Value} (hw : ∀ d ∈ tables_1, d.before a0 Z = true) : (Jvm.Cond.instanceMethod ({ cls := "com/example/tallydb/tallydb/TokenCounts", name := "prompt", desc := "()J" } : Jvm.MethodName)).before a0 Z = true := hw _ (List.mem_of_getElem? (i := 37) rfl)
theorem wd_38 {Z : State} {a0 : Array Value} (hw : ∀ d ∈ tables_1, d.before a0 Z = true) : (Jvm.Cond.selects "com/example/tallydb/tallydb/TokenCounts" ({ cls := "com/example/tallydb/tallydb/TokenCounts", name := "prompt", desc := "()J" } : Jvm.MethodName) ({ cls := "com/example/tallydb/tallydb/TokenCounts", name := "prompt", desc := "()J" } : Jvm.MethodName)).before a0 Z = true := hw _ (List.mem_of_getElem? (i := 38) rfl)
theorem wd_39 {Z : State} {a0 : Array Value} (hw : ∀ d ∈ tables_1, d.before a0 Z = true) : (Jvm.Cond.code ({ cls := "com/example/tallydb/tallydb/TokenCounts", name := "prompt", desc := "()J" } : Jvm.MethodName) prog_36_method_11_code (1 : Nat) (Option.some Jvm.ClassFile.FieldType.long)).before a0 Z = true := hw _ (List.mem_of_getElem? (i := 39) rfl)
theorem wd_40 {Z : State} {a0 : Array Value} (hw : ∀ d ∈ tables_1, d.before a0 Z = true) : (Jvm.Cond.methodLink "com/example/tallydb/tallydb/TokenCountsWithSharesOfPinLaw" (20 : Nat) ({ cls := "com/example/tallydb/tallydb/TokenCounts", name := "cachedPrompt", desc := "()J" } : Jvm.MethodName)).before a0 Z = true := hw _ (List.mem_of_getElem? (i := 40) rfl)
theorem wd_41 {Z : State} {a0 : Array Value} (hw : ∀ d ∈ tables_1, d.before a0 Z = true) : (Jvm.Cond.declares ({ cls := "com/example/tallydb/tallydb/TokenCounts", name := "cachedPrompt", desc := "()J" } : Jvm.MethodName)).before a0 Z = true := hw _ (List.mem_of_getElem? (i := 41) rfl)
theorem wd_42 {Z : State} {a0 : Array Value} (hw : ∀ d ∈ tables_1, d.before a0 Z = true) : (Jvm.Cond.instanceMethod ({ cls := "com/example/tallydb/tallydb/TokenCounts", name := "cachedPrompt", desc := "()J" } : Jvm.MethodName)).before a0 Z = true := hw _ (List.mem_of_getElem? (i := 42) rfl)
theorem wd_43 {Z : State} {a0 : Array Value} (hw : ∀ d ∈ tables_1, d.before a0 Z = true) : (Jvm.Cond.selects "com/example/tallydb/tallydb/TokenCounts" ({ cls := "com/example/tallydb/tallydb/TokenCounts", name := "cachedPrompt", desc := "()J" } : Jvm.MethodName) ({ cls := "com/example/tallydb/tallydb/TokenCounts", name := "cachedPrompt", desc := "()J" } : Jvm.MethodName)).before a0 Z = true := hw _ (List.mem_of_getElem? (i := 43) rfl)
theorem wd_44 {Z : State} {a0 : Array Value} (hw : ∀ d ∈ tables_1, d.before a0 Z = true) : (Jvm.Cond.code ({ cls := "com/example/tallydb/tallydb/TokenCounts", name := "cachedPrompt", desc := "()J" } : Jvm.MethodName) prog_36_method_12_code (1 : Nat) (Option.some Jvm.ClassFile.FieldType.long)).before a0 Z = true := hw _ (List.mem_of_getElem? (i := 44) rfl)
theorem wd_45 {Z : State} {a0 : Array Value} (hw : ∀ d ∈ tables_1, d.before a0 Z = true) : (Jvm.Cond.methodLink "com/example/tallydb/tallydb/TokenCountsWithSharesOfPinLaw" (23 : Nat) ({ cls := "com/example/tallydb/tallydb/TokenCounts", name := "cacheWritePrompt", desc := "()J" } : Jvm.MethodName)).before a0 Z = true := hw _ (List.mem_of_getElem? (i := 45) rfl)
theorem wd_46 {Z : State} {a0 : Array Value} (hw : ∀ d ∈ tables_1, d.before a0 Z = true) : (Jvm.Cond.declares ({ cls := "com/example/tallydb/tallydb/TokenCounts", name := "cacheWritePrompt", desc := "()J" } : Jvm.MethodName)).before a0 Z = true := hw _ (List.mem_of_getElem? (i := 46) rfl)
theorem wd_47 {Z : State} {a0 : Array Value} (hw : ∀ d ∈ tables_1, d.before a0 Z = true) : (Jvm.Cond.instanceMethod ({ cls := "com/example/tallydb/tallydb/TokenCounts", name := "cacheWritePrompt", desc := "()J" } : Jvm.MethodName)).before a0 Z = true := hw _ (List.mem_of_getElem? (i := 47) rfl)
theorem wd_48 {Z : State} {a0 : Array Value} (hw : ∀ d ∈ tables_1, d.before a0 Z = true) : (Jvm.Cond.selects "com/example/tallydb/tallydb/TokenCounts" ({ cls := "com/example/tallydb/tallydb/TokenCounts", name := "cacheWritePrompt", desc := "()J" } : Jvm.MethodName) ({ cls := "com/example/tallydb/tallydb/TokenCounts", name := "cacheWritePrompt", desc := "()J" } : Jvm.MethodName)).before a0 Z = true := hw _ (List.mem_of_getElem? (i := 48) rfl)
theorem wd_49 {Z : State} {a0 : Array Value} (hw : ∀ d ∈ tables_1, d.before a0 Z = true) : (Jvm.Cond.code ({ cls := "com/example/tallydb/tallydb/TokenCounts", name := "cacheWritePrompt", desc := "()J" } : Jvm.MethodName) prog_36_method_13_code (1 : Nat) (Option.some Jvm.ClassFile.FieldType.long)).before a0 Z = true := hw _ (List.mem_of_getElem? (i := 49) rfl)
theorem wd_50 {Z : State} {a0 : Array Value} (hw : ∀ d ∈ tables_1, d.before a0 Z = true) : (Jvm.Cond.methodLink "com/example/tallydb/tallydb/TokenCountsWithSharesOfPinLaw" (26 : Nat) ({ cls := "com/example/tallydb/tallydb/TokenCounts", name := "completion", desc := "()J" } : Jvm.MethodName)).before a0 Z = true := hw _ (List.mem_of_getElem? (i := 50) rfl)
theorem wd_51 {Z : State} {a0 : Array Value} (hw : ∀ d ∈ tables_1, d.before a0 Z = true) : (Jvm.Cond.declares ({ cls := "com/example/tallydb/tallydb/TokenCounts", name := "completion", desc := "()J" } : Jvm.MethodName)).before a0 Z = true := hw _ (List.mem_of_getElem? (i := 51) rfl)
theorem wd_52 {Z : State} {a0 : Array Value} (hw : ∀ d ∈ tables_1, d.before a0 Z = true) : (Jvm.Cond.instanceMethod ({ cls := "com/example/tallydb/tallydb/TokenCounts", name := "completion", desc := "()J" } : Jvm.MethodName)).before a0 Z = true := hw _ (List.mem_of_getElem? (i := 52) rfl)
theorem wd_53 {Z : State} {a0 : Array Value} (hw : ∀ d ∈ tables_1, d.before a0 Z = true) : (Jvm.Cond.selects "com/example/tallydb/tallydb/TokenCounts" ({ cls := "com/example/tallydb/tallydb/TokenCounts", name := "completion", desc := "()J" } : Jvm.MethodName) ({ cls := "com/example/tallydb/tallydb/TokenCounts", name := "completion", desc := "()J" } : Jvm.MethodName)).before a0 Z = true := hw _ (List.mem_of_getElem? (i := 53) rfl)
theorem wd_54 {Z : State} {a0 : Array Value} (hw : ∀ d ∈ tables_1, d.before a0 Z = true) : (Jvm.Cond.code ({ cls := "com/example/tallydb/tallydb/TokenCounts", name := "completion", desc := "()J" } : Jvm.MethodName) prog_36_method_14_code (1 : Nat) (Option.some Jvm.ClassFile.FieldType.long)).before a0 Z = true := hw _ (List.mem_of_getElem? (i := 54) rfl)
theorem wd_55 {Z : State} {a0 : Array Value} (hw : ∀ d ∈ tables_1, d.before a0 Z = true) : (Jvm.Cond.methodLink "com/example/tallydb/tallydb/TokenCountsWithSharesOfPinLaw" (29 : Nat) ({ cls := "com/example/tallydb/tallydb/TokenCounts", name := "cacheWrite1hPrompt", desc := "()J" } : Jvm.MethodName)).before a0 Z = true := hw _ (List.mem_of_getElem? (i := 55) rfl)
theorem wd_56 {Z : State} {a0 : Array Value} (hw : ∀ d ∈ tables_1, d.before a0 Z = true) : (Jvm.Cond.declares ({ cls := "com/example/tallydb/tallydb/TokenCounts", name := "cacheWrite1hPrompt", desc := "()J" } : Jvm.MethodName)).before a0 Z = true := hw _ (List.mem_of_getElem? (i := 56) rfl)
theorem wd_57 {Z : State} {a0 : Array Value} (hw : ∀ d ∈ tables_1, d.before a0 Z = true) : (Jvm.Cond.instanceMethod ({ cls := "com/example/tallydb/tallydb/TokenCounts", name := "cacheWrite1hPrompt", desc := "()J" } : Jvm.MethodName)).before a0 Z = true := hw _ (List.mem_of_getElem? (i := 57) rfl)
theorem wd_58 {Z : State} {a0 : Array Value} (hw : ∀ d ∈ tables_1, d.before a0 Z = true) : (Jvm.Cond.selects "com/example/tallydb/tallydb/TokenCounts" ({ cls := "com/example/tallydb/tallydb/TokenCounts", name := "cacheWrite1hPrompt", desc := "()J" } : Jvm.MethodName) ({ cls := "com/example/tallydb/tallydb/TokenCounts", name := "cacheWrite1hPrompt", desc := "()J" } : Jvm.MethodName)).before a0 Z = true := hw _ (List.mem_of_getElem? (i := 58) rfl)
theorem wd_59 {Z : State} {a0 : Array Value} (hw : ∀ d ∈ tables_1, d.before a0 Z = true) : (Jvm.Cond.code ({ cls := "com/example/tallydb/tallydb/TokenCounts", name := "cacheWrite1hPrompt", desc := "()J" } : Jvm.MethodName) prog_36_method_15_code (1 : Nat) (Option.some Jvm.ClassFile.FieldType.long)).before a0 Z = true := hw _ (List.mem_of_getElem? (i := 59) rfl)
theorem wd_60 {Z : State} {a0 : Array Value} (hw : ∀ d ∈ tables_1, d.before a0 Z = true) : (Jvm.Cond.methodLink "com/example/tallydb/tallydb/TokenCountsWithSharesOfPinLaw" (32 : Nat) ({ cls := "com/example/tallydb/tallydb/TokenCounts", name := "audioPrompt", desc := "()J" } : Jvm.MethodName)).before a0 Z = true := hw _ (List.mem_of_getElem? (i := 60) rfl)
theorem wd_61 {Z : State} {a0 : Array Value} (hw : ∀ d ∈ tables_1, d.before a0 Z = true) : (Jvm.Cond.declares ({ cls := "com/example/tallydb/tallydb/TokenCounts", name := "audioPrompt", desc := "()J" } : Jvm.MethodName)).before a0 Z = true := hw _ (List.mem_of_getElem? (i := 61) rfl)
theorem wd_62 {Z : State} {a0 : Array Value} (hw : ∀ d ∈ tables_1, d.before a0 Z = true) : (Jvm.Cond.instanceMethod ({ cls := "com/example/tallydb/tallydb/TokenCounts", name := "audioPrompt", desc := "()J" } : Jvm.MethodName)).before a0 Z = true := hw _ (List.mem_of_getElem? (i := 62) rfl)
theorem wd_63 {Z : State} {a0 : Array Value} (hw : ∀ d ∈ tables_1, d.before a0 Z = true) : (Jvm.Cond.selects "com/example/tallydb/tallydb/TokenCounts" ({ cls := "com/example/tallydb/tallydb/TokenCounts", name := "audioPrompt", desc := "()J" } : Jvm.MethodName) ({ cls := "com/example/tallydb/tallydb/TokenCounts", name := "audioPrompt", desc := "()J" } : Jvm.MethodName)).before a0 Z = true := hw _ (List.mem_of_getElem? (i := 63) rfl)
theorem wd_64 {Z : State} {a0 : Array Value} (hw : ∀ d ∈ tables_1, d.before a0 Z = true) : (Jvm.Cond.code ({ cls := "com/example/tallydb/tallydb/TokenCounts", name := "audioPrompt", desc := "()J" } : Jvm.MethodName) prog_36_method_16_code (1 : Nat) (Option.some Jvm.ClassFile.FieldType.long)).before a0 Z = true := hw _ (List.mem_of_getElem? (i := 64) rfl)
theorem wd_65 {Z : State} {a0 : Array Value} (hw : ∀ d ∈ tables_1, d.before a0 Z = true) : (Jvm.Cond.methodLink "com/example/tallydb/tallydb/TokenCountsWithSharesOfPinLaw" (35 : Nat) ({ cls := "com/example/tallydb/tallydb/TokenCounts", name := "audioCompletion", desc := "()J" } : Jvm.MethodName)).before a0 Z = true := hw _ (List.mem_of_getElem? (i := 65) rfl)
theorem wd_66 {Z : State} {a0 : Array Value} (hw : ∀ d ∈ tables_1, d.before a0 Z = true) : (Jvm.Cond.declares ({ cls := "com/example/tallydb/tallydb/TokenCounts", name := "audioCompletion", desc := "()J" } : Jvm.MethodName)).before a0 Z = true := hw _ (List.mem_of_getElem? (i := 66) rfl)
theorem wd_67 {Z : State} {a0 : Array Value} (hw : ∀ d ∈ tables_1, d.before a0 Z = true) : (Jvm.Cond.instanceMethod ({ cls := "com/example/tallydb/tallydb/TokenCounts", name := "audioCompletion", desc := "()J" } : Jvm.MethodName)).before a0 Z = true := hw _ (List.mem_of_getElem? (i := 67) rfl)
theorem wd_68 {Z : State} {a0 : Array Value} (hw : ∀ d ∈ tables_1, d.before a0 Z = true) : (Jvm.Cond.selects "com/example/tallydb/tallydb/TokenCounts" ({ cls := "com/example/tallydb/tallydb/TokenCounts", name := "audioCompletion", desc := "()J" } : Jvm.MethodName) ({ cls := "com/example/tallydb/tallydb/TokenCounts", name := "audioCompletion", desc := "()J" } : Jvm.MethodName)).before a0 Z = true := hw _ (List.mem_of_getElem? (i := 68) rfl)
theorem wd_69 {Z : State} {a0 : Array Value} (hw : ∀ d ∈ tables_1, d.before a0 Z = true) : (Jvm.Cond.code ({ cls := "com/example/tallydb/tallydb/TokenCounts", name := "audioCompletion", desc := "()J" } : Jvm.MethodName) prog_36_method_17_code (1 : Nat) (Option.some Jvm.ClassFile.FieldType.long)).before a0 Z = true := hw _ (List.mem_of_getElem? (i := 69) rfl)
theorem ef_rm2 : ∀ (m : MethodId) (oa : Addr), entryFrame m #[(.ref oa)] 1 = mkF m 0 #[.val (.ref oa)] [] := by intros; first | (simp [entryFrame, mkF, argsToLocals, Value.category]; done) | rfl
theorem d2_0 : decode jdk_30_method_1_code 0 = .ok (.aload_n 0, 1) := by decide +kernel
theorem d2_1 : decode jdk_30_method_1_code 1 = .ok (.invokespecial 1, 3) := by decide +kernel
theorem d2_4 : decode jdk_30_method_1_code 4 = .ok (.return_, 1) := by decide +kernel
theorem pn_2 : plainName "java/lang/Record" = true := by first | (simp [plainName, overriddenIn]; done) | decide +kernel
theorem ef_rm1 : ∀ (m : MethodId) (oa : Addr) (qa : Int64) (qb : Int64) (qc : Int64) (qd : Int64) (qe : Int64) (qf : Int64) (qg : Int64), entryFrame m #[(.ref oa), (.long qa), (.long qb), (.long qc), (.long qd), (.long qe), (.long qf), (.long qg)] 15 = mkF m 0 #[.val (.ref oa), .val (.long qa), .second, .val (.long qb), .second, .val (.long qc), .second, .val (.long qd), .second, .val (.long qe), .second, .val (.long qf), .second, .val (.long qg), .second] [] := by intros; first | (simp [entryFrame, mkF, argsToLocals, Value.category]; done) | rfl
theorem d1_0 : decode prog_36_method_2_code 0 = .ok (.aload_n 0, 1) := by decide +kernel
theorem pd_0 : parseMethodDescriptor "()V" = some ⟨[], none⟩ := by decide +kernel
theorem d1_1 : decode prog_36_method_2_code 1 = .ok (.invokespecial 1, 3) := by decide +kernel
theorem d1_4 : decode prog_36_method_2_code 4 = .ok (.aload_n 0, 1) := by decide +kernel
theorem d1_5 : decode prog_36_method_2_code 5 = .ok (.lload_n 1, 1) := by decide +kernel
theorem d1_6 : decode prog_36_method_2_code 6 = .ok (.putfield 7, 3) := by decide +kernel
theorem d1_9 : decode prog_36_method_2_code 9 = .ok (.aload_n 0, 1) := by decide +kernel
theorem d1_10 : decode prog_36_method_2_code 10 = .ok (.lload_n 3, 1) := by decide +kernel
theorem d1_11 : decode prog_36_method_2_code 11 = .ok (.putfield 13, 3) := by decide +kernel
theorem d1_14 : decode prog_36_method_2_code 14 = .ok (.aload_n 0, 1) := by decide +kernel
theorem d1_15 : decode prog_36_method_2_code 15 = .ok (.lload 5, 2) := by decide +kernel
theorem d1_17 : decode prog_36_method_2_code 17 = .ok (.putfield 16, 3) := by decide +kernel
theorem d1_20 : decode prog_36_method_2_code 20 = .ok (.aload_n 0, 1) := by decide +kernel
theorem d1_21 : decode prog_36_method_2_code 21 = .ok (.lload 7, 2) := by decide +kernel
theorem d1_23 : decode prog_36_method_2_code 23 = .ok (.putfield 19, 3) := by decide +kernel
theorem d1_26 : decode prog_36_method_2_code 26 = .ok (.aload_n 0, 1) := by decide +kernel
theorem d1_27 : decode prog_36_method_2_code 27 = .ok (.lload 9, 2) := by decide +kernel
theorem d1_29 : decode prog_36_method_2_code 29 = .ok (.putfield 22, 3) := by decide +kernel
theorem d1_32 : decode prog_36_method_2_code 32 = .ok (.aload_n 0, 1) := by decide +kernel
theorem d1_33 : decode prog_36_method_2_code 33 = .ok (.lload 11, 2) := by decide +kernel
theorem d1_35 : decode prog_36_method_2_code 35 = .ok (.putfield 25, 3) := by decide +kernel
theorem d1_38 : decode prog_36_method_2_code 38 = .ok (.aload_n 0, 1) := by decide +kernel
theorem d1_39 : decode prog_36_method_2_code 39 = .ok (.lload 13, 2) := by decide +kernel
theorem d1_41 : decode prog_36_method_2_code 41 = .ok (.putfield 28, 3) := by decide +kernel
theorem d1_44 : decode prog_36_method_2_code 44 = .ok (.return_, 1) := by decide +kernel
theorem pn_1 : plainName "com/example/tallydb/tallydb/TokenCounts" = true := by first | (simp [plainName, overriddenIn]; done) | decide +kernel
theorem ef_rm4 : ∀ (m : MethodId) (oa : Addr) (ob : Addr), entryFrame m #[(.ref oa), (.ref ob)] 2 = mkF m 0 #[.val (.ref oa), .val (.ref ob)] [] := by intros; first | (simp [entryFrame, mkF, argsToLocals, Value.category]; done) | rfl
theorem d4_0 : decode prog_36_method_7_code 0 = .ok (.new 8, 3) := by decide +kernel
theorem d4_3 : decode prog_36_method_7_code 3 = .ok (.dup, 1) := by decide +kernel
theorem d4_4 : decode prog_36_method_7_code 4 = .ok (.aload_n 0, 1) := by decide +kernel
theorem d4_5 : decode prog_36_method_7_code 5 = .ok (.getfield 7, 3) := by decide +kernel
theorem d4_8 : decode prog_36_method_7_code 8 = .ok (.aload_n 0, 1) := by decide +kernel
theorem d4_9 : decode prog_36_method_7_code 9 = .ok (.getfield 13, 3) := by decide +kernel
theorem d4_12 : decode prog_36_method_7_code 12 = .ok (.aload_n 0, 1) := by decide +kernel
theorem d4_13 : decode prog_36_method_7_code 13 = .ok (.getfield 16, 3) := by decide +kernel
theorem d4_16 : decode prog_36_method_7_code 16 = .ok (.aload_n 0, 1) := by decide +kernel
theorem d4_17 : decode prog_36_method_7_code 17 = .ok (.getfield 19, 3) := by decide +kernel
theorem d4_20 : decode prog_36_method_7_code 20 = .ok (.aload_n 1, 1) := by decide +kernel
theorem d4_21 : decode prog_36_method_7_code 21 = .ok (.getfield 22, 3) := by decide +kernel
theorem d4_24 : decode prog_36_method_7_code 24 = .ok (.aload_n 1, 1) := by decide +kernel
theorem d4_25 : decode prog_36_method_7_code 25 = .ok (.getfield 25, 3) := by decide +kernel
theorem d4_28 : decode prog_36_method_7_code 28 = .ok (.aload_n 1, 1) := by decide +kernel
theorem d4_29 : decode prog_36_method_7_code 29 = .ok (.getfield 28, 3) := by decide +kernel
theorem pd_1 : parseMethodDescriptor "(JJJJJJJ)V" = some ⟨[.long, .long, .long, .long, .long, .long, .long], none⟩ := by decide +kernel
theorem d4_32 : decode prog_36_method_7_code 32 = .ok (.invokespecial 31, 3) := by decide +kernel
theorem d4_35 : decode prog_36_method_7_code 35 = .ok (.areturn, 1) := by decide +kernel
theorem pn_4 : plainName "com/example/tallydb/tallydb/TokenCounts" = true := by first | (simp [plainName, overriddenIn]; done) | decide +kernel
theorem ef_rm5 : ∀ (m : MethodId) (oa : Addr), entryFrame m #[(.ref oa)] 1 = mkF m 0 #[.val (.ref oa)] [] := by intros; first | (simp [entryFrame, mkF, argsToLocals, Value.category]; done) | rfl
theorem d5_0 : decode prog_36_method_11_code 0 = .ok (.aload_n 0, 1) := by decide +kernel
theorem d5_1 : decode prog_36_method_11_code 1 = .ok (.getfield 7, 3) := by decide +kernel
theorem d5_4 : decode prog_36_method_11_code 4 = .ok (.lreturn, 1) := by decide +kernel
theorem pn_5 : plainName "com/example/tallydb/tallydb/TokenCounts" = true := by first | (simp [plainName, overriddenIn]; done) | decide +kernel
theorem ef_rm6 : ∀ (m : MethodId) (oa : Addr), entryFrame m #[(.ref oa)] 1 = mkF m 0 #[.val (.ref oa)] [] := by intros; first | (simp [entryFrame, mkF, argsToLocals, Value.category]; done) | rfl
theorem d6_0 : decode prog_36_method_12_code 0 = .ok (.aload_n 0, 1) := by decide +kernel
theorem d6_1 : decode prog_36_method_12_code 1 = .ok (.getfield 13, 3) := by decide +kernel
theorem d6_4 : decode prog_36_method_12_code 4 = .ok (.lreturn, 1) := by decide +kernel
theorem pn_6 : plainName "com/example/tallydb/tallydb/TokenCounts" = true := by first | (simp [plainName, overriddenIn]; done) | decide +kernel
theorem ef_rm7 : ∀ (m : MethodId) (oa : Addr), entryFrame m #[(.ref oa)] 1 = mkF m 0 #[.val (.ref oa)] [] := by intros; first | (simp [entryFrame, mkF, argsToLocals, Value.category]; done) | rfl
theorem d7_0 : decode prog_36_method_13_code 0 = .ok (.aload_n 0, 1) := by decide +kernel
theorem d7_1 : decode prog_36_method_13_code 1 = .ok (.getfield 16, 3) := by decide +kernel
theorem d7_4 : decode prog_36_method_13_code 4 = .ok (.lreturn, 1) := by decide +kernel
theorem pn_7 : plainName "com/example/tallydb/tallydb/TokenCounts" = true := by first | (simp [plainName, overriddenIn]; done) | decide +kernel
theorem ef_rm8 : ∀ (m : MethodId) (oa : Addr), entryFrame m #[(.ref oa)] 1 = mkF m 0 #[.val (.ref oa)] [] := by intros; first | (simp [entryFrame, mkF, argsToLocals, Value.category]; done) | rfl
theorem d8_0 : decode prog_36_method_14_code 0 = .ok (.aload_n 0, 1) := by decide +kernel
theorem d8_1 : decode prog_36_method_14_code 1 = .ok (.getfield 19, 3) := by decide +kernel
theorem d8_4 : decode prog_36_method_14_code 4 = .ok (.lreturn, 1) := by decide +kernel
theorem pn_8 : plainName "com/example/tallydb/tallydb/TokenCounts" = true := by first | (simp [plainName, overriddenIn]; done) | decide +kernel
theorem ef_rm9 : ∀ (m : MethodId) (oa : Addr), entryFrame m #[(.ref oa)] 1 = mkF m 0 #[.val (.ref oa)] [] := by intros; first | (simp [entryFrame, mkF, argsToLocals, Value.category]; done) | rfl
theorem d9_0 : decode prog_36_method_15_code 0 = .ok (.aload_n 0, 1) := by decide +kernel
theorem d9_1 : decode prog_36_method_15_code 1 = .ok (.getfield 22, 3) := by decide +kernel
theorem d9_4 : decode prog_36_method_15_code 4 = .ok (.lreturn, 1) := by decide +kernel
theorem pn_9 : plainName "com/example/tallydb/tallydb/TokenCounts" = true := by first | (simp [plainName, overriddenIn]; done) | decide +kernel
theorem ef_rm10 : ∀ (m : MethodId) (oa : Addr), entryFrame m #[(.ref oa)] 1 = mkF m 0 #[.val (.ref oa)] [] := by intros; first | (simp [entryFrame, mkF, argsToLocals, Value.category]; done) | rfl
theorem d10_0 : decode prog_36_method_16_code 0 = .ok (.aload_n 0, 1) := by decide +kernel
theorem d10_1 : decode prog_36_method_16_code 1 = .ok (.getfield 25, 3) := by decide +kernel
theorem d10_4 : decode prog_36_method_16_code 4 = .ok (.lreturn, 1) := by decide +kernel
theorem pn_10 : plainName "com/example/tallydb/tallydb/TokenCounts" = true := by first | (simp [plainName, overriddenIn]; done) | decide +kernel
theorem ef_rm11 : ∀ (m : MethodId) (oa : Addr), entryFrame m #[(.ref oa)] 1 = mkF m 0 #[.val (.ref oa)] [] := by intros; first | (simp [entryFrame, mkF, argsToLocals, Value.category]; done) | rfl
theorem d11_0 : decode prog_36_method_17_code 0 = .ok (.aload_n 0, 1) := by decide +kernel
theorem d11_1 : decode prog_36_method_17_code 1 = .ok (.getfield 28, 3) := by decide +kernel
theorem d11_4 : decode prog_36_method_17_code 4 = .ok (.lreturn, 1) := by decide +kernel
theorem pn_11 : plainName "com/example/tallydb/tallydb/TokenCounts" = true := by first | (simp [plainName, overriddenIn]; done) | decide +kernel
theorem ef_rm0 : ∀ (m : MethodId) (qa : Int64) (qb : Int64) (qc : Int64) (qd : Int64) (qe : Int64) (qf : Int64), entryFrame m #[(.long qa), (.long qb), (.long qc), (.long qd), (.long qe), (.long qf)] maxLocals = mkF m 0 #[.val (.long qa), .second, .val (.long qb), .second, .val (.long qc), .second, .val (.long qd), .second, .val (.long qe), .second, .val (.long qf), .second, .unset, .unset, .unset, .unset, .unset, .unset, .unset] [] := by intros; first | (simp [entryFrame, mkF, argsToLocals, Value.category, maxLocals]; done) | rfl
theorem pd_2 : parseMethodDescriptor "(Lcom/example/tallydb/tallydb/TokenCounts;)Lcom/example/tallydb/tallydb/TokenCounts;" = some ⟨[(.object "com/example/tallydb/tallydb/TokenCounts")], some (.object "com/example/tallydb/tallydb/TokenCounts")⟩ := by decide +kernel
theorem pd_3 : parseMethodDescriptor "()J" = some ⟨[], some .long⟩ := by decide +kernel
theorem pn_0 : plainName "com/example/tallydb/tallydb/TokenCountsWithSharesOfPinLaw" = true := by first | (simp [plainName, overriddenIn]; done) | decide +kernel
set_option maxRecDepth 65536 in
set_option maxHeartbeats 40000000 in
theorem rm2 (l : Launch) (Z : State) (a0 : Array Value) (hw : ∀ d ∈ tables_1, d.before a0 Z = true) (oa : Addr)  (h0 : Heap) (n0 : Nat) (Z0 : n0 ≤ h0.size)  :
    ownMet l Z (⟨"java/lang/Record", "<init>", "()V"⟩ : MethodName) jdk_30_method_1_code 1 none [] ({ frames := 1, cells := 0, slots := 0, locals := 12 } : Room) #[(.ref oa)] h0 (fun v h L => v = none ∧ L = [] ∧ h = h0) := by
  refine ownMet.of (plainFor_of_name pn_2) ?_
  intro p e s m below meth c T0 hx hby hml hZ hown hnm hret hlk X0 e0
  refine ownEnds.cast (ef_rm2 m oa) ?_
  show ownEnds _ _ _ _ (T0.setTop (mkF m 0 #[.val (.ref oa)] []))
  refine ownEnds.law (fun t k => XS.aloadN X0.here hx rfl (hb hby d2_0) rfl rfl k) ?_
  show ownEnds _ _ _ _ (T0.setTop (mkF m 1 #[.val (.ref oa)] [(.ref oa)]))
  obtain ⟨T1, X1, e1, st1⟩ := initO X0 hx hZ hown (wd_11 hw) (wd_12 hw) (wd_13 hw) e0 (g := (mkF m 1 #[.val (.ref oa)] [(.ref oa)])) rfl (by rw [hml]; rfl) rfl (hb hby d2_1) (by decide) (W := 0) (by show 2 * 0 + _ ≤ _; exact Nat.le_of_eq rfl) (by decide)
  refine ownEnds.law st1 ?_
  show ownEnds _ _ _ _ (T1.setTop (mkF m 4 #[.val (.ref oa)] []))
  refine ownRetV X1 hlk hx hret (hb hby d2_4) (by decide) (by decide) ?_
  exact ⟨rfl, rfl, e1⟩
set_option maxRecDepth 65536 in
set_option maxHeartbeats 40000000 in
theorem rm1 (l : Launch) (Z : State) (a0 : Array Value) (hw : ∀ d ∈ tables_1, d.before a0 Z = true) (oa : Addr) (qa : Int64) (qb : Int64) (qc : Int64) (qd : Int64) (qe : Int64) (qf : Int64) (qg : Int64)  (h0 : Heap) (n0 : Nat) (Z0 : n0 ≤ h0.size) (E_oa : Exa Z h0 oa "com/example/tallydb/tallydb/TokenCounts") (g_oa : n0 ≤ oa) (F_oa_prompt : Fld Z h0 oa "com/example/tallydb/tallydb/TokenCounts" "prompt" "J" (.long (0 : Int64))) (F_oa_cachedPrompt : Fld Z h0 oa "com/example/tallydb/tallydb/TokenCounts" "cachedPrompt" "J" (.long (0 : Int64))) (F_oa_cacheWritePrompt : Fld Z h0 oa "com/example/tallydb/tallydb/TokenCounts" "cacheWritePrompt" "J" (.long (0 : Int64))) (F_oa_completion : Fld Z h0 oa "com/example/tallydb/tallydb/TokenCounts" "completion" "J" (.long (0 : Int64))) (F_oa_cacheWrite1hPrompt : Fld Z h0 oa "com/example/tallydb/tallydb/TokenCounts" "cacheWrite1hPrompt" "J" (.long (0 : Int64))) (F_oa_audioPrompt : Fld Z h0 oa "com/example/tallydb/tallydb/TokenCounts" "audioPrompt" "J" (.long (0 : Int64))) (F_oa_audioCompletion : Fld Z h0 oa "com/example/tallydb/tallydb/TokenCounts" "audioCompletion" "J" (.long (0 : Int64))) :
    ownMet l Z (⟨"com/example/tallydb/tallydb/TokenCounts", "<init>", "(JJJJJJJ)V"⟩ : MethodName) prog_36_method_2_code 15 none [] ({ frames := 2, cells := 0, slots := 0, locals := 24 } : Room) #[(.ref oa), (.long qa), (.long qb), (.long qc), (.long qd), (.long qe), (.long qf), (.long qg)] h0 (fun v h L => v = none ∧ Fr n0 L ∧ Keep h0 h [oa] ∧ Exa Z h oa "com/example/tallydb/tallydb/TokenCounts" ∧ Fld Z h oa "com/example/tallydb/tallydb/TokenCounts" "prompt" "J" (.long qa) ∧ Fld Z h oa "com/example/tallydb/tallydb/TokenCounts" "cachedPrompt" "J" (.long qb) ∧ Fld Z h oa "com/example/tallydb/tallydb/TokenCounts" "cacheWritePrompt" "J" (.long qc) ∧ Fld Z h oa "com/example/tallydb/tallydb/TokenCounts" "completion" "J" (.long qd) ∧ Fld Z h oa "com/example/tallydb/tallydb/TokenCounts" "cacheWrite1hPrompt" "J" (.long qe) ∧ Fld Z h oa "com/example/tallydb/tallydb/TokenCounts" "audioPrompt" "J" (.long qf) ∧ Fld Z h oa "com/example/tallydb/tallydb/TokenCounts" "audioCompletion" "J" (.long qg)) := by
  refine ownMet.of (plainFor_of_name pn_1) ?_
  intro p e s m below meth c T0 hx hby hml hZ hown hnm hret hlk X0 e0
  refine ownEnds.cast (ef_rm1 m oa qa qb qc qd qe qf qg) ?_
  show ownEnds _ _ _ _ (T0.setTop (mkF m 0 #[.val (.ref oa), .val (.long qa), .second, .val (.long qb), .second, .val (.long qc), .second, .val (.long qd), .second, .val (.long qe), .second, .val (.long qf), .second, .val (.long qg), .second] []))
  refine ownEnds.law (fun t k => XS.aloadN X0.here hx rfl (hb hby d1_0) rfl rfl k) ?_
  show ownEnds _ _ _ _ (T0.setTop (mkF m 1 #[.val (.ref oa), .val (.long qa), .second, .val (.long qb), .second, .val (.long qc), .second, .val (.long qd), .second, .val (.long qe), .second, .val (.long qf), .second, .val (.long qg), .second] [(.ref oa)]))
  obtain ⟨v1, T1, L1, X1, hQ1, st1⟩ := ownCallC X0 hx hZ hown (y := (⟨"java/lang/Record", "<init>", "()V"⟩ : MethodName)) rfl (a := oa) (as := []) (wd_6 hw) (wd_7 hw) (wd_9 hw) (wd_10 hw) (by decide) (rm2 l Z a0 hw oa  h0 n0 Z0 ) e0 0 (by decide) (by decide) (by decide) (by decide) (g := (mkF m 1 #[.val (.ref oa), .val (.long qa), .second, .val (.long qb), .second, .val (.long qc), .second, .val (.long qd), .second, .val (.long qe), .second, .val (.long qf), .second, .val (.long qg), .second] [(.ref oa)])) rfl (by rw [hml]; rfl) (rest := []) pd_0 rfl rfl (by show 2 * 0 + _ ≤ _; exact Nat.le_of_eq rfl) (hb hby d1_1)
  obtain ⟨rfl, rfl, e1⟩ := hQ1
  rw [List.append_nil] at X1
  refine ownEnds.law st1 ?_
  show ownEnds _ _ _ _ (T1.setTop (mkF m 4 #[.val (.ref oa), .val (.long qa), .second, .val (.long qb), .second, .val (.long qc), .second, .val (.long qd), .second, .val (.long qe), .second, .val (.long qf), .second, .val (.long qg), .second] []))
  refine ownEnds.law (fun t k => XS.aloadN X1.here hx rfl (hb hby d1_4) rfl rfl (XS.lloadN X1.here hx rfl (hb hby d1_5) rfl k)) ?_
  show ownEnds _ _ _ _ (T1.setTop (mkF m 6 #[.val (.ref oa), .val (.long qa), .second, .val (.long qb), .second, .val (.long qc), .second, .val (.long qd), .second, .val (.long qe), .second, .val (.long qf), .second, .val (.long qg), .second] [(.long qa), (.ref oa)]))
  obtain ⟨T2, h2, X2, e2, W2, st2⟩ := putF X1 hx hZ hown (host := "") (Or.inl (wd_14 hw)) Via.refl e1 F_oa_prompt E_oa (Or.inr ⟨(wd_15 hw), rfl, hnm⟩) (wd_1 hw) (ty := .long) (by decide) rfl rfl (g := (mkF m 6 #[.val (.ref oa), .val (.long qa), .second, .val (.long qb), .second, .val (.long qc), .second, .val (.long qd), .second, .val (.long qe), .second, .val (.long qf), .second, .val (.long qg), .second] [(.long qa), (.ref oa)])) rfl rfl (hb hby d1_6)
  refine ownEnds.law st2 ?_
  have N2 := Fr.snoc X2 (Fr.nil n0) g_oa
  have KK2 : Keep h0 h2 [oa] := (Keep.refl h0 [oa]).wr W2 (Or.inl (List.mem_of_getElem? (i := 0) rfl))
  have Z2 : n0 ≤ h2.size := by rw [W2.size]; exact Z0
  have Fw2 : Fld Z h2 oa "com/example/tallydb/tallydb/TokenCounts" "prompt" "J" (.long qa) := Fld.same W2 F_oa_prompt
  show ownEnds _ _ _ _ (T2.setTop (mkF m 9 #[.val (.ref oa), .val (.long qa), .second, .val (.long qb), .second, .val (.long qc), .second, .val (.long qd), .second, .val (.long qe), .second, .val (.long qf), .second, .val (.long qg), .second] []))
  refine ownEnds.law (fun t k => XS.aloadN X2.here hx rfl (hb hby d1_9) rfl rfl (XS.lloadN X2.here hx rfl (hb hby d1_10) rfl k)) ?_
  show ownEnds _ _ _ _ (T2.setTop (mkF m 11 #[.val (.ref oa), .val (.long qa), .second, .val (.long qb), .second, .val (.long qc), .second, .val (.long qd), .second, .val (.long qe), .second, .val (.long qf), .second, .val (.long qg), .second] [(.long qb), (.ref oa)]))
  have f3 := (Exa.wr W2 E_oa)
  have f4 := (Fld.other W2 F_oa_cachedPrompt (Or.inr (slot_ne (Or.inr (wd_17 hw)) (Or.inr (wd_15 hw)) (by decide) (t := .long) (t' := .long) (by decide) (by decide))))
  obtain ⟨T5, h5, X5, e5, W5, st5⟩ := putF X2 hx hZ hown (host := "") (Or.inl (wd_16 hw)) Via.refl e2 f4 f3 (Or.inr ⟨(wd_17 hw), rfl, hnm⟩) (wd_1 hw) (ty := .long) (by decide) rfl rfl (g := (mkF m 11 #[.val (.ref oa), .val (.long qa), .second, .val (.long qb), .second, .val (.long qc), .second, .val (.long qd), .second, .val (.long qe), .second, .val (.long qf), .second, .val (.long qg), .second] [(.long qb), (.ref oa)])) rfl rfl (hb hby d1_11)
  refine ownEnds.law st5 ?_
  have N5 := Fr.snoc X5 N2 g_oa
  have KK5 : Keep h0 h5 [oa] := (KK2).wr W5 (Or.inl (List.mem_of_getElem? (i := 0) rfl))
  have Z5 : n0 ≤ h5.size := by rw [W5.size]; exact Z2
  have Fw5 : Fld Z h5 oa "com/example/tallydb/tallydb/TokenCounts" "cachedPrompt" "J" (.long qb) := Fld.same W5 f4
  show ownEnds _ _ _ _ (T5.setTop (mkF m 14 #[.val (.ref oa), .val (.long qa), .second, .val (.long qb), .second, .val (.long qc), .second, .val (.long qd), .second, .val (.long qe), .second, .val (.long qf), .second, .val (.long qg), .second] []))
  refine ownEnds.law (fun t k => XS.aloadN X5.here hx rfl (hb hby d1_14) rfl rfl (XS.lload X5.here hx rfl (hb hby d1_15) rfl k)) ?_
  show ownEnds _ _ _ _ (T5.setTop (mkF m 17 #[.val (.ref oa), .val (.long qa), .second, .val (.long qb), .second, .val (.long qc), .second, .val (.long qd), .second, .val (.long qe), .second, .val (.long qf), .second, .val (.long qg), .second] [(.long qc), (.ref oa)]))
  have f6 := (Exa.wr W5 f3)
  have f7 := (Fld.other W5 (Fld.other W2 F_oa_cacheWritePrompt (Or.inr (slot_ne (Or.inr (wd_19 hw)) (Or.inr (wd_15 hw)) (by decide) (t := .long) (t' := .long) (by decide) (by decide)))) (Or.inr (slot_ne (Or.inr (wd_19 hw)) (Or.inr (wd_17 hw)) (by decide) (t := .long) (t' := .long) (by decide) (by decide))))
  obtain ⟨T8, h8, X8, e8, W8, st8⟩ := putF X5 hx hZ hown (host := "") (Or.inl (wd_18 hw)) Via.refl e5 f7 f6 (Or.inr ⟨(wd_19 hw), rfl, hnm⟩) (wd_1 hw) (ty := .long) (by decide) rfl rfl (g := (mkF m 17 #[.val (.ref oa), .val (.long qa), .second, .val (.long qb), .second, .val (.long qc), .second, .val (.long qd), .second, .val (.long qe), .second, .val (.long qf), .second, .val (.long qg), .second] [(.long qc), (.ref oa)])) rfl rfl (hb hby d1_17)
  refine ownEnds.law st8 ?_
  have N8 := Fr.snoc X8 N5 g_oa
  have KK8 : Keep h0 h8 [oa] := (KK5).wr W8 (Or.inl (List.mem_of_getElem? (i := 0) rfl))
  have Z8 : n0 ≤ h8.size := by rw [W8.size]; exact Z5
  have Fw8 : Fld Z h8 oa "com/example/tallydb/tallydb/TokenCounts" "cacheWritePrompt" "J" (.long qc) := Fld.same W8 f7
  show ownEnds _ _ _ _ (T8.setTop (mkF m 20 #[.val (.ref oa), .val (.long qa), .second, .val (.long qb), .second, .val (.long qc), .second, .val (.long qd), .second, .val (.long qe), .second, .val (.long qf), .second, .val (.long qg), .second] []))
  refine ownEnds.law (fun t k => XS.aloadN X8.here hx rfl (hb hby d1_20) rfl rfl (XS.lload X8.here hx rfl (hb hby d1_21) rfl k)) ?_
  show ownEnds _ _ _ _ (T8.setTop (mkF m 23 #[.val (.ref oa), .val (.long qa), .second, .val (.long qb), .second, .val (.long qc), .second, .val (.long qd), .second, .val (.long qe), .second, .val (.long qf), .second, .val (.long qg), .second] [(.long qd), (.ref oa)]))
  have f9 := (Exa.wr W8 f6)
  have f10 := (Fld.other W8 (Fld.other W5 (Fld.other W2 F_oa_completion (Or.inr (slot_ne (Or.inr (wd_21 hw)) (Or.inr (wd_15 hw)) (by decide) (t := .long) (t' := .long) (by decide) (by decide)))) (Or.inr (slot_ne (Or.inr (wd_21 hw)) (Or.inr (wd_17 hw)) (by decide) (t := .long) (t' := .long) (by decide) (by decide)))) (Or.inr (slot_ne (Or.inr (wd_21 hw)) (Or.inr (wd_19 hw)) (by decide) (t := .long) (t' := .long) (by decide) (by decide))))
  obtain ⟨T11, h11, X11, e11, W11, st11⟩ := putF X8 hx hZ hown (host := "") (Or.inl (wd_20 hw)) Via.refl e8 f10 f9 (Or.inr ⟨(wd_21 hw), rfl, hnm⟩) (wd_1 hw) (ty := .long) (by decide) rfl rfl (g := (mkF m 23 #[.val (.ref oa), .val (.long qa), .second, .val (.long qb), .second, .val (.long qc), .second, .val (.long qd), .second, .val (.long qe), .second, .val (.long qf), .second, .val (.long qg), .second] [(.long qd), (.ref oa)])) rfl rfl (hb hby d1_23)
  refine ownEnds.law st11 ?_
  have N11 := Fr.snoc X11 N8 g_oa
  have KK11 : Keep h0 h11 [oa] := (KK8).wr W11 (Or.inl (List.mem_of_getElem? (i := 0) rfl))
  have Z11 : n0 ≤ h11.size := by rw [W11.size]; exact Z8
  have Fw11 : Fld Z h11 oa "com/example/tallydb/tallydb/TokenCounts" "completion" "J" (.long qd) := Fld.same W11 f10
  show ownEnds _ _ _ _ (T11.setTop (mkF m 26 #[.val (.ref oa), .val (.long qa), .second, .val (.long qb), .second, .val (.long qc), .second, .val (.long qd), .second, .val (.long qe), .second, .val (.long qf), .second, .val (.long qg), .second] []))
  refine ownEnds.law (fun t k => XS.aloadN X11.here hx rfl (hb hby d1_26) rfl rfl (XS.lload X11.here hx rfl (hb hby d1_27) rfl k)) ?_
  show ownEnds _ _ _ _ (T11.setTop (mkF m 29 #[.val (.ref oa), .val (.long qa), .second, .val (.long qb), .second, .val (.long qc), .second, .val (.long qd), .second, .val (.long qe), .second, .val (.long qf), .second, .val (.long qg), .second] [(.long qe), (.ref oa)]))
  have f12 := (Exa.wr W11 f9)
  have f13 := (Fld.other W11 (Fld.other W8 (Fld.other W5 (Fld.other W2 F_oa_cacheWrite1hPrompt (Or.inr (slot_ne (Or.inr (wd_23 hw)) (Or.inr (wd_15 hw)) (by decide) (t := .long) (t' := .long) (by decide) (by decide)))) (Or.inr (slot_ne (Or.inr (wd_23 hw)) (Or.inr (wd_17 hw)) (by decide) (t := .long) (t' := .long) (by decide) (by decide)))) (Or.inr (slot_ne (Or.inr (wd_23 hw)) (Or.inr (wd_19 hw)) (by decide) (t := .long) (t' := .long) (by decide) (by decide)))) (Or.inr (slot_ne (Or.inr (wd_23 hw)) (Or.inr (wd_21 hw)) (by decide) (t := .long) (t' := .long) (by decide) (by decide))))
  obtain ⟨T14, h14, X14, e14, W14, st14⟩ := putF X11 hx hZ hown (host := "") (Or.inl (wd_22 hw)) Via.refl e11 f13 f12 (Or.inr ⟨(wd_23 hw), rfl, hnm⟩) (wd_1 hw) (ty := .long) (by decide) rfl rfl (g := (mkF m 29 #[.val (.ref oa), .val (.long qa), .second, .val (.long qb), .second, .val (.long qc), .second, .val (.long qd), .second, .val (.long qe), .second, .val (.long qf), .second, .val (.long qg), .second] [(.long qe), (.ref oa)])) rfl rfl (hb hby d1_29)
  refine ownEnds.law st14 ?_
  have N14 := Fr.snoc X14 N11 g_oa
  have KK14 : Keep h0 h14 [oa] := (KK11).wr W14 (Or.inl (List.mem_of_getElem? (i := 0) rfl))
  have Z14 : n0 ≤ h14.size := by rw [W14.size]; exact Z11
  have Fw14 : Fld Z h14 oa "com/example/tallydb/tallydb/TokenCounts" "cacheWrite1hPrompt" "J" (.long qe) := Fld.same W14 f13
  show ownEnds _ _ _ _ (T14.setTop (mkF m 32 #[.val (.ref oa), .val (.long qa), .second, .val (.long qb), .second, .val (.long qc), .second, .val (.long qd), .second, .val (.long qe), .second, .val (.long qf), .second, .val (.long qg), .second] []))
  refine ownEnds.law (fun t k => XS.aloadN X14.here hx rfl (hb hby d1_32) rfl rfl (XS.lload X14.here hx rfl (hb hby d1_33) rfl k)) ?_
  show ownEnds _ _ _ _ (T14.setTop (mkF m 35 #[.val (.ref oa), .val (.long qa), .second, .val (.long qb), .second, .val (.long qc), .second, .val (.long qd), .second, .val (.long qe), .second, .val (.long qf), .second, .val (.long qg), .second] [(.long qf), (.ref oa)]))
  have f15 := (Exa.wr W14 f12)
  have f16 := (Fld.other W14 (Fld.other W11 (Fld.other W8 (Fld.other W5 (Fld.other W2 F_oa_audioPrompt (Or.inr (slot_ne (Or.inr (wd_25 hw)) (Or.inr (wd_15 hw)) (by decide) (t := .long) (t' := .long) (by decide) (by decide)))) (Or.inr (slot_ne (Or.inr (wd_25 hw)) (Or.inr (wd_17 hw)) (by decide) (t := .long) (t' := .long) (by decide) (by decide)))) (Or.inr (slot_ne (Or.inr (wd_25 hw)) (Or.inr (wd_19 hw)) (by decide) (t := .long) (t' := .long) (by decide) (by decide)))) (Or.inr (slot_ne (Or.inr (wd_25 hw)) (Or.inr (wd_21 hw)) (by decide) (t := .long) (t' := .long) (by decide) (by decide)))) (Or.inr (slot_ne (Or.inr (wd_25 hw)) (Or.inr (wd_23 hw)) (by decide) (t := .long) (t' := .long) (by decide) (by decide))))
  obtain ⟨T17, h17, X17, e17, W17, st17⟩ := putF X14 hx hZ hown (host := "") (Or.inl (wd_24 hw)) Via.refl e14 f16 f15 (Or.inr ⟨(wd_25 hw), rfl, hnm⟩) (wd_1 hw) (ty := .long) (by decide) rfl rfl (g := (mkF m 35 #[.val (.ref oa), .val (.long qa), .second, .val (.long qb), .second, .val (.long qc), .second, .val (.long qd), .second, .val (.long qe), .second, .val (.long qf), .second, .val (.long qg), .second] [(.long qf), (.ref oa)])) rfl rfl (hb hby d1_35)
  refine ownEnds.law st17 ?_
  have N17 := Fr.snoc X17 N14 g_oa
  have KK17 : Keep h0 h17 [oa] := (KK14).wr W17 (Or.inl (List.mem_of_getElem? (i := 0) rfl))
  have Z17 : n0 ≤ h17.size := by rw [W17.size]; exact Z14
  have Fw17 : Fld Z h17 oa "com/example/tallydb/tallydb/TokenCounts" "audioPrompt" "J" (.long qf) := Fld.same W17 f16
  show ownEnds _ _ _ _ (T17.setTop (mkF m 38 #[.val (.ref oa), .val (.long qa), .second, .val (.long qb), .second, .val (.long qc), .second, .val (.long qd), .second, .val (.long qe), .second, .val (.long qf), .second, .val (.long qg), .second] []))
  refine ownEnds.law (fun t k => XS.aloadN X17.here hx rfl (hb hby d1_38) rfl rfl (XS.lload X17.here hx rfl (hb hby d1_39) rfl k)) ?_
  show ownEnds _ _ _ _ (T17.setTop (mkF m 41 #[.val (.ref oa), .val (.long qa), .second, .val (.long qb), .second, .val (.long qc), .second, .val (.long qd), .second, .val (.long qe), .second, .val (.long qf), .second, .val (.long qg), .second] [(.long qg), (.ref oa)]))
  have f18 := (Exa.wr W17 f15)
  have f19 := (Fld.other W17 (Fld.other W14 (Fld.other W11 (Fld.other W8 (Fld.other W5 (Fld.other W2 F_oa_audioCompletion (Or.inr (slot_ne (Or.inr (wd_27 hw)) (Or.inr (wd_15 hw)) (by decide) (t := .long) (t' := .long) (by decide) (by decide)))) (Or.inr (slot_ne (Or.inr (wd_27 hw)) (Or.inr (wd_17 hw)) (by decide) (t := .long) (t' := .long) (by decide) (by decide)))) (Or.inr (slot_ne (Or.inr (wd_27 hw)) (Or.inr (wd_19 hw)) (by decide) (t := .long) (t' := .long) (by decide) (by decide)))) (Or.inr (slot_ne (Or.inr (wd_27 hw)) (Or.inr (wd_21 hw)) (by decide) (t := .long) (t' := .long) (by decide) (by decide)))) (Or.inr (slot_ne (Or.inr (wd_27 hw)) (Or.inr (wd_23 hw)) (by decide) (t := .long) (t' := .long) (by decide) (by decide)))) (Or.inr (slot_ne (Or.inr (wd_27 hw)) (Or.inr (wd_25 hw)) (by decide) (t := .long) (t' := .long) (by decide) (by decide))))
  obtain ⟨T20, h20, X20, e20, W20, st20⟩ := putF X17 hx hZ hown (host := "") (Or.inl (wd_26 hw)) Via.refl e17 f19 f18 (Or.inr ⟨(wd_27 hw), rfl, hnm⟩) (wd_1 hw) (ty := .long) (by decide) rfl rfl (g := (mkF m 41 #[.val (.ref oa), .val (.long qa), .second, .val (.long qb), .second, .val (.long qc), .second, .val (.long qd), .second, .val (.long qe), .second, .val (.long qf), .second, .val (.long qg), .second] [(.long qg), (.ref oa)])) rfl rfl (hb hby d1_41)
  refine ownEnds.law st20 ?_
  have N20 := Fr.snoc X20 N17 g_oa
  have KK20 : Keep h0 h20 [oa] := (KK17).wr W20 (Or.inl (List.mem_of_getElem? (i := 0) rfl))
  have Z20 : n0 ≤ h20.size := by rw [W20.size]; exact Z17
  have Fw20 : Fld Z h20 oa "com/example/tallydb/tallydb/TokenCounts" "audioCompletion" "J" (.long qg) := Fld.same W20 f19
  show ownEnds _ _ _ _ (T20.setTop (mkF m 44 #[.val (.ref oa), .val (.long qa), .second, .val (.long qb), .second, .val (.long qc), .second, .val (.long qd), .second, .val (.long qe), .second, .val (.long qf), .second, .val (.long qg), .second] []))
  refine ownRetV X20 hlk hx hret (hb hby d1_44) (by decide) (by decide) ?_
  have f21 := (Exa.wr W20 f18)
  have f22 := (Fld.other W20 (Fld.other W17 (Fld.other W14 (Fld.other W11 (Fld.other W8 (Fld.other W5 Fw2 (Or.inr (slot_ne (Or.inr (wd_15 hw)) (Or.inr (wd_17 hw)) (by decide) (t := .long) (t' := .long) (by decide) (by decide)))) (Or.inr (slot_ne (Or.inr (wd_15 hw)) (Or.inr (wd_19 hw)) (by decide) (t := .long) (t' := .long) (by decide) (by decide)))) (Or.inr (slot_ne (Or.inr (wd_15 hw)) (Or.inr (wd_21 hw)) (by decide) (t := .long) (t' := .long) (by decide) (by decide)))) (Or.inr (slot_ne (Or.inr (wd_15 hw)) (Or.inr (wd_23 hw)) (by decide) (t := .long) (t' := .long) (by decide) (by decide)))) (Or.inr (slot_ne (Or.inr (wd_15 hw)) (Or.inr (wd_25 hw)) (by decide) (t := .long) (t' := .long) (by decide) (by decide)))) (Or.inr (slot_ne (Or.inr (wd_15 hw)) (Or.inr (wd_27 hw)) (by decide) (t := .long) (t' := .long) (by decide) (by decide))))
  have f23 := (Fld.other W20 (Fld.other W17 (Fld.other W14 (Fld.other W11 (Fld.other W8 Fw5 (Or.inr (slot_ne (Or.inr (wd_17 hw)) (Or.inr (wd_19 hw)) (by decide) (t := .long) (t' := .long) (by decide) (by decide)))) (Or.inr (slot_ne (Or.inr (wd_17 hw)) (Or.inr (wd_21 hw)) (by decide) (t := .long) (t' := .long) (by decide) (by decide)))) (Or.inr (slot_ne (Or.inr (wd_17 hw)) (Or.inr (wd_23 hw)) (by decide) (t := .long) (t' := .long) (by decide) (by decide)))) (Or.inr (slot_ne (Or.inr (wd_17 hw)) (Or.inr (wd_25 hw)) (by decide) (t := .long) (t' := .long) (by decide) (by decide)))) (Or.inr (slot_ne (Or.inr (wd_17 hw)) (Or.inr (wd_27 hw)) (by decide) (t := .long) (t' := .long) (by decide) (by decide))))
  have f24 := (Fld.other W20 (Fld.other W17 (Fld.other W14 (Fld.other W11 Fw8 (Or.inr (slot_ne (Or.inr (wd_19 hw)) (Or.inr (wd_21 hw)) (by decide) (t := .long) (t' := .long) (by decide) (by decide)))) (Or.inr (slot_ne (Or.inr (wd_19 hw)) (Or.inr (wd_23 hw)) (by decide) (t := .long) (t' := .long) (by decide) (by decide)))) (Or.inr (slot_ne (Or.inr (wd_19 hw)) (Or.inr (wd_25 hw)) (by decide) (t := .long) (t' := .long) (by decide) (by decide)))) (Or.inr (slot_ne (Or.inr (wd_19 hw)) (Or.inr (wd_27 hw)) (by decide) (t := .long) (t' := .long) (by decide) (by decide))))
  have f25 := (Fld.other W20 (Fld.other W17 (Fld.other W14 Fw11 (Or.inr (slot_ne (Or.inr (wd_21 hw)) (Or.inr (wd_23 hw)) (by decide) (t := .long) (t' := .long) (by decide) (by decide)))) (Or.inr (slot_ne (Or.inr (wd_21 hw)) (Or.inr (wd_25 hw)) (by decide) (t := .long) (t' := .long) (by decide) (by decide)))) (Or.inr (slot_ne (Or.inr (wd_21 hw)) (Or.inr (wd_27 hw)) (by decide) (t := .long) (t' := .long) (by decide) (by decide))))
  have f26 := (Fld.other W20 (Fld.other W17 Fw14 (Or.inr (slot_ne (Or.inr (wd_23 hw)) (Or.inr (wd_25 hw)) (by decide) (t := .long) (t' := .long) (by decide) (by decide)))) (Or.inr (slot_ne (Or.inr (wd_23 hw)) (Or.inr (wd_27 hw)) (by decide) (t := .long) (t' := .long) (by decide) (by decide))))
  have f27 := (Fld.other W20 Fw17 (Or.inr (slot_ne (Or.inr (wd_25 hw)) (Or.inr (wd_27 hw)) (by decide) (t := .long) (t' := .long) (by decide) (by decide))))
  rw [e20]
  exact ⟨rfl, N20, KK20, f21, f22, f23, f24, f25, f26, f27, Fw20⟩
set_option maxRecDepth 65536 in
set_option maxHeartbeats 40000000 in
theorem rm4 (l : Launch) (Z : State) (a0 : Array Value) (hw : ∀ d ∈ tables_1, d.before a0 Z = true) (oa : Addr) (ob : Addr) (v0 : Int64) (v1 : Int64) (v2 : Int64) (v3 : Int64) (v4 : Int64) (v5 : Int64) (v6 : Int64) (h0 : Heap) (n0 : Nat) (Z0 : n0 ≤ h0.size)  (F_prompt : Fld Z h0 oa "com/example/tallydb/tallydb/TokenCounts" "prompt" "J" (.long v0)) (F_cachedPrompt : Fld Z h0 oa "com/example/tallydb/tallydb/TokenCounts" "cachedPrompt" "J" (.long v1)) (F_cacheWritePrompt : Fld Z h0 oa "com/example/tallydb/tallydb/TokenCounts" "cacheWritePrompt" "J" (.long v2)) (F_completion : Fld Z h0 oa "com/example/tallydb/tallydb/TokenCounts" "completion" "J" (.long v3)) (F_cacheWrite1hPrompt : Fld Z h0 ob "com/example/tallydb/tallydb/TokenCounts" "cacheWrite1hPrompt" "J" (.long v4)) (F_audioPrompt : Fld Z h0 ob "com/example/tallydb/tallydb/TokenCounts" "audioPrompt" "J" (.long v5)) (F_audioCompletion : Fld Z h0 ob "com/example/tallydb/tallydb/TokenCounts" "audioCompletion" "J" (.long v6)) :
    ownMet l Z (⟨"com/example/tallydb/tallydb/TokenCounts", "withSharesOf", "(Lcom/example/tallydb/tallydb/TokenCounts;)Lcom/example/tallydb/tallydb/TokenCounts;"⟩ : MethodName) prog_36_method_7_code 2 (some (.object "com/example/tallydb/tallydb/TokenCounts")) [] ({ frames := 3, cells := 1, slots := 7, locals := 51 } : Room) #[(.ref oa), (.ref ob)] h0 (fun v h L => ∃ r, v = some (.ref r) ∧ Fr n0 L ∧ Keep h0 h [] ∧ n0 ≤ r ∧ Exa Z h r "com/example/tallydb/tallydb/TokenCounts" ∧ Fld Z h r "com/example/tallydb/tallydb/TokenCounts" "prompt" "J" (.long v0) ∧ Fld Z h r "com/example/tallydb/tallydb/TokenCounts" "cachedPrompt" "J" (.long v1) ∧ Fld Z h r "com/example/tallydb/tallydb/TokenCounts" "cacheWritePrompt" "J" (.long v2) ∧ Fld Z h r "com/example/tallydb/tallydb/TokenCounts" "completion" "J" (.long v3) ∧ Fld Z h r "com/example/tallydb/tallydb/TokenCounts" "cacheWrite1hPrompt" "J" (.long v4) ∧ Fld Z h r "com/example/tallydb/tallydb/TokenCounts" "audioPrompt" "J" (.long v5) ∧ Fld Z h r "com/example/tallydb/tallydb/TokenCounts" "audioCompletion" "J" (.long v6)) := by
  refine ownMet.of (plainFor_of_name pn_4) ?_
  intro p e s m below meth c T0 hx hby hml hZ hown hnm hret hlk X0 e0
  refine ownEnds.cast (ef_rm4 m oa ob) ?_
  show ownEnds _ _ _ _ (T0.setTop (mkF m 0 #[.val (.ref oa), .val (.ref ob)] []))
  obtain ⟨T1, h1, X1, e1, E1, A1, D1, -, st1⟩ := newO X0 hx hZ hown (wd_33 hw) (wd_1 hw) (wd_2 hw) e0 (g := (mkF m 0 #[.val (.ref oa), .val (.ref ob)] [])) rfl (hb hby d4_0) (by decide) (by decide)
  obtain ⟨b1, g1⟩ : ∃ z, z = h0.size := ⟨_, rfl⟩
  rw [← g1] at A1 D1 st1
  refine ownEnds.law st1 ?_
  have ne_oa_b1 : oa ≠ b1 := Nat.ne_of_lt (Nat.lt_of_lt_of_eq F_prompt.lt g1.symm)
  have ne_ob_b1 : ob ≠ b1 := Nat.ne_of_lt (Nat.lt_of_lt_of_eq F_cacheWrite1hPrompt.lt g1.symm)
  have g_b1 : n0 ≤ b1 := Nat.le_trans Z0 (Nat.le_of_eq g1.symm)
  have sz_b1 : h0.size ≤ b1 := Nat.le_trans (Keep.refl h0 []).1 (Nat.le_of_eq g1.symm)
  have Z1 : n0 ≤ h1.size := Nat.le_trans Z0 E1.1
  have KK1 : Keep h0 h1 [] := (Keep.refl h0 []).ext E1
  have F2 : Fld Z h1 b1 "com/example/tallydb/tallydb/TokenCounts" "prompt" "J" (.long (0 : Int64)) := D1 (Or.inr (wd_15 hw)) (ty := .long) (by decide)
  have F3 : Fld Z h1 b1 "com/example/tallydb/tallydb/TokenCounts" "cachedPrompt" "J" (.long (0 : Int64)) := D1 (Or.inr (wd_17 hw)) (ty := .long) (by decide)
  have F4 : Fld Z h1 b1 "com/example/tallydb/tallydb/TokenCounts" "cacheWritePrompt" "J" (.long (0 : Int64)) := D1 (Or.inr (wd_19 hw)) (ty := .long) (by decide)
  have F5 : Fld Z h1 b1 "com/example/tallydb/tallydb/TokenCounts" "completion" "J" (.long (0 : Int64)) := D1 (Or.inr (wd_21 hw)) (ty := .long) (by decide)
  have F6 : Fld Z h1 b1 "com/example/tallydb/tallydb/TokenCounts" "cacheWrite1hPrompt" "J" (.long (0 : Int64)) := D1 (Or.inr (wd_23 hw)) (ty := .long) (by decide)
  have F7 : Fld Z h1 b1 "com/example/tallydb/tallydb/TokenCounts" "audioPrompt" "J" (.long (0 : Int64)) := D1 (Or.inr (wd_25 hw)) (ty := .long) (by decide)
  have F8 : Fld Z h1 b1 "com/example/tallydb/tallydb/TokenCounts" "audioCompletion" "J" (.long (0 : Int64)) := D1 (Or.inr (wd_27 hw)) (ty := .long) (by decide)
  show ownEnds _ _ _ _ (T1.setTop (mkF m 3 #[.val (.ref oa), .val (.ref ob)] [(.ref b1)]))
  refine ownEnds.law (fun t k => XS.dup X1.here hx rfl (hb hby d4_3) rfl rfl (XS.aloadN X1.here hx rfl (hb hby d4_4) rfl rfl k)) ?_
  show ownEnds _ _ _ _ (T1.setTop (mkF m 5 #[.val (.ref oa), .val (.ref ob)] [(.ref oa), (.ref b1), (.ref b1)]))
  have f9 := (Fld.ext E1 F_prompt)
  obtain ⟨T10, X10, e10, st10⟩ := getF X1 hx hZ hown (host := "") (Or.inl (wd_14 hw)) Via.refl e1 f9 (g := (mkF m 5 #[.val (.ref oa), .val (.ref ob)] [(.ref oa), (.ref b1), (.ref b1)])) rfl rfl (hb hby d4_5)
  refine ownEnds.law st10 ?_
  show ownEnds _ _ _ _ (T10.setTop (mkF m 8 #[.val (.ref oa), .val (.ref ob)] [(.long v0), (.ref b1), (.ref b1)]))
  refine ownEnds.law (fun t k => XS.aloadN X10.here hx rfl (hb hby d4_8) rfl rfl k) ?_
  show ownEnds _ _ _ _ (T10.setTop (mkF m 9 #[.val (.ref oa), .val (.ref ob)] [(.ref oa), (.long v0), (.ref b1), (.ref b1)]))
  have f11 := (Fld.ext E1 F_cachedPrompt)
  obtain ⟨T12, X12, e12, st12⟩ := getF X10 hx hZ hown (host := "") (Or.inl (wd_16 hw)) Via.refl e10 f11 (g := (mkF m 9 #[.val (.ref oa), .val (.ref ob)] [(.ref oa), (.long v0), (.ref b1), (.ref b1)])) rfl rfl (hb hby d4_9)
  refine ownEnds.law st12 ?_
  show ownEnds _ _ _ _ (T12.setTop (mkF m 12 #[.val (.ref oa), .val (.ref ob)] [(.long v1), (.long v0), (.ref b1), (.ref b1)]))
  refine ownEnds.law (fun t k => XS.aloadN X12.here hx rfl (hb hby d4_12) rfl rfl k) ?_
  show ownEnds _ _ _ _ (T12.setTop (mkF m 13 #[.val (.ref oa), .val (.ref ob)] [(.ref oa), (.long v1), (.long v0), (.ref b1), (.ref b1)]))
  have f13 := (Fld.ext E1 F_cacheWritePrompt)
  obtain ⟨T14, X14, e14, st14⟩ := getF X12 hx hZ hown (host := "") (Or.inl (wd_18 hw)) Via.refl e12 f13 (g := (mkF m 13 #[.val (.ref oa), .val (.ref ob)] [(.ref oa), (.long v1), (.long v0), (.ref b1), (.ref b1)])) rfl rfl (hb hby d4_13)
  refine ownEnds.law st14 ?_
  show ownEnds _ _ _ _ (T14.setTop (mkF m 16 #[.val (.ref oa), .val (.ref ob)] [(.long v2), (.long v1), (.long v0), (.ref b1), (.ref b1)]))
  refine ownEnds.law (fun t k => XS.aloadN X14.here hx rfl (hb hby d4_16) rfl rfl k) ?_
  show ownEnds _ _ _ _ (T14.setTop (mkF m 17 #[.val (.ref oa), .val (.ref ob)] [(.ref oa), (.long v2), (.long v1), (.long v0), (.ref b1), (.ref b1)]))
  have f15 := (Fld.ext E1 F_completion)
  obtain ⟨T16, X16, e16, st16⟩ := getF X14 hx hZ hown (host := "") (Or.inl (wd_20 hw)) Via.refl e14 f15 (g := (mkF m 17 #[.val (.ref oa), .val (.ref ob)] [(.ref oa), (.long v2), (.long v1), (.long v0), (.ref b1), (.ref b1)])) rfl rfl (hb hby d4_17)
  refine ownEnds.law st16 ?_
  show ownEnds _ _ _ _ (T16.setTop (mkF m 20 #[.val (.ref oa), .val (.ref ob)] [(.long v3), (.long v2), (.long v1), (.long v0), (.ref b1), (.ref b1)]))
  refine ownEnds.law (fun t k => XS.aloadN X16.here hx rfl (hb hby d4_20) rfl rfl k) ?_
  show ownEnds _ _ _ _ (T16.setTop (mkF m 21 #[.val (.ref oa), .val (.ref ob)] [(.ref ob), (.long v3), (.long v2), (.long v1), (.long v0), (.ref b1), (.ref b1)]))
  have f17 := (Fld.ext E1 F_cacheWrite1hPrompt)
  obtain ⟨T18, X18, e18, st18⟩ := getF X16 hx hZ hown (host := "") (Or.inl (wd_22 hw)) Via.refl e16 f17 (g := (mkF m 21 #[.val (.ref oa), .val (.ref ob)] [(.ref ob), (.long v3), (.long v2), (.long v1), (.long v0), (.ref b1), (.ref b1)])) rfl rfl (hb hby d4_21)
  refine ownEnds.law st18 ?_
  show ownEnds _ _ _ _ (T18.setTop (mkF m 24 #[.val (.ref oa), .val (.ref ob)] [(.long v4), (.long v3), (.long v2), (.long v1), (.long v0), (.ref b1), (.ref b1)]))
  refine ownEnds.law (fun t k => XS.aloadN X18.here hx rfl (hb hby d4_24) rfl rfl k) ?_
  show ownEnds _ _ _ _ (T18.setTop (mkF m 25 #[.val (.ref oa), .val (.ref ob)] [(.ref ob), (.long v4), (.long v3), (.long v2), (.long v1), (.long v0), (.ref b1), (.ref b1)]))
  have f19 := (Fld.ext E1 F_audioPrompt)
  obtain ⟨T20, X20, e20, st20⟩ := getF X18 hx hZ hown (host := "") (Or.inl (wd_24 hw)) Via.refl e18 f19 (g := (mkF m 25 #[.val (.ref oa), .val (.ref ob)] [(.ref ob), (.long v4), (.long v3), (.long v2), (.long v1), (.long v0), (.ref b1), (.ref b1)])) rfl rfl (hb hby d4_25)
  refine ownEnds.law st20 ?_
  show ownEnds _ _ _ _ (T20.setTop (mkF m 28 #[.val (.ref oa), .val (.ref ob)] [(.long v5), (.long v4), (.long v3), (.long v2), (.long v1), (.long v0), (.ref b1), (.ref b1)]))
  refine ownEnds.law (fun t k => XS.aloadN X20.here hx rfl (hb hby d4_28) rfl rfl k) ?_
  show ownEnds _ _ _ _ (T20.setTop (mkF m 29 #[.val (.ref oa), .val (.ref ob)] [(.ref ob), (.long v5), (.long v4), (.long v3), (.long v2), (.long v1), (.long v0), (.ref b1), (.ref b1)]))
  have f21 := (Fld.ext E1 F_audioCompletion)
  obtain ⟨T22, X22, e22, st22⟩ := getF X20 hx hZ hown (host := "") (Or.inl (wd_26 hw)) Via.refl e20 f21 (g := (mkF m 29 #[.val (.ref oa), .val (.ref ob)] [(.ref ob), (.long v5), (.long v4), (.long v3), (.long v2), (.long v1), (.long v0), (.ref b1), (.ref b1)])) rfl rfl (hb hby d4_29)
  refine ownEnds.law st22 ?_
  show ownEnds _ _ _ _ (T22.setTop (mkF m 32 #[.val (.ref oa), .val (.ref ob)] [(.long v6), (.long v5), (.long v4), (.long v3), (.long v2), (.long v1), (.long v0), (.ref b1), (.ref b1)]))
  obtain ⟨v23, T23, L23, X23, hQ23, st23⟩ := ownCallC X22 hx hZ hown (y := (⟨"com/example/tallydb/tallydb/TokenCounts", "<init>", "(JJJJJJJ)V"⟩ : MethodName)) rfl (a := b1) (as := [(.long v0), (.long v1), (.long v2), (.long v3), (.long v4), (.long v5), (.long v6)]) (wd_34 hw) (wd_4 hw) (wd_2 hw) (wd_5 hw) (by decide) (rm1 l Z a0 hw b1 v0 v1 v2 v3 v4 v5 v6  h1 n0 Z1 A1 g_b1 F2 F3 F4 F5 F6 F7 F8) e22 1 (by decide) (by decide) (by decide) (by decide) (g := (mkF m 32 #[.val (.ref oa), .val (.ref ob)] [(.long v6), (.long v5), (.long v4), (.long v3), (.long v2), (.long v1), (.long v0), (.ref b1), (.ref b1)])) rfl (by rw [hml]; rfl) (rest := [(.ref b1)]) pd_1 rfl rfl (by show 2 * 0 + _ ≤ _; exact Nat.le_of_eq rfl) (hb hby d4_32)
  obtain ⟨rfl, Nq23, Kq23, Eq23, Fc23_0, Fc23_1, Fc23_2, Fc23_3, Fc23_4, Fc23_5, Fc23_6⟩ := hQ23
  have N23 := Fr.app (Fr.nil n0) Nq23
  have KK23 : Keep h0 T23.heap [] := Keep.trans (KK1) Kq23 (allS (Or.inr sz_b1) all0)
  have Z23 : n0 ≤ T23.heap.size := Nat.le_trans Z1 Kq23.1
  refine ownEnds.law st23 ?_
  show ownEnds _ _ _ _ (T23.setTop (mkF m 35 #[.val (.ref oa), .val (.ref ob)] [(.ref b1)]))
  refine ownRetA X23 hlk hx hret rfl rfl (hb hby d4_35) (by decide) (by decide) ?_
  exact ⟨b1, rfl, N23, KK23, g_b1, Eq23, Fc23_0, Fc23_1, Fc23_2, Fc23_3, Fc23_4, Fc23_5, Fc23_6⟩
set_option maxRecDepth 65536 in
set_option maxHeartbeats 40000000 in
theorem rm5 (l : Launch) (Z : State) (a0 : Array Value) (hw : ∀ d ∈ tables_1, d.before a0 Z = true) (oa : Addr) (va : Int64) (h0 : Heap) (n0 : Nat) (Z0 : n0 ≤ h0.size)  (F_prompt : Fld Z h0 oa "com/example/tallydb/tallydb/TokenCounts" "prompt" "J" (.long va)) :
    ownMet l Z (⟨"com/example/tallydb/tallydb/TokenCounts", "prompt", "()J"⟩ : MethodName) prog_36_method_11_code 1 (some .long) [] ({ frames := 0, cells := 0, slots := 0, locals := 0 } : Room) #[(.ref oa)] h0 (fun v h L => v = some (.long va) ∧ L = [] ∧ h = h0) := by
  refine ownMet.of (plainFor_of_name pn_5) ?_
  intro p e s m below meth c T0 hx hby hml hZ hown hnm hret hlk X0 e0
  refine ownEnds.cast (ef_rm5 m oa) ?_
  show ownEnds _ _ _ _ (T0.setTop (mkF m 0 #[.val (.ref oa)] []))
  refine ownEnds.law (fun t k => XS.aloadN X0.here hx rfl (hb hby d5_0) rfl rfl k) ?_
  show ownEnds _ _ _ _ (T0.setTop (mkF m 1 #[.val (.ref oa)] [(.ref oa)]))
  obtain ⟨T1, X1, e1, st1⟩ := getF X0 hx hZ hown (host := "") (Or.inl (wd_14 hw)) Via.refl e0 F_prompt (g := (mkF m 1 #[.val (.ref oa)] [(.ref oa)])) rfl rfl (hb hby d5_1)
  refine ownEnds.law st1 ?_
  show ownEnds _ _ _ _ (T1.setTop (mkF m 4 #[.val (.ref oa)] [(.long va)]))
  refine ownRetL X1 hlk hx hret (hb hby d5_4) (by decide) (by decide) ?_
  exact ⟨rfl, rfl, e1⟩
set_option maxRecDepth 65536 in
set_option maxHeartbeats 40000000 in
theorem rm6 (l : Launch) (Z : State) (a0 : Array Value) (hw : ∀ d ∈ tables_1, d.before a0 Z = true) (oa : Addr) (va : Int64) (h0 : Heap) (n0 : Nat) (Z0 : n0 ≤ h0.size)  (F_cachedPrompt : Fld Z h0 oa "com/example/tallydb/tallydb/TokenCounts" "cachedPrompt" "J" (.long va)) :
    ownMet l Z (⟨"com/example/tallydb/tallydb/TokenCounts", "cachedPrompt", "()J"⟩ : MethodName) prog_36_method_12_code 1 (some .long) [] ({ frames := 0, cells := 0, slots := 0, locals := 0 } : Room) #[(.ref oa)] h0 (fun v h L => v = some (.long va) ∧ L = [] ∧ h = h0) := by
  refine ownMet.of (plainFor_of_name pn_6) ?_
  intro p e s m below meth c T0 hx hby hml hZ hown hnm hret hlk X0 e0
  refine ownEnds.cast (ef_rm6 m oa) ?_
  show ownEnds _ _ _ _ (T0.setTop (mkF m 0 #[.val (.ref oa)] []))
  refine ownEnds.law (fun t k => XS.aloadN X0.here hx rfl (hb hby d6_0) rfl rfl k) ?_
  show ownEnds _ _ _ _ (T0.setTop (mkF m 1 #[.val (.ref oa)] [(.ref oa)]))
  obtain ⟨T1, X1, e1, st1⟩ := getF X0 hx hZ hown (host := "") (Or.inl (wd_16 hw)) Via.refl e0 F_cachedPrompt (g := (mkF m 1 #[.val (.ref oa)] [(.ref oa)])) rfl rfl (hb hby d6_1)
  refine ownEnds.law st1 ?_
  show ownEnds _ _ _ _ (T1.setTop (mkF m 4 #[.val (.ref oa)] [(.long va)]))
  refine ownRetL X1 hlk hx hret (hb hby d6_4) (by decide) (by decide) ?_
  exact ⟨rfl, rfl, e1⟩
set_option maxRecDepth 65536 in
set_option maxHeartbeats 40000000 in
theorem rm7 (l : Launch) (Z : State) (a0 : Array Value) (hw : ∀ d ∈ tables_1, d.before a0 Z = true) (oa : Addr) (va : Int64) (h0 : Heap) (n0 : Nat) (Z0 : n0 ≤ h0.size)  (F_cacheWritePrompt : Fld Z h0 oa "com/example/tallydb/tallydb/TokenCounts" "cacheWritePrompt" "J" (.long va)) :
    ownMet l Z (⟨"com/example/tallydb/tallydb/TokenCounts", "cacheWritePrompt", "()J"⟩ : MethodName) prog_36_method_13_code 1 (some .long) [] ({ frames := 0, cells := 0, slots := 0, locals := 0 } : Room) #[(.ref oa)] h0 (fun v h L => v = some (.long va) ∧ L = [] ∧ h = h0) := by
  refine ownMet.of (plainFor_of_name pn_7) ?_
  intro p e s m below meth c T0 hx hby hml hZ hown hnm hret hlk X0 e0
  refine ownEnds.cast (ef_rm7 m oa) ?_
  show ownEnds _ _ _ _ (T0.setTop (mkF m 0 #[.val (.ref oa)] []))
  refine ownEnds.law (fun t k => XS.aloadN X0.here hx rfl (hb hby d7_0) rfl rfl k) ?_
  show ownEnds _ _ _ _ (T0.setTop (mkF m 1 #[.val (.ref oa)] [(.ref oa)]))
  obtain ⟨T1, X1, e1, st1⟩ := getF X0 hx hZ hown (host := "") (Or.inl (wd_18 hw)) Via.refl e0 F_cacheWritePrompt (g := (mkF m 1 #[.val (.ref oa)] [(.ref oa)])) rfl rfl (hb hby d7_1)
  refine ownEnds.law st1 ?_
  show ownEnds _ _ _ _ (T1.setTop (mkF m 4 #[.val (.ref oa)] [(.long va)]))
  refine ownRetL X1 hlk hx hret (hb hby d7_4) (by decide) (by decide) ?_
  exact ⟨rfl, rfl, e1⟩
set_option maxRecDepth 65536 in
set_option maxHeartbeats 40000000 in
theorem rm8 (l : Launch) (Z : State) (a0 : Array Value) (hw : ∀ d ∈ tables_1, d.before a0 Z = true) (oa : Addr) (va : Int64) (h0 : Heap) (n0 : Nat) (Z0 : n0 ≤ h0.size)  (F_completion : Fld Z h0 oa "com/example/tallydb/tallydb/TokenCounts" "completion" "J" (.long va)) :
    ownMet l Z (⟨"com/example/tallydb/tallydb/TokenCounts", "completion", "()J"⟩ : MethodName) prog_36_method_14_code 1 (some .long) [] ({ frames := 0, cells := 0, slots := 0, locals := 0 } : Room) #[(.ref oa)] h0 (fun v h L => v = some (.long va) ∧ L = [] ∧ h = h0) := by
  refine ownMet.of (plainFor_of_name pn_8) ?_
  intro p e s m below meth c T0 hx hby hml hZ hown hnm hret hlk X0 e0
  refine ownEnds.cast (ef_rm8 m oa) ?_
  show ownEnds _ _ _ _ (T0.setTop (mkF m 0 #[.val (.ref oa)] []))
  refine ownEnds.law (fun t k => XS.aloadN X0.here hx rfl (hb hby d8_0) rfl rfl k) ?_
  show ownEnds _ _ _ _ (T0.setTop (mkF m 1 #[.val (.ref oa)] [(.ref oa)]))
  obtain ⟨T1, X1, e1, st1⟩ := getF X0 hx hZ hown (host := "") (Or.inl (wd_20 hw)) Via.refl e0 F_completion (g := (mkF m 1 #[.val (.ref oa)] [(.ref oa)])) rfl rfl (hb hby d8_1)
  refine ownEnds.law st1 ?_
  show ownEnds _ _ _ _ (T1.setTop (mkF m 4 #[.val (.ref oa)] [(.long va)]))
  refine ownRetL X1 hlk hx hret (hb hby d8_4) (by decide) (by decide) ?_
  exact ⟨rfl, rfl, e1⟩
set_option maxRecDepth 65536 in
set_option maxHeartbeats 40000000 in
theorem rm9 (l : Launch) (Z : State) (a0 : Array Value) (hw : ∀ d ∈ tables_1, d.before a0 Z = true) (oa : Addr) (va : Int64) (h0 : Heap) (n0 : Nat) (Z0 : n0 ≤ h0.size)  (F_cacheWrite1hPrompt : Fld Z h0 oa "com/example/tallydb/tallydb/TokenCounts" "cacheWrite1hPrompt" "J" (.long va)) :
    ownMet l Z (⟨"com/example/tallydb/tallydb/TokenCounts", "cacheWrite1hPrompt", "()J"⟩ : MethodName) prog_36_method_15_code 1 (some .long) [] ({ frames := 0, cells := 0, slots := 0, locals := 0 } : Room) #[(.ref oa)] h0 (fun v h L => v = some (.long va) ∧ L = [] ∧ h = h0) := by
  refine ownMet.of (plainFor_of_name pn_9) ?_
  intro p e s m below meth c T0 hx hby hml hZ hown hnm hret hlk X0 e0
  refine ownEnds.cast (ef_rm9 m oa) ?_
  show ownEnds _ _ _ _ (T0.setTop (mkF m 0 #[.val (.ref oa)] []))
  refine ownEnds.law (fun t k => XS.aloadN X0.here hx rfl (hb hby d9_0) rfl rfl k) ?_
  show ownEnds _ _ _ _ (T0.setTop (mkF m 1 #[.val (.ref oa)] [(.ref oa)]))
  obtain ⟨T1, X1, e1, st1⟩ := getF X0 hx hZ hown (host := "") (Or.inl (wd_22 hw)) Via.refl e0 F_cacheWrite1hPrompt (g := (mkF m 1 #[.val (.ref oa)] [(.ref oa)])) rfl rfl (hb hby d9_1)
  refine ownEnds.law st1 ?_
  show ownEnds _ _ _ _ (T1.setTop (mkF m 4 #[.val (.ref oa)] [(.long va)]))
  refine ownRetL X1 hlk hx hret (hb hby d9_4) (by decide) (by decide) ?_
  exact ⟨rfl, rfl, e1⟩
set_option maxRecDepth 65536 in
set_option maxHeartbeats 40000000 in
theorem rm10 (l : Launch) (Z : State) (a0 : Array Value) (hw : ∀ d ∈ tables_1, d.before a0 Z = true) (oa : Addr) (va : Int64) (h0 : Heap) (n0 : Nat) (Z0 : n0 ≤ h0.size)  (F_audioPrompt : Fld Z h0 oa "com/example/tallydb/tallydb/TokenCounts" "audioPrompt" "J" (.long va)) :
    ownMet l Z (⟨"com/example/tallydb/tallydb/TokenCounts", "audioPrompt", "()J"⟩ : MethodName) prog_36_method_16_code 1 (some .long) [] ({ frames := 0, cells := 0, slots := 0, locals := 0 } : Room) #[(.ref oa)] h0 (fun v h L => v = some (.long va) ∧ L = [] ∧ h = h0) := by
  refine ownMet.of (plainFor_of_name pn_10) ?_
  intro p e s m below meth c T0 hx hby hml hZ hown hnm hret hlk X0 e0
  refine ownEnds.cast (ef_rm10 m oa) ?_
  show ownEnds _ _ _ _ (T0.setTop (mkF m 0 #[.val (.ref oa)] []))
  refine ownEnds.law (fun t k => XS.aloadN X0.here hx rfl (hb hby d10_0) rfl rfl k) ?_
  show ownEnds _ _ _ _ (T0.setTop (mkF m 1 #[.val (.ref oa)] [(.ref oa)]))
  obtain ⟨T1, X1, e1, st1⟩ := getF X0 hx hZ hown (host := "") (Or.inl (wd_24 hw)) Via.refl e0 F_audioPrompt (g := (mkF m 1 #[.val (.ref oa)] [(.ref oa)])) rfl rfl (hb hby d10_1)
  refine ownEnds.law st1 ?_
  show ownEnds _ _ _ _ (T1.setTop (mkF m 4 #[.val (.ref oa)] [(.long va)]))
  refine ownRetL X1 hlk hx hret (hb hby d10_4) (by decide) (by decide) ?_
  exact ⟨rfl, rfl, e1⟩
set_option maxRecDepth 65536 in
set_option maxHeartbeats 40000000 in
theorem rm11 (l : Launch) (Z : State) (a0 : Array Value) (hw : ∀ d ∈ tables_1, d.before a0 Z = true) (oa : Addr) (va : Int64) (h0 : Heap) (n0 : Nat) (Z0 : n0 ≤ h0.size)  (F_audioCompletion : Fld Z h0 oa "com/example/tallydb/tallydb/TokenCounts" "audioCompletion" "J" (.long va)) :
    ownMet l Z (⟨"com/example/tallydb/tallydb/TokenCounts", "audioCompletion", "()J"⟩ : MethodName) prog_36_method_17_code 1 (some .long) [] ({ frames := 0, cells := 0, slots := 0, locals := 0 } : Room) #[(.ref oa)] h0 (fun v h L => v = some (.long va) ∧ L = [] ∧ h = h0) := by
  refine ownMet.of (plainFor_of_name pn_11) ?_
  intro p e s m below meth c T0 hx hby hml hZ hown hnm hret hlk X0 e0
  refine ownEnds.cast (ef_rm11 m oa) ?_
  show ownEnds _ _ _ _ (T0.setTop (mkF m 0 #[.val (.ref oa)] []))
  refine ownEnds.law (fun t k => XS.aloadN X0.here hx rfl (hb hby d11_0) rfl rfl k) ?_
  show ownEnds _ _ _ _ (T0.setTop (mkF m 1 #[.val (.ref oa)] [(.ref oa)]))
  obtain ⟨T1, X1, e1, st1⟩ := getF X0 hx hZ hown (host := "") (Or.inl (wd_26 hw)) Via.refl e0 F_audioCompletion (g := (mkF m 1 #[.val (.ref oa)] [(.ref oa)])) rfl rfl (hb hby d11_1)
  refine ownEnds.law st1 ?_
  show ownEnds _ _ _ _ (T1.setTop (mkF m 4 #[.val (.ref oa)] [(.long va)]))
  refine ownRetL X1 hlk hx hret (hb hby d11_4) (by decide) (by decide) ?_
  exact ⟨rfl, rfl, e1⟩
set_option maxRecDepth 65536 in
set_option maxHeartbeats 40000000 in
theorem rm0 (l : Launch) (Z : State) (a0 : Array Value) (hw : ∀ d ∈ tables_1, d.before a0 Z = true) (qa : Int64) (qb : Int64) (qc : Int64) (qd : Int64) (qe : Int64) (qf : Int64)  (h0 : Heap) (n0 : Nat) (Z0 : n0 ≤ h0.size)  :
    ownMet l Z x code maxLocals ret tables_1 room_1 #[(.long qa), (.long qb), (.long qc), (.long qd), (.long qe), (.long qf)] h0 (fun v h L => v = some (.int 1) ∧ Fr n0 L) := by
  refine ownMet.of (plainFor_of_name pn_0) ?_
  intro p e s m below meth c T0 hx hby hml hZ hown hnm hret hlk X0 e0
  have hown : s.vm.findClass "com/example/tallydb/tallydb/TokenCountsWithSharesOfPinLaw" = some m.cls := hown
  have hml : c.maxLocals = 19 := hml
  have hret : meth.sig.returnType = some .boolean := hret
  refine ownEnds.cast (ef_rm0 m qa qb qc qd qe qf) ?_
  show ownEnds _ _ _ _ (T0.setTop (mkF m 0 #[.val (.long qa), .second, .val (.long qb), .second, .val (.long qc), .second, .val (.long qd), .second, .val (.long qe), .second, .val (.long qf), .second, .unset, .unset, .unset, .unset, .unset, .unset, .unset] []))
  refine ownEnds.law (fun t k => XS.lloadN X0.here hx rfl (hb hby at_0) rfl (XS.lloadN X0.here hx rfl (hb hby at_1) rfl (XS.ladd X0.here hx rfl (hb hby at_2) rfl (XS.lstore X0.here hx rfl (hb hby at_3) rfl (l' := #[.val (.long qa), .second, .val (.long qb), .second, .val (.long qc), .second, .val (.long qd), .second, .val (.long qe), .second, .val (.long qf), .second, .val (.long (qa + qb)), .second, .unset, .unset, .unset, .unset, .unset]) rfl (XS.lload X0.here hx rfl (hb hby at_5) rfl (XS.lload X0.here hx rfl (hb hby at_7) rfl (XS.lxor X0.here hx rfl (hb hby at_9) rfl (XS.lstore X0.here hx rfl (hb hby at_10) rfl (l' := #[.val (.long qa), .second, .val (.long qb), .second, .val (.long qc), .second, .val (.long qd), .second, .val (.long qe), .second, .val (.long qf), .second, .val (.long (qa + qb)), .second, .val (.long (qe ^^^ qf)), .second, .unset, .unset, .unset]) rfl k)))))))) ?_
  show ownEnds _ _ _ _ (T0.setTop (mkF m 12 #[.val (.long qa), .second, .val (.long qb), .second, .val (.long qc), .second, .val (.long qd), .second, .val (.long qe), .second, .val (.long qf), .second, .val (.long (qa + qb)), .second, .val (.long (qe ^^^ qf)), .second, .unset, .unset, .unset] []))
  obtain ⟨T1, h1, X1, e1, E1, A1, D1, -, st1⟩ := newO X0 hx hZ hown (wd_0 hw) (wd_1 hw) (wd_2 hw) e0 (g := (mkF m 12 #[.val (.long qa), .second, .val (.long qb), .second, .val (.long qc), .second, .val (.long qd), .second, .val (.long qe), .second, .val (.long qf), .second, .val (.long (qa + qb)), .second, .val (.long (qe ^^^ qf)), .second, .unset, .unset, .unset] [])) rfl (hb hby at_12) (by decide) (by decide)
  obtain ⟨b1, g1⟩ : ∃ z, z = h0.size := ⟨_, rfl⟩
  rw [← g1] at A1 D1 st1
  refine ownEnds.law st1 ?_
  have g_b1 : n0 ≤ b1 := Nat.le_trans Z0 (Nat.le_of_eq g1.symm)
  have Z1 : n0 ≤ h1.size := Nat.le_trans Z0 E1.1
  have F2 : Fld Z h1 b1 "com/example/tallydb/tallydb/TokenCounts" "prompt" "J" (.long (0 : Int64)) := D1 (Or.inr (wd_15 hw)) (ty := .long) (by decide)
  have F3 : Fld Z h1 b1 "com/example/tallydb/tallydb/TokenCounts" "cachedPrompt" "J" (.long (0 : Int64)) := D1 (Or.inr (wd_17 hw)) (ty := .long) (by decide)
  have F4 : Fld Z h1 b1 "com/example/tallydb/tallydb/TokenCounts" "cacheWritePrompt" "J" (.long (0 : Int64)) := D1 (Or.inr (wd_19 hw)) (ty := .long) (by decide)
  have F5 : Fld Z h1 b1 "com/example/tallydb/tallydb/TokenCounts" "completion" "J" (.long (0 : Int64)) := D1 (Or.inr (wd_21 hw)) (ty := .long) (by decide)
  have F6 : Fld Z h1 b1 "com/example/tallydb/tallydb/TokenCounts" "cacheWrite1hPrompt" "J" (.long (0 : Int64)) := D1 (Or.inr (wd_23 hw)) (ty := .long) (by decide)
  have F7 : Fld Z h1 b1 "com/example/tallydb/tallydb/TokenCounts" "audioPrompt" "J" (.long (0 : Int64)) := D1 (Or.inr (wd_25 hw)) (ty := .long) (by decide)
  have F8 : Fld Z h1 b1 "com/example/tallydb/tallydb/TokenCounts" "audioCompletion" "J" (.long (0 : Int64)) := D1 (Or.inr (wd_27 hw)) (ty := .long) (by decide)
  show ownEnds _ _ _ _ (T1.setTop (mkF m 15 #[.val (.long qa), .second, .val (.long qb), .second, .val (.long qc), .second, .val (.long qd), .second, .val (.long qe), .second, .val (.long qf), .second, .val (.long (qa + qb)), .second, .val (.long (qe ^^^ qf)), .second, .unset, .unset, .unset] [(.ref b1)]))
  refine ownEnds.law (fun t k => XS.dup X1.here hx rfl (hb hby at_15) rfl rfl (XS.lloadN X1.here hx rfl (hb hby at_16) rfl (XS.lloadN X1.here hx rfl (hb hby at_17) rfl (XS.lload X1.here hx rfl (hb hby at_18) rfl (XS.lload X1.here hx rfl (hb hby at_20) rfl (XS.lload X1.here hx rfl (hb hby at_22) rfl (XS.lload X1.here hx rfl (hb hby at_24) rfl (XS.lload X1.here hx rfl (hb hby at_26) rfl k)))))))) ?_
  show ownEnds _ _ _ _ (T1.setTop (mkF m 28 #[.val (.long qa), .second, .val (.long qb), .second, .val (.long qc), .second, .val (.long qd), .second, .val (.long qe), .second, .val (.long qf), .second, .val (.long (qa + qb)), .second, .val (.long (qe ^^^ qf)), .second, .unset, .unset, .unset] [(.long (qa + qb)), (.long qf), (.long qe), (.long qd), (.long qc), (.long qb), (.long qa), (.ref b1), (.ref b1)]))
  obtain ⟨v9, T9, L9, X9, hQ9, st9⟩ := ownCallC X1 hx hZ hown (y := (⟨"com/example/tallydb/tallydb/TokenCounts", "<init>", "(JJJJJJJ)V"⟩ : MethodName)) rfl (a := b1) (as := [(.long qa), (.long qb), (.long qc), (.long qd), (.long qe), (.long qf), (.long (qa + qb))]) (wd_3 hw) (wd_4 hw) (wd_2 hw) (wd_5 hw) (by decide) (rm1 l Z a0 hw b1 qa qb qc qd qe qf (qa + qb)  h1 n0 Z1 A1 g_b1 F2 F3 F4 F5 F6 F7 F8) e1 1 (by decide) (by decide) (by decide) (by decide) (g := (mkF m 28 #[.val (.long qa), .second, .val (.long qb), .second, .val (.long qc), .second, .val (.long qd), .second, .val (.long qe), .second, .val (.long qf), .second, .val (.long (qa + qb)), .second, .val (.long (qe ^^^ qf)), .second, .unset, .unset, .unset] [(.long (qa + qb)), (.long qf), (.long qe), (.long qd), (.long qc), (.long qb), (.long qa), (.ref b1), (.ref b1)])) rfl (by rw [hml]; rfl) (rest := [(.ref b1)]) pd_1 rfl rfl (by show 2 * 0 + _ ≤ _; exact Nat.le_of_eq rfl) (hb hby at_28)
  obtain ⟨rfl, Nq9, Kq9, Eq9, Fc9_0, Fc9_1, Fc9_2, Fc9_3, Fc9_4, Fc9_5, Fc9_6⟩ := hQ9
  have N9 := Fr.app (Fr.nil n0) Nq9
  have Z9 : n0 ≤ T9.heap.size := Nat.le_trans Z1 Kq9.1
  refine ownEnds.law st9 ?_
  show ownEnds _ _ _ _ (T9.setTop (mkF m 31 #[.val (.long qa), .second, .val (.long qb), .second, .val (.long qc), .second, .val (.long qd), .second, .val (.long qe), .second, .val (.long qf), .second, .val (.long (qa + qb)), .second, .val (.long (qe ^^^ qf)), .second, .unset, .unset, .unset] [(.ref b1)]))
  refine ownEnds.law (fun t k => XS.astore X9.here hx rfl (hb hby at_31) rfl rfl (l' := #[.val (.long qa), .second, .val (.long qb), .second, .val (.long qc), .second, .val (.long qd), .second, .val (.long qe), .second, .val (.long qf), .second, .val (.long (qa + qb)), .second, .val (.long (qe ^^^ qf)), .second, .val (.ref b1), .unset, .unset]) rfl k) ?_
  show ownEnds _ _ _ _ (T9.setTop (mkF m 33 #[.val (.long qa), .second, .val (.long qb), .second, .val (.long qc), .second, .val (.long qd), .second, .val (.long qe), .second, .val (.long qf), .second, .val (.long (qa + qb)), .second, .val (.long (qe ^^^ qf)), .second, .val (.ref b1), .unset, .unset] []))
  obtain ⟨T10, h10, X10, e10, E10, A10, D10, -, st10⟩ := newO X9 hx hZ hown (wd_0 hw) (wd_1 hw) (wd_2 hw) rfl (g := (mkF m 33 #[.val (.long qa), .second, .val (.long qb), .second, .val (.long qc), .second, .val (.long qd), .second, .val (.long qe), .second, .val (.long qf), .second, .val (.long (qa + qb)), .second, .val (.long (qe ^^^ qf)), .second, .val (.ref b1), .unset, .unset] [])) rfl (hb hby at_33) (by decide) (by decide)
  obtain ⟨b10, g10⟩ : ∃ z, z = T9.heap.size := ⟨_, rfl⟩
  rw [← g10] at A10 D10 st10
  refine ownEnds.law st10 ?_
  have ne_b1_b10 : b1 ≠ b10 := Nat.ne_of_lt (Nat.lt_of_lt_of_eq Eq9.lt g10.symm)
  have g_b10 : n0 ≤ b10 := Nat.le_trans Z9 (Nat.le_of_eq g10.symm)
  have Z10 : n0 ≤ h10.size := Nat.le_trans Z9 E10.1
  have F11 : Fld Z h10 b10 "com/example/tallydb/tallydb/TokenCounts" "prompt" "J" (.long (0 : Int64)) := D10 (Or.inr (wd_15 hw)) (ty := .long) (by decide)
  have F12 : Fld Z h10 b10 "com/example/tallydb/tallydb/TokenCounts" "cachedPrompt" "J" (.long (0 : Int64)) := D10 (Or.inr (wd_17 hw)) (ty := .long) (by decide)
  have F13 : Fld Z h10 b10 "com/example/tallydb/tallydb/TokenCounts" "cacheWritePrompt" "J" (.long (0 : Int64)) := D10 (Or.inr (wd_19 hw)) (ty := .long) (by decide)
  have F14 : Fld Z h10 b10 "com/example/tallydb/tallydb/TokenCounts" "completion" "J" (.long (0 : Int64)) := D10 (Or.inr (wd_21 hw)) (ty := .long) (by decide)
  have F15 : Fld Z h10 b10 "com/example/tallydb/tallydb/TokenCounts" "cacheWrite1hPrompt" "J" (.long (0 : Int64)) := D10 (Or.inr (wd_23 hw)) (ty := .long) (by decide)
  have F16 : Fld Z h10 b10 "com/example/tallydb/tallydb/TokenCounts" "audioPrompt" "J" (.long (0 : Int64)) := D10 (Or.inr (wd_25 hw)) (ty := .long) (by decide)
  have F17 : Fld Z h10 b10 "com/example/tallydb/tallydb/TokenCounts" "audioCompletion" "J" (.long (0 : Int64)) := D10 (Or.inr (wd_27 hw)) (ty := .long) (by decide)
  show ownEnds _ _ _ _ (T10.setTop (mkF m 36 #[.val (.long qa), .second, .val (.long qb), .second, .val (.long qc), .second, .val (.long qd), .second, .val (.long qe), .second, .val (.long qf), .second, .val (.long (qa + qb)), .second, .val (.long (qe ^^^ qf)), .second, .val (.ref b1), .unset, .unset] [(.ref b10)]))
  refine ownEnds.law (fun t k => XS.dup X10.here hx rfl (hb hby at_36) rfl rfl (XS.lload X10.here hx rfl (hb hby at_37) rfl (XS.lload X10.here hx rfl (hb hby at_39) rfl (XS.lloadN X10.here hx rfl (hb hby at_41) rfl (XS.lloadN X10.here hx rfl (hb hby at_42) rfl (XS.lload X10.here hx rfl (hb hby at_43) rfl (XS.lload X10.here hx rfl (hb hby at_45) rfl (XS.lload X10.here hx rfl (hb hby at_47) rfl k)))))))) ?_
  show ownEnds _ _ _ _ (T10.setTop (mkF m 49 #[.val (.long qa), .second, .val (.long qb), .second, .val (.long qc), .second, .val (.long qd), .second, .val (.long qe), .second, .val (.long qf), .second, .val (.long (qa + qb)), .second, .val (.long (qe ^^^ qf)), .second, .val (.ref b1), .unset, .unset] [(.long (qe ^^^ qf)), (.long qd), (.long qc), (.long qb), (.long qa), (.long qf), (.long qe), (.ref b10), (.ref b10)]))
  obtain ⟨v18, T18, L18, X18, hQ18, st18⟩ := ownCallC X10 hx hZ hown (y := (⟨"com/example/tallydb/tallydb/TokenCounts", "<init>", "(JJJJJJJ)V"⟩ : MethodName)) rfl (a := b10) (as := [(.long qe), (.long qf), (.long qa), (.long qb), (.long qc), (.long qd), (.long (qe ^^^ qf))]) (wd_3 hw) (wd_4 hw) (wd_2 hw) (wd_5 hw) (by decide) (rm1 l Z a0 hw b10 qe qf qa qb qc qd (qe ^^^ qf)  h10 n0 Z10 A10 g_b10 F11 F12 F13 F14 F15 F16 F17) e10 1 (by decide) (by decide) (by decide) (by decide) (g := (mkF m 49 #[.val (.long qa), .second, .val (.long qb), .second, .val (.long qc), .second, .val (.long qd), .second, .val (.long qe), .second, .val (.long qf), .second, .val (.long (qa + qb)), .second, .val (.long (qe ^^^ qf)), .second, .val (.ref b1), .unset, .unset] [(.long (qe ^^^ qf)), (.long qd), (.long qc), (.long qb), (.long qa), (.long qf), (.long qe), (.ref b10), (.ref b10)])) rfl (by rw [hml]; rfl) (rest := [(.ref b10)]) pd_1 rfl rfl (by show 2 * 0 + _ ≤ _; exact Nat.le_of_eq rfl) (hb hby at_49)
  obtain ⟨rfl, Nq18, Kq18, Eq18, Fc18_0, Fc18_1, Fc18_2, Fc18_3, Fc18_4, Fc18_5, Fc18_6⟩ := hQ18
  have N18 := Fr.app N9 Nq18
  have Z18 : n0 ≤ T18.heap.size := Nat.le_trans Z10 Kq18.1
  refine ownEnds.law st18 ?_
  show ownEnds _ _ _ _ (T18.setTop (mkF m 52 #[.val (.long qa), .second, .val (.long qb), .second, .val (.long qc), .second, .val (.long qd), .second, .val (.long qe), .second, .val (.long qf), .second, .val (.long (qa + qb)), .second, .val (.long (qe ^^^ qf)), .second, .val (.ref b1), .unset, .unset] [(.ref b10)]))
  refine ownEnds.law (fun t k => XS.astore X18.here hx rfl (hb hby at_52) rfl rfl (l' := #[.val (.long qa), .second, .val (.long qb), .second, .val (.long qc), .second, .val (.long qd), .second, .val (.long qe), .second, .val (.long qf), .second, .val (.long (qa + qb)), .second, .val (.long (qe ^^^ qf)), .second, .val (.ref b1), .val (.ref b10), .unset]) rfl (XS.aload X18.here hx rfl (hb hby at_54) rfl rfl (XS.aload X18.here hx rfl (hb hby at_56) rfl rfl k))) ?_
  show ownEnds _ _ _ _ (T18.setTop (mkF m 58 #[.val (.long qa), .second, .val (.long qb), .second, .val (.long qc), .second, .val (.long qd), .second, .val (.long qe), .second, .val (.long qf), .second, .val (.long (qa + qb)), .second, .val (.long (qe ^^^ qf)), .second, .val (.ref b1), .val (.ref b10), .unset] [(.ref b10), (.ref b1)]))
  have f20 := (Fld.keep (Fld.ext E10 Fc9_0) Kq18 (ninS ne_b1_b10 nin0))
  have f21 := (Fld.keep (Fld.ext E10 Fc9_1) Kq18 (ninS ne_b1_b10 nin0))
  have f22 := (Fld.keep (Fld.ext E10 Fc9_2) Kq18 (ninS ne_b1_b10 nin0))
  have f23 := (Fld.keep (Fld.ext E10 Fc9_3) Kq18 (ninS ne_b1_b10 nin0))
  have f24 := (Exa.keep (Exa.ext E10 Eq9) Kq18)
  obtain ⟨v19, T19, L19, X19, hQ19, st19⟩ := ownCallV X18 hx hZ hown (y := (⟨"com/example/tallydb/tallydb/TokenCounts", "withSharesOf", "(Lcom/example/tallydb/tallydb/TokenCounts;)Lcom/example/tallydb/tallydb/TokenCounts;"⟩ : MethodName)) (z := (⟨"com/example/tallydb/tallydb/TokenCounts", "withSharesOf", "(Lcom/example/tallydb/tallydb/TokenCounts;)Lcom/example/tallydb/tallydb/TokenCounts;"⟩ : MethodName)) (a := b1) (as := [(.ref b10)]) (wd_28 hw) (wd_29 hw) (notFace_of_selects (args := #[]) (mvT hZ (wd_31 hw))) (wd_31 hw) (wd_30 hw) (wd_2 hw) (wd_32 hw) (by decide) (rm4 l Z a0 hw b1 b10 qa qb qc qd qc qd (qe ^^^ qf) T18.heap n0 Z18 f20 f21 f22 f23 Fc18_4 Fc18_5 Fc18_6) rfl f24 0 (by decide) (by decide) (by decide) (by decide) (g := (mkF m 58 #[.val (.long qa), .second, .val (.long qb), .second, .val (.long qc), .second, .val (.long qd), .second, .val (.long qe), .second, .val (.long qf), .second, .val (.long (qa + qb)), .second, .val (.long (qe ^^^ qf)), .second, .val (.ref b1), .val (.ref b10), .unset] [(.ref b10), (.ref b1)])) rfl (by rw [hml]; rfl) (rest := []) pd_2 rfl rfl (by show 2 * 0 + _ ≤ _; exact Nat.le_of_eq rfl) (hb hby at_58)
  obtain ⟨r19, rfl, Nq19, Kq19, g_r19, Eq19, Fc19_0, Fc19_1, Fc19_2, Fc19_3, Fc19_4, Fc19_5, Fc19_6⟩ := hQ19
  have N19 := Fr.app N18 Nq19
  have Z19 : n0 ≤ T19.heap.size := Nat.le_trans Z18 Kq19.1
  refine ownEnds.law st19 ?_
  show ownEnds _ _ _ _ (T19.setTop (mkF m 61 #[.val (.long qa), .second, .val (.long qb), .second, .val (.long qc), .second, .val (.long qd), .second, .val (.long qe), .second, .val (.long qf), .second, .val (.long (qa + qb)), .second, .val (.long (qe ^^^ qf)), .second, .val (.ref b1), .val (.ref b10), .unset] [(.ref r19)]))
  refine ownEnds.law (fun t k => XS.astore X19.here hx rfl (hb hby at_61) rfl rfl (l' := #[.val (.long qa), .second, .val (.long qb), .second, .val (.long qc), .second, .val (.long qd), .second, .val (.long qe), .second, .val (.long qf), .second, .val (.long (qa + qb)), .second, .val (.long (qe ^^^ qf)), .second, .val (.ref b1), .val (.ref b10), .val (.ref r19)]) rfl (XS.aload X19.here hx rfl (hb hby at_63) rfl rfl k)) ?_
  show ownEnds _ _ _ _ (T19.setTop (mkF m 65 #[.val (.long qa), .second, .val (.long qb), .second, .val (.long qc), .second, .val (.long qd), .second, .val (.long qe), .second, .val (.long qf), .second, .val (.long (qa + qb)), .second, .val (.long (qe ^^^ qf)), .second, .val (.ref b1), .val (.ref b10), .val (.ref r19)] [(.ref r19)]))
  obtain ⟨v25, T25, L25, X25, hQ25, st25⟩ := ownCallV X19 hx hZ hown (y := (⟨"com/example/tallydb/tallydb/TokenCounts", "prompt", "()J"⟩ : MethodName)) (z := (⟨"com/example/tallydb/tallydb/TokenCounts", "prompt", "()J"⟩ : MethodName)) (a := r19) (as := []) (wd_35 hw) (wd_36 hw) (notFace_of_selects (args := #[]) (mvT hZ (wd_38 hw))) (wd_38 hw) (wd_37 hw) (wd_2 hw) (wd_39 hw) (by decide) (rm5 l Z a0 hw r19 qa T19.heap n0 Z19 Fc19_0) rfl Eq19 0 (by decide) (by decide) (by decide) (by decide) (g := (mkF m 65 #[.val (.long qa), .second, .val (.long qb), .second, .val (.long qc), .second, .val (.long qd), .second, .val (.long qe), .second, .val (.long qf), .second, .val (.long (qa + qb)), .second, .val (.long (qe ^^^ qf)), .second, .val (.ref b1), .val (.ref b10), .val (.ref r19)] [(.ref r19)])) rfl (by rw [hml]; rfl) (rest := []) pd_3 rfl rfl (by show 2 * 0 + _ ≤ _; exact Nat.le_of_eq rfl) (hb hby at_65)
  obtain ⟨rfl, rfl, e25⟩ := hQ25
  rw [List.append_nil] at X25
  refine ownEnds.law st25 ?_
  show ownEnds _ _ _ _ (T25.setTop (mkF m 68 #[.val (.long qa), .second, .val (.long qb), .second, .val (.long qc), .second, .val (.long qd), .second, .val (.long qe), .second, .val (.long qf), .second, .val (.long (qa + qb)), .second, .val (.long (qe ^^^ qf)), .second, .val (.ref b1), .val (.ref b10), .val (.ref r19)] [(.long qa)]))
  refine ownEnds.law (fun t k => XS.lloadN X25.here hx rfl (hb hby at_68) rfl (XS.lcmp X25.here hx rfl (hb hby at_69) rfl k)) ?_
  show ownEnds _ _ _ _ (T25.setTop (mkF m 70 #[.val (.long qa), .second, .val (.long qb), .second, .val (.long qc), .second, .val (.long qd), .second, .val (.long qe), .second, .val (.long qf), .second, .val (.long (qa + qb)), .second, .val (.long (qe ^^^ qf)), .second, .val (.ref b1), .val (.ref b10), .val (.ref r19)] [(.int (lcmpW qa qa))]))
  have hc70 : qa = qa := rfl
  refine ownEnds.law (fun t => XS.ifNo X25.here hx rfl (hb hby at_70) rfl ((if0 _ _).trans (teq ((lw_eq _ _).mpr hc70)).2)) ?_
  show ownEnds _ _ _ _ (T25.setTop (mkF m 73 #[.val (.long qa), .second, .val (.long qb), .second, .val (.long qc), .second, .val (.long qd), .second, .val (.long qe), .second, .val (.long qf), .second, .val (.long (qa + qb)), .second, .val (.long (qe ^^^ qf)), .second, .val (.ref b1), .val (.ref b10), .val (.ref r19)] []))
  refine ownEnds.law (fun t k => XS.aload X25.here hx rfl (hb hby at_73) rfl rfl k) ?_
  show ownEnds _ _ _ _ (T25.setTop (mkF m 75 #[.val (.long qa), .second, .val (.long qb), .second, .val (.long qc), .second, .val (.long qd), .second, .val (.long qe), .second, .val (.long qf), .second, .val (.long (qa + qb)), .second, .val (.long (qe ^^^ qf)), .second, .val (.ref b1), .val (.ref b10), .val (.ref r19)] [(.ref r19)]))
  obtain ⟨v26, T26, L26, X26, hQ26, st26⟩ := ownCallV X25 hx hZ hown (y := (⟨"com/example/tallydb/tallydb/TokenCounts", "cachedPrompt", "()J"⟩ : MethodName)) (z := (⟨"com/example/tallydb/tallydb/TokenCounts", "cachedPrompt", "()J"⟩ : MethodName)) (a := r19) (as := []) (wd_40 hw) (wd_41 hw) (notFace_of_selects (args := #[]) (mvT hZ (wd_43 hw))) (wd_43 hw) (wd_42 hw) (wd_2 hw) (wd_44 hw) (by decide) (rm6 l Z a0 hw r19 qb T19.heap n0 Z19 Fc19_1) e25 Eq19 0 (by decide) (by decide) (by decide) (by decide) (g := (mkF m 75 #[.val (.long qa), .second, .val (.long qb), .second, .val (.long qc), .second, .val (.long qd), .second, .val (.long qe), .second, .val (.long qf), .second, .val (.long (qa + qb)), .second, .val (.long (qe ^^^ qf)), .second, .val (.ref b1), .val (.ref b10), .val (.ref r19)] [(.ref r19)])) rfl (by rw [hml]; rfl) (rest := []) pd_3 rfl rfl (by show 2 * 0 + _ ≤ _; exact Nat.le_of_eq rfl) (hb hby at_75)
  obtain ⟨rfl, rfl, e26⟩ := hQ26
  rw [List.append_nil] at X26
  refine ownEnds.law st26 ?_
  show ownEnds _ _ _ _ (T26.setTop (mkF m 78 #[.val (.long qa), .second, .val (.long qb), .second, .val (.long qc), .second, .val (.long qd), .second, .val (.long qe), .second, .val (.long qf), .second, .val (.long (qa + qb)), .second, .val (.long (qe ^^^ qf)), .second, .val (.ref b1), .val (.ref b10), .val (.ref r19)] [(.long qb)]))
  refine ownEnds.law (fun t k => XS.lloadN X26.here hx rfl (hb hby at_78) rfl (XS.lcmp X26.here hx rfl (hb hby at_79) rfl k)) ?_
  show ownEnds _ _ _ _ (T26.setTop (mkF m 80 #[.val (.long qa), .second, .val (.long qb), .second, .val (.long qc), .second, .val (.long qd), .second, .val (.long qe), .second, .val (.long qf), .second, .val (.long (qa + qb)), .second, .val (.long (qe ^^^ qf)), .second, .val (.ref b1), .val (.ref b10), .val (.ref r19)] [(.int (lcmpW qb qb))]))
  have hc80 : qb = qb := rfl
  refine ownEnds.law (fun t => XS.ifNo X26.here hx rfl (hb hby at_80) rfl ((if0 _ _).trans (teq ((lw_eq _ _).mpr hc80)).2)) ?_
  show ownEnds _ _ _ _ (T26.setTop (mkF m 83 #[.val (.long qa), .second, .val (.long qb), .second, .val (.long qc), .second, .val (.long qd), .second, .val (.long qe), .second, .val (.long qf), .second, .val (.long (qa + qb)), .second, .val (.long (qe ^^^ qf)), .second, .val (.ref b1), .val (.ref b10), .val (.ref r19)] []))
  refine ownEnds.law (fun t k => XS.aload X26.here hx rfl (hb hby at_83) rfl rfl k) ?_
  show ownEnds _ _ _ _ (T26.setTop (mkF m 85 #[.val (.long qa), .second, .val (.long qb), .second, .val (.long qc), .second, .val (.long qd), .second, .val (.long qe), .second, .val (.long qf), .second, .val (.long (qa + qb)), .second, .val (.long (qe ^^^ qf)), .second, .val (.ref b1), .val (.ref b10), .val (.ref r19)] [(.ref r19)]))
  obtain ⟨v27, T27, L27, X27, hQ27, st27⟩ := ownCallV X26 hx hZ hown (y := (⟨"com/example/tallydb/tallydb/TokenCounts", "cacheWritePrompt", "()J"⟩ : MethodName)) (z := (⟨"com/example/tallydb/tallydb/TokenCounts", "cacheWritePrompt", "()J"⟩ : MethodName)) (a := r19) (as := []) (wd_45 hw) (wd_46 hw) (notFace_of_selects (args := #[]) (mvT hZ (wd_48 hw))) (wd_48 hw) (wd_47 hw) (wd_2 hw) (wd_49 hw) (by decide) (rm7 l Z a0 hw r19 qc T19.heap n0 Z19 Fc19_2) e26 Eq19 0 (by decide) (by decide) (by decide) (by decide) (g := (mkF m 85 #[.val (.long qa), .second, .val (.long qb), .second, .val (.long qc), .second, .val (.long qd), .second, .val (.long qe), .second, .val (.long qf), .second, .val (.long (qa + qb)), .second, .val (.long (qe ^^^ qf)), .second, .val (.ref b1), .val (.ref b10), .val (.ref r19)] [(.ref r19)])) rfl (by rw [hml]; rfl) (rest := []) pd_3 rfl rfl (by show 2 * 0 + _ ≤ _; exact Nat.le_of_eq rfl) (hb hby at_85)
  obtain ⟨rfl, rfl, e27⟩ := hQ27
  rw [List.append_nil] at X27
  refine ownEnds.law st27 ?_
  show ownEnds _ _ _ _ (T27.setTop (mkF m 88 #[.val (.long qa), .second, .val (.long qb), .second, .val (.long qc), .second, .val (.long qd), .second, .val (.long qe), .second, .val (.long qf), .second, .val (.long (qa + qb)), .second, .val (.long (qe ^^^ qf)), .second, .val (.ref b1), .val (.ref b10), .val (.ref r19)] [(.long qc)]))
  refine ownEnds.law (fun t k => XS.lload X27.here hx rfl (hb hby at_88) rfl (XS.lcmp X27.here hx rfl (hb hby at_90) rfl k)) ?_
  show ownEnds _ _ _ _ (T27.setTop (mkF m 91 #[.val (.long qa), .second, .val (.long qb), .second, .val (.long qc), .second, .val (.long qd), .second, .val (.long qe), .second, .val (.long qf), .second, .val (.long (qa + qb)), .second, .val (.long (qe ^^^ qf)), .second, .val (.ref b1), .val (.ref b10), .val (.ref r19)] [(.int (lcmpW qc qc))]))
  have hc91 : qc = qc := rfl
  refine ownEnds.law (fun t => XS.ifNo X27.here hx rfl (hb hby at_91) rfl ((if0 _ _).trans (teq ((lw_eq _ _).mpr hc91)).2)) ?_
  show ownEnds _ _ _ _ (T27.setTop (mkF m 94 #[.val (.long qa), .second, .val (.long qb), .second, .val (.long qc), .second, .val (.long qd), .second, .val (.long qe), .second, .val (.long qf), .second, .val (.long (qa + qb)), .second, .val (.long (qe ^^^ qf)), .second, .val (.ref b1), .val (.ref b10), .val (.ref r19)] []))
  refine ownEnds.law (fun t k => XS.aload X27.here hx rfl (hb hby at_94) rfl rfl k) ?_
  show ownEnds _ _ _ _ (T27.setTop (mkF m 96 #[.val (.long qa), .second, .val (.long qb), .second, .val (.long qc), .second, .val (.long qd), .second, .val (.long qe), .second, .val (.long qf), .second, .val (.long (qa + qb)), .second, .val (.long (qe ^^^ qf)), .second, .val (.ref b1), .val (.ref b10), .val (.ref r19)] [(.ref r19)]))
  obtain ⟨v28, T28, L28, X28, hQ28, st28⟩ := ownCallV X27 hx hZ hown (y := (⟨"com/example/tallydb/tallydb/TokenCounts", "completion", "()J"⟩ : MethodName)) (z := (⟨"com/example/tallydb/tallydb/TokenCounts", "completion", "()J"⟩ : MethodName)) (a := r19) (as := []) (wd_50 hw) (wd_51 hw) (notFace_of_selects (args := #[]) (mvT hZ (wd_53 hw))) (wd_53 hw) (wd_52 hw) (wd_2 hw) (wd_54 hw) (by decide) (rm8 l Z a0 hw r19 qd T19.heap n0 Z19 Fc19_3) e27 Eq19 0 (by decide) (by decide) (by decide) (by decide) (g := (mkF m 96 #[.val (.long qa), .second, .val (.long qb), .second, .val (.long qc), .second, .val (.long qd), .second, .val (.long qe), .second, .val (.long qf), .second, .val (.long (qa + qb)), .second, .val (.long (qe ^^^ qf)), .second, .val (.ref b1), .val (.ref b10), .val (.ref r19)] [(.ref r19)])) rfl (by rw [hml]; rfl) (rest := []) pd_3 rfl rfl (by show 2 * 0 + _ ≤ _; exact Nat.le_of_eq rfl) (hb hby at_96)
  obtain ⟨rfl, rfl, e28⟩ := hQ28
  rw [List.append_nil] at X28
  refine ownEnds.law st28 ?_
  show ownEnds _ _ _ _ (T28.setTop (mkF m 99 #[.val (.long qa), .second, .val (.long qb), .second, .val (.long qc), .second, .val (.long qd), .second, .val (.long qe), .second, .val (.long qf), .second, .val (.long (qa + qb)), .second, .val (.long (qe ^^^ qf)), .second, .val (.ref b1), .val (.ref b10), .val (.ref r19)] [(.long qd)]))
  refine ownEnds.law (fun t k => XS.lload X28.here hx rfl (hb hby at_99) rfl (XS.lcmp X28.here hx rfl (hb hby at_101) rfl k)) ?_
  show ownEnds _ _ _ _ (T28.setTop (mkF m 102 #[.val (.long qa), .second, .val (.long qb), .second, .val (.long qc), .second, .val (.long qd), .second, .val (.long qe), .second, .val (.long qf), .second, .val (.long (qa + qb)), .second, .val (.long (qe ^^^ qf)), .second, .val (.ref b1), .val (.ref b10), .val (.ref r19)] [(.int (lcmpW qd qd))]))
  have hc102 : qd = qd := rfl
  refine ownEnds.law (fun t => XS.ifNo X28.here hx rfl (hb hby at_102) rfl ((if0 _ _).trans (teq ((lw_eq _ _).mpr hc102)).2)) ?_
  show ownEnds _ _ _ _ (T28.setTop (mkF m 105 #[.val (.long qa), .second, .val (.long qb), .second, .val (.long qc), .second, .val (.long qd), .second, .val (.long qe), .second, .val (.long qf), .second, .val (.long (qa + qb)), .second, .val (.long (qe ^^^ qf)), .second, .val (.ref b1), .val (.ref b10), .val (.ref r19)] []))
  refine ownEnds.law (fun t k => XS.aload X28.here hx rfl (hb hby at_105) rfl rfl k) ?_
  show ownEnds _ _ _ _ (T28.setTop (mkF m 107 #[.val (.long qa), .second, .val (.long qb), .second, .val (.long qc), .second, .val (.long qd), .second, .val (.long qe), .second, .val (.long qf), .second, .val (.long (qa + qb)), .second, .val (.long (qe ^^^ qf)), .second, .val (.ref b1), .val (.ref b10), .val (.ref r19)] [(.ref r19)]))
  obtain ⟨v29, T29, L29, X29, hQ29, st29⟩ := ownCallV X28 hx hZ hown (y := (⟨"com/example/tallydb/tallydb/TokenCounts", "cacheWrite1hPrompt", "()J"⟩ : MethodName)) (z := (⟨"com/example/tallydb/tallydb/TokenCounts", "cacheWrite1hPrompt", "()J"⟩ : MethodName)) (a := r19) (as := []) (wd_55 hw) (wd_56 hw) (notFace_of_selects (args := #[]) (mvT hZ (wd_58 hw))) (wd_58 hw) (wd_57 hw) (wd_2 hw) (wd_59 hw) (by decide) (rm9 l Z a0 hw r19 qc T19.heap n0 Z19 Fc19_4) e28 Eq19 0 (by decide) (by decide) (by decide) (by decide) (g := (mkF m 107 #[.val (.long qa), .second, .val (.long qb), .second, .val (.long qc), .second, .val (.long qd), .second, .val (.long qe), .second, .val (.long qf), .second, .val (.long (qa + qb)), .second, .val (.long (qe ^^^ qf)), .second, .val (.ref b1), .val (.ref b10), .val (.ref r19)] [(.ref r19)])) rfl (by rw [hml]; rfl) (rest := []) pd_3 rfl rfl (by show 2 * 0 + _ ≤ _; exact Nat.le_of_eq rfl) (hb hby at_107)
  obtain ⟨rfl, rfl, e29⟩ := hQ29
  rw [List.append_nil] at X29
  refine ownEnds.law st29 ?_
  show ownEnds _ _ _ _ (T29.setTop (mkF m 110 #[.val (.long qa), .second, .val (.long qb), .second, .val (.long qc), .second, .val (.long qd), .second, .val (.long qe), .second, .val (.long qf), .second, .val (.long (qa + qb)), .second, .val (.long (qe ^^^ qf)), .second, .val (.ref b1), .val (.ref b10), .val (.ref r19)] [(.long qc)]))
  refine ownEnds.law (fun t k => XS.lload X29.here hx rfl (hb hby at_110) rfl (XS.lcmp X29.here hx rfl (hb hby at_112) rfl k)) ?_
  show ownEnds _ _ _ _ (T29.setTop (mkF m 113 #[.val (.long qa), .second, .val (.long qb), .second, .val (.long qc), .second, .val (.long qd), .second, .val (.long qe), .second, .val (.long qf), .second, .val (.long (qa + qb)), .second, .val (.long (qe ^^^ qf)), .second, .val (.ref b1), .val (.ref b10), .val (.ref r19)] [(.int (lcmpW qc qc))]))
  have hc113 : qc = qc := rfl
  refine ownEnds.law (fun t => XS.ifNo X29.here hx rfl (hb hby at_113) rfl ((if0 _ _).trans (teq ((lw_eq _ _).mpr hc113)).2)) ?_
  show ownEnds _ _ _ _ (T29.setTop (mkF m 116 #[.val (.long qa), .second, .val (.long qb), .second, .val (.long qc), .second, .val (.long qd), .second, .val (.long qe), .second, .val (.long qf), .second, .val (.long (qa + qb)), .second, .val (.long (qe ^^^ qf)), .second, .val (.ref b1), .val (.ref b10), .val (.ref r19)] []))
  refine ownEnds.law (fun t k => XS.aload X29.here hx rfl (hb hby at_116) rfl rfl k) ?_
  show ownEnds _ _ _ _ (T29.setTop (mkF m 118 #[.val (.long qa), .second, .val (.long qb), .second, .val (.long qc), .second, .val (.long qd), .second, .val (.long qe), .second, .val (.long qf), .second, .val (.long (qa + qb)), .second, .val (.long (qe ^^^ qf)), .second, .val (.ref b1), .val (.ref b10), .val (.ref r19)] [(.ref r19)]))
  obtain ⟨v30, T30, L30, X30, hQ30, st30⟩ := ownCallV X29 hx hZ hown (y := (⟨"com/example/tallydb/tallydb/TokenCounts", "audioPrompt", "()J"⟩ : MethodName)) (z := (⟨"com/example/tallydb/tallydb/TokenCounts", "audioPrompt", "()J"⟩ : MethodName)) (a := r19) (as := []) (wd_60 hw) (wd_61 hw) (notFace_of_selects (args := #[]) (mvT hZ (wd_63 hw))) (wd_63 hw) (wd_62 hw) (wd_2 hw) (wd_64 hw) (by decide) (rm10 l Z a0 hw r19 qd T19.heap n0 Z19 Fc19_5) e29 Eq19 0 (by decide) (by decide) (by decide) (by decide) (g := (mkF m 118 #[.val (.long qa), .second, .val (.long qb), .second, .val (.long qc), .second, .val (.long qd), .second, .val (.long qe), .second, .val (.long qf), .second, .val (.long (qa + qb)), .second, .val (.long (qe ^^^ qf)), .second, .val (.ref b1), .val (.ref b10), .val (.ref r19)] [(.ref r19)])) rfl (by rw [hml]; rfl) (rest := []) pd_3 rfl rfl (by show 2 * 0 + _ ≤ _; exact Nat.le_of_eq rfl) (hb hby at_118)
  obtain ⟨rfl, rfl, e30⟩ := hQ30
  rw [List.append_nil] at X30
  refine ownEnds.law st30 ?_
  show ownEnds _ _ _ _ (T30.setTop (mkF m 121 #[.val (.long qa), .second, .val (.long qb), .second, .val (.long qc), .second, .val (.long qd), .second, .val (.long qe), .second, .val (.long qf), .second, .val (.long (qa + qb)), .second, .val (.long (qe ^^^ qf)), .second, .val (.ref b1), .val (.ref b10), .val (.ref r19)] [(.long qd)]))
  refine ownEnds.law (fun t k => XS.lload X30.here hx rfl (hb hby at_121) rfl (XS.lcmp X30.here hx rfl (hb hby at_123) rfl k)) ?_
  show ownEnds _ _ _ _ (T30.setTop (mkF m 124 #[.val (.long qa), .second, .val (.long qb), .second, .val (.long qc), .second, .val (.long qd), .second, .val (.long qe), .second, .val (.long qf), .second, .val (.long (qa + qb)), .second, .val (.long (qe ^^^ qf)), .second, .val (.ref b1), .val (.ref b10), .val (.ref r19)] [(.int (lcmpW qd qd))]))
  have hc124 : qd = qd := rfl
  refine ownEnds.law (fun t => XS.ifNo X30.here hx rfl (hb hby at_124) rfl ((if0 _ _).trans (teq ((lw_eq _ _).mpr hc124)).2)) ?_
  show ownEnds _ _ _ _ (T30.setTop (mkF m 127 #[.val (.long qa), .second, .val (.long qb), .second, .val (.long qc), .second, .val (.long qd), .second, .val (.long qe), .second, .val (.long qf), .second, .val (.long (qa + qb)), .second, .val (.long (qe ^^^ qf)), .second, .val (.ref b1), .val (.ref b10), .val (.ref r19)] []))
  refine ownEnds.law (fun t k => XS.aload X30.here hx rfl (hb hby at_127) rfl rfl k) ?_
  show ownEnds _ _ _ _ (T30.setTop (mkF m 129 #[.val (.long qa), .second, .val (.long qb), .second, .val (.long qc), .second, .val (.long qd), .second, .val (.long qe), .second, .val (.long qf), .second, .val (.long (qa + qb)), .second, .val (.long (qe ^^^ qf)), .second, .val (.ref b1), .val (.ref b10), .val (.ref r19)] [(.ref r19)]))
  obtain ⟨v31, T31, L31, X31, hQ31, st31⟩ := ownCallV X30 hx hZ hown (y := (⟨"com/example/tallydb/tallydb/TokenCounts", "audioCompletion", "()J"⟩ : MethodName)) (z := (⟨"com/example/tallydb/tallydb/TokenCounts", "audioCompletion", "()J"⟩ : MethodName)) (a := r19) (as := []) (wd_65 hw) (wd_66 hw) (notFace_of_selects (args := #[]) (mvT hZ (wd_68 hw))) (wd_68 hw) (wd_67 hw) (wd_2 hw) (wd_69 hw) (by decide) (rm11 l Z a0 hw r19 (qe ^^^ qf) T19.heap n0 Z19 Fc19_6) e30 Eq19 0 (by decide) (by decide) (by decide) (by decide) (g := (mkF m 129 #[.val (.long qa), .second, .val (.long qb), .second, .val (.long qc), .second, .val (.long qd), .second, .val (.long qe), .second, .val (.long qf), .second, .val (.long (qa + qb)), .second, .val (.long (qe ^^^ qf)), .second, .val (.ref b1), .val (.ref b10), .val (.ref r19)] [(.ref r19)])) rfl (by rw [hml]; rfl) (rest := []) pd_3 rfl rfl (by show 2 * 0 + _ ≤ _; exact Nat.le_of_eq rfl) (hb hby at_129)
  obtain ⟨rfl, rfl, e31⟩ := hQ31
  rw [List.append_nil] at X31
  refine ownEnds.law st31 ?_
  show ownEnds _ _ _ _ (T31.setTop (mkF m 132 #[.val (.long qa), .second, .val (.long qb), .second, .val (.long qc), .second, .val (.long qd), .second, .val (.long qe), .second, .val (.long qf), .second, .val (.long (qa + qb)), .second, .val (.long (qe ^^^ qf)), .second, .val (.ref b1), .val (.ref b10), .val (.ref r19)] [(.long (qe ^^^ qf))]))
  refine ownEnds.law (fun t k => XS.lload X31.here hx rfl (hb hby at_132) rfl (XS.lcmp X31.here hx rfl (hb hby at_134) rfl k)) ?_
  show ownEnds _ _ _ _ (T31.setTop (mkF m 135 #[.val (.long qa), .second, .val (.long qb), .second, .val (.long qc), .second, .val (.long qd), .second, .val (.long qe), .second, .val (.long qf), .second, .val (.long (qa + qb)), .second, .val (.long (qe ^^^ qf)), .second, .val (.ref b1), .val (.ref b10), .val (.ref r19)] [(.int (lcmpW (qe ^^^ qf) (qe ^^^ qf)))]))
  have hc135 : (qe ^^^ qf) = (qe ^^^ qf) := rfl
  refine ownEnds.law (fun t => XS.ifNo X31.here hx rfl (hb hby at_135) rfl ((if0 _ _).trans (teq ((lw_eq _ _).mpr hc135)).2)) ?_
  show ownEnds _ _ _ _ (T31.setTop (mkF m 138 #[.val (.long qa), .second, .val (.long qb), .second, .val (.long qc), .second, .val (.long qd), .second, .val (.long qe), .second, .val (.long qf), .second, .val (.long (qa + qb)), .second, .val (.long (qe ^^^ qf)), .second, .val (.ref b1), .val (.ref b10), .val (.ref r19)] []))
  refine ownEnds.law (fun t k => XS.iconst X31.here hx rfl (hb hby at_138) (XS.goto X31.here hx rfl (pc0 := 139) (pc' := 143) rfl (hb hby at_139) (by decide) (by decide) k)) ?_
  show ownEnds _ _ _ _ (T31.setTop (mkF m 143 #[.val (.long qa), .second, .val (.long qb), .second, .val (.long qc), .second, .val (.long qd), .second, .val (.long qe), .second, .val (.long qf), .second, .val (.long (qa + qb)), .second, .val (.long (qe ^^^ qf)), .second, .val (.ref b1), .val (.ref b10), .val (.ref r19)] [(.int (1 : Int32))]))
  refine ownRetN X31 hlk hx (t := .boolean) hret (by simp) (hb hby at_143) (by decide) (by decide) ?_
  exact ⟨rfl, N19⟩
set_option maxRecDepth 65536 in
set_option maxHeartbeats 40000000 in
theorem comes_1 {Post : Tables → Env → Array Value → State → Outcome → State → Prop} (hpost : ∀ tb e args s v u, (limb_1_1.after args s (.returned v) u = true ∧ limb_1_2.after args s (.returned v) u = true ∧ True) → FrameEnd s (.returned v) u (Jvm.fieldLocs frame_1_writes args s ++ Jvm.arrayLocs frame_1_arrays args s ++ Jvm.staticLocs frame_1_statics s) 16 128 → Post tb e args s (.returned v) u) :
    ArmFor flags0 classFile x code maxLocals ret World_1 tables_1 room_1 Calls_1 rest_1 Pre_1 Post := by
  intro l hfl _ _ p e ha hc hk s m args below hf hA hF happ hP
  obtain ⟨hcalls, hrest, hpre⟩ := hP
  obtain ⟨-, -, -, hnamed, -, -, -, hat⟩ := (Spec.applies_iff hf).mp happ
  obtain ⟨hg, hn⟩ := and_e (Cond.before_iff.mp (show (Jvm.Cond.and given_1 narrow_1).before args s = true from hpre))
  obtain ⟨gg1, gg2⟩ := and_e hg
  obtain ⟨gg3, gg4⟩ := and_e gg2
  obtain ⟨gg5, gg6⟩ := and_e gg4
  obtain ⟨gg7, gg8⟩ := and_e gg6
  obtain ⟨gg9, gg10⟩ := and_e gg8
  obtain ⟨gg11, gg12⟩ := and_e gg10
  obtain ⟨w0, w1, w2, w3, w4, w5, rfl⟩ : ∃ w0 w1 w2 w3 w4 w5 : Value, args = #[w0, w1, w2, w3, w4, w5] := by
    have hs : args.size = 6 := by simpa [Cond.value, given_1] using gg1
    obtain ⟨L⟩ := args
    match L, hs with
    | [w0, w1, w2, w3, w4, w5], _ => exact ⟨w0, w1, w2, w3, w4, w5, rfl⟩
  have hw := fun d (hd : d ∈ tables_1) => atoms_spec (ws := Jvm.Cond.code x code maxLocals ret :: tables_1) hat d (List.mem_cons_of_mem _ hd)
  have hfit : Fit s := fun {y c} hc i hi => by
    obtain ⟨ha, rfl⟩ := Array.getElem?_eq_some_iff.mp hc
    have q := List.all_eq_true.mp ((Array.all_eq_true_iff_forall_mem.mp hF) _ (Array.getElem_mem ha)) i (List.mem_range.mpr hi)
    simpa [Array.getElem?_eq_getElem hi] using q
  obtain ⟨i0, ei0⟩ := isL_v gg3
  obtain rfl : w0 = (.long i0) := Option.some.inj ei0
  obtain ⟨i1, ei1⟩ := isL_v gg5
  obtain rfl : w1 = (.long i1) := Option.some.inj ei1
  obtain ⟨i2, ei2⟩ := isL_v gg7
  obtain rfl : w2 = (.long i2) := Option.some.inj ei2
  obtain ⟨i3, ei3⟩ := isL_v gg9
  obtain rfl : w3 = (.long i3) := Option.some.inj ei3
  obtain ⟨i4, ei4⟩ := isL_v gg11
  obtain rfl : w4 = (.long i4) := Option.some.inj ei4
  obtain ⟨i5, ei5⟩ := isL_v gg12
  obtain rfl : w5 = (.long i5) := Option.some.inj ei5
  obtain ⟨n, o, h1, h2, h3, _, L, rfl, ⟨rfl, N⟩, hq⟩ := rm0 l s _ hw i0 i1 i2 i3 i4 i5  s.heap s.heap.size (Nat.le_refl _)  p e ha hc hk s m _ below hf ((Spec.applies_iff_loose hf).mp happ).1 ⟨rfl, State.Warmed39.refl s, rfl⟩ trivial
  refine ⟨n, _, h1, h2, h3, hpost _ _ _ _ _ _ ⟨Cond.after_iff.mpr rfl, Cond.after_iff.mpr (eq_i res_at (Term.int_eval (1)) rfl), trivial⟩ ⟨hq.1, hq.2.1, (hq.2.2.sift fun y hy => Or.inr (N y hy)).mono (by decide) (by decide)⟩⟩
theorem main_1_1 : Claimed_1_1 := comes_1 fun _ _ _ _ _ _ h hF => ⟨h.1, hF⟩
theorem main_1_2 : Claimed_1_2 := comes_1 fun _ _ _ _ _ _ h hF => ⟨h.2.1, hF⟩
end Jvm.Pilot.@@N@@
namespace Jvm.Pilot.@@N@@
open Jvm Jvm.ClassFile Sem Op Lib Jvm.Free Jvm.Stand Jvm.Pilot.@@N@@.Jvm.D
/-! MADE BY PROGRAM (witnessworld.py) out of the Statement's table words and the real class files: 10 classes; the members and pool entries that the words name. The judged class is class 1, her method 1. -/
namespace start1
open Jvm.ClassFile
def u (s : String) : CpInfo := .utf8 (stringToUtf16 s)
/-- a pool by its gaps: so many unusable entries, then the entry; so many at the end -/
def gap : Nat → List CpInfo → List CpInfo
  | 0, r => r
  | n + 1, r => .unusable :: gap n r
def poolList (es : List (Nat × CpInfo)) (last : Nat) : List CpInfo := es.foldr (fun e r => gap e.1 (e.2 :: r)) (gap last [])
def pool (es : List (Nat × CpInfo)) (last : Nat) : Array CpInfo := ⟨poolList es last⟩
def fileOf (pool : Array CpInfo) (this : Nat) (attrs : Array Attribute := #[]) (ms : Array MethodInfo := #[]) (fl : Nat := 33) (sup : Nat := 0) (ifs : Array Nat := #[]) (fds : Array FieldInfo := #[]) : ClassFile where
  minorVersion := 0
  majorVersion := 65
  constantPool := pool
  accessFlags := fl
  thisClass := this
  superClass := sup
  interfaces := ifs
  fields := fds
  methods := ms
  attributes := attrs
def plain (name : String) (sup : Option ClassId) : Class where
  name := name
  kind := .ordinary
  loader := none
  accessFlags := 33
  super := sup
  interfaces := #[]
  cf := none
  fields := #[]
  methods := #[]
  instanceTypes := #[]
  staticTypes := #[]
  resolved := #[]
  callSites := []
  init := .initialized
  statics := none
  mirror := none

def pool0 : Array CpInfo := pool [(5, u "<init>"), (0, u "()V"), (1, .class_ 10), (1, u "java/lang/Object")] 113

def k0c0 : Code := { maxStack := 0, maxLocals := 1, code := object_method_1_code, exceptionTable := #[], attributes := #[] }
def k0m0 : Method := { name := "<init>", desc := "()V", sig := { parameters := [], returnType := none }, accessFlags := 1, code := some k0c0 }
/-- java/lang/Object -/
def k0 : Class := { plain "java/lang/Object" none with
  accessFlags := 33
  interfaces := #[]
  cf := some (fileOf pool0 8 #[] #[{ accessFlags := 1, nameIndex := 5, descriptorIndex := 6, attributes := #[] }] 33 0 #[] #[])
  fields := #[]
  methods := #[k0m0]
  instanceTypes := #[]
  staticTypes := #[]
  resolved := Array.replicate 124 none
  statics := none }

def pool1 : Array CpInfo := pool [(2, .class_ 4), (1, u "java/lang/Object"), (0, u "<init>"), (0, u "()V"), (0, .class_ 8), (0, u "com/example/tallydb/tallydb/TokenCounts"), (0, .methodref 7 10), (0, .nameAndType 5 11), (0, u "(JJJJJJJ)V"), (0, .methodref 7 13), (0, .nameAndType 14 15), (0, u "withSharesOf"), (0, u "(Lcom/example/tallydb/tallydb/TokenCounts;)Lcom/example/tallydb/tallydb/TokenCounts;"), (0, .methodref 7 17), (0, .nameAndType 18 19), (0, u "prompt"), (0, u "()J"), (0, .methodref 7 21), (0, .nameAndType 22 19), (0, u "cachedPrompt"), (0, .methodref 7 24), (0, .nameAndType 25 19), (0, u "cacheWritePrompt"), (0, .methodref 7 27), (0, .nameAndType 28 19), (0, u "completion"), (0, .methodref 7 30), (0, .nameAndType 31 19), (0, u "cacheWrite1hPrompt"), (0, .methodref 7 33), (0, .nameAndType 34 19), (0, u "audioPrompt"), (0, .methodref 7 36), (0, .nameAndType 37 19), (0, u "audioCompletion"), (0, .class_ 39), (0, u "com/example/tallydb/tallydb/TokenCountsWithSharesOfPinLaw"), (2, u "law"), (0, u "(JJJJJJ)Z")] 3

def k1m0 : Method := { name := "<init>", desc := "()V", sig := { parameters := [], returnType := none }, accessFlags := 1, code := none }
def k1c1 : Code := { maxStack := 16, maxLocals := 19, code := code, exceptionTable := #[], attributes := #[] }
def k1m1 : Method := { name := "law", desc := "(JJJJJJ)Z", sig := { parameters := [.long, .long, .long, .long, .long, .long], returnType := some .boolean }, accessFlags := 9, code := some k1c1 }
/-- com/example/tallydb/tallydb/TokenCountsWithSharesOfPinLaw -/
def k1 : Class := { plain "com/example/tallydb/tallydb/TokenCountsWithSharesOfPinLaw" (some 0) with
  accessFlags := 49
  interfaces := #[]
  cf := some (fileOf pool1 38 #[] #[{ accessFlags := 1, nameIndex := 5, descriptorIndex := 6, attributes := #[] }, { accessFlags := 9, nameIndex := 42, descriptorIndex := 43, attributes := #[] }] 49 2 #[] #[])
  fields := #[]
  methods := #[k1m0, k1m1]
  instanceTypes := #[]
  staticTypes := #[]
  resolved := Array.replicate 47 none
  statics := none }

def pool2 : Array CpInfo := pool [(1, .methodref 2 3), (0, .class_ 4), (0, .nameAndType 5 6), (0, u "java/lang/Object"), (0, u "<init>"), (0, u "()V"), (0, .class_ 8), (0, u "java/lang/Record")] 13

def k2c0 : Code := { maxStack := 1, maxLocals := 1, code := jdk_30_method_1_code, exceptionTable := #[], attributes := #[] }
def k2m0 : Method := { name := "<init>", desc := "()V", sig := { parameters := [], returnType := none }, accessFlags := 4, code := some k2c0 }
/-- java/lang/Record -/
def k2 : Class := { plain "java/lang/Record" (some 0) with
  accessFlags := 1057
  interfaces := #[]
  cf := some (fileOf pool2 7 #[] #[{ accessFlags := 4, nameIndex := 5, descriptorIndex := 6, attributes := #[] }] 1057 2 #[] #[])
  fields := #[]
  methods := #[k2m0]
  instanceTypes := #[]
  staticTypes := #[]
  resolved := Array.replicate 22 none
  statics := none }

def pool3 : Array CpInfo := pool [(1, .methodref 2 3), (0, .class_ 4), (0, .nameAndType 5 6), (0, u "java/lang/Record"), (0, u "<init>"), (0, u "()V"), (0, .fieldref 8 9), (0, .class_ 10), (0, .nameAndType 11 12), (0, u "com/example/tallydb/tallydb/TokenCounts"), (0, u "prompt"), (0, u "J"), (0, .fieldref 8 14), (0, .nameAndType 15 12), (0, u "cachedPrompt"), (0, .fieldref 8 17), (0, .nameAndType 18 12), (0, u "cacheWritePrompt"), (0, .fieldref 8 20), (0, .nameAndType 21 12), (0, u "completion"), (0, .fieldref 8 23), (0, .nameAndType 24 12), (0, u "cacheWrite1hPrompt"), (0, .fieldref 8 26), (0, .nameAndType 27 12), (0, u "audioPrompt"), (0, .fieldref 8 29), (0, .nameAndType 30 12), (0, u "audioCompletion"), (0, .methodref 8 32), (0, .nameAndType 5 33), (0, u "(JJJJJJJ)V"), (3, u "()J"), (19, u "withSharesOf"), (0, u "(Lcom/example/tallydb/tallydb/TokenCounts;)Lcom/example/tallydb/tallydb/TokenCounts;")] 29

def k3c0 : Code := { maxStack := 3, maxLocals := 15, code := prog_36_method_2_code, exceptionTable := #[], attributes := #[] }
def k3m0 : Method := { name := "<init>", desc := "(JJJJJJJ)V", sig := { parameters := [.long, .long, .long, .long, .long, .long, .long], returnType := none }, accessFlags := 1, code := some k3c0 }
def k3c1 : Code := { maxStack := 16, maxLocals := 2, code := prog_36_method_7_code, exceptionTable := #[], attributes := #[] }
def k3m1 : Method := { name := "withSharesOf", desc := "(Lcom/example/tallydb/tallydb/TokenCounts;)Lcom/example/tallydb/tallydb/TokenCounts;", sig := { parameters := [(.object "com/example/tallydb/tallydb/TokenCounts")], returnType := some (.object "com/example/tallydb/tallydb/TokenCounts") }, accessFlags := 1, code := some k3c1 }
def k3c2 : Code := { maxStack := 2, maxLocals := 1, code := prog_36_method_11_code, exceptionTable := #[], attributes := #[] }
def k3m2 : Method := { name := "prompt", desc := "()J", sig := { parameters := [], returnType := some .long }, accessFlags := 1, code := some k3c2 }
def k3c3 : Code := { maxStack := 2, maxLocals := 1, code := prog_36_method_12_code, exceptionTable := #[], attributes := #[] }
def k3m3 : Method := { name := "cachedPrompt", desc := "()J", sig := { parameters := [], returnType := some .long }, accessFlags := 1, code := some k3c3 }
def k3c4 : Code := { maxStack := 2, maxLocals := 1, code := prog_36_method_13_code, exceptionTable := #[], attributes := #[] }
def k3m4 : Method := { name := "cacheWritePrompt", desc := "()J", sig := { parameters := [], returnType := some .long }, accessFlags := 1, code := some k3c4 }
def k3c5 : Code := { maxStack := 2, maxLocals := 1, code := prog_36_method_14_code, exceptionTable := #[], attributes := #[] }
def k3m5 : Method := { name := "completion", desc := "()J", sig := { parameters := [], returnType := some .long }, accessFlags := 1, code := some k3c5 }
def k3c6 : Code := { maxStack := 2, maxLocals := 1, code := prog_36_method_15_code, exceptionTable := #[], attributes := #[] }
def k3m6 : Method := { name := "cacheWrite1hPrompt", desc := "()J", sig := { parameters := [], returnType := some .long }, accessFlags := 1, code := some k3c6 }
def k3c7 : Code := { maxStack := 2, maxLocals := 1, code := prog_36_method_16_code, exceptionTable := #[], attributes := #[] }
def k3m7 : Method := { name := "audioPrompt", desc := "()J", sig := { parameters := [], returnType := some .long }, accessFlags := 1, code := some k3c7 }
def k3c8 : Code := { maxStack := 2, maxLocals := 1, code := prog_36_method_17_code, exceptionTable := #[], attributes := #[] }
def k3m8 : Method := { name := "audioCompletion", desc := "()J", sig := { parameters := [], returnType := some .long }, accessFlags := 1, code := some k3c8 }
/-- com/example/tallydb/tallydb/TokenCounts -/
def k3 : Class := { plain "com/example/tallydb/tallydb/TokenCounts" (some 2) with
  accessFlags := 49
  interfaces := #[]
  cf := some (fileOf pool3 8 #[] #[{ accessFlags := 1, nameIndex := 5, descriptorIndex := 33, attributes := #[] }, { accessFlags := 1, nameIndex := 57, descriptorIndex := 58, attributes := #[] }, { accessFlags := 1, nameIndex := 11, descriptorIndex := 37, attributes := #[] }, { accessFlags := 1, nameIndex := 15, descriptorIndex := 37, attributes := #[] }, { accessFlags := 1, nameIndex := 18, descriptorIndex := 37, attributes := #[] }, { accessFlags := 1, nameIndex := 21, descriptorIndex := 37, attributes := #[] }, { accessFlags := 1, nameIndex := 24, descriptorIndex := 37, attributes := #[] }, { accessFlags := 1, nameIndex := 27, descriptorIndex := 37, attributes := #[] }, { accessFlags := 1, nameIndex := 30, descriptorIndex := 37, attributes := #[] }] 49 2 #[] #[{ accessFlags := 18, nameIndex := 11, descriptorIndex := 12, attributes := #[] }, { accessFlags := 18, nameIndex := 15, descriptorIndex := 12, attributes := #[] }, { accessFlags := 18, nameIndex := 18, descriptorIndex := 12, attributes := #[] }, { accessFlags := 18, nameIndex := 21, descriptorIndex := 12, attributes := #[] }, { accessFlags := 18, nameIndex := 24, descriptorIndex := 12, attributes := #[] }, { accessFlags := 18, nameIndex := 27, descriptorIndex := 12, attributes := #[] }, { accessFlags := 18, nameIndex := 30, descriptorIndex := 12, attributes := #[] }])
  fields := #[{ name := "prompt", type := .long, accessFlags := 18, slot := 0, constantValue := 0 }, { name := "cachedPrompt", type := .long, accessFlags := 18, slot := 1, constantValue := 0 }, { name := "cacheWritePrompt", type := .long, accessFlags := 18, slot := 2, constantValue := 0 }, { name := "completion", type := .long, accessFlags := 18, slot := 3, constantValue := 0 }, { name := "cacheWrite1hPrompt", type := .long, accessFlags := 18, slot := 4, constantValue := 0 }, { name := "audioPrompt", type := .long, accessFlags := 18, slot := 5, constantValue := 0 }, { name := "audioCompletion", type := .long, accessFlags := 18, slot := 6, constantValue := 0 }]
  methods := #[k3m0, k3m1, k3m2, k3m3, k3m4, k3m5, k3m6, k3m7, k3m8]
  instanceTypes := #[.long, .long, .long, .long, .long, .long, .long]
  staticTypes := #[]
  resolved := Array.replicate 88 none
  statics := none }

def pool4 : Array CpInfo := pool [(1, u "java/lang/Cloneable"), (0, .class_ 1), (0, u "java/lang/Object"), (0, .class_ 3)] 3

/-- java/lang/Cloneable -/
def k4 : Class := { plain "java/lang/Cloneable" (some 0) with
  accessFlags := 1537
  interfaces := #[]
  cf := some (fileOf pool4 2 #[] #[] 1537 4 #[] #[])
  fields := #[]
  methods := #[]
  instanceTypes := #[]
  staticTypes := #[]
  resolved := Array.replicate 8 none
  statics := none }

def pool5 : Array CpInfo := pool [(1, u "java/io/Serializable"), (0, .class_ 1), (0, u "java/lang/Object"), (0, .class_ 3)] 3

/-- java/io/Serializable -/
def k5 : Class := { plain "java/io/Serializable" (some 0) with
  accessFlags := 1537
  interfaces := #[]
  cf := some (fileOf pool5 2 #[] #[] 1537 4 #[] #[])
  fields := #[]
  methods := #[]
  instanceTypes := #[]
  staticTypes := #[]
  resolved := Array.replicate 8 none
  statics := none }

/-- the primitive byte -/
def k6 : Class := { plain "byte" none with kind := .primitive 'B', accessFlags := 0x411 }
/-- [B -/
def k7 : Class := { plain "[B" (some 0) with kind := .array 6 .byte, interfaces := #[4, 5], accessFlags := 1041 }

/-- the primitive int -/
def k8 : Class := { plain "int" none with kind := .primitive 'I', accessFlags := 0x411 }
/-- [I -/
def k9 : Class := { plain "[I" (some 0) with kind := .array 8 .int, interfaces := #[4, 5], accessFlags := 1041 }

def heap : Heap := #[]
def classes : Array Class := #[k0, k1, k2, k3, k4, k5, k6, k7, k8, k9]
def interned : List (Array UInt16 × Addr) := []
def slotsUsed : Nat := 0
def theMethod : MethodId := ⟨1, 1⟩
def args0 : Array Value := #[.long 9, .long 3, .long 2, .long 7, .long 8, .long 1]
def aboutOver (below : List Frame) : State where
  vm := { classes := classes, interned := interned.toArray }
  heap := heap
  slotsUsed := slotsUsed
  threads := #[{ frames := .invoking theMethod args0 :: below }]
def below0 : List Frame := [.native { method := ⟨0, 0⟩, args := #[] }]
def about1 : State := aboutOver below0
def p0 : Program := .bare "" "" ""
def e0 : Env := launch0.env 0 0 0
theorem w_frames : about1.frames = Frame.invoking theMethod args0 :: below0 := rfl
set_option maxRecDepth 65536 in
theorem w_args : argsFit about1.vm theMethod args0 = true := by decide +kernel
set_option maxRecDepth 65536 in
theorem w_heap : heapFits about1 = true := by decide +kernel
set_option maxRecDepth 65536 in
theorem w_runnable : about1.curStatus? = some .runnable := by decide +kernel
set_option maxRecDepth 65536 in
theorem w_alone : about1.alone = true := by decide +kernel
set_option maxRecDepth 65536 in
theorem w_named : about1.methodNamed? x = some theMethod := by decide +kernel
set_option maxRecDepth 65536 in
theorem w_hears : about1.hears theMethod below0 = true := by decide +kernel
set_option maxRecDepth 65536 in
theorem w_ripe : about1.ripe theMethod args0 below0 = true := by decide +kernel
theorem w_running : about1.status = .running := rfl
set_option maxRecDepth 65536 in
theorem w_room : about1.hasRoom e0.platform room_1 = true :=
  launch0.hasRoom_least _ room_1 (by decide +kernel) (by decide +kernel) (by decide +kernel) (by decide +kernel) (by decide +kernel) (by decide +kernel)
theorem allAtoms_all (ts : List Jvm.Cond) (a : Array Jvm.Value) (st : Jvm.State) : (allAtoms ts).before a st = ts.all (fun c => c.before a st) := by
  induction ts with
  | nil => rfl
  | cons c t ih =>
    show (Jvm.Cond.and c (allAtoms t)).before a st = _
    rw [Jvm.Cond.before_and, ih, List.all_cons]
def words1 : List Jvm.Cond := Jvm.Cond.code x code maxLocals ret :: tables_1
/-- a 'code' word, met by the world's own term for the bytes: nothing is compared byte by byte -/
theorem code_word {y : MethodName} {bytes : ByteArray} {mx : Nat} {rt : Option FieldType} {a : Array Value} {s : State} {m : MethodId} {meth : Method} {c : Code} (h1 : s.methodNamed? y = some m) (h2 : s.vm.method? m = some meth) (h3 : meth.code = some c) (h4 : c.code = bytes)
    (h5 : (c.maxLocals == mx && c.exceptionTable.isEmpty && decide (c.maxStack ≤ mostOperands) && decide (meth.sig.returnType = rt) && !meth.locks && decide (parseMethodDescriptor y.desc = some meth.sig)) = true) : (Jvm.Cond.code y bytes mx rt).before a s = true := by
  simp only [Bool.and_eq_true, beq_iff_eq, Bool.not_eq_true', decide_eq_true_eq] at h5
  obtain ⟨⟨⟨⟨⟨g1, g2⟩, g3⟩, g4⟩, g5⟩, g6⟩ := h5
  simp [Cond.before, Cond.holds, Cond.value, h1, h2, h3, h4, g1, g2, g3, g4, g5, g6]
def isCode : Jvm.Cond → Bool
  | .code _ _ _ _ => true
  | _ => false
theorem all_split {L : List Jvm.Cond} {P : Jvm.Cond → Bool} (h1 : L.all (fun c => isCode c || P c) = true) (h2 : ∀ c ∈ L.filter isCode, P c = true) : L.all P = true := by
  refine List.all_eq_true.mpr fun c hc => ?_
  have h := List.all_eq_true.mp h1 c hc
  rcases Bool.eq_false_or_eq_true (isCode c) with hi | hi
  · exact h2 c (List.mem_filter.mpr ⟨hc, hi⟩)
  · simpa [hi] using h
set_option maxRecDepth 65536 in
theorem w_c0 : (Jvm.Cond.code x code maxLocals ret).before args0 about1 = true := code_word (m := ⟨1, 1⟩) (meth := k1m1) (c := k1c1) (by decide +kernel) rfl rfl rfl (by decide +kernel)
set_option maxRecDepth 65536 in
theorem w_c1 : (Jvm.Cond.code ({ cls := "com/example/tallydb/tallydb/TokenCounts", name := "<init>", desc := "(JJJJJJJ)V" } : Jvm.MethodName) prog_36_method_2_code (15 : Nat) (Option.none : Option Jvm.ClassFile.FieldType)).before args0 about1 = true := code_word (m := ⟨3, 0⟩) (meth := k3m0) (c := k3c0) (by decide +kernel) rfl rfl rfl (by decide +kernel)
set_option maxRecDepth 65536 in
theorem w_c2 : (Jvm.Cond.code ({ cls := "java/lang/Record", name := "<init>", desc := "()V" } : Jvm.MethodName) jdk_30_method_1_code (1 : Nat) (Option.none : Option Jvm.ClassFile.FieldType)).before args0 about1 = true := code_word (m := ⟨2, 0⟩) (meth := k2m0) (c := k2c0) (by decide +kernel) rfl rfl rfl (by decide +kernel)
set_option maxRecDepth 65536 in
theorem w_c3 : (Jvm.Cond.code ({ cls := "java/lang/Object", name := "<init>", desc := "()V" } : Jvm.MethodName) object_method_1_code (1 : Nat) (Option.none : Option Jvm.ClassFile.FieldType)).before args0 about1 = true := code_word (m := ⟨0, 0⟩) (meth := k0m0) (c := k0c0) (by decide +kernel) rfl rfl rfl (by decide +kernel)
set_option maxRecDepth 65536 in
theorem w_c4 : (Jvm.Cond.code ({ cls := "com/example/tallydb/tallydb/TokenCounts", name := "withSharesOf", desc := "(Lcom/example/tallydb/tallydb/TokenCounts;)Lcom/example/tallydb/tallydb/TokenCounts;" } : Jvm.MethodName) prog_36_method_7_code (2 : Nat) (Option.some (Jvm.ClassFile.FieldType.object "com/example/tallydb/tallydb/TokenCounts"))).before args0 about1 = true := code_word (m := ⟨3, 1⟩) (meth := k3m1) (c := k3c1) (by decide +kernel) rfl rfl rfl (by decide +kernel)
set_option maxRecDepth 65536 in
theorem w_c5 : (Jvm.Cond.code ({ cls := "com/example/tallydb/tallydb/TokenCounts", name := "prompt", desc := "()J" } : Jvm.MethodName) prog_36_method_11_code (1 : Nat) (Option.some Jvm.ClassFile.FieldType.long)).before args0 about1 = true := code_word (m := ⟨3, 2⟩) (meth := k3m2) (c := k3c2) (by decide +kernel) rfl rfl rfl (by decide +kernel)
set_option maxRecDepth 65536 in
theorem w_c6 : (Jvm.Cond.code ({ cls := "com/example/tallydb/tallydb/TokenCounts", name := "cachedPrompt", desc := "()J" } : Jvm.MethodName) prog_36_method_12_code (1 : Nat) (Option.some Jvm.ClassFile.FieldType.long)).before args0 about1 = true := code_word (m := ⟨3, 3⟩) (meth := k3m3) (c := k3c3) (by decide +kernel) rfl rfl rfl (by decide +kernel)
set_option maxRecDepth 65536 in
theorem w_c7 : (Jvm.Cond.code ({ cls := "com/example/tallydb/tallydb/TokenCounts", name := "cacheWritePrompt", desc := "()J" } : Jvm.MethodName) prog_36_method_13_code (1 : Nat) (Option.some Jvm.ClassFile.FieldType.long)).before args0 about1 = true := code_word (m := ⟨3, 4⟩) (meth := k3m4) (c := k3c4) (by decide +kernel) rfl rfl rfl (by decide +kernel)
set_option maxRecDepth 65536 in
theorem w_c8 : (Jvm.Cond.code ({ cls := "com/example/tallydb/tallydb/TokenCounts", name := "completion", desc := "()J" } : Jvm.MethodName) prog_36_method_14_code (1 : Nat) (Option.some Jvm.ClassFile.FieldType.long)).before args0 about1 = true := code_word (m := ⟨3, 5⟩) (meth := k3m5) (c := k3c5) (by decide +kernel) rfl rfl rfl (by decide +kernel)
set_option maxRecDepth 65536 in
theorem w_c9 : (Jvm.Cond.code ({ cls := "com/example/tallydb/tallydb/TokenCounts", name := "cacheWrite1hPrompt", desc := "()J" } : Jvm.MethodName) prog_36_method_15_code (1 : Nat) (Option.some Jvm.ClassFile.FieldType.long)).before args0 about1 = true := code_word (m := ⟨3, 6⟩) (meth := k3m6) (c := k3c6) (by decide +kernel) rfl rfl rfl (by decide +kernel)
set_option maxRecDepth 65536 in
theorem w_c10 : (Jvm.Cond.code ({ cls := "com/example/tallydb/tallydb/TokenCounts", name := "audioPrompt", desc := "()J" } : Jvm.MethodName) prog_36_method_16_code (1 : Nat) (Option.some Jvm.ClassFile.FieldType.long)).before args0 about1 = true := code_word (m := ⟨3, 7⟩) (meth := k3m7) (c := k3c7) (by decide +kernel) rfl rfl rfl (by decide +kernel)
set_option maxRecDepth 65536 in
theorem w_c11 : (Jvm.Cond.code ({ cls := "com/example/tallydb/tallydb/TokenCounts", name := "audioCompletion", desc := "()J" } : Jvm.MethodName) prog_36_method_17_code (1 : Nat) (Option.some Jvm.ClassFile.FieldType.long)).before args0 about1 = true := code_word (m := ⟨3, 8⟩) (meth := k3m8) (c := k3c8) (by decide +kernel) rfl rfl rfl (by decide +kernel)
def codes1 : List Jvm.Cond := [Jvm.Cond.code x code maxLocals ret, Jvm.Cond.code ({ cls := "com/example/tallydb/tallydb/TokenCounts", name := "<init>", desc := "(JJJJJJJ)V" } : Jvm.MethodName) prog_36_method_2_code (15 : Nat) (Option.none : Option Jvm.ClassFile.FieldType), Jvm.Cond.code ({ cls := "java/lang/Record", name := "<init>", desc := "()V" } : Jvm.MethodName) jdk_30_method_1_code (1 : Nat) (Option.none : Option Jvm.ClassFile.FieldType), Jvm.Cond.code ({ cls := "java/lang/Object", name := "<init>", desc := "()V" } : Jvm.MethodName) object_method_1_code (1 : Nat) (Option.none : Option Jvm.ClassFile.FieldType), Jvm.Cond.code ({ cls := "com/example/tallydb/tallydb/TokenCounts", name := "withSharesOf", desc := "(Lcom/example/tallydb/tallydb/TokenCounts;)Lcom/example/tallydb/tallydb/TokenCounts;" } : Jvm.MethodName) prog_36_method_7_code (2 : Nat) (Option.some (Jvm.ClassFile.FieldType.object "com/example/tallydb/tallydb/TokenCounts")), Jvm.Cond.code ({ cls := "com/example/tallydb/tallydb/TokenCounts", name := "prompt", desc := "()J" } : Jvm.MethodName) prog_36_method_11_code (1 : Nat) (Option.some Jvm.ClassFile.FieldType.long), Jvm.Cond.code ({ cls := "com/example/tallydb/tallydb/TokenCounts", name := "cachedPrompt", desc := "()J" } : Jvm.MethodName) prog_36_method_12_code (1 : Nat) (Option.some Jvm.ClassFile.FieldType.long), Jvm.Cond.code ({ cls := "com/example/tallydb/tallydb/TokenCounts", name := "cacheWritePrompt", desc := "()J" } : Jvm.MethodName) prog_36_method_13_code (1 : Nat) (Option.some Jvm.ClassFile.FieldType.long), Jvm.Cond.code ({ cls := "com/example/tallydb/tallydb/TokenCounts", name := "completion", desc := "()J" } : Jvm.MethodName) prog_36_method_14_code (1 : Nat) (Option.some Jvm.ClassFile.FieldType.long), Jvm.Cond.code ({ cls := "com/example/tallydb/tallydb/TokenCounts", name := "cacheWrite1hPrompt", desc := "()J" } : Jvm.MethodName) prog_36_method_15_code (1 : Nat) (Option.some Jvm.ClassFile.FieldType.long), Jvm.Cond.code ({ cls := "com/example/tallydb/tallydb/TokenCounts", name := "audioPrompt", desc := "()J" } : Jvm.MethodName) prog_36_method_16_code (1 : Nat) (Option.some Jvm.ClassFile.FieldType.long), Jvm.Cond.code ({ cls := "com/example/tallydb/tallydb/TokenCounts", name := "audioCompletion", desc := "()J" } : Jvm.MethodName) prog_36_method_17_code (1 : Nat) (Option.some Jvm.ClassFile.FieldType.long)]
set_option maxRecDepth 65536 in
theorem codes_eq : words1.filter isCode = codes1 := rfl
theorem w_codes : ∀ c ∈ words1.filter isCode, c.before args0 about1 = true := by
  rw [codes_eq]
  intro c hc
  simp only [codes1, List.mem_cons, List.not_mem_nil, or_false] at hc
  rcases hc with rfl | rfl | rfl | rfl | rfl | rfl | rfl | rfl | rfl | rfl | rfl | rfl
  · exact w_c0
  · exact w_c1
  · exact w_c2
  · exact w_c3
  · exact w_c4
  · exact w_c5
  · exact w_c6
  · exact w_c7
  · exact w_c8
  · exact w_c9
  · exact w_c10
  · exact w_c11
set_option maxRecDepth 65536 in
theorem w_t1 : (words1.take 24).all (fun c => isCode c || c.before args0 about1) = true := by decide +kernel
set_option maxRecDepth 65536 in
theorem w_t2 : ((words1.drop 24).take 24).all (fun c => isCode c || c.before args0 about1) = true := by decide +kernel
set_option maxRecDepth 65536 in
theorem w_t3 : ((words1.drop 24).drop 24).all (fun c => isCode c || c.before args0 about1) = true := by decide +kernel
theorem w_tables : (allAtoms (Jvm.Cond.code x code maxLocals ret :: tables_1)).before args0 about1 = true := by
  rw [allAtoms_all]
  show words1.all (fun c => c.before args0 about1) = true
  refine all_split ?_ w_codes
  rw [← List.take_append_drop 24 words1, List.all_append, w_t1, ← List.take_append_drop 24 (words1.drop 24), List.all_append, w_t2, w_t3]
  rfl
set_option maxRecDepth 65536 in
theorem w_case : (Jvm.Cond.and given_1 narrow_1).before args0 about1 = true := by decide +kernel
theorem w_applies : (headSpec (Jvm.Cond.code x code maxLocals ret :: tables_1) room_1).applies x e0.platform about1 = true :=
  (Spec.applies_iff w_frames).mpr ⟨w_running, w_runnable, w_alone, w_named, w_hears, w_ripe, w_room, w_tables⟩
theorem atStart : AtStart classFile x code maxLocals ret World_1 tables_1 room_1 Calls_1 rest_1 Pre_1 launch0 p0 e0 about1 theMethod args0 below0 :=
  ⟨lists_1, trivial, launch0.admits_env _ _ _, launch0.least_env, fairChoices_fair.cas, fairChoices_fair.clock, w_frames, w_args, w_heap, w_applies, trivial, trivial, w_case⟩
end start1
theorem witness_1 : WitnessClaimed_1 := ⟨start1.p0, start1.e0, start1.about1, start1.theMethod, start1.args0, start1.below0, start1.atStart⟩
end Jvm.Pilot.@@N@@
