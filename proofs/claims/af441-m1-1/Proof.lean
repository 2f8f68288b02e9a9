import JvmDerived
import JvmDerived.Pilot.@@N@@Statement
import JvmDerived.Pilot.@@N@@Code
set_option linter.unusedVariables false
set_option linter.unusedSimpArgs false
namespace Jvm.Pilot.@@N@@
open Jvm Jvm.ClassFile Sem Op Lib Jvm.Free Jvm.Stand Jvm.LawKit Jvm.RoadKit Bundle Jvm.Pilot.@@N@@.Jvm.D
def ownEnds (tb : Tables) (e : Env) (below : List Frame) (Φ : State → Outcome → Prop) (A : State) : Prop :=
  ∃ s₂ o, Steps tb e below A s₂ ∧ s₂.status = .running ∧ Ended s₂ below o ∧ Φ s₂ o
theorem ownEnds.law {tb : Tables} {e : Env} {below : List Frame} {Φ : State → Outcome → Prop} {A B : State} (k : ∀ t, Steps tb e below B t → Steps tb e below A t) (h : ownEnds tb e below Φ B) : ownEnds tb e below Φ A := by
  obtain ⟨s2, o, h1, h2⟩ := h
  exact ⟨s2, o, k _ h1, h2⟩
theorem ownEnds.tr {tb : Tables} {e : Env} {below : List Frame} {Φ : State → Outcome → Prop} {A B : State} (k : Steps tb e below A B) (h : ownEnds tb e below Φ B) : ownEnds tb e below Φ A := by
  obtain ⟨s2, o, h1, h2⟩ := h
  exact ⟨s2, o, k.trans h1, h2⟩
theorem ownEnds.cast {tb : Tables} {e : Env} {below : List Frame} {Φ : State → Outcome → Prop} {T : State} {g g' : JFrame} (q : g = g') (h : ownEnds tb e below Φ (T.setTop g')) : ownEnds tb e below Φ (T.setTop g) := q ▸ h
def ownPost (s : State) (Q : Option Value → Heap → List Loc → Prop) (C S : Nat) : State → Outcome → Prop := fun U o => ∃ v L, o = .returned v ∧ Q v U.heap L ∧ FrameEnd s o U L C S
abbrev ownMet (l : Launch) (Z : State) (y : MethodName) (bytes : ByteArray) (maxL : Nat) (rt : Option FieldType) (ws : List Jvm.Cond) (rm : Room) (as : Array Value) (h0 : Heap) (Q : Option Value → Heap → List Loc → Prop) : Prop :=
  MetFree l y (head1 (Jvm.Cond.code y bytes maxL rt :: ws) rm) (fun a U => a = as ∧ Z.Warmed39 U.vm ∧ U.heap = h0) (fun _ _ _ _ _ => True) (fun _ U o U' => ∃ v L, o = .returned v ∧ Q v U'.heap L ∧ FrameEnd U o U' L rm.cells rm.slots)
theorem ownMet.of {l : Launch} {Z : State} {y : MethodName} {bytes : ByteArray} {maxL : Nat} {rt : Option FieldType} {ws : List Jvm.Cond} {rm : Room} {as : Array Value} {h0 : Heap} {Q : Option Value → Heap → List Loc → Prop} (hpl : plainFor y = true)
    (body : ∀ (p : Program) (e : Env) (s : State) (m : MethodId) (below : List Frame) (meth : Method) (c : Code) (T0 : State), p.tables.exec = Jvm.exec → c.code = bytes → c.maxLocals = maxL → Z.Warmed39 s.vm → s.vm.findClass y.cls = some m.cls → meth.name = y.name → meth.sig.returnType = rt → meth.locks = false →
      Stand p l e rm s m as below meth c T0 [] 0 0 → T0.heap = h0 → ownEnds p.tables e below (ownPost s Q rm.cells rm.slots) (T0.setTop (entryFrame m as maxL))) : ownMet l Z y bytes maxL rt ws rm as h0 Q := by
  refine MetFree.of_bodySF hpl hisR ?_
  intro p e s m args below meth c s₁ Bd hml0 hP hK
  obtain ⟨rfl, hZ, hh⟩ := hP
  exact body p e s m below meth c s₁ Bd.exec Bd.bytes hml0 hZ (findClass_of_methodNamed Bd.named) (name_of_methodNamed Bd.named Bd.method).1 Bd.returns Bd.notSynchronized (Stand.of_body Bd) (by rw [← hh, Bd.state]; rfl)
theorem ownEqV {args : Array Value} {first s : State} {o : Option Outcome} {idx : List Nat} {a b : Term} {v : Value} (h : (Cond.eq a b).value args first o s idx = some true) (hb : b.eval args first o idx s = some v) : a.eval args first o idx s = some v := by
  simp only [Cond.value, hb] at h
  cases ha : a.eval args first o idx s with
  | none => simp [ha] at h
  | some x => cases x <;> cases v <;> simp_all
theorem ownFieldAt {args : Array Value} {first s : State} {o : Option Outcome} {idx : List Nat} {t : Term} {a : Addr} {C n d : String} (ev : t.eval args first o idx s = some (.ref a)) : (Term.field t C n d).eval args first o idx s = s.fieldOf? a C n d := by
  simp [Term.eval, ev]
theorem ownLen {s : State} {args : Array Value} {t : Term} {a : Addr} {cl : Cell} {ty : FieldType} {z : Int32} (ev : t.eval args s none [] s = some (.ref a)) (A : Arr s s.heap a cl ty) (h : (Term.length t).eval args s none [] s = some (.int z)) : cl.slots.size < 2 ^ 31 ∧ cl.slots.size.toInt32 = z := by
  have q := A.fin (Vm.Alike.refl _)
  simp only [Term.eval, ev, q, Option.bind_eq_bind, Option.bind_some, Option.pure_def] at h
  split at h
  · rename_i hs
    exact ⟨hs, by simpa using h⟩
  · cases h
theorem ownEl {s : State} {args : Array Value} {t i : Term} {a : Addr} {cl : Cell} {ty : FieldType} {j : Int32} {v : Value} (ev : t.eval args s none [] s = some (.ref a)) (A : Arr s s.heap a cl ty) (ej : i.eval args s none [] s = some (.int j)) (h : (Term.elem t i).eval args s none [] s = some v) : cl.slots[j.toNatClampNeg]? = some v := by
  have q := A.fin (Vm.Alike.refl _)
  simp only [Term.eval, ev, ej, q, Option.bind_eq_bind, Option.bind_some] at h
  split at h
  · cases h
  · exact h
section OwnKit
variable {p : Program} {l : Launch} {e : Env} {R : Room} {s : State} {m : MethodId} {args : Array Value} {below : List Frame} {meth : Method} {c : Code} {T : State} {locs : List Loc} {cells slots : Nat} {Z : State} {a0 : Array Value} {h : Heap}
theorem ownRet (X : Stand p l e R s m args below meth c T locs cells slots) (hlk : meth.locks = false) {v : Option Value} (hv : meth.sig.returnType = none → v = none) {g : JFrame} {Q : Option Value → Heap → List Loc → Prop} {C S : Nat}
    (hst : ∀ fs, (∀ (f : JFrame) (acts : List Action), f.method = m → f.locked = none → f.entered = [] → (doReturn e (T.setTop f) acts v).1 = T.setFrames fs) → Steps p.tables e below (T.setTop g) (T.setFrames fs))
    (hc : cells ≤ C) (hs : slots ≤ S) (hQ : Q v T.heap locs) : ownEnds p.tables e below (ownPost s Q C S) (T.setTop g) := by
  obtain ⟨fs, hr, hrun, hended, hW, hsame⟩ := X.leave (v := v) hv hlk
  exact ⟨_, _, hst fs hr, hrun, hended, v, locs, rfl, hQ, ⟨_, rfl⟩, hW, hsame.mono hc hs⟩
theorem ownRetN (X : Stand p l e R s m args below meth c T locs cells slots) (hlk : meth.locks = false) (hx : p.tables.exec = Jvm.exec) {pc : Nat} {Ls : Array Slot} {z : Int32} {t : FieldType} {rest : List Value} (hret : meth.sig.returnType = some t) (ht : t = .boolean ∨ t = .byte ∨ t = .char ∨ t = .short)
    (hd : decode c.code pc = .ok (.ireturn, 1)) {Q : Option Value → Heap → List Loc → Prop} {C S : Nat} (hc : cells ≤ C) (hs : slots ≤ S) (hQ : Q (some (.int (nar t z))) T.heap locs) : ownEnds p.tables e below (ownPost s Q C S) (T.setTop (mkF m pc Ls (.int z :: rest))) :=
  ownRet X hlk (fun h => by rw [hret] at h; cases h) (fun fs hr => retN X hx hret ht hd hr) hc hs hQ
theorem ownRetI (X : Stand p l e R s m args below meth c T locs cells slots) (hlk : meth.locks = false) (hx : p.tables.exec = Jvm.exec) {pc : Nat} {Ls : Array Slot} {z : Int32} {rest : List Value} (hret : meth.sig.returnType = some .int)
    (hd : decode c.code pc = .ok (.ireturn, 1)) {Q : Option Value → Heap → List Loc → Prop} {C S : Nat} (hc : cells ≤ C) (hs : slots ≤ S) (hQ : Q (some (.int z)) T.heap locs) : ownEnds p.tables e below (ownPost s Q C S) (T.setTop (mkF m pc Ls (.int z :: rest))) :=
  ownRet X hlk (fun h => by rw [hret] at h; cases h) (fun fs hr => retOut X hx hret rfl (Or.inl ⟨rfl, Or.inl rfl, z, rfl⟩) hd hr) hc hs hQ
theorem ownRetL (X : Stand p l e R s m args below meth c T locs cells slots) (hlk : meth.locks = false) (hx : p.tables.exec = Jvm.exec) {pc : Nat} {Ls : Array Slot} {z : Int64} {rest : List Value} (hret : meth.sig.returnType = some .long)
    (hd : decode c.code pc = .ok (.lreturn, 1)) {Q : Option Value → Heap → List Loc → Prop} {C S : Nat} (hc : cells ≤ C) (hs : slots ≤ S) (hQ : Q (some (.long z)) T.heap locs) : ownEnds p.tables e below (ownPost s Q C S) (T.setTop (mkF m pc Ls (.long z :: rest))) :=
  ownRet X hlk (fun h => by rw [hret] at h; cases h) (fun fs hr => retOut X hx hret rfl (Or.inr (Or.inl ⟨rfl, rfl, z, rfl⟩)) hd hr) hc hs hQ
theorem ownRetA (X : Stand p l e R s m args below meth c T locs cells slots) (hlk : meth.locks = false) (hx : p.tables.exec = Jvm.exec) {pc : Nat} {Ls : Array Slot} {w : Value} {t : FieldType} {rest : List Value} (hret : meth.sig.returnType = some t) (ht : t.isReference = true) (hw : w.isRef = true)
    (hd : decode c.code pc = .ok (.areturn, 1)) {Q : Option Value → Heap → List Loc → Prop} {C S : Nat} (hc : cells ≤ C) (hs : slots ≤ S) (hQ : Q (some w) T.heap locs) : ownEnds p.tables e below (ownPost s Q C S) (T.setTop (mkF m pc Ls (w :: rest))) :=
  ownRet X hlk (fun h => by rw [hret] at h; cases h) (fun fs hr => retOut X hx hret (by rcases ref_cases hw with rfl | ⟨a, rfl⟩ <;> cases t <;> first | rfl | (simp [FieldType.isReference] at ht)) (Or.inr (Or.inr (Or.inr (Or.inr ⟨rfl, ht, hw⟩)))) hd hr) hc hs hQ
theorem ownRetV (X : Stand p l e R s m args below meth c T locs cells slots) (hlk : meth.locks = false) (hx : p.tables.exec = Jvm.exec) {pc : Nat} {Ls : Array Slot} (hret : meth.sig.returnType = none)
    (hd : decode c.code pc = .ok (.return_, 1)) {Q : Option Value → Heap → List Loc → Prop} {C S : Nat} (hc : cells ≤ C) (hs : slots ≤ S) (hQ : Q none T.heap locs) : ownEnds p.tables e below (ownPost s Q C S) (T.setTop (mkF m pc Ls [])) :=
  ownRet X hlk (fun _ => rfl) (fun fs hr => X.returnOut hx hret hd hr) hc hs hQ
theorem ownCallS (X : Stand p l e R s m args below meth c T locs cells slots) (hx : p.tables.exec = Jvm.exec) (hZ : Z.Warmed39 s.vm) {own : String} {index : Nat} (hown : s.vm.findClass own = some m.cls) {y : MethodName} {bytes : ByteArray} {maxL : Nat} {rt : Option FieldType} {rm : Room} {as : List Value} {Q : Option Value → Heap → List Loc → Prop}
    (w1 : (Cond.methodLink own index y).before a0 Z = true) (w2 : (Cond.static y).before a0 Z = true) (w3 : (Cond.initialized y.cls).before a0 Z = true) (w4 : (Cond.code y bytes maxL rt).before a0 Z = true) (hy : y.cls ≠ "java/lang/invoke/MethodHandle" ∧ y.cls ≠ "java/lang/invoke/VarHandle")
    (hM : ownMet l Z y bytes maxL rt [] rm as.toArray h Q) (eT : T.heap = h) (W : Nat) (hf : rm.frames + 1 ≤ R.frames) (hl : W + (maxL + 11) + rm.locals ≤ R.locals) (hc : cells + rm.cells ≤ R.cells) (hs : slots + rm.slots ≤ R.slots)
    {g : JFrame} (hg : g.method = m) (hsize : g.locals.size = c.maxLocals) {rest : List Value} {ps : List FieldType} {r : Option FieldType} (hd : parseMethodDescriptor y.desc = some ⟨ps, r⟩) (hlen : as.length = ps.length) (hstack : g.stack = as.reverse ++ rest) (hW : 2 * g.monitorRoom + (rest.map fun v => v.category).sum ≤ W)
    (hdg : decode c.code g.pc = .ok (.invokestatic index, 3)) :
    ∃ v T' L, Stand p l e R s m args below meth c T' (locs ++ L) (cells + rm.cells) (slots + rm.slots) ∧ Q v T'.heap L ∧ ∀ t, Steps p.tables e below (T'.setTop { g with pc := g.pc + 3, stack := v.toList ++ rest }) t → Steps p.tables e below (T.setTop g) t := by
  obtain ⟨v, _, ⟨T1, L1, k1, n1⟩, -, X1, ⟨Lc, hQ, l1, y1, z1⟩, st⟩ := Jvm.LawKit.callS X hx (y := y) hown (mvT hZ w1) (mvT hZ w2) (mvT hZ w3) (mvT hZ w4) hy (backOf (W := W) hM hZ w4 w3 hf hl) hg hsize (argsL := as) (rest := rest) (lenOf hd hlen) hstack hW hdg (fun _ _ => ⟨rfl, eT, hc, hs⟩)
  dsimp only [Pt.U, Pt.locs, Pt.cells, Pt.slots] at X1 l1 y1 z1 st hQ
  subst l1 y1 z1
  exact ⟨v, T1, Lc, X1, hQ, st⟩
theorem ownCallC (X : Stand p l e R s m args below meth c T locs cells slots) (hx : p.tables.exec = Jvm.exec) (hZ : Z.Warmed39 s.vm) {own : String} {index : Nat} (hown : s.vm.findClass own = some m.cls) {y : MethodName} (hy1 : y.name = "<init>") {bytes : ByteArray} {maxL : Nat} {rm : Room} {a : Addr} {as : List Value} {Q : Option Value → Heap → List Loc → Prop}
    (w1 : (Cond.methodLink own index y).before a0 Z = true) (w2 : (Cond.instanceMethod y).before a0 Z = true) (w3 : (Cond.initialized y.cls).before a0 Z = true) (w4 : (Cond.code y bytes maxL none).before a0 Z = true) (hy : y.cls ≠ "java/lang/invoke/MethodHandle" ∧ y.cls ≠ "java/lang/invoke/VarHandle")
    (hM : ownMet l Z y bytes maxL none [] rm (.ref a :: as).toArray h Q) (eT : T.heap = h) (W : Nat) (hf : rm.frames + 1 ≤ R.frames) (hl : W + (maxL + 11) + rm.locals ≤ R.locals) (hc : cells + rm.cells ≤ R.cells) (hs : slots + rm.slots ≤ R.slots)
    {g : JFrame} (hg : g.method = m) (hsize : g.locals.size = c.maxLocals) {rest : List Value} {ps : List FieldType} {r : Option FieldType} (hd : parseMethodDescriptor y.desc = some ⟨ps, r⟩) (hlen : as.length = ps.length) (hstack : g.stack = as.reverse ++ .ref a :: rest) (hW : 2 * g.monitorRoom + (rest.map fun v => v.category).sum ≤ W)
    (hdg : decode c.code g.pc = .ok (.invokespecial index, 3)) :
    ∃ v T' L, Stand p l e R s m args below meth c T' (locs ++ L) (cells + rm.cells) (slots + rm.slots) ∧ Q v T'.heap L ∧ ∀ t, Steps p.tables e below (T'.setTop { g with pc := g.pc + 3, stack := v.toList ++ rest }) t → Steps p.tables e below (T.setTop g) t := by
  obtain ⟨v, _, ⟨T1, L1, k1, n1⟩, -, X1, ⟨Lc, hQ, l1, y1, z1⟩, st⟩ := X.specialBack hx (y := y) hy1 hown (mvT hZ w1) (mvT hZ w2) (mvT hZ w4) hy (backOf (W := W) hM hZ w4 w3 hf hl) hg hsize (Steps.refl _) (a := a) (argsL := as) (rest := rest) (lenOf hd hlen) hstack hW hdg (fun _ _ => ⟨rfl, eT, hc, hs⟩)
  dsimp only [Pt.U, Pt.locs, Pt.cells, Pt.slots] at X1 l1 y1 z1 st hQ
  subst l1 y1 z1
  exact ⟨v, T1, Lc, X1, hQ, fun t k => st.trans k⟩
theorem ownCallV (X : Stand p l e R s m args below meth c T locs cells slots) (hx : p.tables.exec = Jvm.exec) (hZ : Z.Warmed39 s.vm) {own C : String} {index : Nat} (hown : s.vm.findClass own = some m.cls) {y z : MethodName} {bytes : ByteArray} {maxL : Nat} {rt : Option FieldType} {rm : Room} {a : Addr} {as : List Value} {Q : Option Value → Heap → List Loc → Prop}
    (w1 : (Cond.methodLink own index y).before a0 Z = true) (w2 : (Cond.declares y).before a0 Z = true) (hnf : NotFace s y) (w5 : (Cond.selects C y z).before a0 Z = true) (w6 : (Cond.instanceMethod z).before a0 Z = true) (w3 : (Cond.initialized z.cls).before a0 Z = true) (w4 : (Cond.code z bytes maxL rt).before a0 Z = true) (hy : y.cls ≠ "java/lang/invoke/MethodHandle" ∧ y.cls ≠ "java/lang/invoke/VarHandle")
    (hM : ownMet l Z z bytes maxL rt [] rm (.ref a :: as).toArray h Q) (eT : T.heap = h) (E : Exa Z h a C) (W : Nat) (hf : rm.frames + 1 ≤ R.frames) (hl : W + (maxL + 11) + rm.locals ≤ R.locals) (hc : cells + rm.cells ≤ R.cells) (hs : slots + rm.slots ≤ R.slots)
    {g : JFrame} (hg : g.method = m) (hsize : g.locals.size = c.maxLocals) {rest : List Value} {ps : List FieldType} {r : Option FieldType} (hd : parseMethodDescriptor y.desc = some ⟨ps, r⟩) (hlen : as.length = ps.length) (hstack : g.stack = as.reverse ++ .ref a :: rest) (hW : 2 * g.monitorRoom + (rest.map fun v => v.category).sum ≤ W)
    (hdg : decode c.code g.pc = .ok (.invokevirtual index, 3)) :
    ∃ v T' L, Stand p l e R s m args below meth c T' (locs ++ L) (cells + rm.cells) (slots + rm.slots) ∧ Q v T'.heap L ∧ ∀ t, Steps p.tables e below (T'.setTop { g with pc := g.pc + 3, stack := v.toList ++ rest }) t → Steps p.tables e below (T.setTop g) t := by
  obtain ⟨cq, kq, qa, qb, qc⟩ := isOf hZ eT E
  obtain ⟨v, _, ⟨T1, L1, k1, n1⟩, -, X1, ⟨Lc, hQ, l1, y1, z1⟩, st⟩ := X.virtualBack hx (y := y) (z := z) hown (mvT hZ w1) (mvT hZ w2) hnf (mvT hZ w5) (mvT hZ w6) hy (backOf (W := W) hM hZ w4 w3 hf hl) qa qc hg hsize (Steps.refl _) (argsL := as) (rest := rest) (lenOf hd hlen) hstack hW hdg (fun _ _ => ⟨rfl, eT, hc, hs⟩)
  dsimp only [Pt.U, Pt.locs, Pt.cells, Pt.slots] at X1 l1 y1 z1 st hQ
  subst l1 y1 z1
  exact ⟨v, T1, Lc, X1, hQ, fun t k => st.trans k⟩
theorem ownSelfSel {y z : MethodName} {C : String} (hz : z.cls = y.cls) (wz : (Cond.selects C z z).before args s = true) (hinst : (Cond.instanceMethod y).before args s = true) (hpriv : s.PrivateAt y) (hy : y.cls ≠ "java/lang/invoke/MethodHandle" ∧ y.cls ≠ "java/lang/invoke/VarHandle") : (Cond.selects y.cls y y).before args s = true := by
  obtain ⟨c2, r2, m2, q1, q2, q3, q4, kP, hkP, hkPi⟩ := Cond.selects_spec wz
  exact selects_self_of_private (by rw [← hz]; exact findClass_of_methodNamed q3) hkP hkPi hpriv hinst hy
theorem ownCallP (X : Stand p l e R s m args below meth c T locs cells slots) (hx : p.tables.exec = Jvm.exec) (hZ : Z.Warmed39 s.vm) {own C D : String} {index : Nat} (hown : s.vm.findClass own = some m.cls) {y z : MethodName} {bytes : ByteArray} {maxL : Nat} {rt : Option FieldType} {rm : Room} {a : Addr} {as : List Value} {Q : Option Value → Heap → List Loc → Prop}
    (w1 : (Cond.methodLink own index y).before a0 Z = true) (hz : z.cls = y.cls) (w5 : (Cond.selects C z z).before a0 Z = true) (w6 : (Cond.instanceMethod y).before a0 Z = true) (w7 : (Cond.privateMethod y).before a0 Z = true) (w3 : (Cond.initialized y.cls).before a0 Z = true) (w4 : (Cond.code y bytes maxL rt).before a0 Z = true) (hy : y.cls ≠ "java/lang/invoke/MethodHandle" ∧ y.cls ≠ "java/lang/invoke/VarHandle")
    (hM : ownMet l Z y bytes maxL rt [] rm (.ref a :: as).toArray h Q) (eT : T.heap = h) (E : Exa Z h a D) (W : Nat) (hf : rm.frames + 1 ≤ R.frames) (hl : W + (maxL + 11) + rm.locals ≤ R.locals) (hc : cells + rm.cells ≤ R.cells) (hs : slots + rm.slots ≤ R.slots)
    {g : JFrame} (hg : g.method = m) (hsize : g.locals.size = c.maxLocals) {rest : List Value} {ps : List FieldType} {r : Option FieldType} (hd : parseMethodDescriptor y.desc = some ⟨ps, r⟩) (hlen : as.length = ps.length) (hstack : g.stack = as.reverse ++ .ref a :: rest) (hW : 2 * g.monitorRoom + (rest.map fun v => v.category).sum ≤ W)
    (hdg : decode c.code g.pc = .ok (.invokevirtual index, 3)) :
    ∃ v T' L, Stand p l e R s m args below meth c T' (locs ++ L) (cells + rm.cells) (slots + rm.slots) ∧ Q v T'.heap L ∧ ∀ t, Steps p.tables e below (T'.setTop { g with pc := g.pc + 3, stack := v.toList ++ rest }) t → Steps p.tables e below (T.setTop g) t := by
  obtain ⟨cq, q1, q2⟩ := E.cell
  have hpv : s.PrivateAt y := Cond.privateMethod_at (mvP hZ w7 (args := #[]))
  obtain ⟨v, _, ⟨T1, L1, k1, n1⟩, -, X1, ⟨Lc, hQ, l1, y1, z1⟩, st⟩ := X.privateBack hx (y := y) hown (mvT hZ w1) (mvT hZ w6) (ownSelfSel hz (mvT hZ w5) (mvT hZ w6) hpv hy) hpv (mvT hZ w4) hy (backOf (W := W) hM hZ w4 w3 hf hl) hg hsize (Steps.refl _) (a := a) (by rw [eT]; exact q1) q2 (argsL := as) (rest := rest) (lenOf hd hlen) hstack hW hdg (fun _ _ => ⟨rfl, eT, hc, hs⟩)
  dsimp only [Pt.U, Pt.locs, Pt.cells, Pt.slots] at X1 l1 y1 z1 st hQ
  subst l1 y1 z1
  exact ⟨v, T1, Lc, X1, hQ, fun t k => st.trans k⟩
end OwnKit
theorem wd_0 {Z : State} {a0 : Array Value} (hw : ∀ d ∈ tables_1, d.before a0 Z = true) : (Jvm.Cond.methodLink "com/example/vestline/vestline/engine/PayrollRowsCentsPinLaw" (7 : Nat) ({ cls := "com/example/vestline/vestline/engine/PayrollRowsCentsPinLaw", name := "eff", desc := "(JII)J" } : Jvm.MethodName)).before a0 Z = true := hw _ (List.mem_of_getElem? (i := 0) rfl)
theorem wd_1 {Z : State} {a0 : Array Value} (hw : ∀ d ∈ tables_1, d.before a0 Z = true) : (Jvm.Cond.static ({ cls := "com/example/vestline/vestline/engine/PayrollRowsCentsPinLaw", name := "eff", desc := "(JII)J" } : Jvm.MethodName)).before a0 Z = true := hw _ (List.mem_of_getElem? (i := 1) rfl)
theorem wd_2 {Z : State} {a0 : Array Value} (hw : ∀ d ∈ tables_1, d.before a0 Z = true) : (Jvm.Cond.initialized "com/example/vestline/vestline/engine/PayrollRowsCentsPinLaw").before a0 Z = true := hw _ (List.mem_of_getElem? (i := 2) rfl)
theorem wd_3 {Z : State} {a0 : Array Value} (hw : ∀ d ∈ tables_1, d.before a0 Z = true) : (Jvm.Cond.code ({ cls := "com/example/vestline/vestline/engine/PayrollRowsCentsPinLaw", name := "eff", desc := "(JII)J" } : Jvm.MethodName) method_2_code (4 : Nat) (Option.some Jvm.ClassFile.FieldType.long)).before a0 Z = true := hw _ (List.mem_of_getElem? (i := 3) rfl)
theorem wd_4 {Z : State} {a0 : Array Value} (hw : ∀ d ∈ tables_1, d.before a0 Z = true) : (Jvm.Cond.classLink "com/example/vestline/vestline/engine/PayrollRowsCentsPinLaw" (13 : Nat) "com/example/vestline/vestline/engine/PayrollRows").before a0 Z = true := hw _ (List.mem_of_getElem? (i := 4) rfl)
theorem wd_5 {Z : State} {a0 : Array Value} (hw : ∀ d ∈ tables_1, d.before a0 Z = true) : (Jvm.Cond.instantiable "com/example/vestline/vestline/engine/PayrollRows" (8 : Nat)).before a0 Z = true := hw _ (List.mem_of_getElem? (i := 5) rfl)
theorem wd_6 {Z : State} {a0 : Array Value} (hw : ∀ d ∈ tables_1, d.before a0 Z = true) : (Jvm.Cond.initialized "com/example/vestline/vestline/engine/PayrollRows").before a0 Z = true := hw _ (List.mem_of_getElem? (i := 6) rfl)
theorem wd_7 {Z : State} {a0 : Array Value} (hw : ∀ d ∈ tables_1, d.before a0 Z = true) : (Jvm.Cond.methodLink "com/example/vestline/vestline/engine/PayrollRowsCentsPinLaw" (15 : Nat) ({ cls := "com/example/vestline/vestline/engine/PayrollRows", name := "<init>", desc := "()V" } : Jvm.MethodName)).before a0 Z = true := hw _ (List.mem_of_getElem? (i := 7) rfl)
theorem wd_8 {Z : State} {a0 : Array Value} (hw : ∀ d ∈ tables_1, d.before a0 Z = true) : (Jvm.Cond.instanceMethod ({ cls := "com/example/vestline/vestline/engine/PayrollRows", name := "<init>", desc := "()V" } : Jvm.MethodName)).before a0 Z = true := hw _ (List.mem_of_getElem? (i := 8) rfl)
theorem wd_9 {Z : State} {a0 : Array Value} (hw : ∀ d ∈ tables_1, d.before a0 Z = true) : (Jvm.Cond.code ({ cls := "com/example/vestline/vestline/engine/PayrollRows", name := "<init>", desc := "()V" } : Jvm.MethodName) prog_50_method_1_code (1 : Nat) (Option.none : Option Jvm.ClassFile.FieldType)).before a0 Z = true := hw _ (List.mem_of_getElem? (i := 9) rfl)
theorem wd_10 {Z : State} {a0 : Array Value} (hw : ∀ d ∈ tables_1, d.before a0 Z = true) : (Jvm.Cond.methodLink "com/example/vestline/vestline/engine/PayrollRows" (1 : Nat) ({ cls := "java/lang/Object", name := "<init>", desc := "()V" } : Jvm.MethodName)).before a0 Z = true := hw _ (List.mem_of_getElem? (i := 10) rfl)
theorem wd_11 {Z : State} {a0 : Array Value} (hw : ∀ d ∈ tables_1, d.before a0 Z = true) : (Jvm.Cond.instanceMethod ({ cls := "java/lang/Object", name := "<init>", desc := "()V" } : Jvm.MethodName)).before a0 Z = true := hw _ (List.mem_of_getElem? (i := 11) rfl)
theorem wd_12 {Z : State} {a0 : Array Value} (hw : ∀ d ∈ tables_1, d.before a0 Z = true) : (Jvm.Cond.code ({ cls := "java/lang/Object", name := "<init>", desc := "()V" } : Jvm.MethodName) object_method_1_code (1 : Nat) (Option.none : Option Jvm.ClassFile.FieldType)).before a0 Z = true := hw _ (List.mem_of_getElem? (i := 12) rfl)
theorem wd_13 {Z : State} {a0 : Array Value} (hw : ∀ d ∈ tables_1, d.before a0 Z = true) : (Jvm.Cond.constant "com/example/vestline/vestline/engine/PayrollRows" (9 : Nat) (2147483647 : Int32)).before a0 Z = true := hw _ (List.mem_of_getElem? (i := 13) rfl)
theorem wd_14 {Z : State} {a0 : Array Value} (hw : ∀ d ∈ tables_1, d.before a0 Z = true) : (Jvm.Cond.fieldLink "com/example/vestline/vestline/engine/PayrollRows" (10 : Nat) "com/example/vestline/vestline/engine/PayrollRows" "firstPeriodStart" "I").before a0 Z = true := hw _ (List.mem_of_getElem? (i := 14) rfl)
theorem wd_15 {Z : State} {a0 : Array Value} (hw : ∀ d ∈ tables_1, d.before a0 Z = true) : (Jvm.Cond.lays "com/example/vestline/vestline/engine/PayrollRows" "com/example/vestline/vestline/engine/PayrollRows" "firstPeriodStart" "I").before a0 Z = true := hw _ (List.mem_of_getElem? (i := 15) rfl)
theorem wd_16 {Z : State} {a0 : Array Value} (hw : ∀ d ∈ tables_1, d.before a0 Z = true) : (Jvm.Cond.constant "com/example/vestline/vestline/engine/PayrollRows" (16 : Nat) (-2147483648 : Int32)).before a0 Z = true := hw _ (List.mem_of_getElem? (i := 16) rfl)
theorem wd_17 {Z : State} {a0 : Array Value} (hw : ∀ d ∈ tables_1, d.before a0 Z = true) : (Jvm.Cond.fieldLink "com/example/vestline/vestline/engine/PayrollRows" (17 : Nat) "com/example/vestline/vestline/engine/PayrollRows" "lastPeriodEnd" "I").before a0 Z = true := hw _ (List.mem_of_getElem? (i := 17) rfl)
theorem wd_18 {Z : State} {a0 : Array Value} (hw : ∀ d ∈ tables_1, d.before a0 Z = true) : (Jvm.Cond.lays "com/example/vestline/vestline/engine/PayrollRows" "com/example/vestline/vestline/engine/PayrollRows" "lastPeriodEnd" "I").before a0 Z = true := hw _ (List.mem_of_getElem? (i := 18) rfl)
theorem wd_19 {Z : State} {a0 : Array Value} (hw : ∀ d ∈ tables_1, d.before a0 Z = true) : (Jvm.Cond.arrayClass Jvm.ClassFile.FieldType.int).before a0 Z = true := hw _ (List.mem_of_getElem? (i := 19) rfl)
theorem wd_20 {Z : State} {a0 : Array Value} (hw : ∀ d ∈ tables_1, d.before a0 Z = true) : (Jvm.Cond.fieldLink "com/example/vestline/vestline/engine/PayrollRows" (20 : Nat) "com/example/vestline/vestline/engine/PayrollRows" "periodStarts" "[I").before a0 Z = true := hw _ (List.mem_of_getElem? (i := 20) rfl)
theorem wd_21 {Z : State} {a0 : Array Value} (hw : ∀ d ∈ tables_1, d.before a0 Z = true) : (Jvm.Cond.lays "com/example/vestline/vestline/engine/PayrollRows" "com/example/vestline/vestline/engine/PayrollRows" "periodStarts" "[I").before a0 Z = true := hw _ (List.mem_of_getElem? (i := 21) rfl)
theorem wd_22 {Z : State} {a0 : Array Value} (hw : ∀ d ∈ tables_1, d.before a0 Z = true) : (Jvm.Cond.fieldLink "com/example/vestline/vestline/engine/PayrollRows" (24 : Nat) "com/example/vestline/vestline/engine/PayrollRows" "periodEnds" "[I").before a0 Z = true := hw _ (List.mem_of_getElem? (i := 22) rfl)
theorem wd_23 {Z : State} {a0 : Array Value} (hw : ∀ d ∈ tables_1, d.before a0 Z = true) : (Jvm.Cond.lays "com/example/vestline/vestline/engine/PayrollRows" "com/example/vestline/vestline/engine/PayrollRows" "periodEnds" "[I").before a0 Z = true := hw _ (List.mem_of_getElem? (i := 23) rfl)
theorem wd_24 {Z : State} {a0 : Array Value} (hw : ∀ d ∈ tables_1, d.before a0 Z = true) : (Jvm.Cond.arrayClass Jvm.ClassFile.FieldType.long).before a0 Z = true := hw _ (List.mem_of_getElem? (i := 24) rfl)
theorem wd_25 {Z : State} {a0 : Array Value} (hw : ∀ d ∈ tables_1, d.before a0 Z = true) : (Jvm.Cond.fieldLink "com/example/vestline/vestline/engine/PayrollRows" (27 : Nat) "com/example/vestline/vestline/engine/PayrollRows" "hundredths" "[J").before a0 Z = true := hw _ (List.mem_of_getElem? (i := 25) rfl)
theorem wd_26 {Z : State} {a0 : Array Value} (hw : ∀ d ∈ tables_1, d.before a0 Z = true) : (Jvm.Cond.lays "com/example/vestline/vestline/engine/PayrollRows" "com/example/vestline/vestline/engine/PayrollRows" "hundredths" "[J").before a0 Z = true := hw _ (List.mem_of_getElem? (i := 26) rfl)
theorem wd_27 {Z : State} {a0 : Array Value} (hw : ∀ d ∈ tables_1, d.before a0 Z = true) : (Jvm.Cond.constantLong "com/example/vestline/vestline/engine/PayrollRowsCentsPinLaw" (16 : Nat) (-1 : Int64)).before a0 Z = true := hw _ (List.mem_of_getElem? (i := 27) rfl)
theorem wd_28 {Z : State} {a0 : Array Value} (hw : ∀ d ∈ tables_1, d.before a0 Z = true) : (Jvm.Cond.methodLink "com/example/vestline/vestline/engine/PayrollRowsCentsPinLaw" (18 : Nat) ({ cls := "com/example/vestline/vestline/engine/PayrollRows", name := "add", desc := "(IIJJ)V" } : Jvm.MethodName)).before a0 Z = true := hw _ (List.mem_of_getElem? (i := 28) rfl)
theorem wd_29 {Z : State} {a0 : Array Value} (hw : ∀ d ∈ tables_1, d.before a0 Z = true) : (Jvm.Cond.declares ({ cls := "com/example/vestline/vestline/engine/PayrollRows", name := "add", desc := "(IIJJ)V" } : Jvm.MethodName)).before a0 Z = true := hw _ (List.mem_of_getElem? (i := 29) rfl)
theorem wd_30 {Z : State} {a0 : Array Value} (hw : ∀ d ∈ tables_1, d.before a0 Z = true) : (Jvm.Cond.instanceMethod ({ cls := "com/example/vestline/vestline/engine/PayrollRows", name := "add", desc := "(IIJJ)V" } : Jvm.MethodName)).before a0 Z = true := hw _ (List.mem_of_getElem? (i := 30) rfl)
theorem wd_31 {Z : State} {a0 : Array Value} (hw : ∀ d ∈ tables_1, d.before a0 Z = true) : (Jvm.Cond.selects "com/example/vestline/vestline/engine/PayrollRows" ({ cls := "com/example/vestline/vestline/engine/PayrollRows", name := "add", desc := "(IIJJ)V" } : Jvm.MethodName) ({ cls := "com/example/vestline/vestline/engine/PayrollRows", name := "add", desc := "(IIJJ)V" } : Jvm.MethodName)).before a0 Z = true := hw _ (List.mem_of_getElem? (i := 31) rfl)
theorem wd_32 {Z : State} {a0 : Array Value} (hw : ∀ d ∈ tables_1, d.before a0 Z = true) : (Jvm.Cond.code ({ cls := "com/example/vestline/vestline/engine/PayrollRows", name := "add", desc := "(IIJJ)V" } : Jvm.MethodName) prog_50_method_2_code (7 : Nat) (Option.none : Option Jvm.ClassFile.FieldType)).before a0 Z = true := hw _ (List.mem_of_getElem? (i := 32) rfl)
theorem wd_33 {Z : State} {a0 : Array Value} (hw : ∀ d ∈ tables_1, d.before a0 Z = true) : (Jvm.Cond.fieldLink "com/example/vestline/vestline/engine/PayrollRows" (31 : Nat) "com/example/vestline/vestline/engine/PayrollRows" "byPeriodStart" "Ljava/util/NavigableMap;").before a0 Z = true := hw _ (List.mem_of_getElem? (i := 33) rfl)
theorem wd_34 {Z : State} {a0 : Array Value} (hw : ∀ d ∈ tables_1, d.before a0 Z = true) : (Jvm.Cond.lays "com/example/vestline/vestline/engine/PayrollRows" "com/example/vestline/vestline/engine/PayrollRows" "byPeriodStart" "Ljava/util/NavigableMap;").before a0 Z = true := hw _ (List.mem_of_getElem? (i := 34) rfl)
theorem wd_35 {Z : State} {a0 : Array Value} (hw : ∀ d ∈ tables_1, d.before a0 Z = true) : (Jvm.Cond.methodLink "com/example/vestline/vestline/engine/PayrollRows" (35 : Nat) ({ cls := "com/example/vestline/vestline/engine/PayrollRows", name := "isAmongRows", desc := "(II)Z" } : Jvm.MethodName)).before a0 Z = true := hw _ (List.mem_of_getElem? (i := 35) rfl)
theorem wd_36 {Z : State} {a0 : Array Value} (hw : ∀ d ∈ tables_1, d.before a0 Z = true) : (Jvm.Cond.instanceMethod ({ cls := "com/example/vestline/vestline/engine/PayrollRows", name := "isAmongRows", desc := "(II)Z" } : Jvm.MethodName)).before a0 Z = true := hw _ (List.mem_of_getElem? (i := 36) rfl)
theorem wd_37 {Z : State} {a0 : Array Value} (hw : ∀ d ∈ tables_1, d.before a0 Z = true) : (Jvm.Cond.privateMethod ({ cls := "com/example/vestline/vestline/engine/PayrollRows", name := "isAmongRows", desc := "(II)Z" } : Jvm.MethodName)).before a0 Z = true := hw _ (List.mem_of_getElem? (i := 37) rfl)
theorem wd_38 {Z : State} {a0 : Array Value} (hw : ∀ d ∈ tables_1, d.before a0 Z = true) : (Jvm.Cond.code ({ cls := "com/example/vestline/vestline/engine/PayrollRows", name := "isAmongRows", desc := "(II)Z" } : Jvm.MethodName) prog_50_method_4_code (3 : Nat) (Option.some Jvm.ClassFile.FieldType.boolean)).before a0 Z = true := hw _ (List.mem_of_getElem? (i := 38) rfl)
theorem wd_39 {Z : State} {a0 : Array Value} (hw : ∀ d ∈ tables_1, d.before a0 Z = true) : (Jvm.Cond.methodLink "com/example/vestline/vestline/engine/PayrollRows" (55 : Nat) ({ cls := "java/lang/Math", name := "min", desc := "(II)I" } : Jvm.MethodName)).before a0 Z = true := hw _ (List.mem_of_getElem? (i := 39) rfl)
theorem wd_40 {Z : State} {a0 : Array Value} (hw : ∀ d ∈ tables_1, d.before a0 Z = true) : (Jvm.Cond.static ({ cls := "java/lang/Math", name := "min", desc := "(II)I" } : Jvm.MethodName)).before a0 Z = true := hw _ (List.mem_of_getElem? (i := 40) rfl)
theorem wd_41 {Z : State} {a0 : Array Value} (hw : ∀ d ∈ tables_1, d.before a0 Z = true) : (Jvm.Cond.initialized "java/lang/Math").before a0 Z = true := hw _ (List.mem_of_getElem? (i := 41) rfl)
theorem wd_42 {Z : State} {a0 : Array Value} (hw : ∀ d ∈ tables_1, d.before a0 Z = true) : (Jvm.Cond.code ({ cls := "java/lang/Math", name := "min", desc := "(II)I" } : Jvm.MethodName) jdk_29_method_69_code (2 : Nat) (Option.some Jvm.ClassFile.FieldType.int)).before a0 Z = true := hw _ (List.mem_of_getElem? (i := 42) rfl)
theorem wd_43 {Z : State} {a0 : Array Value} (hw : ∀ d ∈ tables_1, d.before a0 Z = true) : (Jvm.Cond.methodLink "com/example/vestline/vestline/engine/PayrollRows" (61 : Nat) ({ cls := "java/lang/Math", name := "max", desc := "(II)I" } : Jvm.MethodName)).before a0 Z = true := hw _ (List.mem_of_getElem? (i := 43) rfl)
theorem wd_44 {Z : State} {a0 : Array Value} (hw : ∀ d ∈ tables_1, d.before a0 Z = true) : (Jvm.Cond.static ({ cls := "java/lang/Math", name := "max", desc := "(II)I" } : Jvm.MethodName)).before a0 Z = true := hw _ (List.mem_of_getElem? (i := 44) rfl)
theorem wd_45 {Z : State} {a0 : Array Value} (hw : ∀ d ∈ tables_1, d.before a0 Z = true) : (Jvm.Cond.code ({ cls := "java/lang/Math", name := "max", desc := "(II)I" } : Jvm.MethodName) jdk_29_method_65_code (2 : Nat) (Option.some Jvm.ClassFile.FieldType.int)).before a0 Z = true := hw _ (List.mem_of_getElem? (i := 45) rfl)
theorem wd_46 {Z : State} {a0 : Array Value} (hw : ∀ d ∈ tables_1, d.before a0 Z = true) : (Jvm.Cond.fieldLink "com/example/vestline/vestline/engine/PayrollRows" (46 : Nat) "com/example/vestline/vestline/engine/PayrollRows" "size" "I").before a0 Z = true := hw _ (List.mem_of_getElem? (i := 46) rfl)
theorem wd_47 {Z : State} {a0 : Array Value} (hw : ∀ d ∈ tables_1, d.before a0 Z = true) : (Jvm.Cond.lays "com/example/vestline/vestline/engine/PayrollRows" "com/example/vestline/vestline/engine/PayrollRows" "size" "I").before a0 Z = true := hw _ (List.mem_of_getElem? (i := 47) rfl)
theorem wd_48 {Z : State} {a0 : Array Value} (hw : ∀ d ∈ tables_1, d.before a0 Z = true) : (Jvm.Cond.fieldLink "com/example/vestline/vestline/engine/PayrollRows" (73 : Nat) "com/example/vestline/vestline/engine/PayrollRows" "cents" "[J").before a0 Z = true := hw _ (List.mem_of_getElem? (i := 48) rfl)
theorem wd_49 {Z : State} {a0 : Array Value} (hw : ∀ d ∈ tables_1, d.before a0 Z = true) : (Jvm.Cond.lays "com/example/vestline/vestline/engine/PayrollRows" "com/example/vestline/vestline/engine/PayrollRows" "cents" "[J").before a0 Z = true := hw _ (List.mem_of_getElem? (i := 49) rfl)
theorem wd_50 {Z : State} {a0 : Array Value} (hw : ∀ d ∈ tables_1, d.before a0 Z = true) : (Jvm.Cond.methodLink "com/example/vestline/vestline/engine/PayrollRowsCentsPinLaw" (22 : Nat) ({ cls := "com/example/vestline/vestline/engine/PayrollRows", name := "cents", desc := "(I)J" } : Jvm.MethodName)).before a0 Z = true := hw _ (List.mem_of_getElem? (i := 50) rfl)
theorem wd_51 {Z : State} {a0 : Array Value} (hw : ∀ d ∈ tables_1, d.before a0 Z = true) : (Jvm.Cond.declares ({ cls := "com/example/vestline/vestline/engine/PayrollRows", name := "cents", desc := "(I)J" } : Jvm.MethodName)).before a0 Z = true := hw _ (List.mem_of_getElem? (i := 51) rfl)
theorem wd_52 {Z : State} {a0 : Array Value} (hw : ∀ d ∈ tables_1, d.before a0 Z = true) : (Jvm.Cond.instanceMethod ({ cls := "com/example/vestline/vestline/engine/PayrollRows", name := "cents", desc := "(I)J" } : Jvm.MethodName)).before a0 Z = true := hw _ (List.mem_of_getElem? (i := 52) rfl)
theorem wd_53 {Z : State} {a0 : Array Value} (hw : ∀ d ∈ tables_1, d.before a0 Z = true) : (Jvm.Cond.selects "com/example/vestline/vestline/engine/PayrollRows" ({ cls := "com/example/vestline/vestline/engine/PayrollRows", name := "cents", desc := "(I)J" } : Jvm.MethodName) ({ cls := "com/example/vestline/vestline/engine/PayrollRows", name := "cents", desc := "(I)J" } : Jvm.MethodName)).before a0 Z = true := hw _ (List.mem_of_getElem? (i := 53) rfl)
theorem wd_54 {Z : State} {a0 : Array Value} (hw : ∀ d ∈ tables_1, d.before a0 Z = true) : (Jvm.Cond.code ({ cls := "com/example/vestline/vestline/engine/PayrollRows", name := "cents", desc := "(I)J" } : Jvm.MethodName) prog_50_method_11_code (2 : Nat) (Option.some Jvm.ClassFile.FieldType.long)).before a0 Z = true := hw _ (List.mem_of_getElem? (i := 54) rfl)
theorem wd_55 {Z : State} {a0 : Array Value} (hw : ∀ d ∈ tables_1, d.before a0 Z = true) : (Jvm.Cond.methodLink "com/example/vestline/vestline/engine/PayrollRows" (64 : Nat) ({ cls := "java/util/Arrays", name := "copyOf", desc := "([II)[I" } : Jvm.MethodName)).before a0 Z = true := hw _ (List.mem_of_getElem? (i := 55) rfl)
theorem wd_56 {Z : State} {a0 : Array Value} (hw : ∀ d ∈ tables_1, d.before a0 Z = true) : (Jvm.Cond.static ({ cls := "java/util/Arrays", name := "copyOf", desc := "([II)[I" } : Jvm.MethodName)).before a0 Z = true := hw _ (List.mem_of_getElem? (i := 56) rfl)
theorem wd_57 {Z : State} {a0 : Array Value} (hw : ∀ d ∈ tables_1, d.before a0 Z = true) : (Jvm.Cond.initialized "java/util/Arrays").before a0 Z = true := hw _ (List.mem_of_getElem? (i := 57) rfl)
theorem wd_58 {Z : State} {a0 : Array Value} (hw : ∀ d ∈ tables_1, d.before a0 Z = true) : (Jvm.Cond.code ({ cls := "java/util/Arrays", name := "copyOf", desc := "([II)[I" } : Jvm.MethodName) jdk_65_method_123_code (3 : Nat) (Option.some (Jvm.ClassFile.FieldType.array Jvm.ClassFile.FieldType.int))).before a0 Z = true := hw _ (List.mem_of_getElem? (i := 58) rfl)
theorem wd_59 {Z : State} {a0 : Array Value} (hw : ∀ d ∈ tables_1, d.before a0 Z = true) : (Jvm.Cond.methodLink "java/util/Arrays" (304 : Nat) ({ cls := "java/lang/Math", name := "min", desc := "(II)I" } : Jvm.MethodName)).before a0 Z = true := hw _ (List.mem_of_getElem? (i := 59) rfl)
theorem wd_60 {Z : State} {a0 : Array Value} (hw : ∀ d ∈ tables_1, d.before a0 Z = true) : (Jvm.Cond.methodLink "java/util/Arrays" (150 : Nat) ({ cls := "java/lang/System", name := "arraycopy", desc := "(Ljava/lang/Object;ILjava/lang/Object;II)V" } : Jvm.MethodName)).before a0 Z = true := hw _ (List.mem_of_getElem? (i := 60) rfl)
theorem wd_61 {Z : State} {a0 : Array Value} (hw : ∀ d ∈ tables_1, d.before a0 Z = true) : (Jvm.Cond.static ({ cls := "java/lang/System", name := "arraycopy", desc := "(Ljava/lang/Object;ILjava/lang/Object;II)V" } : Jvm.MethodName)).before a0 Z = true := hw _ (List.mem_of_getElem? (i := 61) rfl)
theorem wd_62 {Z : State} {a0 : Array Value} (hw : ∀ d ∈ tables_1, d.before a0 Z = true) : (Jvm.Cond.initialized "java/lang/System").before a0 Z = true := hw _ (List.mem_of_getElem? (i := 62) rfl)
theorem wd_63 {Z : State} {a0 : Array Value} (hw : ∀ d ∈ tables_1, d.before a0 Z = true) : (Jvm.Cond.native ({ cls := "java/lang/System", name := "arraycopy", desc := "(Ljava/lang/Object;ILjava/lang/Object;II)V" } : Jvm.MethodName)).before a0 Z = true := hw _ (List.mem_of_getElem? (i := 63) rfl)
theorem wd_64 {Z : State} {a0 : Array Value} (hw : ∀ d ∈ tables_1, d.before a0 Z = true) : (Jvm.Cond.methodLink "com/example/vestline/vestline/engine/PayrollRows" (70 : Nat) ({ cls := "java/util/Arrays", name := "copyOf", desc := "([JI)[J" } : Jvm.MethodName)).before a0 Z = true := hw _ (List.mem_of_getElem? (i := 64) rfl)
theorem wd_65 {Z : State} {a0 : Array Value} (hw : ∀ d ∈ tables_1, d.before a0 Z = true) : (Jvm.Cond.static ({ cls := "java/util/Arrays", name := "copyOf", desc := "([JI)[J" } : Jvm.MethodName)).before a0 Z = true := hw _ (List.mem_of_getElem? (i := 65) rfl)
theorem wd_66 {Z : State} {a0 : Array Value} (hw : ∀ d ∈ tables_1, d.before a0 Z = true) : (Jvm.Cond.code ({ cls := "java/util/Arrays", name := "copyOf", desc := "([JI)[J" } : Jvm.MethodName) jdk_65_method_124_code (3 : Nat) (Option.some (Jvm.ClassFile.FieldType.array Jvm.ClassFile.FieldType.long))).before a0 Z = true := hw _ (List.mem_of_getElem? (i := 66) rfl)
theorem ef_rm6 : ∀ (m : MethodId) (xa : Int32) (xb : Int32), entryFrame m #[(.int xa), (.int xb)] 2 = mkF m 0 #[.val (.int xa), .val (.int xb)] [] := by intros; first | (simp [entryFrame, mkF, argsToLocals, Value.category]; done) | rfl
theorem d6_0 : decode jdk_29_method_69_code 0 = .ok (.iload_n 0, 1) := by decide +kernel
theorem d6_1 : decode jdk_29_method_69_code 1 = .ok (.iload_n 1, 1) := by decide +kernel
theorem d6_2 : decode jdk_29_method_69_code 2 = .ok (.if_icmp .gt 7, 3) := by decide +kernel
theorem d6_9 : decode jdk_29_method_69_code 9 = .ok (.iload_n 1, 1) := by decide +kernel
theorem d6_10 : decode jdk_29_method_69_code 10 = .ok (.ireturn, 1) := by decide +kernel
theorem d6_5 : decode jdk_29_method_69_code 5 = .ok (.iload_n 0, 1) := by decide +kernel
theorem d6_6 : decode jdk_29_method_69_code 6 = .ok (.goto 4, 3) := by decide +kernel
theorem ef_rm7 : ∀ (m : MethodId) (xa : Int32) (xb : Int32), entryFrame m #[(.int xa), (.int xb)] 2 = mkF m 0 #[.val (.int xa), .val (.int xb)] [] := by intros; first | (simp [entryFrame, mkF, argsToLocals, Value.category]; done) | rfl
theorem d7_0 : decode jdk_29_method_65_code 0 = .ok (.iload_n 0, 1) := by decide +kernel
theorem d7_1 : decode jdk_29_method_65_code 1 = .ok (.iload_n 1, 1) := by decide +kernel
theorem d7_2 : decode jdk_29_method_65_code 2 = .ok (.if_icmp .lt 7, 3) := by decide +kernel
theorem d7_9 : decode jdk_29_method_65_code 9 = .ok (.iload_n 1, 1) := by decide +kernel
theorem d7_10 : decode jdk_29_method_65_code 10 = .ok (.ireturn, 1) := by decide +kernel
theorem d7_5 : decode jdk_29_method_65_code 5 = .ok (.iload_n 0, 1) := by decide +kernel
theorem d7_6 : decode jdk_29_method_65_code 6 = .ok (.goto 4, 3) := by decide +kernel
theorem ef_rm1 : ∀ (m : MethodId) (qv : Int64) (xk : Int32) (xi : Int32), entryFrame m #[(.long qv), (.int xk), (.int xi)] 4 = mkF m 0 #[.val (.long qv), .second, .val (.int xk), .val (.int xi)] [] := by intros; first | (simp [entryFrame, mkF, argsToLocals, Value.category]; done) | rfl
theorem d1_0 : decode method_2_code 0 = .ok (.iload_n 2, 1) := by decide +kernel
theorem d1_1 : decode method_2_code 1 = .ok (.iconst 3, 1) := by decide +kernel
theorem d1_2 : decode method_2_code 2 = .ok (.iload_n 3, 1) := by decide +kernel
theorem d1_3 : decode method_2_code 3 = .ok (.iadd, 1) := by decide +kernel
theorem d1_4 : decode method_2_code 4 = .ok (.iushr, 1) := by decide +kernel
theorem d1_5 : decode method_2_code 5 = .ok (.iconst 1, 1) := by decide +kernel
theorem d1_6 : decode method_2_code 6 = .ok (.iand, 1) := by decide +kernel
theorem d1_7 : decode method_2_code 7 = .ok (.ifCond .eq 7, 3) := by decide +kernel
theorem d1_14 : decode method_2_code 14 = .ok (.lload_n 0, 1) := by decide +kernel
theorem d1_15 : decode method_2_code 15 = .ok (.lreturn, 1) := by decide +kernel
theorem d1_10 : decode method_2_code 10 = .ok (.lconst 0, 1) := by decide +kernel
theorem d1_11 : decode method_2_code 11 = .ok (.goto 4, 3) := by decide +kernel
theorem pn_1 : plainName "com/example/vestline/vestline/engine/PayrollRowsCentsPinLaw" = true := by first | (simp [plainName, overriddenIn]; done) | decide +kernel
theorem ef_rm5 : ∀ (m : MethodId) (oa : Addr) (xs : Int32) (xe : Int32), entryFrame m #[(.ref oa), (.int xs), (.int xe)] 3 = mkF m 0 #[.val (.ref oa), .val (.int xs), .val (.int xe)] [] := by intros; first | (simp [entryFrame, mkF, argsToLocals, Value.category]; done) | rfl
theorem d5_0 : decode prog_50_method_4_code 0 = .ok (.iload_n 1, 1) := by decide +kernel
theorem d5_1 : decode prog_50_method_4_code 1 = .ok (.aload_n 0, 1) := by decide +kernel
theorem d5_2 : decode prog_50_method_4_code 2 = .ok (.getfield 17, 3) := by decide +kernel
theorem d5_5 : decode prog_50_method_4_code 5 = .ok (.if_icmp .gt 15, 3) := by decide +kernel
theorem d5_20 : decode prog_50_method_4_code 20 = .ok (.iconst 0, 1) := by decide +kernel
theorem d5_21 : decode prog_50_method_4_code 21 = .ok (.ireturn, 1) := by decide +kernel
theorem d5_8 : decode prog_50_method_4_code 8 = .ok (.iload_n 2, 1) := by decide +kernel
theorem d5_9 : decode prog_50_method_4_code 9 = .ok (.aload_n 0, 1) := by decide +kernel
theorem d5_10 : decode prog_50_method_4_code 10 = .ok (.getfield 10, 3) := by decide +kernel
theorem d5_13 : decode prog_50_method_4_code 13 = .ok (.if_icmp .lt 7, 3) := by decide +kernel
theorem d5_16 : decode prog_50_method_4_code 16 = .ok (.iconst 1, 1) := by decide +kernel
theorem d5_17 : decode prog_50_method_4_code 17 = .ok (.goto 4, 3) := by decide +kernel
theorem pn_5 : plainName "com/example/vestline/vestline/engine/PayrollRows" = true := by first | (simp [plainName, overriddenIn]; done) | decide +kernel
theorem ef_rm2 : ∀ (m : MethodId) (oa : Addr), entryFrame m #[(.ref oa)] 1 = mkF m 0 #[.val (.ref oa)] [] := by intros; first | (simp [entryFrame, mkF, argsToLocals, Value.category]; done) | rfl
theorem d2_0 : decode prog_50_method_1_code 0 = .ok (.aload_n 0, 1) := by decide +kernel
theorem d2_1 : decode prog_50_method_1_code 1 = .ok (.invokespecial 1, 3) := by decide +kernel
theorem d2_4 : decode prog_50_method_1_code 4 = .ok (.aload_n 0, 1) := by decide +kernel
theorem d2_5 : decode prog_50_method_1_code 5 = .ok (.ldc 9, 2) := by decide +kernel
theorem d2_7 : decode prog_50_method_1_code 7 = .ok (.putfield 10, 3) := by decide +kernel
theorem d2_10 : decode prog_50_method_1_code 10 = .ok (.aload_n 0, 1) := by decide +kernel
theorem d2_11 : decode prog_50_method_1_code 11 = .ok (.ldc 16, 2) := by decide +kernel
theorem d2_13 : decode prog_50_method_1_code 13 = .ok (.putfield 17, 3) := by decide +kernel
theorem d2_16 : decode prog_50_method_1_code 16 = .ok (.aload_n 0, 1) := by decide +kernel
theorem d2_17 : decode prog_50_method_1_code 17 = .ok (.iconst 4, 1) := by decide +kernel
theorem d2_18 : decode prog_50_method_1_code 18 = .ok (.newarray .int, 2) := by decide +kernel
theorem d2_20 : decode prog_50_method_1_code 20 = .ok (.putfield 20, 3) := by decide +kernel
theorem d2_23 : decode prog_50_method_1_code 23 = .ok (.aload_n 0, 1) := by decide +kernel
theorem d2_24 : decode prog_50_method_1_code 24 = .ok (.iconst 4, 1) := by decide +kernel
theorem d2_25 : decode prog_50_method_1_code 25 = .ok (.newarray .int, 2) := by decide +kernel
theorem d2_27 : decode prog_50_method_1_code 27 = .ok (.putfield 24, 3) := by decide +kernel
theorem d2_30 : decode prog_50_method_1_code 30 = .ok (.aload_n 0, 1) := by decide +kernel
theorem d2_31 : decode prog_50_method_1_code 31 = .ok (.iconst 4, 1) := by decide +kernel
theorem d2_32 : decode prog_50_method_1_code 32 = .ok (.newarray .long, 2) := by decide +kernel
theorem d2_34 : decode prog_50_method_1_code 34 = .ok (.putfield 27, 3) := by decide +kernel
theorem d2_37 : decode prog_50_method_1_code 37 = .ok (.return_, 1) := by decide +kernel
theorem pn_2 : plainName "com/example/vestline/vestline/engine/PayrollRows" = true := by first | (simp [plainName, overriddenIn]; done) | decide +kernel
theorem ef_rm9 : ∀ (m : MethodId) (oa : Addr), entryFrame m #[(.ref oa), (.int (8 : Int32))] 3 = mkF m 0 #[.val (.ref oa), .val (.int (8 : Int32)), .unset] [] := by intros; first | (simp [entryFrame, mkF, argsToLocals, Value.category]; done) | rfl
theorem d9_0 : decode jdk_65_method_123_code 0 = .ok (.iload_n 1, 1) := by decide +kernel
theorem d9_1 : decode jdk_65_method_123_code 1 = .ok (.aload_n 0, 1) := by decide +kernel
theorem d9_2 : decode jdk_65_method_123_code 2 = .ok (.arraylength, 1) := by decide +kernel
theorem d9_3 : decode jdk_65_method_123_code 3 = .ok (.if_icmp .ne 11, 3) := by decide +kernel
theorem d9_14 : decode jdk_65_method_123_code 14 = .ok (.iload_n 1, 1) := by decide +kernel
theorem d9_15 : decode jdk_65_method_123_code 15 = .ok (.newarray .int, 2) := by decide +kernel
theorem d9_17 : decode jdk_65_method_123_code 17 = .ok (.astore_n 2, 1) := by decide +kernel
theorem d9_18 : decode jdk_65_method_123_code 18 = .ok (.aload_n 0, 1) := by decide +kernel
theorem d9_19 : decode jdk_65_method_123_code 19 = .ok (.iconst 0, 1) := by decide +kernel
theorem d9_20 : decode jdk_65_method_123_code 20 = .ok (.aload_n 2, 1) := by decide +kernel
theorem d9_21 : decode jdk_65_method_123_code 21 = .ok (.iconst 0, 1) := by decide +kernel
theorem d9_22 : decode jdk_65_method_123_code 22 = .ok (.aload_n 0, 1) := by decide +kernel
theorem d9_23 : decode jdk_65_method_123_code 23 = .ok (.arraylength, 1) := by decide +kernel
theorem d9_24 : decode jdk_65_method_123_code 24 = .ok (.iload_n 1, 1) := by decide +kernel
theorem pd_0 : parseMethodDescriptor "(II)I" = some ⟨[.int, .int], some .int⟩ := by decide +kernel
theorem d9_25 : decode jdk_65_method_123_code 25 = .ok (.invokestatic 304, 3) := by decide +kernel
theorem d9_28 : decode jdk_65_method_123_code 28 = .ok (.invokestatic 150, 3) := by decide +kernel
theorem d9_31 : decode jdk_65_method_123_code 31 = .ok (.aload_n 2, 1) := by decide +kernel
theorem d9_32 : decode jdk_65_method_123_code 32 = .ok (.areturn, 1) := by decide +kernel
theorem pn_9 : plainName "java/util/Arrays" = true := by first | (simp [plainName, overriddenIn]; done) | decide +kernel
theorem ef_rm10 : ∀ (m : MethodId) (oa : Addr), entryFrame m #[(.ref oa), (.int (8 : Int32))] 3 = mkF m 0 #[.val (.ref oa), .val (.int (8 : Int32)), .unset] [] := by intros; first | (simp [entryFrame, mkF, argsToLocals, Value.category]; done) | rfl
theorem d10_0 : decode jdk_65_method_124_code 0 = .ok (.iload_n 1, 1) := by decide +kernel
theorem d10_1 : decode jdk_65_method_124_code 1 = .ok (.aload_n 0, 1) := by decide +kernel
theorem d10_2 : decode jdk_65_method_124_code 2 = .ok (.arraylength, 1) := by decide +kernel
theorem d10_3 : decode jdk_65_method_124_code 3 = .ok (.if_icmp .ne 11, 3) := by decide +kernel
theorem d10_14 : decode jdk_65_method_124_code 14 = .ok (.iload_n 1, 1) := by decide +kernel
theorem d10_15 : decode jdk_65_method_124_code 15 = .ok (.newarray .long, 2) := by decide +kernel
theorem d10_17 : decode jdk_65_method_124_code 17 = .ok (.astore_n 2, 1) := by decide +kernel
theorem d10_18 : decode jdk_65_method_124_code 18 = .ok (.aload_n 0, 1) := by decide +kernel
theorem d10_19 : decode jdk_65_method_124_code 19 = .ok (.iconst 0, 1) := by decide +kernel
theorem d10_20 : decode jdk_65_method_124_code 20 = .ok (.aload_n 2, 1) := by decide +kernel
theorem d10_21 : decode jdk_65_method_124_code 21 = .ok (.iconst 0, 1) := by decide +kernel
theorem d10_22 : decode jdk_65_method_124_code 22 = .ok (.aload_n 0, 1) := by decide +kernel
theorem d10_23 : decode jdk_65_method_124_code 23 = .ok (.arraylength, 1) := by decide +kernel
theorem d10_24 : decode jdk_65_method_124_code 24 = .ok (.iload_n 1, 1) := by decide +kernel
theorem d10_25 : decode jdk_65_method_124_code 25 = .ok (.invokestatic 304, 3) := by decide +kernel
theorem d10_28 : decode jdk_65_method_124_code 28 = .ok (.invokestatic 150, 3) := by decide +kernel
theorem d10_31 : decode jdk_65_method_124_code 31 = .ok (.aload_n 2, 1) := by decide +kernel
theorem d10_32 : decode jdk_65_method_124_code 32 = .ok (.areturn, 1) := by decide +kernel
theorem pn_10 : plainName "java/util/Arrays" = true := by first | (simp [plainName, overriddenIn]; done) | decide +kernel
theorem ef_rm4a : ∀ (m : MethodId) (oa : Addr) (xs : Int32) (xe : Int32) (qh : Int64) (qc : Int64), entryFrame m #[(.ref oa), (.int xs), (.int xe), (.long qh), (.long qc)] 7 = mkF m 0 #[.val (.ref oa), .val (.int xs), .val (.int xe), .val (.long qh), .second, .val (.long qc), .second] [] := by intros; first | (simp [entryFrame, mkF, argsToLocals, Value.category]; done) | rfl
theorem d4_0 : decode prog_50_method_2_code 0 = .ok (.aload_n 0, 1) := by decide +kernel
theorem d4_1 : decode prog_50_method_2_code 1 = .ok (.getfield 31, 3) := by decide +kernel
theorem d4_4 : decode prog_50_method_2_code 4 = .ok (.ifnonnull 12, 3) := by decide +kernel
theorem d4_7 : decode prog_50_method_2_code 7 = .ok (.aload_n 0, 1) := by decide +kernel
theorem d4_8 : decode prog_50_method_2_code 8 = .ok (.iload_n 1, 1) := by decide +kernel
theorem d4_9 : decode prog_50_method_2_code 9 = .ok (.iload_n 2, 1) := by decide +kernel
theorem pd_1 : parseMethodDescriptor "(II)Z" = some ⟨[.int, .int], some .boolean⟩ := by decide +kernel
theorem d4_10 : decode prog_50_method_2_code 10 = .ok (.invokevirtual 35, 3) := by decide +kernel
theorem d4_13 : decode prog_50_method_2_code 13 = .ok (.ifCond .eq 24, 3) := by decide +kernel
theorem d4_37 : decode prog_50_method_2_code 37 = .ok (.aload_n 0, 1) := by decide +kernel
theorem d4_38 : decode prog_50_method_2_code 38 = .ok (.aload_n 0, 1) := by decide +kernel
theorem d4_39 : decode prog_50_method_2_code 39 = .ok (.getfield 10, 3) := by decide +kernel
theorem d4_42 : decode prog_50_method_2_code 42 = .ok (.iload_n 1, 1) := by decide +kernel
theorem d4_43 : decode prog_50_method_2_code 43 = .ok (.invokestatic 55, 3) := by decide +kernel
theorem d4_46 : decode prog_50_method_2_code 46 = .ok (.putfield 10, 3) := by decide +kernel
theorem d4_49 : decode prog_50_method_2_code 49 = .ok (.aload_n 0, 1) := by decide +kernel
theorem d4_50 : decode prog_50_method_2_code 50 = .ok (.aload_n 0, 1) := by decide +kernel
theorem d4_51 : decode prog_50_method_2_code 51 = .ok (.getfield 17, 3) := by decide +kernel
theorem d4_54 : decode prog_50_method_2_code 54 = .ok (.iload_n 2, 1) := by decide +kernel
theorem d4_55 : decode prog_50_method_2_code 55 = .ok (.invokestatic 61, 3) := by decide +kernel
theorem d4_58 : decode prog_50_method_2_code 58 = .ok (.putfield 17, 3) := by decide +kernel
theorem d4_61 : decode prog_50_method_2_code 61 = .ok (.aload_n 0, 1) := by decide +kernel
theorem d4_62 : decode prog_50_method_2_code 62 = .ok (.getfield 46, 3) := by decide +kernel
theorem d4_65 : decode prog_50_method_2_code 65 = .ok (.aload_n 0, 1) := by decide +kernel
theorem d4_66 : decode prog_50_method_2_code 66 = .ok (.getfield 24, 3) := by decide +kernel
theorem d4_69 : decode prog_50_method_2_code 69 = .ok (.arraylength, 1) := by decide +kernel
theorem d4_70 : decode prog_50_method_2_code 70 = .ok (.if_icmp .ne 78, 3) := by decide +kernel
theorem d4_148 : decode prog_50_method_2_code 148 = .ok (.aload_n 0, 1) := by decide +kernel
theorem d4_149 : decode prog_50_method_2_code 149 = .ok (.getfield 73, 3) := by decide +kernel
theorem d4_152 : decode prog_50_method_2_code 152 = .ok (.ifnonnull 21, 3) := by decide +kernel
theorem d4_155 : decode prog_50_method_2_code 155 = .ok (.lload 5, 2) := by decide +kernel
theorem d4_157 : decode prog_50_method_2_code 157 = .ok (.lconst 0, 1) := by decide +kernel
theorem d4_158 : decode prog_50_method_2_code 158 = .ok (.lcmp, 1) := by decide +kernel
theorem d4_159 : decode prog_50_method_2_code 159 = .ok (.ifCond .eq 14, 3) := by decide +kernel
theorem d4_173 : decode prog_50_method_2_code 173 = .ok (.aload_n 0, 1) := by decide +kernel
theorem d4_174 : decode prog_50_method_2_code 174 = .ok (.getfield 20, 3) := by decide +kernel
theorem d4_177 : decode prog_50_method_2_code 177 = .ok (.aload_n 0, 1) := by decide +kernel
theorem d4_178 : decode prog_50_method_2_code 178 = .ok (.getfield 46, 3) := by decide +kernel
theorem d4_181 : decode prog_50_method_2_code 181 = .ok (.iload_n 1, 1) := by decide +kernel
theorem d4_182 : decode prog_50_method_2_code 182 = .ok (.iastore, 1) := by decide +kernel
theorem d4_183 : decode prog_50_method_2_code 183 = .ok (.aload_n 0, 1) := by decide +kernel
theorem d4_184 : decode prog_50_method_2_code 184 = .ok (.getfield 24, 3) := by decide +kernel
theorem d4_187 : decode prog_50_method_2_code 187 = .ok (.aload_n 0, 1) := by decide +kernel
theorem d4_188 : decode prog_50_method_2_code 188 = .ok (.getfield 46, 3) := by decide +kernel
theorem d4_191 : decode prog_50_method_2_code 191 = .ok (.iload_n 2, 1) := by decide +kernel
theorem d4_192 : decode prog_50_method_2_code 192 = .ok (.iastore, 1) := by decide +kernel
theorem d4_193 : decode prog_50_method_2_code 193 = .ok (.aload_n 0, 1) := by decide +kernel
theorem d4_194 : decode prog_50_method_2_code 194 = .ok (.getfield 27, 3) := by decide +kernel
theorem d4_197 : decode prog_50_method_2_code 197 = .ok (.aload_n 0, 1) := by decide +kernel
theorem d4_198 : decode prog_50_method_2_code 198 = .ok (.getfield 46, 3) := by decide +kernel
theorem d4_201 : decode prog_50_method_2_code 201 = .ok (.lload_n 3, 1) := by decide +kernel
theorem d4_202 : decode prog_50_method_2_code 202 = .ok (.lastore, 1) := by decide +kernel
theorem d4_203 : decode prog_50_method_2_code 203 = .ok (.aload_n 0, 1) := by decide +kernel
theorem d4_204 : decode prog_50_method_2_code 204 = .ok (.getfield 73, 3) := by decide +kernel
theorem d4_207 : decode prog_50_method_2_code 207 = .ok (.ifnull 14, 3) := by decide +kernel
theorem d4_221 : decode prog_50_method_2_code 221 = .ok (.aload_n 0, 1) := by decide +kernel
theorem d4_222 : decode prog_50_method_2_code 222 = .ok (.dup, 1) := by decide +kernel
theorem d4_223 : decode prog_50_method_2_code 223 = .ok (.getfield 46, 3) := by decide +kernel
theorem d4_226 : decode prog_50_method_2_code 226 = .ok (.iconst 1, 1) := by decide +kernel
theorem d4_227 : decode prog_50_method_2_code 227 = .ok (.iadd, 1) := by decide +kernel
theorem d4_228 : decode prog_50_method_2_code 228 = .ok (.putfield 46, 3) := by decide +kernel
theorem d4_231 : decode prog_50_method_2_code 231 = .ok (.return_, 1) := by decide +kernel
theorem d4_162 : decode prog_50_method_2_code 162 = .ok (.aload_n 0, 1) := by decide +kernel
theorem d4_163 : decode prog_50_method_2_code 163 = .ok (.aload_n 0, 1) := by decide +kernel
theorem d4_164 : decode prog_50_method_2_code 164 = .ok (.getfield 24, 3) := by decide +kernel
theorem d4_167 : decode prog_50_method_2_code 167 = .ok (.arraylength, 1) := by decide +kernel
theorem d4_168 : decode prog_50_method_2_code 168 = .ok (.newarray .long, 2) := by decide +kernel
theorem d4_170 : decode prog_50_method_2_code 170 = .ok (.putfield 73, 3) := by decide +kernel
theorem d4_210 : decode prog_50_method_2_code 210 = .ok (.aload_n 0, 1) := by decide +kernel
theorem d4_211 : decode prog_50_method_2_code 211 = .ok (.getfield 73, 3) := by decide +kernel
theorem d4_214 : decode prog_50_method_2_code 214 = .ok (.aload_n 0, 1) := by decide +kernel
theorem d4_215 : decode prog_50_method_2_code 215 = .ok (.getfield 46, 3) := by decide +kernel
theorem d4_218 : decode prog_50_method_2_code 218 = .ok (.lload 5, 2) := by decide +kernel
theorem d4_220 : decode prog_50_method_2_code 220 = .ok (.lastore, 1) := by decide +kernel
theorem pn_4 : plainName "com/example/vestline/vestline/engine/PayrollRows" = true := by first | (simp [plainName, overriddenIn]; done) | decide +kernel
theorem ef_rm4b : ∀ (m : MethodId) (oa : Addr) (xs : Int32) (xe : Int32) (qh : Int64) (qc : Int64), entryFrame m #[(.ref oa), (.int xs), (.int xe), (.long qh), (.long qc)] 7 = mkF m 0 #[.val (.ref oa), .val (.int xs), .val (.int xe), .val (.long qh), .second, .val (.long qc), .second] [] := by intros; first | (simp [entryFrame, mkF, argsToLocals, Value.category]; done) | rfl
theorem d4_73 : decode prog_50_method_2_code 73 = .ok (.aload_n 0, 1) := by decide +kernel
theorem d4_74 : decode prog_50_method_2_code 74 = .ok (.aload_n 0, 1) := by decide +kernel
theorem d4_75 : decode prog_50_method_2_code 75 = .ok (.getfield 20, 3) := by decide +kernel
theorem d4_78 : decode prog_50_method_2_code 78 = .ok (.aload_n 0, 1) := by decide +kernel
theorem d4_79 : decode prog_50_method_2_code 79 = .ok (.getfield 46, 3) := by decide +kernel
theorem d4_82 : decode prog_50_method_2_code 82 = .ok (.iconst 2, 1) := by decide +kernel
theorem d4_83 : decode prog_50_method_2_code 83 = .ok (.imul, 1) := by decide +kernel
theorem pd_2 : parseMethodDescriptor "([II)[I" = some ⟨[(.array .int), .int], some (.array .int)⟩ := by decide +kernel
theorem d4_84 : decode prog_50_method_2_code 84 = .ok (.invokestatic 64, 3) := by decide +kernel
theorem d4_87 : decode prog_50_method_2_code 87 = .ok (.putfield 20, 3) := by decide +kernel
theorem d4_90 : decode prog_50_method_2_code 90 = .ok (.aload_n 0, 1) := by decide +kernel
theorem d4_91 : decode prog_50_method_2_code 91 = .ok (.aload_n 0, 1) := by decide +kernel
theorem d4_92 : decode prog_50_method_2_code 92 = .ok (.getfield 24, 3) := by decide +kernel
theorem d4_95 : decode prog_50_method_2_code 95 = .ok (.aload_n 0, 1) := by decide +kernel
theorem d4_96 : decode prog_50_method_2_code 96 = .ok (.getfield 46, 3) := by decide +kernel
theorem d4_99 : decode prog_50_method_2_code 99 = .ok (.iconst 2, 1) := by decide +kernel
theorem d4_100 : decode prog_50_method_2_code 100 = .ok (.imul, 1) := by decide +kernel
theorem d4_101 : decode prog_50_method_2_code 101 = .ok (.invokestatic 64, 3) := by decide +kernel
theorem d4_104 : decode prog_50_method_2_code 104 = .ok (.putfield 24, 3) := by decide +kernel
theorem d4_107 : decode prog_50_method_2_code 107 = .ok (.aload_n 0, 1) := by decide +kernel
theorem d4_108 : decode prog_50_method_2_code 108 = .ok (.aload_n 0, 1) := by decide +kernel
theorem d4_109 : decode prog_50_method_2_code 109 = .ok (.getfield 27, 3) := by decide +kernel
theorem d4_112 : decode prog_50_method_2_code 112 = .ok (.aload_n 0, 1) := by decide +kernel
theorem d4_113 : decode prog_50_method_2_code 113 = .ok (.getfield 46, 3) := by decide +kernel
theorem d4_116 : decode prog_50_method_2_code 116 = .ok (.iconst 2, 1) := by decide +kernel
theorem d4_117 : decode prog_50_method_2_code 117 = .ok (.imul, 1) := by decide +kernel
theorem pd_3 : parseMethodDescriptor "([JI)[J" = some ⟨[(.array .long), .int], some (.array .long)⟩ := by decide +kernel
theorem d4_118 : decode prog_50_method_2_code 118 = .ok (.invokestatic 70, 3) := by decide +kernel
theorem d4_121 : decode prog_50_method_2_code 121 = .ok (.putfield 27, 3) := by decide +kernel
theorem d4_124 : decode prog_50_method_2_code 124 = .ok (.aload_n 0, 1) := by decide +kernel
theorem d4_125 : decode prog_50_method_2_code 125 = .ok (.getfield 73, 3) := by decide +kernel
theorem d4_128 : decode prog_50_method_2_code 128 = .ok (.ifnull 20, 3) := by decide +kernel
theorem d4_131 : decode prog_50_method_2_code 131 = .ok (.aload_n 0, 1) := by decide +kernel
theorem d4_132 : decode prog_50_method_2_code 132 = .ok (.aload_n 0, 1) := by decide +kernel
theorem d4_133 : decode prog_50_method_2_code 133 = .ok (.getfield 73, 3) := by decide +kernel
theorem d4_136 : decode prog_50_method_2_code 136 = .ok (.aload_n 0, 1) := by decide +kernel
theorem d4_137 : decode prog_50_method_2_code 137 = .ok (.getfield 46, 3) := by decide +kernel
theorem d4_140 : decode prog_50_method_2_code 140 = .ok (.iconst 2, 1) := by decide +kernel
theorem d4_141 : decode prog_50_method_2_code 141 = .ok (.imul, 1) := by decide +kernel
theorem d4_142 : decode prog_50_method_2_code 142 = .ok (.invokestatic 70, 3) := by decide +kernel
theorem d4_145 : decode prog_50_method_2_code 145 = .ok (.putfield 73, 3) := by decide +kernel
theorem ef_rm8 : ∀ (m : MethodId) (oa : Addr) (xi : Int32), entryFrame m #[(.ref oa), (.int xi)] 2 = mkF m 0 #[.val (.ref oa), .val (.int xi)] [] := by intros; first | (simp [entryFrame, mkF, argsToLocals, Value.category]; done) | rfl
theorem d8_0 : decode prog_50_method_11_code 0 = .ok (.aload_n 0, 1) := by decide +kernel
theorem d8_1 : decode prog_50_method_11_code 1 = .ok (.getfield 73, 3) := by decide +kernel
theorem d8_4 : decode prog_50_method_11_code 4 = .ok (.ifnonnull 7, 3) := by decide +kernel
theorem d8_7 : decode prog_50_method_11_code 7 = .ok (.lconst 0, 1) := by decide +kernel
theorem d8_8 : decode prog_50_method_11_code 8 = .ok (.goto 9, 3) := by decide +kernel
theorem d8_17 : decode prog_50_method_11_code 17 = .ok (.lreturn, 1) := by decide +kernel
theorem d8_11 : decode prog_50_method_11_code 11 = .ok (.aload_n 0, 1) := by decide +kernel
theorem d8_12 : decode prog_50_method_11_code 12 = .ok (.getfield 73, 3) := by decide +kernel
theorem d8_15 : decode prog_50_method_11_code 15 = .ok (.iload_n 1, 1) := by decide +kernel
theorem d8_16 : decode prog_50_method_11_code 16 = .ok (.laload, 1) := by decide +kernel
theorem pn_8 : plainName "com/example/vestline/vestline/engine/PayrollRows" = true := by first | (simp [plainName, overriddenIn]; done) | decide +kernel
theorem ef_rm0 : ∀ (m : MethodId) (qa : Int64) (qb : Int64) (qc : Int64) (qd : Int64) (qe : Int64) (xk : Int32), entryFrame m #[(.long qa), (.long qb), (.long qc), (.long qd), (.long qe), (.int xk)] maxLocals = mkF m 0 #[.val (.long qa), .second, .val (.long qb), .second, .val (.long qc), .second, .val (.long qd), .second, .val (.long qe), .second, .val (.int xk), .unset, .unset, .unset, .unset, .unset, .unset, .unset, .unset, .unset, .unset, .unset, .unset, .unset] [] := by intros; first | (simp [entryFrame, mkF, argsToLocals, Value.category, maxLocals]; done) | rfl
theorem pd_4 : parseMethodDescriptor "(JII)J" = some ⟨[.long, .int, .int], some .long⟩ := by decide +kernel
theorem pd_5 : parseMethodDescriptor "()V" = some ⟨[], none⟩ := by decide +kernel
theorem pd_6 : parseMethodDescriptor "(IIJJ)V" = some ⟨[.int, .int, .long, .long], none⟩ := by decide +kernel
theorem pd_7 : parseMethodDescriptor "(I)J" = some ⟨[.int], some .long⟩ := by decide +kernel
theorem pn_0 : plainName "com/example/vestline/vestline/engine/PayrollRowsCentsPinLaw" = true := by first | (simp [plainName, overriddenIn]; done) | decide +kernel
def FMin (a b : Int32) : Int32 := if b < a then b else a
def FMax (a b : Int32) : Int32 := if a < b then b else a
def FA (le fs xs xe : Int32) : Int32 := if le < xs then 0 else if xe < fs then 0 else 1
def FE (q : Int64) (k i : Int32) : Int64 := if ((k.toUInt32 >>> (((3 : Int32) + i) &&& 31).toUInt32).toInt32 &&& (1 : Int32)) = 0 then q else 0
def Cen (Z : State) (n0 : Nat) (h : Heap) (a s1 s2 s3 : Addr) (cap : Int32) (vs : List Int64) : Prop :=
  (Fld Z h a "com/example/vestline/vestline/engine/PayrollRows" "cents" "[J" .null ∧ ∀ x ∈ vs, x = 0) ∨ (∃ (c : Addr) (kc : ClassId) (vc : List Value), n0 ≤ c ∧ (a ≠ c ∧ s1 ≠ c ∧ s2 ≠ c ∧ s3 ≠ c) ∧ vc.length = cap.toNatClampNeg ∧ Fld Z h a "com/example/vestline/vestline/engine/PayrollRows" "cents" "[J" (.ref c) ∧ Arv Z h c kc .long cap vc (.long (0 : Int64)) ∧ ∀ i, i < vs.length → vc.getD i (.long (0 : Int64)) = .long (vs.getD i 0))
def Rows (Z : State) (n0 : Nat) (h : Heap) (a : Addr) (sz le cap : Int32) (vs : List Int64) : Prop :=
  ∃ (fs : Int32) (s1 s2 s3 : Addr) (k1 k2 k3 : ClassId) (v1 v2 v3 : List Value), (n0 ≤ a ∧ n0 ≤ s1 ∧ n0 ≤ s2 ∧ n0 ≤ s3) ∧ (a ≠ s1 ∧ a ≠ s2 ∧ a ≠ s3 ∧ s1 ≠ s2 ∧ s1 ≠ s3 ∧ s2 ≠ s3) ∧ (v1.length = cap.toNatClampNeg ∧ v2.length = cap.toNatClampNeg ∧ v3.length = cap.toNatClampNeg ∧ vs.length = sz.toNatClampNeg) ∧
    Exa Z h a "com/example/vestline/vestline/engine/PayrollRows" ∧ Fld Z h a "com/example/vestline/vestline/engine/PayrollRows" "byPeriodStart" "Ljava/util/NavigableMap;" .null ∧ Fld Z h a "com/example/vestline/vestline/engine/PayrollRows" "firstPeriodStart" "I" (.int fs) ∧ Fld Z h a "com/example/vestline/vestline/engine/PayrollRows" "lastPeriodEnd" "I" (.int le) ∧ Fld Z h a "com/example/vestline/vestline/engine/PayrollRows" "size" "I" (.int sz) ∧ Fld Z h a "com/example/vestline/vestline/engine/PayrollRows" "periodStarts" "[I" (.ref s1) ∧ Fld Z h a "com/example/vestline/vestline/engine/PayrollRows" "periodEnds" "[I" (.ref s2) ∧ Fld Z h a "com/example/vestline/vestline/engine/PayrollRows" "hundredths" "[J" (.ref s3) ∧ Arv Z h s1 k1 .int cap v1 (.int (0 : Int32)) ∧ Arv Z h s2 k2 .int cap v2 (.int (0 : Int32)) ∧ Arv Z h s3 k3 .long cap v3 (.long (0 : Int64)) ∧ Cen Z n0 h a s1 s2 s3 cap vs
theorem Rows.exa {Z : State} {n0 : Nat} {h : Heap} {a : Addr} {sz le cap : Int32} {vs : List Int64} (R : Rows Z n0 h a sz le cap vs) : Exa Z h a "com/example/vestline/vestline/engine/PayrollRows" := by
  obtain ⟨_, _, _, _, _, _, _, _, _, _, _, _, _, E, _⟩ := R
  exact E
theorem own_n1 {sz : Int32} (h : ¬ sz < 0 ∧ sz < 4) : (sz + 1).toNatClampNeg = sz.toNatClampNeg + 1 ∧ sz.toNatClampNeg < 4 := by
  obtain ⟨h1, h2⟩ := h
  have e := c_iadd sz 1
  have r := rng32 (sz + 1)
  rw [Int32.lt_iff_toInt_lt] at h1 h2
  simp only [Int32.reduceToInt, Int32.toNatClampNeg] at *
  omega
theorem own_n4 {sz : Int32} (h : ¬ sz < 0 ∧ sz < 4) : ¬ sz = 4 := by
  rintro rfl
  exact absurd h.2 (by decide)
theorem own_za {vs : List Int64} {q : Int64} (h : ∀ x ∈ vs, x = 0) (hq : q = 0) : ∀ x ∈ vs ++ [q], x = 0 := by
  intro x hx
  rcases List.mem_append.mp hx with y | y
  · exact h x y
  · rw [List.mem_singleton.mp y]; exact hq
theorem own_c3 {vc : List Value} {vs : List Int64} {q : Int64} {n : Nat} (hl : vs.length = n) (hn : n < vc.length) (h : ∀ i, i < vs.length → vc.getD i (.long (0 : Int64)) = .long (vs.getD i 0)) : ∀ i, i < (vs ++ [q]).length → (vc.set n (.long q)).getD i (.long (0 : Int64)) = .long ((vs ++ [q]).getD i 0) := by
  intro i hi
  subst hl
  simp only [List.length_append, List.length_cons, List.length_nil] at hi
  by_cases e : i = vs.length
  · subst e
    simp [List.getD_eq_getElem?_getD, hn]
  · have h1 : i < vs.length := by omega
    have h2 := h i h1
    simp only [List.getD_eq_getElem?_getD] at h2 ⊢
    rw [List.getElem?_set_ne (fun q => e q.symm), h2, List.getElem?_append_left h1]
theorem own_zz {vs : List Int64} {vc : List Value} (hz : ∀ x ∈ vs, x = 0) (hv : ∀ i, vc.getD i (.long (0 : Int64)) = .long 0) : ∀ i, i < vs.length → vc.getD i (.long (0 : Int64)) = .long (vs.getD i 0) := by
  intro i hi
  rw [hv]
  have : vs.getD i 0 = 0 := by
    rw [List.getD_eq_getElem?_getD, List.getElem?_eq_getElem hi]
    exact hz _ (List.getElem_mem hi)
  rw [this]
theorem own_z4 : ∀ i, ([(.long (0 : Int64)), (.long (0 : Int64)), (.long (0 : Int64)), (.long (0 : Int64))] : List Value).getD i (.long (0 : Int64)) = .long 0
  | 0 => rfl
  | 1 => rfl
  | 2 => rfl
  | 3 => rfl
  | _ + 4 => rfl
theorem own_cB {vc : List Value} {vs : List Int64} {q : Int64} (hl : vs.length = 4) (h : ∀ i, i < vs.length → vc.getD i (.long (0 : Int64)) = .long (vs.getD i 0)) : ∀ i, i < (vs ++ [q]).length → ([vc.getD 0 (.long (0 : Int64)), vc.getD 1 (.long (0 : Int64)), vc.getD 2 (.long (0 : Int64)), vc.getD 3 (.long (0 : Int64)), .long q, (.long (0 : Int64)), (.long (0 : Int64)), (.long (0 : Int64))] : List Value).getD i (.long (0 : Int64)) = .long ((vs ++ [q]).getD i 0) := by
  match vs, hl with
  | [a, b, c, d], _ =>
    intro i hi
    have hi' : i < 5 := hi
    match i, hi' with
    | 0, _ => exact h 0 (by simp)
    | 1, _ => exact h 1 (by simp)
    | 2, _ => exact h 2 (by simp)
    | 3, _ => exact h 3 (by simp)
    | 4, _ => rfl
theorem own_cB0 {vs : List Int64} {q : Int64} (hl : vs.length = 4) (hz : ∀ x ∈ vs, x = 0) : ∀ i, i < (vs ++ [q]).length → ([(.long (0 : Int64)), (.long (0 : Int64)), (.long (0 : Int64)), (.long (0 : Int64)), .long q, (.long (0 : Int64)), (.long (0 : Int64)), (.long (0 : Int64))] : List Value).getD i (.long (0 : Int64)) = .long ((vs ++ [q]).getD i 0) := by
  match vs, hl with
  | [a, b, c, d], _ =>
    have ha := hz a (by simp)
    have hb := hz b (by simp)
    have hc := hz c (by simp)
    have hd := hz d (by simp)
    subst ha hb hc hd
    intro i hi
    have hi' : i < 5 := hi
    match i, hi' with
    | 0, _ => rfl
    | 1, _ => rfl
    | 2, _ => rfl
    | 3, _ => rfl
    | 4, _ => rfl
theorem own_k (a : Int32) : (a &&& 7) % 6 = 0 ∨ (a &&& 7) % 6 = 1 ∨ (a &&& 7) % 6 = 2 ∨ (a &&& 7) % 6 = 3 ∨ (a &&& 7) % 6 = 4 ∨ (a &&& 7) % 6 = 5 := by
  have e : (a &&& 7).toInt = a.toInt % (2 ^ 3 : Nat) := c_mask a 7 3 (by decide) (by decide)
  have q := (c_irem (a &&& 7) 6 6 rfl).1 (by rw [e]; omega)
  generalize (a &&& 7) % 6 = r at *
  simp only [← Int32.toInt_inj, Int32.reduceToInt]
  omega
set_option maxRecDepth 65536 in
set_option maxHeartbeats 40000000 in
theorem rm6 (l : Launch) (Z : State) (a0 : Array Value) (hw : ∀ d ∈ tables_1, d.before a0 Z = true) (xa : Int32) (xb : Int32)  (h0 : Heap) (n0 : Nat) (Z0 : n0 ≤ h0.size)  :
    ownMet l Z (⟨"java/lang/Math", "min", "(II)I"⟩ : MethodName) jdk_29_method_69_code 2 (some .int) [] ({ frames := 0, cells := 0, slots := 0, locals := 0 } : Room) #[(.int xa), (.int xb)] h0 (fun v h L => v = some (.int (FMin xa xb)) ∧ L = [] ∧ h = h0) := by
  refine ownMet.of (Jvm.Free.JP.mathPlain rfl (by decide +kernel)) ?_
  intro p e s m below meth c T0 hx hby hml hZ hown hnm hret hlk X0 e0
  refine ownEnds.cast (ef_rm6 m xa xb) ?_
  show ownEnds _ _ _ _ (T0.setTop (mkF m 0 #[.val (.int xa), .val (.int xb)] []))
  refine ownEnds.law (fun t k => XS.iloadN X0.here hx rfl (hb hby d6_0) rfl (XS.iloadN X0.here hx rfl (hb hby d6_1) rfl k)) ?_
  show ownEnds _ _ _ _ (T0.setTop (mkF m 2 #[.val (.int xa), .val (.int xb)] [(.int xb), (.int xa)]))
  by_cases hc2 : xb < xa
  · refine ownEnds.law (fun t => XS.icmpYes X0.here hx rfl (pc0 := 2) (pc' := 9) rfl (hb hby d6_2) rfl (tlt hc2).2.2.1 (by decide) (by decide)) ?_
    show ownEnds _ _ _ _ (T0.setTop (mkF m 9 #[.val (.int xa), .val (.int xb)] []))
    refine ownEnds.law (fun t k => XS.iloadN X0.here hx rfl (hb hby d6_9) rfl k) ?_
    show ownEnds _ _ _ _ (T0.setTop (mkF m 10 #[.val (.int xa), .val (.int xb)] [(.int xb)]))
    refine ownRetI X0 hlk hx hret (hb hby d6_10) (by decide) (by decide) ?_
    exact ⟨by rw [FMin, if_pos hc2], rfl, e0⟩
  · refine ownEnds.law (fun t => XS.icmpNo X0.here hx rfl (hb hby d6_2) rfl (flt hc2).2.2.1) ?_
    show ownEnds _ _ _ _ (T0.setTop (mkF m 5 #[.val (.int xa), .val (.int xb)] []))
    refine ownEnds.law (fun t k => XS.iloadN X0.here hx rfl (hb hby d6_5) rfl (XS.goto X0.here hx rfl (pc0 := 6) (pc' := 10) rfl (hb hby d6_6) (by decide) (by decide) k)) ?_
    show ownEnds _ _ _ _ (T0.setTop (mkF m 10 #[.val (.int xa), .val (.int xb)] [(.int xa)]))
    refine ownRetI X0 hlk hx hret (hb hby d6_10) (by decide) (by decide) ?_
    exact ⟨by rw [FMin, if_neg hc2], rfl, e0⟩
set_option maxRecDepth 65536 in
set_option maxHeartbeats 40000000 in
theorem rm7 (l : Launch) (Z : State) (a0 : Array Value) (hw : ∀ d ∈ tables_1, d.before a0 Z = true) (xa : Int32) (xb : Int32)  (h0 : Heap) (n0 : Nat) (Z0 : n0 ≤ h0.size)  :
    ownMet l Z (⟨"java/lang/Math", "max", "(II)I"⟩ : MethodName) jdk_29_method_65_code 2 (some .int) [] ({ frames := 0, cells := 0, slots := 0, locals := 0 } : Room) #[(.int xa), (.int xb)] h0 (fun v h L => v = some (.int (FMax xa xb)) ∧ L = [] ∧ h = h0) := by
  refine ownMet.of (Jvm.Free.JP.mathPlain rfl (by decide +kernel)) ?_
  intro p e s m below meth c T0 hx hby hml hZ hown hnm hret hlk X0 e0
  refine ownEnds.cast (ef_rm7 m xa xb) ?_
  show ownEnds _ _ _ _ (T0.setTop (mkF m 0 #[.val (.int xa), .val (.int xb)] []))
  refine ownEnds.law (fun t k => XS.iloadN X0.here hx rfl (hb hby d7_0) rfl (XS.iloadN X0.here hx rfl (hb hby d7_1) rfl k)) ?_
  show ownEnds _ _ _ _ (T0.setTop (mkF m 2 #[.val (.int xa), .val (.int xb)] [(.int xb), (.int xa)]))
  by_cases hc2 : xa < xb
  · refine ownEnds.law (fun t => XS.icmpYes X0.here hx rfl (pc0 := 2) (pc' := 9) rfl (hb hby d7_2) rfl (tlt hc2).1 (by decide) (by decide)) ?_
    show ownEnds _ _ _ _ (T0.setTop (mkF m 9 #[.val (.int xa), .val (.int xb)] []))
    refine ownEnds.law (fun t k => XS.iloadN X0.here hx rfl (hb hby d7_9) rfl k) ?_
    show ownEnds _ _ _ _ (T0.setTop (mkF m 10 #[.val (.int xa), .val (.int xb)] [(.int xb)]))
    refine ownRetI X0 hlk hx hret (hb hby d7_10) (by decide) (by decide) ?_
    exact ⟨by rw [FMax, if_pos hc2], rfl, e0⟩
  · refine ownEnds.law (fun t => XS.icmpNo X0.here hx rfl (hb hby d7_2) rfl (flt hc2).1) ?_
    show ownEnds _ _ _ _ (T0.setTop (mkF m 5 #[.val (.int xa), .val (.int xb)] []))
    refine ownEnds.law (fun t k => XS.iloadN X0.here hx rfl (hb hby d7_5) rfl (XS.goto X0.here hx rfl (pc0 := 6) (pc' := 10) rfl (hb hby d7_6) (by decide) (by decide) k)) ?_
    show ownEnds _ _ _ _ (T0.setTop (mkF m 10 #[.val (.int xa), .val (.int xb)] [(.int xa)]))
    refine ownRetI X0 hlk hx hret (hb hby d7_10) (by decide) (by decide) ?_
    exact ⟨by rw [FMax, if_neg hc2], rfl, e0⟩
set_option maxRecDepth 65536 in
set_option maxHeartbeats 40000000 in
theorem rm1 (l : Launch) (Z : State) (a0 : Array Value) (hw : ∀ d ∈ tables_1, d.before a0 Z = true) (qv : Int64) (xk : Int32) (xi : Int32)  (h0 : Heap) (n0 : Nat) (Z0 : n0 ≤ h0.size)  :
    ownMet l Z (⟨"com/example/vestline/vestline/engine/PayrollRowsCentsPinLaw", "eff", "(JII)J"⟩ : MethodName) method_2_code 4 (some .long) [] ({ frames := 0, cells := 0, slots := 0, locals := 0 } : Room) #[(.long qv), (.int xk), (.int xi)] h0 (fun v h L => v = some (.long (FE qv xk xi)) ∧ L = [] ∧ h = h0) := by
  refine ownMet.of (plainFor_of_name pn_1) ?_
  intro p e s m below meth c T0 hx hby hml hZ hown hnm hret hlk X0 e0
  refine ownEnds.cast (ef_rm1 m qv xk xi) ?_
  show ownEnds _ _ _ _ (T0.setTop (mkF m 0 #[.val (.long qv), .second, .val (.int xk), .val (.int xi)] []))
  refine ownEnds.law (fun t k => XS.iloadN X0.here hx rfl (hb hby d1_0) rfl (XS.iconst X0.here hx rfl (hb hby d1_1) (XS.iloadN X0.here hx rfl (hb hby d1_2) rfl (XS.iadd X0.here hx rfl (hb hby d1_3) rfl (XS.iushr X0.here hx rfl (hb hby d1_4) rfl (XS.iconst X0.here hx rfl (hb hby d1_5) (XS.iand X0.here hx rfl (hb hby d1_6) rfl k))))))) ?_
  show ownEnds _ _ _ _ (T0.setTop (mkF m 7 #[.val (.long qv), .second, .val (.int xk), .val (.int xi)] [(.int (((xk.toUInt32 >>> (((3 : Int32) + xi) &&& 31).toUInt32).toInt32) &&& (1 : Int32)))]))
  by_cases hc7 : (((xk.toUInt32 >>> (((3 : Int32) + xi) &&& 31).toUInt32).toInt32) &&& (1 : Int32)) = (0 : Int32)
  · refine ownEnds.law (fun t => XS.ifYes X0.here hx rfl (pc0 := 7) (pc' := 14) rfl (hb hby d1_7) rfl ((if0 _ _).trans (teq hc7).1) (by decide) (by decide)) ?_
    show ownEnds _ _ _ _ (T0.setTop (mkF m 14 #[.val (.long qv), .second, .val (.int xk), .val (.int xi)] []))
    refine ownEnds.law (fun t k => XS.lloadN X0.here hx rfl (hb hby d1_14) rfl k) ?_
    show ownEnds _ _ _ _ (T0.setTop (mkF m 15 #[.val (.long qv), .second, .val (.int xk), .val (.int xi)] [(.long qv)]))
    refine ownRetL X0 hlk hx hret (hb hby d1_15) (by decide) (by decide) ?_
    exact ⟨by rw [FE, if_pos hc7], rfl, e0⟩
  · refine ownEnds.law (fun t => XS.ifNo X0.here hx rfl (hb hby d1_7) rfl ((if0 _ _).trans (feq hc7).1)) ?_
    show ownEnds _ _ _ _ (T0.setTop (mkF m 10 #[.val (.long qv), .second, .val (.int xk), .val (.int xi)] []))
    refine ownEnds.law (fun t k => XS.lconst X0.here hx rfl (hb hby d1_10) (XS.goto X0.here hx rfl (pc0 := 11) (pc' := 15) rfl (hb hby d1_11) (by decide) (by decide) k)) ?_
    show ownEnds _ _ _ _ (T0.setTop (mkF m 15 #[.val (.long qv), .second, .val (.int xk), .val (.int xi)] [(.long (0 : Int64))]))
    refine ownRetL X0 hlk hx hret (hb hby d1_15) (by decide) (by decide) ?_
    exact ⟨by rw [FE, if_neg hc7], rfl, e0⟩
set_option maxRecDepth 65536 in
set_option maxHeartbeats 40000000 in
theorem rm5 (l : Launch) (Z : State) (a0 : Array Value) (hw : ∀ d ∈ tables_1, d.before a0 Z = true) (oa : Addr) (xs : Int32) (xe : Int32) (le : Int32) (fs : Int32) (h0 : Heap) (n0 : Nat) (Z0 : n0 ≤ h0.size)  (F_lastPeriodEnd : Fld Z h0 oa "com/example/vestline/vestline/engine/PayrollRows" "lastPeriodEnd" "I" (.int le)) (F_firstPeriodStart : Fld Z h0 oa "com/example/vestline/vestline/engine/PayrollRows" "firstPeriodStart" "I" (.int fs)) :
    ownMet l Z (⟨"com/example/vestline/vestline/engine/PayrollRows", "isAmongRows", "(II)Z"⟩ : MethodName) prog_50_method_4_code 3 (some .boolean) [] ({ frames := 0, cells := 0, slots := 0, locals := 0 } : Room) #[(.ref oa), (.int xs), (.int xe)] h0 (fun v h L => v = some (.int (FA le fs xs xe)) ∧ L = [] ∧ h = h0) := by
  refine ownMet.of (plainFor_of_name pn_5) ?_
  intro p e s m below meth c T0 hx hby hml hZ hown hnm hret hlk X0 e0
  refine ownEnds.cast (ef_rm5 m oa xs xe) ?_
  show ownEnds _ _ _ _ (T0.setTop (mkF m 0 #[.val (.ref oa), .val (.int xs), .val (.int xe)] []))
  refine ownEnds.law (fun t k => XS.iloadN X0.here hx rfl (hb hby d5_0) rfl (XS.aloadN X0.here hx rfl (hb hby d5_1) rfl rfl k)) ?_
  show ownEnds _ _ _ _ (T0.setTop (mkF m 2 #[.val (.ref oa), .val (.int xs), .val (.int xe)] [(.ref oa), (.int xs)]))
  obtain ⟨T1, X1, e1, st1⟩ := getF X0 hx hZ hown (host := "") (Or.inl (wd_17 hw)) Via.refl e0 F_lastPeriodEnd (g := (mkF m 2 #[.val (.ref oa), .val (.int xs), .val (.int xe)] [(.ref oa), (.int xs)])) rfl rfl (hb hby d5_2)
  refine ownEnds.law st1 ?_
  show ownEnds _ _ _ _ (T1.setTop (mkF m 5 #[.val (.ref oa), .val (.int xs), .val (.int xe)] [(.int le), (.int xs)]))
  by_cases hc5 : le < xs
  · refine ownEnds.law (fun t => XS.icmpYes X1.here hx rfl (pc0 := 5) (pc' := 20) rfl (hb hby d5_5) rfl (tlt hc5).2.2.1 (by decide) (by decide)) ?_
    show ownEnds _ _ _ _ (T1.setTop (mkF m 20 #[.val (.ref oa), .val (.int xs), .val (.int xe)] []))
    refine ownEnds.law (fun t k => XS.iconst X1.here hx rfl (hb hby d5_20) k) ?_
    show ownEnds _ _ _ _ (T1.setTop (mkF m 21 #[.val (.ref oa), .val (.int xs), .val (.int xe)] [(.int (0 : Int32))]))
    refine ownRetN X1 hlk hx (t := .boolean) hret (by simp) (hb hby d5_21) (by decide) (by decide) ?_
    exact ⟨by simp only [FA, if_pos hc5]; rfl, rfl, e1⟩
  · refine ownEnds.law (fun t => XS.icmpNo X1.here hx rfl (hb hby d5_5) rfl (flt hc5).2.2.1) ?_
    show ownEnds _ _ _ _ (T1.setTop (mkF m 8 #[.val (.ref oa), .val (.int xs), .val (.int xe)] []))
    refine ownEnds.law (fun t k => XS.iloadN X1.here hx rfl (hb hby d5_8) rfl (XS.aloadN X1.here hx rfl (hb hby d5_9) rfl rfl k)) ?_
    show ownEnds _ _ _ _ (T1.setTop (mkF m 10 #[.val (.ref oa), .val (.int xs), .val (.int xe)] [(.ref oa), (.int xe)]))
    obtain ⟨T2, X2, e2, st2⟩ := getF X1 hx hZ hown (host := "") (Or.inl (wd_14 hw)) Via.refl e1 F_firstPeriodStart (g := (mkF m 10 #[.val (.ref oa), .val (.int xs), .val (.int xe)] [(.ref oa), (.int xe)])) rfl rfl (hb hby d5_10)
    refine ownEnds.law st2 ?_
    show ownEnds _ _ _ _ (T2.setTop (mkF m 13 #[.val (.ref oa), .val (.int xs), .val (.int xe)] [(.int fs), (.int xe)]))
    by_cases hc13 : xe < fs
    · refine ownEnds.law (fun t => XS.icmpYes X2.here hx rfl (pc0 := 13) (pc' := 20) rfl (hb hby d5_13) rfl (tlt hc13).1 (by decide) (by decide)) ?_
      show ownEnds _ _ _ _ (T2.setTop (mkF m 20 #[.val (.ref oa), .val (.int xs), .val (.int xe)] []))
      refine ownEnds.law (fun t k => XS.iconst X2.here hx rfl (hb hby d5_20) k) ?_
      show ownEnds _ _ _ _ (T2.setTop (mkF m 21 #[.val (.ref oa), .val (.int xs), .val (.int xe)] [(.int (0 : Int32))]))
      refine ownRetN X2 hlk hx (t := .boolean) hret (by simp) (hb hby d5_21) (by decide) (by decide) ?_
      exact ⟨by simp only [FA, if_neg hc5, if_pos hc13]; rfl, rfl, e2⟩
    · refine ownEnds.law (fun t => XS.icmpNo X2.here hx rfl (hb hby d5_13) rfl (flt hc13).1) ?_
      show ownEnds _ _ _ _ (T2.setTop (mkF m 16 #[.val (.ref oa), .val (.int xs), .val (.int xe)] []))
      refine ownEnds.law (fun t k => XS.iconst X2.here hx rfl (hb hby d5_16) (XS.goto X2.here hx rfl (pc0 := 17) (pc' := 21) rfl (hb hby d5_17) (by decide) (by decide) k)) ?_
      show ownEnds _ _ _ _ (T2.setTop (mkF m 21 #[.val (.ref oa), .val (.int xs), .val (.int xe)] [(.int (1 : Int32))]))
      refine ownRetN X2 hlk hx (t := .boolean) hret (by simp) (hb hby d5_21) (by decide) (by decide) ?_
      exact ⟨by simp only [FA, if_neg hc5, if_neg hc13]; rfl, rfl, e2⟩
set_option maxRecDepth 65536 in
set_option maxHeartbeats 40000000 in
theorem rm2 (l : Launch) (Z : State) (a0 : Array Value) (hw : ∀ d ∈ tables_1, d.before a0 Z = true) (oa : Addr)  (h0 : Heap) (n0 : Nat) (Z0 : n0 ≤ h0.size) (E_oa : Exa Z h0 oa "com/example/vestline/vestline/engine/PayrollRows") (g_oa : n0 ≤ oa) (F_oa_firstPeriodStart : Fld Z h0 oa "com/example/vestline/vestline/engine/PayrollRows" "firstPeriodStart" "I" (.int (0 : Int32))) (F_oa_lastPeriodEnd : Fld Z h0 oa "com/example/vestline/vestline/engine/PayrollRows" "lastPeriodEnd" "I" (.int (0 : Int32))) (F_oa_periodStarts : Fld Z h0 oa "com/example/vestline/vestline/engine/PayrollRows" "periodStarts" "[I" .null) (F_oa_periodEnds : Fld Z h0 oa "com/example/vestline/vestline/engine/PayrollRows" "periodEnds" "[I" .null) (F_oa_hundredths : Fld Z h0 oa "com/example/vestline/vestline/engine/PayrollRows" "hundredths" "[J" .null) (F_oa_byPeriodStart : Fld Z h0 oa "com/example/vestline/vestline/engine/PayrollRows" "byPeriodStart" "Ljava/util/NavigableMap;" .null) (F_oa_size : Fld Z h0 oa "com/example/vestline/vestline/engine/PayrollRows" "size" "I" (.int (0 : Int32))) (F_oa_cents : Fld Z h0 oa "com/example/vestline/vestline/engine/PayrollRows" "cents" "[J" .null) :
    ownMet l Z (⟨"com/example/vestline/vestline/engine/PayrollRows", "<init>", "()V"⟩ : MethodName) prog_50_method_1_code 1 none [] ({ frames := 1, cells := 3, slots := 12, locals := 13 } : Room) #[(.ref oa)] h0 (fun v h L => v = none ∧ Fr n0 L ∧ h0.size ≤ h.size ∧ Rows Z n0 h oa (0 : Int32) (-2147483648 : Int32) (4 : Int32) []) := by
  refine ownMet.of (plainFor_of_name pn_2) ?_
  intro p e s m below meth c T0 hx hby hml hZ hown hnm hret hlk X0 e0
  refine ownEnds.cast (ef_rm2 m oa) ?_
  show ownEnds _ _ _ _ (T0.setTop (mkF m 0 #[.val (.ref oa)] []))
  refine ownEnds.law (fun t k => XS.aloadN X0.here hx rfl (hb hby d2_0) rfl rfl k) ?_
  show ownEnds _ _ _ _ (T0.setTop (mkF m 1 #[.val (.ref oa)] [(.ref oa)]))
  obtain ⟨T1, X1, e1, st1⟩ := initO X0 hx hZ hown (wd_10 hw) (wd_11 hw) (wd_12 hw) e0 (g := (mkF m 1 #[.val (.ref oa)] [(.ref oa)])) rfl (by rw [hml]; rfl) rfl (hb hby d2_1) (by decide) (W := 0) (by show 2 * 0 + _ ≤ _; exact Nat.le_of_eq rfl) (by decide)
  refine ownEnds.law st1 ?_
  show ownEnds _ _ _ _ (T1.setTop (mkF m 4 #[.val (.ref oa)] []))
  refine ownEnds.law (fun t k => XS.aloadN X1.here hx rfl (hb hby d2_4) rfl rfl (X1.ldcInt hx hown (mvT hZ (wd_13 hw)) (g := (mkF m 5 #[.val (.ref oa)] [(.ref oa)])) rfl (hb hby d2_5) _ k)) ?_
  show ownEnds _ _ _ _ (T1.setTop (mkF m 7 #[.val (.ref oa)] [(.int (2147483647 : Int32)), (.ref oa)]))
  obtain ⟨T2, h2, X2, e2, W2, st2⟩ := putF X1 hx hZ hown (host := "") (Or.inl (wd_14 hw)) Via.refl e1 F_oa_firstPeriodStart E_oa (Or.inl (wd_15 hw)) (wd_5 hw) (ty := .int) (by decide) rfl rfl (g := (mkF m 7 #[.val (.ref oa)] [(.int (2147483647 : Int32)), (.ref oa)])) rfl rfl (hb hby d2_7)
  refine ownEnds.law st2 ?_
  have N2 := Fr.snoc X2 (Fr.nil n0) g_oa
  have KK2 : Keep h0 h2 [oa] := (Keep.refl h0 [oa]).wr W2 (Or.inl (List.mem_of_getElem? (i := 0) rfl))
  have Z2 : n0 ≤ h2.size := by rw [W2.size]; exact Z0
  have Fw2 : Fld Z h2 oa "com/example/vestline/vestline/engine/PayrollRows" "firstPeriodStart" "I" (.int (2147483647 : Int32)) := Fld.same W2 F_oa_firstPeriodStart
  show ownEnds _ _ _ _ (T2.setTop (mkF m 10 #[.val (.ref oa)] []))
  refine ownEnds.law (fun t k => XS.aloadN X2.here hx rfl (hb hby d2_10) rfl rfl (X2.ldcInt hx hown (mvT hZ (wd_16 hw)) (g := (mkF m 11 #[.val (.ref oa)] [(.ref oa)])) rfl (hb hby d2_11) _ k)) ?_
  show ownEnds _ _ _ _ (T2.setTop (mkF m 13 #[.val (.ref oa)] [(.int (-2147483648 : Int32)), (.ref oa)]))
  have f3 := (Exa.wr W2 E_oa)
  have f4 := (Fld.other W2 F_oa_lastPeriodEnd (Or.inr (slot_ne (Or.inl (wd_18 hw)) (Or.inl (wd_15 hw)) (by decide) (t := .int) (t' := .int) (by decide) (by decide))))
  obtain ⟨T5, h5, X5, e5, W5, st5⟩ := putF X2 hx hZ hown (host := "") (Or.inl (wd_17 hw)) Via.refl e2 f4 f3 (Or.inl (wd_18 hw)) (wd_5 hw) (ty := .int) (by decide) rfl rfl (g := (mkF m 13 #[.val (.ref oa)] [(.int (-2147483648 : Int32)), (.ref oa)])) rfl rfl (hb hby d2_13)
  refine ownEnds.law st5 ?_
  have N5 := Fr.snoc X5 N2 g_oa
  have KK5 : Keep h0 h5 [oa] := (KK2).wr W5 (Or.inl (List.mem_of_getElem? (i := 0) rfl))
  have Z5 : n0 ≤ h5.size := by rw [W5.size]; exact Z2
  have Fw5 : Fld Z h5 oa "com/example/vestline/vestline/engine/PayrollRows" "lastPeriodEnd" "I" (.int (-2147483648 : Int32)) := Fld.same W5 f4
  show ownEnds _ _ _ _ (T5.setTop (mkF m 16 #[.val (.ref oa)] []))
  refine ownEnds.law (fun t k => XS.aloadN X5.here hx rfl (hb hby d2_16) rfl rfl (XS.iconst X5.here hx rfl (hb hby d2_17) k)) ?_
  show ownEnds _ _ _ _ (T5.setTop (mkF m 18 #[.val (.ref oa)] [(.int (4 : Int32)), (.ref oa)]))
  obtain ⟨T6, h6, k6, X6, e6, E6, A6, st6⟩ := newP X5 hx hZ (aty := .int) (wd_19 hw) e5 (g := (mkF m 18 #[.val (.ref oa)] [(.int (4 : Int32)), (.ref oa)])) rfl (hb hby d2_18) rfl (by decide) (cap := 4) (by decide) (by decide) (by decide) (by decide)
  obtain ⟨b6, g6⟩ : ∃ z, z = h5.size := ⟨_, rfl⟩
  rw [← g6] at A6 st6
  refine ownEnds.law st6 ?_
  have V_b6 : Arv Z h6 b6 k6 .int (4 : Int32) [(.int (0 : Int32)), (.int (0 : Int32)), (.int (0 : Int32)), (.int (0 : Int32))] (.int (0 : Int32)) := (Arv.new A6 (by decide)).pad (pad_rep [] (.int (0 : Int32)) 4)
  have f7 := (Exa.wr W5 f3)
  have ne_oa_b6 : oa ≠ b6 := Nat.ne_of_lt (Nat.lt_of_lt_of_eq f7.lt g6.symm)
  have g_b6 : n0 ≤ b6 := Nat.le_trans Z5 (Nat.le_of_eq g6.symm)
  have sz_b6 : h0.size ≤ b6 := Nat.le_trans (KK5).1 (Nat.le_of_eq g6.symm)
  have Z6 : n0 ≤ h6.size := Nat.le_trans Z5 E6.1
  have KK6 : Keep h0 h6 [oa] := (KK5).ext E6
  show ownEnds _ _ _ _ (T6.setTop (mkF m 20 #[.val (.ref oa)] [(.ref b6), (.ref oa)]))
  have f8 := (Exa.ext E6 f7)
  have f9 := (Fld.ext E6 (Fld.other W5 (Fld.other W2 F_oa_periodStarts (Or.inr (slot_ne (Or.inl (wd_21 hw)) (Or.inl (wd_15 hw)) (by decide) (t := (.array .int)) (t' := .int) (by decide) (by decide)))) (Or.inr (slot_ne (Or.inl (wd_21 hw)) (Or.inl (wd_18 hw)) (by decide) (t := (.array .int)) (t' := .int) (by decide) (by decide)))))
  obtain ⟨T10, h10, X10, e10, W10, st10⟩ := putF X6 hx hZ hown (host := "") (Or.inl (wd_20 hw)) Via.refl e6 f9 f8 (Or.inl (wd_21 hw)) (wd_5 hw) (ty := (.array .int)) (by decide) rfl rfl (g := (mkF m 20 #[.val (.ref oa)] [(.ref b6), (.ref oa)])) rfl rfl (hb hby d2_20)
  refine ownEnds.law st10 ?_
  have N10 := Fr.snoc X10 N5 g_oa
  have KK10 : Keep h0 h10 [oa] := (KK6).wr W10 (Or.inl (List.mem_of_getElem? (i := 0) rfl))
  have Z10 : n0 ≤ h10.size := by rw [W10.size]; exact Z6
  have Fw10 : Fld Z h10 oa "com/example/vestline/vestline/engine/PayrollRows" "periodStarts" "[I" (.ref b6) := Fld.same W10 f9
  show ownEnds _ _ _ _ (T10.setTop (mkF m 23 #[.val (.ref oa)] []))
  refine ownEnds.law (fun t k => XS.aloadN X10.here hx rfl (hb hby d2_23) rfl rfl (XS.iconst X10.here hx rfl (hb hby d2_24) k)) ?_
  show ownEnds _ _ _ _ (T10.setTop (mkF m 25 #[.val (.ref oa)] [(.int (4 : Int32)), (.ref oa)]))
  obtain ⟨T11, h11, k11, X11, e11, E11, A11, st11⟩ := newP X10 hx hZ (aty := .int) (wd_19 hw) e10 (g := (mkF m 25 #[.val (.ref oa)] [(.int (4 : Int32)), (.ref oa)])) rfl (hb hby d2_25) rfl (by decide) (cap := 4) (by decide) (by decide) (by decide) (by decide)
  obtain ⟨b11, g11⟩ : ∃ z, z = h10.size := ⟨_, rfl⟩
  rw [← g11] at A11 st11
  refine ownEnds.law st11 ?_
  have V_b11 : Arv Z h11 b11 k11 .int (4 : Int32) [(.int (0 : Int32)), (.int (0 : Int32)), (.int (0 : Int32)), (.int (0 : Int32))] (.int (0 : Int32)) := (Arv.new A11 (by decide)).pad (pad_rep [] (.int (0 : Int32)) 4)
  have f12 := (Exa.wr W10 f8)
  have ne_oa_b11 : oa ≠ b11 := Nat.ne_of_lt (Nat.lt_of_lt_of_eq f12.lt g11.symm)
  have f13 := (Arv.other V_b6 W10 (Ne.symm ne_oa_b6))
  have ne_b6_b11 : b6 ≠ b11 := Nat.ne_of_lt (Nat.lt_of_lt_of_eq f13.lt g11.symm)
  have g_b11 : n0 ≤ b11 := Nat.le_trans Z10 (Nat.le_of_eq g11.symm)
  have sz_b11 : h0.size ≤ b11 := Nat.le_trans (KK10).1 (Nat.le_of_eq g11.symm)
  have Z11 : n0 ≤ h11.size := Nat.le_trans Z10 E11.1
  have KK11 : Keep h0 h11 [oa] := (KK10).ext E11
  show ownEnds _ _ _ _ (T11.setTop (mkF m 27 #[.val (.ref oa)] [(.ref b11), (.ref oa)]))
  have f14 := (Exa.ext E11 f12)
  have f15 := (Fld.ext E11 (Fld.other W10 (Fld.ext E6 (Fld.other W5 (Fld.other W2 F_oa_periodEnds (Or.inr (slot_ne (Or.inl (wd_23 hw)) (Or.inl (wd_15 hw)) (by decide) (t := (.array .int)) (t' := .int) (by decide) (by decide)))) (Or.inr (slot_ne (Or.inl (wd_23 hw)) (Or.inl (wd_18 hw)) (by decide) (t := (.array .int)) (t' := .int) (by decide) (by decide))))) (Or.inr (slot_ne (Or.inl (wd_23 hw)) (Or.inl (wd_21 hw)) (by decide) (t := (.array .int)) (t' := (.array .int)) (by decide) (by decide)))))
  obtain ⟨T16, h16, X16, e16, W16, st16⟩ := putF X11 hx hZ hown (host := "") (Or.inl (wd_22 hw)) Via.refl e11 f15 f14 (Or.inl (wd_23 hw)) (wd_5 hw) (ty := (.array .int)) (by decide) rfl rfl (g := (mkF m 27 #[.val (.ref oa)] [(.ref b11), (.ref oa)])) rfl rfl (hb hby d2_27)
  refine ownEnds.law st16 ?_
  have N16 := Fr.snoc X16 N10 g_oa
  have KK16 : Keep h0 h16 [oa] := (KK11).wr W16 (Or.inl (List.mem_of_getElem? (i := 0) rfl))
  have Z16 : n0 ≤ h16.size := by rw [W16.size]; exact Z11
  have Fw16 : Fld Z h16 oa "com/example/vestline/vestline/engine/PayrollRows" "periodEnds" "[I" (.ref b11) := Fld.same W16 f15
  show ownEnds _ _ _ _ (T16.setTop (mkF m 30 #[.val (.ref oa)] []))
  refine ownEnds.law (fun t k => XS.aloadN X16.here hx rfl (hb hby d2_30) rfl rfl (XS.iconst X16.here hx rfl (hb hby d2_31) k)) ?_
  show ownEnds _ _ _ _ (T16.setTop (mkF m 32 #[.val (.ref oa)] [(.int (4 : Int32)), (.ref oa)]))
  obtain ⟨T17, h17, k17, X17, e17, E17, A17, st17⟩ := newP X16 hx hZ (aty := .long) (wd_24 hw) e16 (g := (mkF m 32 #[.val (.ref oa)] [(.int (4 : Int32)), (.ref oa)])) rfl (hb hby d2_32) rfl (by decide) (cap := 4) (by decide) (by decide) (by decide) (by decide)
  obtain ⟨b17, g17⟩ : ∃ z, z = h16.size := ⟨_, rfl⟩
  rw [← g17] at A17 st17
  refine ownEnds.law st17 ?_
  have V_b17 : Arv Z h17 b17 k17 .long (4 : Int32) [(.long (0 : Int64)), (.long (0 : Int64)), (.long (0 : Int64)), (.long (0 : Int64))] (.long (0 : Int64)) := (Arv.new A17 (by decide)).pad (pad_rep [] (.long (0 : Int64)) 4)
  have f18 := (Exa.wr W16 f14)
  have ne_oa_b17 : oa ≠ b17 := Nat.ne_of_lt (Nat.lt_of_lt_of_eq f18.lt g17.symm)
  have f19 := (Arv.other (Arv.ext f13 E11) W16 (Ne.symm ne_oa_b6))
  have ne_b6_b17 : b6 ≠ b17 := Nat.ne_of_lt (Nat.lt_of_lt_of_eq f19.lt g17.symm)
  have f20 := (Arv.other V_b11 W16 (Ne.symm ne_oa_b11))
  have ne_b11_b17 : b11 ≠ b17 := Nat.ne_of_lt (Nat.lt_of_lt_of_eq f20.lt g17.symm)
  have g_b17 : n0 ≤ b17 := Nat.le_trans Z16 (Nat.le_of_eq g17.symm)
  have sz_b17 : h0.size ≤ b17 := Nat.le_trans (KK16).1 (Nat.le_of_eq g17.symm)
  have Z17 : n0 ≤ h17.size := Nat.le_trans Z16 E17.1
  have KK17 : Keep h0 h17 [oa] := (KK16).ext E17
  show ownEnds _ _ _ _ (T17.setTop (mkF m 34 #[.val (.ref oa)] [(.ref b17), (.ref oa)]))
  have f21 := (Exa.ext E17 f18)
  have f22 := (Fld.ext E17 (Fld.other W16 (Fld.ext E11 (Fld.other W10 (Fld.ext E6 (Fld.other W5 (Fld.other W2 F_oa_hundredths (Or.inr (slot_ne (Or.inl (wd_26 hw)) (Or.inl (wd_15 hw)) (by decide) (t := (.array .long)) (t' := .int) (by decide) (by decide)))) (Or.inr (slot_ne (Or.inl (wd_26 hw)) (Or.inl (wd_18 hw)) (by decide) (t := (.array .long)) (t' := .int) (by decide) (by decide))))) (Or.inr (slot_ne (Or.inl (wd_26 hw)) (Or.inl (wd_21 hw)) (by decide) (t := (.array .long)) (t' := (.array .int)) (by decide) (by decide))))) (Or.inr (slot_ne (Or.inl (wd_26 hw)) (Or.inl (wd_23 hw)) (by decide) (t := (.array .long)) (t' := (.array .int)) (by decide) (by decide)))))
  obtain ⟨T23, h23, X23, e23, W23, st23⟩ := putF X17 hx hZ hown (host := "") (Or.inl (wd_25 hw)) Via.refl e17 f22 f21 (Or.inl (wd_26 hw)) (wd_5 hw) (ty := (.array .long)) (by decide) rfl rfl (g := (mkF m 34 #[.val (.ref oa)] [(.ref b17), (.ref oa)])) rfl rfl (hb hby d2_34)
  refine ownEnds.law st23 ?_
  have N23 := Fr.snoc X23 N16 g_oa
  have KK23 : Keep h0 h23 [oa] := (KK17).wr W23 (Or.inl (List.mem_of_getElem? (i := 0) rfl))
  have Z23 : n0 ≤ h23.size := by rw [W23.size]; exact Z17
  have Fw23 : Fld Z h23 oa "com/example/vestline/vestline/engine/PayrollRows" "hundredths" "[J" (.ref b17) := Fld.same W23 f22
  show ownEnds _ _ _ _ (T23.setTop (mkF m 37 #[.val (.ref oa)] []))
  refine ownRetV X23 hlk hx hret (hb hby d2_37) (by decide) (by decide) ?_
  have f24 := (Fld.other W23 (Fld.ext E17 (Fld.other W16 (Fld.ext E11 (Fld.other W10 (Fld.ext E6 (Fld.other W5 (Fld.other W2 F_oa_cents (Or.inr (slot_ne (Or.inl (wd_49 hw)) (Or.inl (wd_15 hw)) (by decide) (t := (.array .long)) (t' := .int) (by decide) (by decide)))) (Or.inr (slot_ne (Or.inl (wd_49 hw)) (Or.inl (wd_18 hw)) (by decide) (t := (.array .long)) (t' := .int) (by decide) (by decide))))) (Or.inr (slot_ne (Or.inl (wd_49 hw)) (Or.inl (wd_21 hw)) (by decide) (t := (.array .long)) (t' := (.array .int)) (by decide) (by decide))))) (Or.inr (slot_ne (Or.inl (wd_49 hw)) (Or.inl (wd_23 hw)) (by decide) (t := (.array .long)) (t' := (.array .int)) (by decide) (by decide))))) (Or.inr (slot_ne (Or.inl (wd_49 hw)) (Or.inl (wd_26 hw)) (by decide) (t := (.array .long)) (t' := (.array .long)) (by decide) (by decide))))
  have f25 := (Exa.wr W23 f21)
  have f26 := (Fld.other W23 (Fld.ext E17 (Fld.other W16 (Fld.ext E11 (Fld.other W10 (Fld.ext E6 (Fld.other W5 (Fld.other W2 F_oa_byPeriodStart (Or.inr (slot_ne (Or.inl (wd_34 hw)) (Or.inl (wd_15 hw)) (by decide) (t := (.object "java/util/NavigableMap")) (t' := .int) (by decide) (by decide)))) (Or.inr (slot_ne (Or.inl (wd_34 hw)) (Or.inl (wd_18 hw)) (by decide) (t := (.object "java/util/NavigableMap")) (t' := .int) (by decide) (by decide))))) (Or.inr (slot_ne (Or.inl (wd_34 hw)) (Or.inl (wd_21 hw)) (by decide) (t := (.object "java/util/NavigableMap")) (t' := (.array .int)) (by decide) (by decide))))) (Or.inr (slot_ne (Or.inl (wd_34 hw)) (Or.inl (wd_23 hw)) (by decide) (t := (.object "java/util/NavigableMap")) (t' := (.array .int)) (by decide) (by decide))))) (Or.inr (slot_ne (Or.inl (wd_34 hw)) (Or.inl (wd_26 hw)) (by decide) (t := (.object "java/util/NavigableMap")) (t' := (.array .long)) (by decide) (by decide))))
  have f27 := (Fld.other W23 (Fld.ext E17 (Fld.other W16 (Fld.ext E11 (Fld.other W10 (Fld.ext E6 (Fld.other W5 Fw2 (Or.inr (slot_ne (Or.inl (wd_15 hw)) (Or.inl (wd_18 hw)) (by decide) (t := .int) (t' := .int) (by decide) (by decide))))) (Or.inr (slot_ne (Or.inl (wd_15 hw)) (Or.inl (wd_21 hw)) (by decide) (t := .int) (t' := (.array .int)) (by decide) (by decide))))) (Or.inr (slot_ne (Or.inl (wd_15 hw)) (Or.inl (wd_23 hw)) (by decide) (t := .int) (t' := (.array .int)) (by decide) (by decide))))) (Or.inr (slot_ne (Or.inl (wd_15 hw)) (Or.inl (wd_26 hw)) (by decide) (t := .int) (t' := (.array .long)) (by decide) (by decide))))
  have f28 := (Fld.other W23 (Fld.ext E17 (Fld.other W16 (Fld.ext E11 (Fld.other W10 (Fld.ext E6 Fw5) (Or.inr (slot_ne (Or.inl (wd_18 hw)) (Or.inl (wd_21 hw)) (by decide) (t := .int) (t' := (.array .int)) (by decide) (by decide))))) (Or.inr (slot_ne (Or.inl (wd_18 hw)) (Or.inl (wd_23 hw)) (by decide) (t := .int) (t' := (.array .int)) (by decide) (by decide))))) (Or.inr (slot_ne (Or.inl (wd_18 hw)) (Or.inl (wd_26 hw)) (by decide) (t := .int) (t' := (.array .long)) (by decide) (by decide))))
  have f29 := (Fld.other W23 (Fld.ext E17 (Fld.other W16 (Fld.ext E11 (Fld.other W10 (Fld.ext E6 (Fld.other W5 (Fld.other W2 F_oa_size (Or.inr (slot_ne (Or.inl (wd_47 hw)) (Or.inl (wd_15 hw)) (by decide) (t := .int) (t' := .int) (by decide) (by decide)))) (Or.inr (slot_ne (Or.inl (wd_47 hw)) (Or.inl (wd_18 hw)) (by decide) (t := .int) (t' := .int) (by decide) (by decide))))) (Or.inr (slot_ne (Or.inl (wd_47 hw)) (Or.inl (wd_21 hw)) (by decide) (t := .int) (t' := (.array .int)) (by decide) (by decide))))) (Or.inr (slot_ne (Or.inl (wd_47 hw)) (Or.inl (wd_23 hw)) (by decide) (t := .int) (t' := (.array .int)) (by decide) (by decide))))) (Or.inr (slot_ne (Or.inl (wd_47 hw)) (Or.inl (wd_26 hw)) (by decide) (t := .int) (t' := (.array .long)) (by decide) (by decide))))
  have f30 := (Fld.other W23 (Fld.ext E17 (Fld.other W16 (Fld.ext E11 Fw10) (Or.inr (slot_ne (Or.inl (wd_21 hw)) (Or.inl (wd_23 hw)) (by decide) (t := (.array .int)) (t' := (.array .int)) (by decide) (by decide))))) (Or.inr (slot_ne (Or.inl (wd_21 hw)) (Or.inl (wd_26 hw)) (by decide) (t := (.array .int)) (t' := (.array .long)) (by decide) (by decide))))
  have f31 := (Fld.other W23 (Fld.ext E17 Fw16) (Or.inr (slot_ne (Or.inl (wd_23 hw)) (Or.inl (wd_26 hw)) (by decide) (t := (.array .int)) (t' := (.array .long)) (by decide) (by decide))))
  have f32 := (Arv.other (Arv.ext f19 E17) W23 (Ne.symm ne_oa_b6))
  have f33 := (Arv.other (Arv.ext f20 E17) W23 (Ne.symm ne_oa_b11))
  have f34 := (Arv.other V_b17 W23 (Ne.symm ne_oa_b17))
  rw [e23]
  exact ⟨rfl, N23, (KK23).1, ⟨(2147483647 : Int32), b6, b11, b17, k6, k11, k17, [(.int (0 : Int32)), (.int (0 : Int32)), (.int (0 : Int32)), (.int (0 : Int32))], [(.int (0 : Int32)), (.int (0 : Int32)), (.int (0 : Int32)), (.int (0 : Int32))], [(.long (0 : Int64)), (.long (0 : Int64)), (.long (0 : Int64)), (.long (0 : Int64))], ⟨g_oa, g_b6, g_b11, g_b17⟩, ⟨ne_oa_b6, ne_oa_b11, ne_oa_b17, ne_b6_b11, ne_b6_b17, ne_b11_b17⟩, ⟨rfl, rfl, rfl, rfl⟩, f25, f26, f27, f28, f29, f30, f31, Fw23, f32, f33, f34, Or.inl ⟨f24, fun x hx => nomatch hx⟩⟩⟩
set_option maxRecDepth 65536 in
set_option maxHeartbeats 40000000 in
theorem rm9 (l : Launch) (Z : State) (a0 : Array Value) (hw : ∀ d ∈ tables_1, d.before a0 Z = true) (oa : Addr) (ka : ClassId) (vs : List Value) (h0 : Heap) (n0 : Nat) (Z0 : n0 ≤ h0.size) (Va : Arv Z h0 oa ka .int (4 : Int32) vs (.int (0 : Int32))) :
    ownMet l Z (⟨"java/util/Arrays", "copyOf", "([II)[I"⟩ : MethodName) jdk_65_method_123_code 3 (some (.array .int)) [] ({ frames := 1, cells := 1, slots := 8, locals := 40 } : Room) #[(.ref oa), (.int (8 : Int32))] h0 (fun v h L => ∃ (b : Addr) (kb : ClassId), v = some (.ref b) ∧ Fr n0 L ∧ Keep h0 h [] ∧ n0 ≤ b ∧ h0.size ≤ b ∧ Arv Z h b kb .int (8 : Int32) [(vs.getD 0 (.int (0 : Int32))), (vs.getD 1 (.int (0 : Int32))), (vs.getD 2 (.int (0 : Int32))), (vs.getD 3 (.int (0 : Int32))), (.int (0 : Int32)), (.int (0 : Int32)), (.int (0 : Int32)), (.int (0 : Int32))] (.int (0 : Int32))) := by
  refine ownMet.of (plainFor_of_name pn_9) ?_
  intro p e s m below meth c T0 hx hby hml hZ hown hnm hret hlk X0 e0
  refine ownEnds.cast (ef_rm9 m oa) ?_
  show ownEnds _ _ _ _ (T0.setTop (mkF m 0 #[.val (.ref oa), .val (.int (8 : Int32)), .unset] []))
  refine ownEnds.law (fun t k => XS.iloadN X0.here hx rfl (hb hby d9_0) rfl (XS.aloadN X0.here hx rfl (hb hby d9_1) rfl rfl k)) ?_
  show ownEnds _ _ _ _ (T0.setTop (mkF m 2 #[.val (.ref oa), .val (.int (8 : Int32)), .unset] [(.ref oa), (.int (8 : Int32))]))
  obtain ⟨cl1, Ar1, -, S1, N1, -, -⟩ := id Va
  refine ownEnds.law (X0.arraylength hx (by rw [e0]; exact Ar1.1) (State.isArrayOf_alike hZ.alike Ar1.2.1) (g := (mkF m 2 #[.val (.ref oa), .val (.int (8 : Int32)), .unset] [(.ref oa), (.int (8 : Int32))])) rfl rfl (hb hby d9_2)) ?_
  rw [len_of S1 N1]
  show ownEnds _ _ _ _ (T0.setTop (mkF m 3 #[.val (.ref oa), .val (.int (8 : Int32)), .unset] [(.int (4 : Int32)), (.int (8 : Int32))]))
  refine ownEnds.law (fun t => XS.icmpYes X0.here hx rfl (pc0 := 3) (pc' := 14) rfl (hb hby d9_3) rfl (feq (by decide : ¬ ((8 : Int32) = (4 : Int32)))).2 (by decide) (by decide)) ?_
  show ownEnds _ _ _ _ (T0.setTop (mkF m 14 #[.val (.ref oa), .val (.int (8 : Int32)), .unset] []))
  refine ownEnds.law (fun t k => XS.iloadN X0.here hx rfl (hb hby d9_14) rfl k) ?_
  show ownEnds _ _ _ _ (T0.setTop (mkF m 15 #[.val (.ref oa), .val (.int (8 : Int32)), .unset] [(.int (8 : Int32))]))
  obtain ⟨T2, h2, k2, X2, e2, E2, A2, st2⟩ := newP X0 hx hZ (aty := .int) (wd_19 hw) e0 (g := (mkF m 15 #[.val (.ref oa), .val (.int (8 : Int32)), .unset] [(.int (8 : Int32))])) rfl (hb hby d9_15) rfl (by decide) (cap := 8) (by decide) (by decide) (by decide) (by decide)
  obtain ⟨b2, g2⟩ : ∃ z, z = h0.size := ⟨_, rfl⟩
  rw [← g2] at A2 st2
  refine ownEnds.law st2 ?_
  have V_b2 : Arv Z h2 b2 k2 .int (8 : Int32) [(.int (0 : Int32)), (.int (0 : Int32)), (.int (0 : Int32)), (.int (0 : Int32)), (.int (0 : Int32)), (.int (0 : Int32)), (.int (0 : Int32)), (.int (0 : Int32))] (.int (0 : Int32)) := (Arv.new A2 (by decide)).pad (pad_rep [] (.int (0 : Int32)) 8)
  have ne_oa_b2 : oa ≠ b2 := Nat.ne_of_lt (Nat.lt_of_lt_of_eq Va.lt g2.symm)
  have g_b2 : n0 ≤ b2 := Nat.le_trans Z0 (Nat.le_of_eq g2.symm)
  have sz_b2 : h0.size ≤ b2 := Nat.le_trans (Keep.refl h0 []).1 (Nat.le_of_eq g2.symm)
  have Z2 : n0 ≤ h2.size := Nat.le_trans Z0 E2.1
  have KK2 : Keep h0 h2 [] := (Keep.refl h0 []).ext E2
  show ownEnds _ _ _ _ (T2.setTop (mkF m 17 #[.val (.ref oa), .val (.int (8 : Int32)), .unset] [(.ref b2)]))
  refine ownEnds.law (fun t k => XS.astoreN X2.here hx rfl (hb hby d9_17) rfl rfl (l' := #[.val (.ref oa), .val (.int (8 : Int32)), .val (.ref b2)]) rfl (XS.aloadN X2.here hx rfl (hb hby d9_18) rfl rfl (XS.iconst X2.here hx rfl (hb hby d9_19) (XS.aloadN X2.here hx rfl (hb hby d9_20) rfl rfl (XS.iconst X2.here hx rfl (hb hby d9_21) (XS.aloadN X2.here hx rfl (hb hby d9_22) rfl rfl k)))))) ?_
  show ownEnds _ _ _ _ (T2.setTop (mkF m 23 #[.val (.ref oa), .val (.int (8 : Int32)), .val (.ref b2)] [(.ref oa), (.int (0 : Int32)), (.ref b2), (.int (0 : Int32)), (.ref oa)]))
  have f4 := (Arv.ext Va E2)
  obtain ⟨cl3, Ar3, -, S3, N3, -, -⟩ := id f4
  refine ownEnds.law (X2.arraylength hx (by rw [e2]; exact Ar3.1) (State.isArrayOf_alike hZ.alike Ar3.2.1) (g := (mkF m 23 #[.val (.ref oa), .val (.int (8 : Int32)), .val (.ref b2)] [(.ref oa), (.int (0 : Int32)), (.ref b2), (.int (0 : Int32)), (.ref oa)])) rfl rfl (hb hby d9_23)) ?_
  rw [len_of S3 N3]
  show ownEnds _ _ _ _ (T2.setTop (mkF m 24 #[.val (.ref oa), .val (.int (8 : Int32)), .val (.ref b2)] [(.int (4 : Int32)), (.int (0 : Int32)), (.ref b2), (.int (0 : Int32)), (.ref oa)]))
  refine ownEnds.law (fun t k => XS.iloadN X2.here hx rfl (hb hby d9_24) rfl k) ?_
  show ownEnds _ _ _ _ (T2.setTop (mkF m 25 #[.val (.ref oa), .val (.int (8 : Int32)), .val (.ref b2)] [(.int (8 : Int32)), (.int (4 : Int32)), (.int (0 : Int32)), (.ref b2), (.int (0 : Int32)), (.ref oa)]))
  obtain ⟨v5, T5, L5, X5, hQ5, st5⟩ := ownCallS X2 hx hZ hown (y := (⟨"java/lang/Math", "min", "(II)I"⟩ : MethodName)) (as := [(.int (4 : Int32)), (.int (8 : Int32))]) (wd_59 hw) (wd_40 hw) (wd_41 hw) (wd_42 hw) (by decide) (rm6 l Z a0 hw (4 : Int32) (8 : Int32) h2 n0 Z2) e2 4 (by decide) (by decide) (by decide) (by decide) (g := (mkF m 25 #[.val (.ref oa), .val (.int (8 : Int32)), .val (.ref b2)] [(.int (8 : Int32)), (.int (4 : Int32)), (.int (0 : Int32)), (.ref b2), (.int (0 : Int32)), (.ref oa)])) rfl (by rw [hml]; rfl) (rest := [(.int (0 : Int32)), (.ref b2), (.int (0 : Int32)), (.ref oa)]) pd_0 rfl rfl (by show 2 * 0 + _ ≤ _; exact Nat.le_of_eq rfl) (hb hby d9_25)
  obtain ⟨hv5, rfl, e5⟩ := hQ5
  rw [List.append_nil] at X5
  have hw5 : v5 = some (.int (4 : Int32)) := hv5.trans (by decide)
  subst hw5
  refine ownEnds.law st5 ?_
  show ownEnds _ _ _ _ (T5.setTop (mkF m 28 #[.val (.ref oa), .val (.int (8 : Int32)), .val (.ref b2)] [(.int (4 : Int32)), (.int (0 : Int32)), (.ref b2), (.int (0 : Int32)), (.ref oa)]))
  obtain ⟨T6, h6, L6, X6, e6, N6, Kq6, Vc6, st6⟩ := cpA X5 hx hZ hown (wd_60 hw) (wd_63 hw) (wd_61 hw) (wd_62 hw) e5 f4 V_b2 (us := [(vs.getD 0 (.int (0 : Int32))), (vs.getD 1 (.int (0 : Int32))), (vs.getD 2 (.int (0 : Int32))), (vs.getD 3 (.int (0 : Int32)))]) (Or.inl ⟨rfl, rfl⟩) (by decide) (by decide) (by decide) (by decide) (by decide) rfl (by decide) (Fr.nil n0) g_b2 (g := (mkF m 28 #[.val (.ref oa), .val (.int (8 : Int32)), .val (.ref b2)] [(.int (4 : Int32)), (.int (0 : Int32)), (.ref b2), (.int (0 : Int32)), (.ref oa)])) rfl (by rw [hml]; rfl) rfl (hb hby d9_28) (by decide) (W := 0) (by show 2 * 0 + _ ≤ _; exact Nat.le_of_eq rfl) (by decide)
  have V6 : Arv Z h6 b2 k2 .int (8 : Int32) [(vs.getD 0 (.int (0 : Int32))), (vs.getD 1 (.int (0 : Int32))), (vs.getD 2 (.int (0 : Int32))), (vs.getD 3 (.int (0 : Int32))), (.int (0 : Int32)), (.int (0 : Int32)), (.int (0 : Int32)), (.int (0 : Int32))] (.int (0 : Int32)) := Vc6
  refine ownEnds.law st6 ?_
  have Z6 : n0 ≤ h6.size := Nat.le_trans Z2 Kq6.1
  have KK6 : Keep h0 h6 [] := Keep.trans (KK2) Kq6 (allS (Or.inr sz_b2) all0)
  show ownEnds _ _ _ _ (T6.setTop (mkF m 31 #[.val (.ref oa), .val (.int (8 : Int32)), .val (.ref b2)] []))
  refine ownEnds.law (fun t k => XS.aloadN X6.here hx rfl (hb hby d9_31) rfl rfl k) ?_
  show ownEnds _ _ _ _ (T6.setTop (mkF m 32 #[.val (.ref oa), .val (.int (8 : Int32)), .val (.ref b2)] [(.ref b2)]))
  refine ownRetA X6 hlk hx hret rfl rfl (hb hby d9_32) (by decide) (by decide) ?_
  rw [e6]
  exact ⟨b2, k2, rfl, N6, KK6, g_b2, sz_b2, V6⟩
set_option maxRecDepth 65536 in
set_option maxHeartbeats 40000000 in
theorem rm10 (l : Launch) (Z : State) (a0 : Array Value) (hw : ∀ d ∈ tables_1, d.before a0 Z = true) (oa : Addr) (ka : ClassId) (vs : List Value) (h0 : Heap) (n0 : Nat) (Z0 : n0 ≤ h0.size) (Va : Arv Z h0 oa ka .long (4 : Int32) vs (.long (0 : Int64))) :
    ownMet l Z (⟨"java/util/Arrays", "copyOf", "([JI)[J"⟩ : MethodName) jdk_65_method_124_code 3 (some (.array .long)) [] ({ frames := 1, cells := 1, slots := 8, locals := 40 } : Room) #[(.ref oa), (.int (8 : Int32))] h0 (fun v h L => ∃ (b : Addr) (kb : ClassId), v = some (.ref b) ∧ Fr n0 L ∧ Keep h0 h [] ∧ n0 ≤ b ∧ h0.size ≤ b ∧ Arv Z h b kb .long (8 : Int32) [(vs.getD 0 (.long (0 : Int64))), (vs.getD 1 (.long (0 : Int64))), (vs.getD 2 (.long (0 : Int64))), (vs.getD 3 (.long (0 : Int64))), (.long (0 : Int64)), (.long (0 : Int64)), (.long (0 : Int64)), (.long (0 : Int64))] (.long (0 : Int64))) := by
  refine ownMet.of (plainFor_of_name pn_10) ?_
  intro p e s m below meth c T0 hx hby hml hZ hown hnm hret hlk X0 e0
  refine ownEnds.cast (ef_rm10 m oa) ?_
  show ownEnds _ _ _ _ (T0.setTop (mkF m 0 #[.val (.ref oa), .val (.int (8 : Int32)), .unset] []))
  refine ownEnds.law (fun t k => XS.iloadN X0.here hx rfl (hb hby d10_0) rfl (XS.aloadN X0.here hx rfl (hb hby d10_1) rfl rfl k)) ?_
  show ownEnds _ _ _ _ (T0.setTop (mkF m 2 #[.val (.ref oa), .val (.int (8 : Int32)), .unset] [(.ref oa), (.int (8 : Int32))]))
  obtain ⟨cl1, Ar1, -, S1, N1, -, -⟩ := id Va
  refine ownEnds.law (X0.arraylength hx (by rw [e0]; exact Ar1.1) (State.isArrayOf_alike hZ.alike Ar1.2.1) (g := (mkF m 2 #[.val (.ref oa), .val (.int (8 : Int32)), .unset] [(.ref oa), (.int (8 : Int32))])) rfl rfl (hb hby d10_2)) ?_
  rw [len_of S1 N1]
  show ownEnds _ _ _ _ (T0.setTop (mkF m 3 #[.val (.ref oa), .val (.int (8 : Int32)), .unset] [(.int (4 : Int32)), (.int (8 : Int32))]))
  refine ownEnds.law (fun t => XS.icmpYes X0.here hx rfl (pc0 := 3) (pc' := 14) rfl (hb hby d10_3) rfl (feq (by decide : ¬ ((8 : Int32) = (4 : Int32)))).2 (by decide) (by decide)) ?_
  show ownEnds _ _ _ _ (T0.setTop (mkF m 14 #[.val (.ref oa), .val (.int (8 : Int32)), .unset] []))
  refine ownEnds.law (fun t k => XS.iloadN X0.here hx rfl (hb hby d10_14) rfl k) ?_
  show ownEnds _ _ _ _ (T0.setTop (mkF m 15 #[.val (.ref oa), .val (.int (8 : Int32)), .unset] [(.int (8 : Int32))]))
  obtain ⟨T2, h2, k2, X2, e2, E2, A2, st2⟩ := newP X0 hx hZ (aty := .long) (wd_24 hw) e0 (g := (mkF m 15 #[.val (.ref oa), .val (.int (8 : Int32)), .unset] [(.int (8 : Int32))])) rfl (hb hby d10_15) rfl (by decide) (cap := 8) (by decide) (by decide) (by decide) (by decide)
  obtain ⟨b2, g2⟩ : ∃ z, z = h0.size := ⟨_, rfl⟩
  rw [← g2] at A2 st2
  refine ownEnds.law st2 ?_
  have V_b2 : Arv Z h2 b2 k2 .long (8 : Int32) [(.long (0 : Int64)), (.long (0 : Int64)), (.long (0 : Int64)), (.long (0 : Int64)), (.long (0 : Int64)), (.long (0 : Int64)), (.long (0 : Int64)), (.long (0 : Int64))] (.long (0 : Int64)) := (Arv.new A2 (by decide)).pad (pad_rep [] (.long (0 : Int64)) 8)
  have ne_oa_b2 : oa ≠ b2 := Nat.ne_of_lt (Nat.lt_of_lt_of_eq Va.lt g2.symm)
  have g_b2 : n0 ≤ b2 := Nat.le_trans Z0 (Nat.le_of_eq g2.symm)
  have sz_b2 : h0.size ≤ b2 := Nat.le_trans (Keep.refl h0 []).1 (Nat.le_of_eq g2.symm)
  have Z2 : n0 ≤ h2.size := Nat.le_trans Z0 E2.1
  have KK2 : Keep h0 h2 [] := (Keep.refl h0 []).ext E2
  show ownEnds _ _ _ _ (T2.setTop (mkF m 17 #[.val (.ref oa), .val (.int (8 : Int32)), .unset] [(.ref b2)]))
  refine ownEnds.law (fun t k => XS.astoreN X2.here hx rfl (hb hby d10_17) rfl rfl (l' := #[.val (.ref oa), .val (.int (8 : Int32)), .val (.ref b2)]) rfl (XS.aloadN X2.here hx rfl (hb hby d10_18) rfl rfl (XS.iconst X2.here hx rfl (hb hby d10_19) (XS.aloadN X2.here hx rfl (hb hby d10_20) rfl rfl (XS.iconst X2.here hx rfl (hb hby d10_21) (XS.aloadN X2.here hx rfl (hb hby d10_22) rfl rfl k)))))) ?_
  show ownEnds _ _ _ _ (T2.setTop (mkF m 23 #[.val (.ref oa), .val (.int (8 : Int32)), .val (.ref b2)] [(.ref oa), (.int (0 : Int32)), (.ref b2), (.int (0 : Int32)), (.ref oa)]))
  have f4 := (Arv.ext Va E2)
  obtain ⟨cl3, Ar3, -, S3, N3, -, -⟩ := id f4
  refine ownEnds.law (X2.arraylength hx (by rw [e2]; exact Ar3.1) (State.isArrayOf_alike hZ.alike Ar3.2.1) (g := (mkF m 23 #[.val (.ref oa), .val (.int (8 : Int32)), .val (.ref b2)] [(.ref oa), (.int (0 : Int32)), (.ref b2), (.int (0 : Int32)), (.ref oa)])) rfl rfl (hb hby d10_23)) ?_
  rw [len_of S3 N3]
  show ownEnds _ _ _ _ (T2.setTop (mkF m 24 #[.val (.ref oa), .val (.int (8 : Int32)), .val (.ref b2)] [(.int (4 : Int32)), (.int (0 : Int32)), (.ref b2), (.int (0 : Int32)), (.ref oa)]))
  refine ownEnds.law (fun t k => XS.iloadN X2.here hx rfl (hb hby d10_24) rfl k) ?_
  show ownEnds _ _ _ _ (T2.setTop (mkF m 25 #[.val (.ref oa), .val (.int (8 : Int32)), .val (.ref b2)] [(.int (8 : Int32)), (.int (4 : Int32)), (.int (0 : Int32)), (.ref b2), (.int (0 : Int32)), (.ref oa)]))
  obtain ⟨v5, T5, L5, X5, hQ5, st5⟩ := ownCallS X2 hx hZ hown (y := (⟨"java/lang/Math", "min", "(II)I"⟩ : MethodName)) (as := [(.int (4 : Int32)), (.int (8 : Int32))]) (wd_59 hw) (wd_40 hw) (wd_41 hw) (wd_42 hw) (by decide) (rm6 l Z a0 hw (4 : Int32) (8 : Int32) h2 n0 Z2) e2 4 (by decide) (by decide) (by decide) (by decide) (g := (mkF m 25 #[.val (.ref oa), .val (.int (8 : Int32)), .val (.ref b2)] [(.int (8 : Int32)), (.int (4 : Int32)), (.int (0 : Int32)), (.ref b2), (.int (0 : Int32)), (.ref oa)])) rfl (by rw [hml]; rfl) (rest := [(.int (0 : Int32)), (.ref b2), (.int (0 : Int32)), (.ref oa)]) pd_0 rfl rfl (by show 2 * 0 + _ ≤ _; exact Nat.le_of_eq rfl) (hb hby d10_25)
  obtain ⟨hv5, rfl, e5⟩ := hQ5
  rw [List.append_nil] at X5
  have hw5 : v5 = some (.int (4 : Int32)) := hv5.trans (by decide)
  subst hw5
  refine ownEnds.law st5 ?_
  show ownEnds _ _ _ _ (T5.setTop (mkF m 28 #[.val (.ref oa), .val (.int (8 : Int32)), .val (.ref b2)] [(.int (4 : Int32)), (.int (0 : Int32)), (.ref b2), (.int (0 : Int32)), (.ref oa)]))
  obtain ⟨T6, h6, L6, X6, e6, N6, Kq6, Vc6, st6⟩ := cpA X5 hx hZ hown (wd_60 hw) (wd_63 hw) (wd_61 hw) (wd_62 hw) e5 f4 V_b2 (us := [(vs.getD 0 (.long (0 : Int64))), (vs.getD 1 (.long (0 : Int64))), (vs.getD 2 (.long (0 : Int64))), (vs.getD 3 (.long (0 : Int64)))]) (Or.inl ⟨rfl, rfl⟩) (by decide) (by decide) (by decide) (by decide) (by decide) rfl (by decide) (Fr.nil n0) g_b2 (g := (mkF m 28 #[.val (.ref oa), .val (.int (8 : Int32)), .val (.ref b2)] [(.int (4 : Int32)), (.int (0 : Int32)), (.ref b2), (.int (0 : Int32)), (.ref oa)])) rfl (by rw [hml]; rfl) rfl (hb hby d10_28) (by decide) (W := 0) (by show 2 * 0 + _ ≤ _; exact Nat.le_of_eq rfl) (by decide)
  have V6 : Arv Z h6 b2 k2 .long (8 : Int32) [(vs.getD 0 (.long (0 : Int64))), (vs.getD 1 (.long (0 : Int64))), (vs.getD 2 (.long (0 : Int64))), (vs.getD 3 (.long (0 : Int64))), (.long (0 : Int64)), (.long (0 : Int64)), (.long (0 : Int64)), (.long (0 : Int64))] (.long (0 : Int64)) := Vc6
  refine ownEnds.law st6 ?_
  have Z6 : n0 ≤ h6.size := Nat.le_trans Z2 Kq6.1
  have KK6 : Keep h0 h6 [] := Keep.trans (KK2) Kq6 (allS (Or.inr sz_b2) all0)
  show ownEnds _ _ _ _ (T6.setTop (mkF m 31 #[.val (.ref oa), .val (.int (8 : Int32)), .val (.ref b2)] []))
  refine ownEnds.law (fun t k => XS.aloadN X6.here hx rfl (hb hby d10_31) rfl rfl k) ?_
  show ownEnds _ _ _ _ (T6.setTop (mkF m 32 #[.val (.ref oa), .val (.int (8 : Int32)), .val (.ref b2)] [(.ref b2)]))
  refine ownRetA X6 hlk hx hret rfl rfl (hb hby d10_32) (by decide) (by decide) ?_
  rw [e6]
  exact ⟨b2, k2, rfl, N6, KK6, g_b2, sz_b2, V6⟩
set_option maxRecDepth 65536 in
set_option maxHeartbeats 40000000 in
theorem rm4a (l : Launch) (Z : State) (a0 : Array Value) (hw : ∀ d ∈ tables_1, d.before a0 Z = true) (oa : Addr) (xs : Int32) (xe : Int32) (qh : Int64) (qc : Int64) (sz le : Int32) (vs : List Int64) (h0 : Heap) (n0 : Nat) (Z0 : n0 ≤ h0.size) (R0 : Rows Z n0 h0 oa sz le (4 : Int32) vs) (hlt : le < xs) (hsz : ¬ sz < 0 ∧ sz < 4) :
    ownMet l Z (⟨"com/example/vestline/vestline/engine/PayrollRows", "add", "(IIJJ)V"⟩ : MethodName) prog_50_method_2_code 7 none [] ({ frames := 1, cells := 1, slots := 4, locals := 40 } : Room) #[(.ref oa), (.int xs), (.int xe), (.long qh), (.long qc)] h0 (fun v h L => v = none ∧ Fr n0 L ∧ h0.size ≤ h.size ∧ Rows Z n0 h oa (sz + 1) (FMax le xe) (4 : Int32) (vs ++ [qc])) := by
  refine ownMet.of (plainFor_of_name pn_4) ?_
  intro p e s m below meth c T0 hx hby hml hZ hown hnm hret hlk X0 e0
  refine ownEnds.cast (ef_rm4a m oa xs xe qh qc) ?_
  obtain ⟨fs, s1, s2, s3, k1, k2, k3, v1, v2, v3, ⟨g_oa, g_s1, g_s2, g_s3⟩, ⟨n1, n2, n3, n4, n5, n6⟩, ⟨l1, l2, l3, l4⟩, E_oa, F1, F2, F3, F4, F5, F6, F7, V1, V2, V3, CE⟩ := R0
  rcases CE with ⟨FC, hz⟩ | ⟨c0, kc, vc, g_c0, ⟨m1, m2, m3, m4⟩, l5, FC, VC, hv⟩
  · show ownEnds _ _ _ _ (T0.setTop (mkF m 0 #[.val (.ref oa), .val (.int xs), .val (.int xe), .val (.long qh), .second, .val (.long qc), .second] []))
    refine ownEnds.law (fun t k => XS.aloadN X0.here hx rfl (hb hby d4_0) rfl rfl k) ?_
    show ownEnds _ _ _ _ (T0.setTop (mkF m 1 #[.val (.ref oa), .val (.int xs), .val (.int xe), .val (.long qh), .second, .val (.long qc), .second] [(.ref oa)]))
    obtain ⟨T1, X1, e1, st1⟩ := getF X0 hx hZ hown (host := "") (Or.inl (wd_33 hw)) Via.refl e0 F1 (g := (mkF m 1 #[.val (.ref oa), .val (.int xs), .val (.int xe), .val (.long qh), .second, .val (.long qc), .second] [(.ref oa)])) rfl rfl (hb hby d4_1)
    refine ownEnds.law st1 ?_
    show ownEnds _ _ _ _ (T1.setTop (mkF m 4 #[.val (.ref oa), .val (.int xs), .val (.int xe), .val (.long qh), .second, .val (.long qc), .second] [.null]))
    refine ownEnds.law (fun t k => XS.ifnonnullNo X1.here hx rfl (hb hby d4_4) rfl (XS.aloadN X1.here hx rfl (hb hby d4_7) rfl rfl (XS.iloadN X1.here hx rfl (hb hby d4_8) rfl (XS.iloadN X1.here hx rfl (hb hby d4_9) rfl k)))) ?_
    show ownEnds _ _ _ _ (T1.setTop (mkF m 10 #[.val (.ref oa), .val (.int xs), .val (.int xe), .val (.long qh), .second, .val (.long qc), .second] [(.int xe), (.int xs), (.ref oa)]))
    obtain ⟨v2, T2, L2, X2, hQ2, st2⟩ := ownCallP X1 hx hZ hown (y := (⟨"com/example/vestline/vestline/engine/PayrollRows", "isAmongRows", "(II)Z"⟩ : MethodName)) (z := (⟨"com/example/vestline/vestline/engine/PayrollRows", "add", "(IIJJ)V"⟩ : MethodName)) (a := oa) (as := [(.int xs), (.int xe)]) (wd_35 hw) rfl (wd_31 hw) (wd_36 hw) (wd_37 hw) (wd_6 hw) (wd_38 hw) (by decide) (rm5 l Z a0 hw oa xs xe le fs h0 n0 Z0 F3 F2) e1 E_oa 0 (by decide) (by decide) (by decide) (by decide) (g := (mkF m 10 #[.val (.ref oa), .val (.int xs), .val (.int xe), .val (.long qh), .second, .val (.long qc), .second] [(.int xe), (.int xs), (.ref oa)])) rfl (by rw [hml]; rfl) (rest := []) pd_1 rfl rfl (by show 2 * 0 + _ ≤ _; exact Nat.le_of_eq rfl) (hb hby d4_10)
    obtain ⟨rfl, rfl, e2⟩ := hQ2
    rw [List.append_nil] at X2
    refine ownEnds.law st2 ?_
    show ownEnds _ _ _ _ (T2.setTop (mkF m 13 #[.val (.ref oa), .val (.int xs), .val (.int xe), .val (.long qh), .second, .val (.long qc), .second] [(.int (FA le fs xs xe))]))
    have hc13 : (FA le fs xs xe) = (0 : Int32) := if_pos hlt
    refine ownEnds.law (fun t => XS.ifYes X2.here hx rfl (pc0 := 13) (pc' := 37) rfl (hb hby d4_13) rfl ((if0 _ _).trans (teq hc13).1) (by decide) (by decide)) ?_
    show ownEnds _ _ _ _ (T2.setTop (mkF m 37 #[.val (.ref oa), .val (.int xs), .val (.int xe), .val (.long qh), .second, .val (.long qc), .second] []))
    refine ownEnds.law (fun t k => XS.aloadN X2.here hx rfl (hb hby d4_37) rfl rfl (XS.aloadN X2.here hx rfl (hb hby d4_38) rfl rfl k)) ?_
    show ownEnds _ _ _ _ (T2.setTop (mkF m 39 #[.val (.ref oa), .val (.int xs), .val (.int xe), .val (.long qh), .second, .val (.long qc), .second] [(.ref oa), (.ref oa)]))
    obtain ⟨T3, X3, e3, st3⟩ := getF X2 hx hZ hown (host := "") (Or.inl (wd_14 hw)) Via.refl e2 F2 (g := (mkF m 39 #[.val (.ref oa), .val (.int xs), .val (.int xe), .val (.long qh), .second, .val (.long qc), .second] [(.ref oa), (.ref oa)])) rfl rfl (hb hby d4_39)
    refine ownEnds.law st3 ?_
    show ownEnds _ _ _ _ (T3.setTop (mkF m 42 #[.val (.ref oa), .val (.int xs), .val (.int xe), .val (.long qh), .second, .val (.long qc), .second] [(.int fs), (.ref oa)]))
    refine ownEnds.law (fun t k => XS.iloadN X3.here hx rfl (hb hby d4_42) rfl k) ?_
    show ownEnds _ _ _ _ (T3.setTop (mkF m 43 #[.val (.ref oa), .val (.int xs), .val (.int xe), .val (.long qh), .second, .val (.long qc), .second] [(.int xs), (.int fs), (.ref oa)]))
    obtain ⟨v4, T4, L4, X4, hQ4, st4⟩ := ownCallS X3 hx hZ hown (y := (⟨"java/lang/Math", "min", "(II)I"⟩ : MethodName)) (as := [(.int fs), (.int xs)]) (wd_39 hw) (wd_40 hw) (wd_41 hw) (wd_42 hw) (by decide) (rm6 l Z a0 hw fs xs  h0 n0 Z0 ) e3 1 (by decide) (by decide) (by decide) (by decide) (g := (mkF m 43 #[.val (.ref oa), .val (.int xs), .val (.int xe), .val (.long qh), .second, .val (.long qc), .second] [(.int xs), (.int fs), (.ref oa)])) rfl (by rw [hml]; rfl) (rest := [(.ref oa)]) pd_0 rfl rfl (by show 2 * 0 + _ ≤ _; exact Nat.le_of_eq rfl) (hb hby d4_43)
    obtain ⟨rfl, rfl, e4⟩ := hQ4
    rw [List.append_nil] at X4
    refine ownEnds.law st4 ?_
    show ownEnds _ _ _ _ (T4.setTop (mkF m 46 #[.val (.ref oa), .val (.int xs), .val (.int xe), .val (.long qh), .second, .val (.long qc), .second] [(.int (FMin fs xs)), (.ref oa)]))
    obtain ⟨T5, h5, X5, e5, W5, st5⟩ := putF X4 hx hZ hown (host := "") (Or.inl (wd_14 hw)) Via.refl e4 F2 E_oa (Or.inl (wd_15 hw)) (wd_5 hw) (ty := .int) (by decide) rfl rfl (g := (mkF m 46 #[.val (.ref oa), .val (.int xs), .val (.int xe), .val (.long qh), .second, .val (.long qc), .second] [(.int (FMin fs xs)), (.ref oa)])) rfl rfl (hb hby d4_46)
    refine ownEnds.law st5 ?_
    have N5 := Fr.snoc X5 (Fr.nil n0) g_oa
    have KK5 : Keep h0 h5 [oa, s1, s2, s3] := (Keep.refl h0 [oa, s1, s2, s3]).wr W5 (Or.inl (List.mem_of_getElem? (i := 0) rfl))
    have Z5 : n0 ≤ h5.size := by rw [W5.size]; exact Z0
    have Fw5 : Fld Z h5 oa "com/example/vestline/vestline/engine/PayrollRows" "firstPeriodStart" "I" (.int (FMin fs xs)) := Fld.same W5 F2
    show ownEnds _ _ _ _ (T5.setTop (mkF m 49 #[.val (.ref oa), .val (.int xs), .val (.int xe), .val (.long qh), .second, .val (.long qc), .second] []))
    refine ownEnds.law (fun t k => XS.aloadN X5.here hx rfl (hb hby d4_49) rfl rfl (XS.aloadN X5.here hx rfl (hb hby d4_50) rfl rfl k)) ?_
    show ownEnds _ _ _ _ (T5.setTop (mkF m 51 #[.val (.ref oa), .val (.int xs), .val (.int xe), .val (.long qh), .second, .val (.long qc), .second] [(.ref oa), (.ref oa)]))
    have f6 := (Fld.other W5 F3 (Or.inr (slot_ne (Or.inl (wd_18 hw)) (Or.inl (wd_15 hw)) (by decide) (t := .int) (t' := .int) (by decide) (by decide))))
    obtain ⟨T7, X7, e7, st7⟩ := getF X5 hx hZ hown (host := "") (Or.inl (wd_17 hw)) Via.refl e5 f6 (g := (mkF m 51 #[.val (.ref oa), .val (.int xs), .val (.int xe), .val (.long qh), .second, .val (.long qc), .second] [(.ref oa), (.ref oa)])) rfl rfl (hb hby d4_51)
    refine ownEnds.law st7 ?_
    show ownEnds _ _ _ _ (T7.setTop (mkF m 54 #[.val (.ref oa), .val (.int xs), .val (.int xe), .val (.long qh), .second, .val (.long qc), .second] [(.int le), (.ref oa)]))
    refine ownEnds.law (fun t k => XS.iloadN X7.here hx rfl (hb hby d4_54) rfl k) ?_
    show ownEnds _ _ _ _ (T7.setTop (mkF m 55 #[.val (.ref oa), .val (.int xs), .val (.int xe), .val (.long qh), .second, .val (.long qc), .second] [(.int xe), (.int le), (.ref oa)]))
    obtain ⟨v8, T8, L8, X8, hQ8, st8⟩ := ownCallS X7 hx hZ hown (y := (⟨"java/lang/Math", "max", "(II)I"⟩ : MethodName)) (as := [(.int le), (.int xe)]) (wd_43 hw) (wd_44 hw) (wd_41 hw) (wd_45 hw) (by decide) (rm7 l Z a0 hw le xe  h5 n0 Z5 ) e7 1 (by decide) (by decide) (by decide) (by decide) (g := (mkF m 55 #[.val (.ref oa), .val (.int xs), .val (.int xe), .val (.long qh), .second, .val (.long qc), .second] [(.int xe), (.int le), (.ref oa)])) rfl (by rw [hml]; rfl) (rest := [(.ref oa)]) pd_0 rfl rfl (by show 2 * 0 + _ ≤ _; exact Nat.le_of_eq rfl) (hb hby d4_55)
    obtain ⟨rfl, rfl, e8⟩ := hQ8
    rw [List.append_nil] at X8
    refine ownEnds.law st8 ?_
    show ownEnds _ _ _ _ (T8.setTop (mkF m 58 #[.val (.ref oa), .val (.int xs), .val (.int xe), .val (.long qh), .second, .val (.long qc), .second] [(.int (FMax le xe)), (.ref oa)]))
    have f9 := (Exa.wr W5 E_oa)
    obtain ⟨T10, h10, X10, e10, W10, st10⟩ := putF X8 hx hZ hown (host := "") (Or.inl (wd_17 hw)) Via.refl e8 f6 f9 (Or.inl (wd_18 hw)) (wd_5 hw) (ty := .int) (by decide) rfl rfl (g := (mkF m 58 #[.val (.ref oa), .val (.int xs), .val (.int xe), .val (.long qh), .second, .val (.long qc), .second] [(.int (FMax le xe)), (.ref oa)])) rfl rfl (hb hby d4_58)
    refine ownEnds.law st10 ?_
    have N10 := Fr.snoc X10 N5 g_oa
    have KK10 : Keep h0 h10 [oa, s1, s2, s3] := (KK5).wr W10 (Or.inl (List.mem_of_getElem? (i := 0) rfl))
    have Z10 : n0 ≤ h10.size := by rw [W10.size]; exact Z5
    have Fw10 : Fld Z h10 oa "com/example/vestline/vestline/engine/PayrollRows" "lastPeriodEnd" "I" (.int (FMax le xe)) := Fld.same W10 f6
    show ownEnds _ _ _ _ (T10.setTop (mkF m 61 #[.val (.ref oa), .val (.int xs), .val (.int xe), .val (.long qh), .second, .val (.long qc), .second] []))
    refine ownEnds.law (fun t k => XS.aloadN X10.here hx rfl (hb hby d4_61) rfl rfl k) ?_
    show ownEnds _ _ _ _ (T10.setTop (mkF m 62 #[.val (.ref oa), .val (.int xs), .val (.int xe), .val (.long qh), .second, .val (.long qc), .second] [(.ref oa)]))
    have f11 := (Fld.other W10 (Fld.other W5 F4 (Or.inr (slot_ne (Or.inl (wd_47 hw)) (Or.inl (wd_15 hw)) (by decide) (t := .int) (t' := .int) (by decide) (by decide)))) (Or.inr (slot_ne (Or.inl (wd_47 hw)) (Or.inl (wd_18 hw)) (by decide) (t := .int) (t' := .int) (by decide) (by decide))))
    obtain ⟨T12, X12, e12, st12⟩ := getF X10 hx hZ hown (host := "") (Or.inl (wd_46 hw)) Via.refl e10 f11 (g := (mkF m 62 #[.val (.ref oa), .val (.int xs), .val (.int xe), .val (.long qh), .second, .val (.long qc), .second] [(.ref oa)])) rfl rfl (hb hby d4_62)
    refine ownEnds.law st12 ?_
    show ownEnds _ _ _ _ (T12.setTop (mkF m 65 #[.val (.ref oa), .val (.int xs), .val (.int xe), .val (.long qh), .second, .val (.long qc), .second] [(.int sz)]))
    refine ownEnds.law (fun t k => XS.aloadN X12.here hx rfl (hb hby d4_65) rfl rfl k) ?_
    show ownEnds _ _ _ _ (T12.setTop (mkF m 66 #[.val (.ref oa), .val (.int xs), .val (.int xe), .val (.long qh), .second, .val (.long qc), .second] [(.ref oa), (.int sz)]))
    have f13 := (Fld.other W10 (Fld.other W5 F6 (Or.inr (slot_ne (Or.inl (wd_23 hw)) (Or.inl (wd_15 hw)) (by decide) (t := (.array .int)) (t' := .int) (by decide) (by decide)))) (Or.inr (slot_ne (Or.inl (wd_23 hw)) (Or.inl (wd_18 hw)) (by decide) (t := (.array .int)) (t' := .int) (by decide) (by decide))))
    obtain ⟨T14, X14, e14, st14⟩ := getF X12 hx hZ hown (host := "") (Or.inl (wd_22 hw)) Via.refl e12 f13 (g := (mkF m 66 #[.val (.ref oa), .val (.int xs), .val (.int xe), .val (.long qh), .second, .val (.long qc), .second] [(.ref oa), (.int sz)])) rfl rfl (hb hby d4_66)
    refine ownEnds.law st14 ?_
    show ownEnds _ _ _ _ (T14.setTop (mkF m 69 #[.val (.ref oa), .val (.int xs), .val (.int xe), .val (.long qh), .second, .val (.long qc), .second] [(.ref s2), (.int sz)]))
    have f16 := (Arv.other (Arv.other V2 W5 (Ne.symm n2)) W10 (Ne.symm n2))
    obtain ⟨cl15, Ar15, -, S15, N15, -, -⟩ := id f16
    refine ownEnds.law (X14.arraylength hx (by rw [e14]; exact Ar15.1) (State.isArrayOf_alike hZ.alike Ar15.2.1) (g := (mkF m 69 #[.val (.ref oa), .val (.int xs), .val (.int xe), .val (.long qh), .second, .val (.long qc), .second] [(.ref s2), (.int sz)])) rfl rfl (hb hby d4_69)) ?_
    rw [len_of S15 N15]
    show ownEnds _ _ _ _ (T14.setTop (mkF m 70 #[.val (.ref oa), .val (.int xs), .val (.int xe), .val (.long qh), .second, .val (.long qc), .second] [(.int (4 : Int32)), (.int sz)]))
    have hc70 : ¬ (sz = (4 : Int32)) := own_n4 hsz
    refine ownEnds.law (fun t => XS.icmpYes X14.here hx rfl (pc0 := 70) (pc' := 148) rfl (hb hby d4_70) rfl (feq hc70).2 (by decide) (by decide)) ?_
    show ownEnds _ _ _ _ (T14.setTop (mkF m 148 #[.val (.ref oa), .val (.int xs), .val (.int xe), .val (.long qh), .second, .val (.long qc), .second] []))
    refine ownEnds.law (fun t k => XS.aloadN X14.here hx rfl (hb hby d4_148) rfl rfl k) ?_
    show ownEnds _ _ _ _ (T14.setTop (mkF m 149 #[.val (.ref oa), .val (.int xs), .val (.int xe), .val (.long qh), .second, .val (.long qc), .second] [(.ref oa)]))
    have f17 := (Fld.other W10 (Fld.other W5 FC (Or.inr (slot_ne (Or.inl (wd_49 hw)) (Or.inl (wd_15 hw)) (by decide) (t := (.array .long)) (t' := .int) (by decide) (by decide)))) (Or.inr (slot_ne (Or.inl (wd_49 hw)) (Or.inl (wd_18 hw)) (by decide) (t := (.array .long)) (t' := .int) (by decide) (by decide))))
    obtain ⟨T18, X18, e18, st18⟩ := getF X14 hx hZ hown (host := "") (Or.inl (wd_48 hw)) Via.refl e14 f17 (g := (mkF m 149 #[.val (.ref oa), .val (.int xs), .val (.int xe), .val (.long qh), .second, .val (.long qc), .second] [(.ref oa)])) rfl rfl (hb hby d4_149)
    refine ownEnds.law st18 ?_
    show ownEnds _ _ _ _ (T18.setTop (mkF m 152 #[.val (.ref oa), .val (.int xs), .val (.int xe), .val (.long qh), .second, .val (.long qc), .second] [.null]))
    refine ownEnds.law (fun t k => XS.ifnonnullNo X18.here hx rfl (hb hby d4_152) rfl (XS.lload X18.here hx rfl (hb hby d4_155) rfl (XS.lconst X18.here hx rfl (hb hby d4_157) (XS.lcmp X18.here hx rfl (hb hby d4_158) rfl k)))) ?_
    show ownEnds _ _ _ _ (T18.setTop (mkF m 159 #[.val (.ref oa), .val (.int xs), .val (.int xe), .val (.long qh), .second, .val (.long qc), .second] [(.int (lcmpW qc (0 : Int64)))]))
    by_cases hc159 : qc = (0 : Int64)
    · refine ownEnds.law (fun t => XS.ifYes X18.here hx rfl (pc0 := 159) (pc' := 173) rfl (hb hby d4_159) rfl ((if0 _ _).trans (teq ((lw_eq _ _).mpr hc159)).1) (by decide) (by decide)) ?_
      show ownEnds _ _ _ _ (T18.setTop (mkF m 173 #[.val (.ref oa), .val (.int xs), .val (.int xe), .val (.long qh), .second, .val (.long qc), .second] []))
      refine ownEnds.law (fun t k => XS.aloadN X18.here hx rfl (hb hby d4_173) rfl rfl k) ?_
      show ownEnds _ _ _ _ (T18.setTop (mkF m 174 #[.val (.ref oa), .val (.int xs), .val (.int xe), .val (.long qh), .second, .val (.long qc), .second] [(.ref oa)]))
      have f19 := (Fld.other W10 (Fld.other W5 F5 (Or.inr (slot_ne (Or.inl (wd_21 hw)) (Or.inl (wd_15 hw)) (by decide) (t := (.array .int)) (t' := .int) (by decide) (by decide)))) (Or.inr (slot_ne (Or.inl (wd_21 hw)) (Or.inl (wd_18 hw)) (by decide) (t := (.array .int)) (t' := .int) (by decide) (by decide))))
      obtain ⟨T20, X20, e20, st20⟩ := getF X18 hx hZ hown (host := "") (Or.inl (wd_20 hw)) Via.refl e18 f19 (g := (mkF m 174 #[.val (.ref oa), .val (.int xs), .val (.int xe), .val (.long qh), .second, .val (.long qc), .second] [(.ref oa)])) rfl rfl (hb hby d4_174)
      refine ownEnds.law st20 ?_
      show ownEnds _ _ _ _ (T20.setTop (mkF m 177 #[.val (.ref oa), .val (.int xs), .val (.int xe), .val (.long qh), .second, .val (.long qc), .second] [(.ref s1)]))
      refine ownEnds.law (fun t k => XS.aloadN X20.here hx rfl (hb hby d4_177) rfl rfl k) ?_
      show ownEnds _ _ _ _ (T20.setTop (mkF m 178 #[.val (.ref oa), .val (.int xs), .val (.int xe), .val (.long qh), .second, .val (.long qc), .second] [(.ref oa), (.ref s1)]))
      obtain ⟨T21, X21, e21, st21⟩ := getF X20 hx hZ hown (host := "") (Or.inl (wd_46 hw)) Via.refl e20 f11 (g := (mkF m 178 #[.val (.ref oa), .val (.int xs), .val (.int xe), .val (.long qh), .second, .val (.long qc), .second] [(.ref oa), (.ref s1)])) rfl rfl (hb hby d4_178)
      refine ownEnds.law st21 ?_
      show ownEnds _ _ _ _ (T21.setTop (mkF m 181 #[.val (.ref oa), .val (.int xs), .val (.int xe), .val (.long qh), .second, .val (.long qc), .second] [(.int sz), (.ref s1)]))
      refine ownEnds.law (fun t k => XS.iloadN X21.here hx rfl (hb hby d4_181) rfl k) ?_
      show ownEnds _ _ _ _ (T21.setTop (mkF m 182 #[.val (.ref oa), .val (.int xs), .val (.int xe), .val (.long qh), .second, .val (.long qc), .second] [(.int xs), (.int sz), (.ref s1)]))
      have f23 := (Arv.other (Arv.other V1 W5 (Ne.symm n1)) W10 (Ne.symm n1))
      obtain ⟨cl22, Ar22, q22, S22, N22, H22, G22⟩ := id f23
      obtain ⟨T22, h22, X22, e22, W22, st22⟩ := stI X21 hx hZ e21 Ar22 (j := sz) (inb_of S22 (hsz)) (g := (mkF m 182 #[.val (.ref oa), .val (.int xs), .val (.int xe), .val (.long qh), .second, .val (.long qc), .second] [(.int xs), (.int sz), (.ref s1)])) rfl rfl (hb hby d4_182)
      refine ownEnds.law st22 ?_
      have V22 : Arv Z h22 s1 k1 .int (4 : Int32) (v1.set (sz).toNatClampNeg (.int xs)) (.int (0 : Int32)) := Arv.set Ar22 q22 S22 N22 H22 G22 rfl W22 _ rfl (by rw [l1]; exact (own_n1 hsz).2)
      have N22 := Fr.snoc X22 N10 g_s1
      have KK22 : Keep h0 h22 [oa, s1, s2, s3] := (KK10).wr W22 (Or.inl (List.mem_of_getElem? (i := 1) rfl))
      have Z22 : n0 ≤ h22.size := by rw [W22.size]; exact Z10
      show ownEnds _ _ _ _ (T22.setTop (mkF m 183 #[.val (.ref oa), .val (.int xs), .val (.int xe), .val (.long qh), .second, .val (.long qc), .second] []))
      refine ownEnds.law (fun t k => XS.aloadN X22.here hx rfl (hb hby d4_183) rfl rfl k) ?_
      show ownEnds _ _ _ _ (T22.setTop (mkF m 184 #[.val (.ref oa), .val (.int xs), .val (.int xe), .val (.long qh), .second, .val (.long qc), .second] [(.ref oa)]))
      have f24 := (Fld.other W22 f13 (Or.inl n1))
      obtain ⟨T25, X25, e25, st25⟩ := getF X22 hx hZ hown (host := "") (Or.inl (wd_22 hw)) Via.refl e22 f24 (g := (mkF m 184 #[.val (.ref oa), .val (.int xs), .val (.int xe), .val (.long qh), .second, .val (.long qc), .second] [(.ref oa)])) rfl rfl (hb hby d4_184)
      refine ownEnds.law st25 ?_
      show ownEnds _ _ _ _ (T25.setTop (mkF m 187 #[.val (.ref oa), .val (.int xs), .val (.int xe), .val (.long qh), .second, .val (.long qc), .second] [(.ref s2)]))
      refine ownEnds.law (fun t k => XS.aloadN X25.here hx rfl (hb hby d4_187) rfl rfl k) ?_
      show ownEnds _ _ _ _ (T25.setTop (mkF m 188 #[.val (.ref oa), .val (.int xs), .val (.int xe), .val (.long qh), .second, .val (.long qc), .second] [(.ref oa), (.ref s2)]))
      have f26 := (Fld.other W22 f11 (Or.inl n1))
      obtain ⟨T27, X27, e27, st27⟩ := getF X25 hx hZ hown (host := "") (Or.inl (wd_46 hw)) Via.refl e25 f26 (g := (mkF m 188 #[.val (.ref oa), .val (.int xs), .val (.int xe), .val (.long qh), .second, .val (.long qc), .second] [(.ref oa), (.ref s2)])) rfl rfl (hb hby d4_188)
      refine ownEnds.law st27 ?_
      show ownEnds _ _ _ _ (T27.setTop (mkF m 191 #[.val (.ref oa), .val (.int xs), .val (.int xe), .val (.long qh), .second, .val (.long qc), .second] [(.int sz), (.ref s2)]))
      refine ownEnds.law (fun t k => XS.iloadN X27.here hx rfl (hb hby d4_191) rfl k) ?_
      show ownEnds _ _ _ _ (T27.setTop (mkF m 192 #[.val (.ref oa), .val (.int xs), .val (.int xe), .val (.long qh), .second, .val (.long qc), .second] [(.int xe), (.int sz), (.ref s2)]))
      have f29 := (Arv.other f16 W22 (Ne.symm n4))
      obtain ⟨cl28, Ar28, q28, S28, N28, H28, G28⟩ := id f29
      obtain ⟨T28, h28, X28, e28, W28, st28⟩ := stI X27 hx hZ e27 Ar28 (j := sz) (inb_of S28 (hsz)) (g := (mkF m 192 #[.val (.ref oa), .val (.int xs), .val (.int xe), .val (.long qh), .second, .val (.long qc), .second] [(.int xe), (.int sz), (.ref s2)])) rfl rfl (hb hby d4_192)
      refine ownEnds.law st28 ?_
      have V28 : Arv Z h28 s2 k2 .int (4 : Int32) (v2.set (sz).toNatClampNeg (.int xe)) (.int (0 : Int32)) := Arv.set Ar28 q28 S28 N28 H28 G28 rfl W28 _ rfl (by rw [l2]; exact (own_n1 hsz).2)
      have N28 := Fr.snoc X28 N22 g_s2
      have KK28 : Keep h0 h28 [oa, s1, s2, s3] := (KK22).wr W28 (Or.inl (List.mem_of_getElem? (i := 2) rfl))
      have Z28 : n0 ≤ h28.size := by rw [W28.size]; exact Z22
      show ownEnds _ _ _ _ (T28.setTop (mkF m 193 #[.val (.ref oa), .val (.int xs), .val (.int xe), .val (.long qh), .second, .val (.long qc), .second] []))
      refine ownEnds.law (fun t k => XS.aloadN X28.here hx rfl (hb hby d4_193) rfl rfl k) ?_
      show ownEnds _ _ _ _ (T28.setTop (mkF m 194 #[.val (.ref oa), .val (.int xs), .val (.int xe), .val (.long qh), .second, .val (.long qc), .second] [(.ref oa)]))
      have f30 := (Fld.other W28 (Fld.other W22 (Fld.other W10 (Fld.other W5 F7 (Or.inr (slot_ne (Or.inl (wd_26 hw)) (Or.inl (wd_15 hw)) (by decide) (t := (.array .long)) (t' := .int) (by decide) (by decide)))) (Or.inr (slot_ne (Or.inl (wd_26 hw)) (Or.inl (wd_18 hw)) (by decide) (t := (.array .long)) (t' := .int) (by decide) (by decide)))) (Or.inl n1)) (Or.inl n2))
      obtain ⟨T31, X31, e31, st31⟩ := getF X28 hx hZ hown (host := "") (Or.inl (wd_25 hw)) Via.refl e28 f30 (g := (mkF m 194 #[.val (.ref oa), .val (.int xs), .val (.int xe), .val (.long qh), .second, .val (.long qc), .second] [(.ref oa)])) rfl rfl (hb hby d4_194)
      refine ownEnds.law st31 ?_
      show ownEnds _ _ _ _ (T31.setTop (mkF m 197 #[.val (.ref oa), .val (.int xs), .val (.int xe), .val (.long qh), .second, .val (.long qc), .second] [(.ref s3)]))
      refine ownEnds.law (fun t k => XS.aloadN X31.here hx rfl (hb hby d4_197) rfl rfl k) ?_
      show ownEnds _ _ _ _ (T31.setTop (mkF m 198 #[.val (.ref oa), .val (.int xs), .val (.int xe), .val (.long qh), .second, .val (.long qc), .second] [(.ref oa), (.ref s3)]))
      have f32 := (Fld.other W28 f26 (Or.inl n2))
      obtain ⟨T33, X33, e33, st33⟩ := getF X31 hx hZ hown (host := "") (Or.inl (wd_46 hw)) Via.refl e31 f32 (g := (mkF m 198 #[.val (.ref oa), .val (.int xs), .val (.int xe), .val (.long qh), .second, .val (.long qc), .second] [(.ref oa), (.ref s3)])) rfl rfl (hb hby d4_198)
      refine ownEnds.law st33 ?_
      show ownEnds _ _ _ _ (T33.setTop (mkF m 201 #[.val (.ref oa), .val (.int xs), .val (.int xe), .val (.long qh), .second, .val (.long qc), .second] [(.int sz), (.ref s3)]))
      refine ownEnds.law (fun t k => XS.lloadN X33.here hx rfl (hb hby d4_201) rfl k) ?_
      show ownEnds _ _ _ _ (T33.setTop (mkF m 202 #[.val (.ref oa), .val (.int xs), .val (.int xe), .val (.long qh), .second, .val (.long qc), .second] [(.long qh), (.int sz), (.ref s3)]))
      have f35 := (Arv.other (Arv.other (Arv.other (Arv.other V3 W5 (Ne.symm n3)) W10 (Ne.symm n3)) W22 (Ne.symm n5)) W28 (Ne.symm n6))
      obtain ⟨cl34, Ar34, q34, S34, N34, H34, G34⟩ := id f35
      obtain ⟨T34, h34, X34, e34, W34, st34⟩ := stJ X33 hx hZ e33 Ar34 (j := sz) (inb_of S34 (hsz)) (g := (mkF m 202 #[.val (.ref oa), .val (.int xs), .val (.int xe), .val (.long qh), .second, .val (.long qc), .second] [(.long qh), (.int sz), (.ref s3)])) rfl rfl (hb hby d4_202)
      refine ownEnds.law st34 ?_
      have V34 : Arv Z h34 s3 k3 .long (4 : Int32) (v3.set (sz).toNatClampNeg (.long qh)) (.long (0 : Int64)) := Arv.set Ar34 q34 S34 N34 H34 G34 rfl W34 _ rfl (by rw [l3]; exact (own_n1 hsz).2)
      have N34 := Fr.snoc X34 N28 g_s3
      have KK34 : Keep h0 h34 [oa, s1, s2, s3] := (KK28).wr W34 (Or.inl (List.mem_of_getElem? (i := 3) rfl))
      have Z34 : n0 ≤ h34.size := by rw [W34.size]; exact Z28
      show ownEnds _ _ _ _ (T34.setTop (mkF m 203 #[.val (.ref oa), .val (.int xs), .val (.int xe), .val (.long qh), .second, .val (.long qc), .second] []))
      refine ownEnds.law (fun t k => XS.aloadN X34.here hx rfl (hb hby d4_203) rfl rfl k) ?_
      show ownEnds _ _ _ _ (T34.setTop (mkF m 204 #[.val (.ref oa), .val (.int xs), .val (.int xe), .val (.long qh), .second, .val (.long qc), .second] [(.ref oa)]))
      have f36 := (Fld.other W34 (Fld.other W28 (Fld.other W22 f17 (Or.inl n1)) (Or.inl n2)) (Or.inl n3))
      obtain ⟨T37, X37, e37, st37⟩ := getF X34 hx hZ hown (host := "") (Or.inl (wd_48 hw)) Via.refl e34 f36 (g := (mkF m 204 #[.val (.ref oa), .val (.int xs), .val (.int xe), .val (.long qh), .second, .val (.long qc), .second] [(.ref oa)])) rfl rfl (hb hby d4_204)
      refine ownEnds.law st37 ?_
      show ownEnds _ _ _ _ (T37.setTop (mkF m 207 #[.val (.ref oa), .val (.int xs), .val (.int xe), .val (.long qh), .second, .val (.long qc), .second] [.null]))
      refine ownEnds.law (fun t k => XS.ifnullYes X37.here hx rfl (pc0 := 207) (pc' := 221) rfl (hb hby d4_207) rfl (by decide) (by decide) (XS.aloadN X37.here hx rfl (hb hby d4_221) rfl rfl (XS.dup X37.here hx rfl (hb hby d4_222) rfl rfl k))) ?_
      show ownEnds _ _ _ _ (T37.setTop (mkF m 223 #[.val (.ref oa), .val (.int xs), .val (.int xe), .val (.long qh), .second, .val (.long qc), .second] [(.ref oa), (.ref oa)]))
      have f38 := (Fld.other W34 f32 (Or.inl n3))
      obtain ⟨T39, X39, e39, st39⟩ := getF X37 hx hZ hown (host := "") (Or.inl (wd_46 hw)) Via.refl e37 f38 (g := (mkF m 223 #[.val (.ref oa), .val (.int xs), .val (.int xe), .val (.long qh), .second, .val (.long qc), .second] [(.ref oa), (.ref oa)])) rfl rfl (hb hby d4_223)
      refine ownEnds.law st39 ?_
      show ownEnds _ _ _ _ (T39.setTop (mkF m 226 #[.val (.ref oa), .val (.int xs), .val (.int xe), .val (.long qh), .second, .val (.long qc), .second] [(.int sz), (.ref oa)]))
      refine ownEnds.law (fun t k => XS.iconst X39.here hx rfl (hb hby d4_226) (XS.iadd X39.here hx rfl (hb hby d4_227) rfl k)) ?_
      show ownEnds _ _ _ _ (T39.setTop (mkF m 228 #[.val (.ref oa), .val (.int xs), .val (.int xe), .val (.long qh), .second, .val (.long qc), .second] [(.int (sz + (1 : Int32))), (.ref oa)]))
      have f40 := (Exa.wr W34 (Exa.wr W28 (Exa.wr W22 (Exa.wr W10 f9))))
      obtain ⟨T41, h41, X41, e41, W41, st41⟩ := putF X39 hx hZ hown (host := "") (Or.inl (wd_46 hw)) Via.refl e39 f38 f40 (Or.inl (wd_47 hw)) (wd_5 hw) (ty := .int) (by decide) rfl rfl (g := (mkF m 228 #[.val (.ref oa), .val (.int xs), .val (.int xe), .val (.long qh), .second, .val (.long qc), .second] [(.int (sz + (1 : Int32))), (.ref oa)])) rfl rfl (hb hby d4_228)
      refine ownEnds.law st41 ?_
      have N41 := Fr.snoc X41 N34 g_oa
      have KK41 : Keep h0 h41 [oa, s1, s2, s3] := (KK34).wr W41 (Or.inl (List.mem_of_getElem? (i := 0) rfl))
      have Z41 : n0 ≤ h41.size := by rw [W41.size]; exact Z34
      have Fw41 : Fld Z h41 oa "com/example/vestline/vestline/engine/PayrollRows" "size" "I" (.int (sz + (1 : Int32))) := Fld.same W41 f38
      show ownEnds _ _ _ _ (T41.setTop (mkF m 231 #[.val (.ref oa), .val (.int xs), .val (.int xe), .val (.long qh), .second, .val (.long qc), .second] []))
      refine ownRetV X41 hlk hx hret (hb hby d4_231) (by decide) (by decide) ?_
      have f42 := (Fld.other W41 f36 (Or.inr (slot_ne (Or.inl (wd_49 hw)) (Or.inl (wd_47 hw)) (by decide) (t := (.array .long)) (t' := .int) (by decide) (by decide))))
      have f43 := (Exa.wr W41 f40)
      have f44 := (Fld.other W41 (Fld.other W34 (Fld.other W28 (Fld.other W22 (Fld.other W10 (Fld.other W5 F1 (Or.inr (slot_ne (Or.inl (wd_34 hw)) (Or.inl (wd_15 hw)) (by decide) (t := (.object "java/util/NavigableMap")) (t' := .int) (by decide) (by decide)))) (Or.inr (slot_ne (Or.inl (wd_34 hw)) (Or.inl (wd_18 hw)) (by decide) (t := (.object "java/util/NavigableMap")) (t' := .int) (by decide) (by decide)))) (Or.inl n1)) (Or.inl n2)) (Or.inl n3)) (Or.inr (slot_ne (Or.inl (wd_34 hw)) (Or.inl (wd_47 hw)) (by decide) (t := (.object "java/util/NavigableMap")) (t' := .int) (by decide) (by decide))))
      have f45 := (Fld.other W41 (Fld.other W34 (Fld.other W28 (Fld.other W22 (Fld.other W10 Fw5 (Or.inr (slot_ne (Or.inl (wd_15 hw)) (Or.inl (wd_18 hw)) (by decide) (t := .int) (t' := .int) (by decide) (by decide)))) (Or.inl n1)) (Or.inl n2)) (Or.inl n3)) (Or.inr (slot_ne (Or.inl (wd_15 hw)) (Or.inl (wd_47 hw)) (by decide) (t := .int) (t' := .int) (by decide) (by decide))))
      have f46 := (Fld.other W41 (Fld.other W34 (Fld.other W28 (Fld.other W22 Fw10 (Or.inl n1)) (Or.inl n2)) (Or.inl n3)) (Or.inr (slot_ne (Or.inl (wd_18 hw)) (Or.inl (wd_47 hw)) (by decide) (t := .int) (t' := .int) (by decide) (by decide))))
      have f47 := (Fld.other W41 (Fld.other W34 (Fld.other W28 (Fld.other W22 f19 (Or.inl n1)) (Or.inl n2)) (Or.inl n3)) (Or.inr (slot_ne (Or.inl (wd_21 hw)) (Or.inl (wd_47 hw)) (by decide) (t := (.array .int)) (t' := .int) (by decide) (by decide))))
      have f48 := (Fld.other W41 (Fld.other W34 (Fld.other W28 f24 (Or.inl n2)) (Or.inl n3)) (Or.inr (slot_ne (Or.inl (wd_23 hw)) (Or.inl (wd_47 hw)) (by decide) (t := (.array .int)) (t' := .int) (by decide) (by decide))))
      have f49 := (Fld.other W41 (Fld.other W34 f30 (Or.inl n3)) (Or.inr (slot_ne (Or.inl (wd_26 hw)) (Or.inl (wd_47 hw)) (by decide) (t := (.array .long)) (t' := .int) (by decide) (by decide))))
      have f50 := (Arv.other (Arv.other (Arv.other V22 W28 n4) W34 n5) W41 (Ne.symm n1))
      have f51 := (Arv.other (Arv.other V28 W34 n6) W41 (Ne.symm n2))
      have f52 := (Arv.other V34 W41 (Ne.symm n3))
      rw [e41]
      exact ⟨rfl, N41, (KK41).1, ⟨(FMin fs xs), s1, s2, s3, k1, k2, k3, (v1.set (sz).toNatClampNeg (.int xs)), (v2.set (sz).toNatClampNeg (.int xe)), (v3.set (sz).toNatClampNeg (.long qh)), ⟨g_oa, g_s1, g_s2, g_s3⟩, ⟨n1, n2, n3, n4, n5, n6⟩, ⟨by rw [List.length_set]; exact l1, by rw [List.length_set]; exact l2, by rw [List.length_set]; exact l3, by rw [List.length_append, l4, (own_n1 hsz).1]; rfl⟩, f43, f44, f45, f46, Fw41, f47, f48, f49, f50, f51, f52, Or.inl ⟨f42, own_za hz hc159⟩⟩⟩
    · refine ownEnds.law (fun t => XS.ifNo X18.here hx rfl (hb hby d4_159) rfl ((if0 _ _).trans (feq (fun q => hc159 ((lw_eq _ _).mp q))).1)) ?_
      show ownEnds _ _ _ _ (T18.setTop (mkF m 162 #[.val (.ref oa), .val (.int xs), .val (.int xe), .val (.long qh), .second, .val (.long qc), .second] []))
      refine ownEnds.law (fun t k => XS.aloadN X18.here hx rfl (hb hby d4_162) rfl rfl (XS.aloadN X18.here hx rfl (hb hby d4_163) rfl rfl k)) ?_
      show ownEnds _ _ _ _ (T18.setTop (mkF m 164 #[.val (.ref oa), .val (.int xs), .val (.int xe), .val (.long qh), .second, .val (.long qc), .second] [(.ref oa), (.ref oa)]))
      obtain ⟨T53, X53, e53, st53⟩ := getF X18 hx hZ hown (host := "") (Or.inl (wd_22 hw)) Via.refl e18 f13 (g := (mkF m 164 #[.val (.ref oa), .val (.int xs), .val (.int xe), .val (.long qh), .second, .val (.long qc), .second] [(.ref oa), (.ref oa)])) rfl rfl (hb hby d4_164)
      refine ownEnds.law st53 ?_
      show ownEnds _ _ _ _ (T53.setTop (mkF m 167 #[.val (.ref oa), .val (.int xs), .val (.int xe), .val (.long qh), .second, .val (.long qc), .second] [(.ref s2), (.ref oa)]))
      obtain ⟨cl54, Ar54, -, S54, N54, -, -⟩ := id f16
      refine ownEnds.law (X53.arraylength hx (by rw [e53]; exact Ar54.1) (State.isArrayOf_alike hZ.alike Ar54.2.1) (g := (mkF m 167 #[.val (.ref oa), .val (.int xs), .val (.int xe), .val (.long qh), .second, .val (.long qc), .second] [(.ref s2), (.ref oa)])) rfl rfl (hb hby d4_167)) ?_
      rw [len_of S54 N54]
      show ownEnds _ _ _ _ (T53.setTop (mkF m 168 #[.val (.ref oa), .val (.int xs), .val (.int xe), .val (.long qh), .second, .val (.long qc), .second] [(.int (4 : Int32)), (.ref oa)]))
      obtain ⟨T55, h55, k55, X55, e55, E55, A55, st55⟩ := newP X53 hx hZ (aty := .long) (wd_24 hw) e53 (g := (mkF m 168 #[.val (.ref oa), .val (.int xs), .val (.int xe), .val (.long qh), .second, .val (.long qc), .second] [(.int (4 : Int32)), (.ref oa)])) rfl (hb hby d4_168) rfl (by decide) (cap := 4) (by decide) (by decide) (by decide) (by decide)
      obtain ⟨b55, g55⟩ : ∃ z, z = h10.size := ⟨_, rfl⟩
      rw [← g55] at A55 st55
      refine ownEnds.law st55 ?_
      have V_b55 : Arv Z h55 b55 k55 .long (4 : Int32) [(.long (0 : Int64)), (.long (0 : Int64)), (.long (0 : Int64)), (.long (0 : Int64))] (.long (0 : Int64)) := (Arv.new A55 (by decide)).pad (pad_rep [] (.long (0 : Int64)) 4)
      have f56 := (Exa.wr W10 f9)
      have ne_oa_b55 : oa ≠ b55 := Nat.ne_of_lt (Nat.lt_of_lt_of_eq f56.lt g55.symm)
      have f57 := (Arv.other (Arv.other V1 W5 (Ne.symm n1)) W10 (Ne.symm n1))
      have ne_s1_b55 : s1 ≠ b55 := Nat.ne_of_lt (Nat.lt_of_lt_of_eq f57.lt g55.symm)
      have ne_s2_b55 : s2 ≠ b55 := Nat.ne_of_lt (Nat.lt_of_lt_of_eq f16.lt g55.symm)
      have f58 := (Arv.other (Arv.other V3 W5 (Ne.symm n3)) W10 (Ne.symm n3))
      have ne_s3_b55 : s3 ≠ b55 := Nat.ne_of_lt (Nat.lt_of_lt_of_eq f58.lt g55.symm)
      have g_b55 : n0 ≤ b55 := Nat.le_trans Z10 (Nat.le_of_eq g55.symm)
      have sz_b55 : h0.size ≤ b55 := Nat.le_trans (KK10).1 (Nat.le_of_eq g55.symm)
      have Z55 : n0 ≤ h55.size := Nat.le_trans Z10 E55.1
      have KK55 : Keep h0 h55 [oa, s1, s2, s3] := (KK10).ext E55
      show ownEnds _ _ _ _ (T55.setTop (mkF m 170 #[.val (.ref oa), .val (.int xs), .val (.int xe), .val (.long qh), .second, .val (.long qc), .second] [(.ref b55), (.ref oa)]))
      have f59 := (Exa.ext E55 f56)
      have f60 := (Fld.ext E55 f17)
      obtain ⟨T61, h61, X61, e61, W61, st61⟩ := putF X55 hx hZ hown (host := "") (Or.inl (wd_48 hw)) Via.refl e55 f60 f59 (Or.inl (wd_49 hw)) (wd_5 hw) (ty := (.array .long)) (by decide) rfl rfl (g := (mkF m 170 #[.val (.ref oa), .val (.int xs), .val (.int xe), .val (.long qh), .second, .val (.long qc), .second] [(.ref b55), (.ref oa)])) rfl rfl (hb hby d4_170)
      refine ownEnds.law st61 ?_
      have N61 := Fr.snoc X61 N10 g_oa
      have KK61 : Keep h0 h61 [oa, s1, s2, s3] := (KK55).wr W61 (Or.inl (List.mem_of_getElem? (i := 0) rfl))
      have Z61 : n0 ≤ h61.size := by rw [W61.size]; exact Z55
      have Fw61 : Fld Z h61 oa "com/example/vestline/vestline/engine/PayrollRows" "cents" "[J" (.ref b55) := Fld.same W61 f60
      show ownEnds _ _ _ _ (T61.setTop (mkF m 173 #[.val (.ref oa), .val (.int xs), .val (.int xe), .val (.long qh), .second, .val (.long qc), .second] []))
      refine ownEnds.law (fun t k => XS.aloadN X61.here hx rfl (hb hby d4_173) rfl rfl k) ?_
      show ownEnds _ _ _ _ (T61.setTop (mkF m 174 #[.val (.ref oa), .val (.int xs), .val (.int xe), .val (.long qh), .second, .val (.long qc), .second] [(.ref oa)]))
      have f62 := (Fld.other W61 (Fld.ext E55 (Fld.other W10 (Fld.other W5 F5 (Or.inr (slot_ne (Or.inl (wd_21 hw)) (Or.inl (wd_15 hw)) (by decide) (t := (.array .int)) (t' := .int) (by decide) (by decide)))) (Or.inr (slot_ne (Or.inl (wd_21 hw)) (Or.inl (wd_18 hw)) (by decide) (t := (.array .int)) (t' := .int) (by decide) (by decide))))) (Or.inr (slot_ne (Or.inl (wd_21 hw)) (Or.inl (wd_49 hw)) (by decide) (t := (.array .int)) (t' := (.array .long)) (by decide) (by decide))))
      obtain ⟨T63, X63, e63, st63⟩ := getF X61 hx hZ hown (host := "") (Or.inl (wd_20 hw)) Via.refl e61 f62 (g := (mkF m 174 #[.val (.ref oa), .val (.int xs), .val (.int xe), .val (.long qh), .second, .val (.long qc), .second] [(.ref oa)])) rfl rfl (hb hby d4_174)
      refine ownEnds.law st63 ?_
      show ownEnds _ _ _ _ (T63.setTop (mkF m 177 #[.val (.ref oa), .val (.int xs), .val (.int xe), .val (.long qh), .second, .val (.long qc), .second] [(.ref s1)]))
      refine ownEnds.law (fun t k => XS.aloadN X63.here hx rfl (hb hby d4_177) rfl rfl k) ?_
      show ownEnds _ _ _ _ (T63.setTop (mkF m 178 #[.val (.ref oa), .val (.int xs), .val (.int xe), .val (.long qh), .second, .val (.long qc), .second] [(.ref oa), (.ref s1)]))
      have f64 := (Fld.other W61 (Fld.ext E55 f11) (Or.inr (slot_ne (Or.inl (wd_47 hw)) (Or.inl (wd_49 hw)) (by decide) (t := .int) (t' := (.array .long)) (by decide) (by decide))))
      obtain ⟨T65, X65, e65, st65⟩ := getF X63 hx hZ hown (host := "") (Or.inl (wd_46 hw)) Via.refl e63 f64 (g := (mkF m 178 #[.val (.ref oa), .val (.int xs), .val (.int xe), .val (.long qh), .second, .val (.long qc), .second] [(.ref oa), (.ref s1)])) rfl rfl (hb hby d4_178)
      refine ownEnds.law st65 ?_
      show ownEnds _ _ _ _ (T65.setTop (mkF m 181 #[.val (.ref oa), .val (.int xs), .val (.int xe), .val (.long qh), .second, .val (.long qc), .second] [(.int sz), (.ref s1)]))
      refine ownEnds.law (fun t k => XS.iloadN X65.here hx rfl (hb hby d4_181) rfl k) ?_
      show ownEnds _ _ _ _ (T65.setTop (mkF m 182 #[.val (.ref oa), .val (.int xs), .val (.int xe), .val (.long qh), .second, .val (.long qc), .second] [(.int xs), (.int sz), (.ref s1)]))
      have f67 := (Arv.other (Arv.ext f57 E55) W61 (Ne.symm n1))
      obtain ⟨cl66, Ar66, q66, S66, N66, H66, G66⟩ := id f67
      obtain ⟨T66, h66, X66, e66, W66, st66⟩ := stI X65 hx hZ e65 Ar66 (j := sz) (inb_of S66 (hsz)) (g := (mkF m 182 #[.val (.ref oa), .val (.int xs), .val (.int xe), .val (.long qh), .second, .val (.long qc), .second] [(.int xs), (.int sz), (.ref s1)])) rfl rfl (hb hby d4_182)
      refine ownEnds.law st66 ?_
      have V66 : Arv Z h66 s1 k1 .int (4 : Int32) (v1.set (sz).toNatClampNeg (.int xs)) (.int (0 : Int32)) := Arv.set Ar66 q66 S66 N66 H66 G66 rfl W66 _ rfl (by rw [l1]; exact (own_n1 hsz).2)
      have N66 := Fr.snoc X66 N61 g_s1
      have KK66 : Keep h0 h66 [oa, s1, s2, s3] := (KK61).wr W66 (Or.inl (List.mem_of_getElem? (i := 1) rfl))
      have Z66 : n0 ≤ h66.size := by rw [W66.size]; exact Z61
      show ownEnds _ _ _ _ (T66.setTop (mkF m 183 #[.val (.ref oa), .val (.int xs), .val (.int xe), .val (.long qh), .second, .val (.long qc), .second] []))
      refine ownEnds.law (fun t k => XS.aloadN X66.here hx rfl (hb hby d4_183) rfl rfl k) ?_
      show ownEnds _ _ _ _ (T66.setTop (mkF m 184 #[.val (.ref oa), .val (.int xs), .val (.int xe), .val (.long qh), .second, .val (.long qc), .second] [(.ref oa)]))
      have f68 := (Fld.other W66 (Fld.other W61 (Fld.ext E55 f13) (Or.inr (slot_ne (Or.inl (wd_23 hw)) (Or.inl (wd_49 hw)) (by decide) (t := (.array .int)) (t' := (.array .long)) (by decide) (by decide)))) (Or.inl n1))
      obtain ⟨T69, X69, e69, st69⟩ := getF X66 hx hZ hown (host := "") (Or.inl (wd_22 hw)) Via.refl e66 f68 (g := (mkF m 184 #[.val (.ref oa), .val (.int xs), .val (.int xe), .val (.long qh), .second, .val (.long qc), .second] [(.ref oa)])) rfl rfl (hb hby d4_184)
      refine ownEnds.law st69 ?_
      show ownEnds _ _ _ _ (T69.setTop (mkF m 187 #[.val (.ref oa), .val (.int xs), .val (.int xe), .val (.long qh), .second, .val (.long qc), .second] [(.ref s2)]))
      refine ownEnds.law (fun t k => XS.aloadN X69.here hx rfl (hb hby d4_187) rfl rfl k) ?_
      show ownEnds _ _ _ _ (T69.setTop (mkF m 188 #[.val (.ref oa), .val (.int xs), .val (.int xe), .val (.long qh), .second, .val (.long qc), .second] [(.ref oa), (.ref s2)]))
      have f70 := (Fld.other W66 f64 (Or.inl n1))
      obtain ⟨T71, X71, e71, st71⟩ := getF X69 hx hZ hown (host := "") (Or.inl (wd_46 hw)) Via.refl e69 f70 (g := (mkF m 188 #[.val (.ref oa), .val (.int xs), .val (.int xe), .val (.long qh), .second, .val (.long qc), .second] [(.ref oa), (.ref s2)])) rfl rfl (hb hby d4_188)
      refine ownEnds.law st71 ?_
      show ownEnds _ _ _ _ (T71.setTop (mkF m 191 #[.val (.ref oa), .val (.int xs), .val (.int xe), .val (.long qh), .second, .val (.long qc), .second] [(.int sz), (.ref s2)]))
      refine ownEnds.law (fun t k => XS.iloadN X71.here hx rfl (hb hby d4_191) rfl k) ?_
      show ownEnds _ _ _ _ (T71.setTop (mkF m 192 #[.val (.ref oa), .val (.int xs), .val (.int xe), .val (.long qh), .second, .val (.long qc), .second] [(.int xe), (.int sz), (.ref s2)]))
      have f73 := (Arv.other (Arv.other (Arv.ext f16 E55) W61 (Ne.symm n2)) W66 (Ne.symm n4))
      obtain ⟨cl72, Ar72, q72, S72, N72, H72, G72⟩ := id f73
      obtain ⟨T72, h72, X72, e72, W72, st72⟩ := stI X71 hx hZ e71 Ar72 (j := sz) (inb_of S72 (hsz)) (g := (mkF m 192 #[.val (.ref oa), .val (.int xs), .val (.int xe), .val (.long qh), .second, .val (.long qc), .second] [(.int xe), (.int sz), (.ref s2)])) rfl rfl (hb hby d4_192)
      refine ownEnds.law st72 ?_
      have V72 : Arv Z h72 s2 k2 .int (4 : Int32) (v2.set (sz).toNatClampNeg (.int xe)) (.int (0 : Int32)) := Arv.set Ar72 q72 S72 N72 H72 G72 rfl W72 _ rfl (by rw [l2]; exact (own_n1 hsz).2)
      have N72 := Fr.snoc X72 N66 g_s2
      have KK72 : Keep h0 h72 [oa, s1, s2, s3] := (KK66).wr W72 (Or.inl (List.mem_of_getElem? (i := 2) rfl))
      have Z72 : n0 ≤ h72.size := by rw [W72.size]; exact Z66
      show ownEnds _ _ _ _ (T72.setTop (mkF m 193 #[.val (.ref oa), .val (.int xs), .val (.int xe), .val (.long qh), .second, .val (.long qc), .second] []))
      refine ownEnds.law (fun t k => XS.aloadN X72.here hx rfl (hb hby d4_193) rfl rfl k) ?_
      show ownEnds _ _ _ _ (T72.setTop (mkF m 194 #[.val (.ref oa), .val (.int xs), .val (.int xe), .val (.long qh), .second, .val (.long qc), .second] [(.ref oa)]))
      have f74 := (Fld.other W72 (Fld.other W66 (Fld.other W61 (Fld.ext E55 (Fld.other W10 (Fld.other W5 F7 (Or.inr (slot_ne (Or.inl (wd_26 hw)) (Or.inl (wd_15 hw)) (by decide) (t := (.array .long)) (t' := .int) (by decide) (by decide)))) (Or.inr (slot_ne (Or.inl (wd_26 hw)) (Or.inl (wd_18 hw)) (by decide) (t := (.array .long)) (t' := .int) (by decide) (by decide))))) (Or.inr (slot_ne (Or.inl (wd_26 hw)) (Or.inl (wd_49 hw)) (by decide) (t := (.array .long)) (t' := (.array .long)) (by decide) (by decide)))) (Or.inl n1)) (Or.inl n2))
      obtain ⟨T75, X75, e75, st75⟩ := getF X72 hx hZ hown (host := "") (Or.inl (wd_25 hw)) Via.refl e72 f74 (g := (mkF m 194 #[.val (.ref oa), .val (.int xs), .val (.int xe), .val (.long qh), .second, .val (.long qc), .second] [(.ref oa)])) rfl rfl (hb hby d4_194)
      refine ownEnds.law st75 ?_
      show ownEnds _ _ _ _ (T75.setTop (mkF m 197 #[.val (.ref oa), .val (.int xs), .val (.int xe), .val (.long qh), .second, .val (.long qc), .second] [(.ref s3)]))
      refine ownEnds.law (fun t k => XS.aloadN X75.here hx rfl (hb hby d4_197) rfl rfl k) ?_
      show ownEnds _ _ _ _ (T75.setTop (mkF m 198 #[.val (.ref oa), .val (.int xs), .val (.int xe), .val (.long qh), .second, .val (.long qc), .second] [(.ref oa), (.ref s3)]))
      have f76 := (Fld.other W72 f70 (Or.inl n2))
      obtain ⟨T77, X77, e77, st77⟩ := getF X75 hx hZ hown (host := "") (Or.inl (wd_46 hw)) Via.refl e75 f76 (g := (mkF m 198 #[.val (.ref oa), .val (.int xs), .val (.int xe), .val (.long qh), .second, .val (.long qc), .second] [(.ref oa), (.ref s3)])) rfl rfl (hb hby d4_198)
      refine ownEnds.law st77 ?_
      show ownEnds _ _ _ _ (T77.setTop (mkF m 201 #[.val (.ref oa), .val (.int xs), .val (.int xe), .val (.long qh), .second, .val (.long qc), .second] [(.int sz), (.ref s3)]))
      refine ownEnds.law (fun t k => XS.lloadN X77.here hx rfl (hb hby d4_201) rfl k) ?_
      show ownEnds _ _ _ _ (T77.setTop (mkF m 202 #[.val (.ref oa), .val (.int xs), .val (.int xe), .val (.long qh), .second, .val (.long qc), .second] [(.long qh), (.int sz), (.ref s3)]))
      have f79 := (Arv.other (Arv.other (Arv.other (Arv.ext f58 E55) W61 (Ne.symm n3)) W66 (Ne.symm n5)) W72 (Ne.symm n6))
      obtain ⟨cl78, Ar78, q78, S78, N78, H78, G78⟩ := id f79
      obtain ⟨T78, h78, X78, e78, W78, st78⟩ := stJ X77 hx hZ e77 Ar78 (j := sz) (inb_of S78 (hsz)) (g := (mkF m 202 #[.val (.ref oa), .val (.int xs), .val (.int xe), .val (.long qh), .second, .val (.long qc), .second] [(.long qh), (.int sz), (.ref s3)])) rfl rfl (hb hby d4_202)
      refine ownEnds.law st78 ?_
      have V78 : Arv Z h78 s3 k3 .long (4 : Int32) (v3.set (sz).toNatClampNeg (.long qh)) (.long (0 : Int64)) := Arv.set Ar78 q78 S78 N78 H78 G78 rfl W78 _ rfl (by rw [l3]; exact (own_n1 hsz).2)
      have N78 := Fr.snoc X78 N72 g_s3
      have KK78 : Keep h0 h78 [oa, s1, s2, s3] := (KK72).wr W78 (Or.inl (List.mem_of_getElem? (i := 3) rfl))
      have Z78 : n0 ≤ h78.size := by rw [W78.size]; exact Z72
      show ownEnds _ _ _ _ (T78.setTop (mkF m 203 #[.val (.ref oa), .val (.int xs), .val (.int xe), .val (.long qh), .second, .val (.long qc), .second] []))
      refine ownEnds.law (fun t k => XS.aloadN X78.here hx rfl (hb hby d4_203) rfl rfl k) ?_
      show ownEnds _ _ _ _ (T78.setTop (mkF m 204 #[.val (.ref oa), .val (.int xs), .val (.int xe), .val (.long qh), .second, .val (.long qc), .second] [(.ref oa)]))
      have f80 := (Fld.other W78 (Fld.other W72 (Fld.other W66 Fw61 (Or.inl n1)) (Or.inl n2)) (Or.inl n3))
      obtain ⟨T81, X81, e81, st81⟩ := getF X78 hx hZ hown (host := "") (Or.inl (wd_48 hw)) Via.refl e78 f80 (g := (mkF m 204 #[.val (.ref oa), .val (.int xs), .val (.int xe), .val (.long qh), .second, .val (.long qc), .second] [(.ref oa)])) rfl rfl (hb hby d4_204)
      refine ownEnds.law st81 ?_
      show ownEnds _ _ _ _ (T81.setTop (mkF m 207 #[.val (.ref oa), .val (.int xs), .val (.int xe), .val (.long qh), .second, .val (.long qc), .second] [(.ref b55)]))
      refine ownEnds.law (fun t k => XS.ifnullNo X81.here hx rfl (hb hby d4_207) rfl (XS.aloadN X81.here hx rfl (hb hby d4_210) rfl rfl k)) ?_
      show ownEnds _ _ _ _ (T81.setTop (mkF m 211 #[.val (.ref oa), .val (.int xs), .val (.int xe), .val (.long qh), .second, .val (.long qc), .second] [(.ref oa)]))
      obtain ⟨T82, X82, e82, st82⟩ := getF X81 hx hZ hown (host := "") (Or.inl (wd_48 hw)) Via.refl e81 f80 (g := (mkF m 211 #[.val (.ref oa), .val (.int xs), .val (.int xe), .val (.long qh), .second, .val (.long qc), .second] [(.ref oa)])) rfl rfl (hb hby d4_211)
      refine ownEnds.law st82 ?_
      show ownEnds _ _ _ _ (T82.setTop (mkF m 214 #[.val (.ref oa), .val (.int xs), .val (.int xe), .val (.long qh), .second, .val (.long qc), .second] [(.ref b55)]))
      refine ownEnds.law (fun t k => XS.aloadN X82.here hx rfl (hb hby d4_214) rfl rfl k) ?_
      show ownEnds _ _ _ _ (T82.setTop (mkF m 215 #[.val (.ref oa), .val (.int xs), .val (.int xe), .val (.long qh), .second, .val (.long qc), .second] [(.ref oa), (.ref b55)]))
      have f83 := (Fld.other W78 f76 (Or.inl n3))
      obtain ⟨T84, X84, e84, st84⟩ := getF X82 hx hZ hown (host := "") (Or.inl (wd_46 hw)) Via.refl e82 f83 (g := (mkF m 215 #[.val (.ref oa), .val (.int xs), .val (.int xe), .val (.long qh), .second, .val (.long qc), .second] [(.ref oa), (.ref b55)])) rfl rfl (hb hby d4_215)
      refine ownEnds.law st84 ?_
      show ownEnds _ _ _ _ (T84.setTop (mkF m 218 #[.val (.ref oa), .val (.int xs), .val (.int xe), .val (.long qh), .second, .val (.long qc), .second] [(.int sz), (.ref b55)]))
      refine ownEnds.law (fun t k => XS.lload X84.here hx rfl (hb hby d4_218) rfl k) ?_
      show ownEnds _ _ _ _ (T84.setTop (mkF m 220 #[.val (.ref oa), .val (.int xs), .val (.int xe), .val (.long qh), .second, .val (.long qc), .second] [(.long qc), (.int sz), (.ref b55)]))
      have f86 := (Arv.other (Arv.other (Arv.other (Arv.other V_b55 W61 (Ne.symm ne_oa_b55)) W66 (Ne.symm ne_s1_b55)) W72 (Ne.symm ne_s2_b55)) W78 (Ne.symm ne_s3_b55))
      obtain ⟨cl85, Ar85, q85, S85, N85, H85, G85⟩ := id f86
      obtain ⟨T85, h85, X85, e85, W85, st85⟩ := stJ X84 hx hZ e84 Ar85 (j := sz) (inb_of S85 (hsz)) (g := (mkF m 220 #[.val (.ref oa), .val (.int xs), .val (.int xe), .val (.long qh), .second, .val (.long qc), .second] [(.long qc), (.int sz), (.ref b55)])) rfl rfl (hb hby d4_220)
      refine ownEnds.law st85 ?_
      have V85 : Arv Z h85 b55 k55 .long (4 : Int32) (([(.long (0 : Int64)), (.long (0 : Int64)), (.long (0 : Int64)), (.long (0 : Int64))] : List Value).set (sz).toNatClampNeg (.long qc)) (.long (0 : Int64)) := Arv.set Ar85 q85 S85 N85 H85 G85 rfl W85 _ rfl ((own_n1 hsz).2)
      have N85 := Fr.snoc X85 N78 g_b55
      have KK85 : Keep h0 h85 [oa, s1, s2, s3] := (KK78).wr W85 (Or.inr sz_b55)
      have Z85 : n0 ≤ h85.size := by rw [W85.size]; exact Z78
      show ownEnds _ _ _ _ (T85.setTop (mkF m 221 #[.val (.ref oa), .val (.int xs), .val (.int xe), .val (.long qh), .second, .val (.long qc), .second] []))
      refine ownEnds.law (fun t k => XS.aloadN X85.here hx rfl (hb hby d4_221) rfl rfl (XS.dup X85.here hx rfl (hb hby d4_222) rfl rfl k)) ?_
      show ownEnds _ _ _ _ (T85.setTop (mkF m 223 #[.val (.ref oa), .val (.int xs), .val (.int xe), .val (.long qh), .second, .val (.long qc), .second] [(.ref oa), (.ref oa)]))
      have f87 := (Fld.other W85 f83 (Or.inl ne_oa_b55))
      obtain ⟨T88, X88, e88, st88⟩ := getF X85 hx hZ hown (host := "") (Or.inl (wd_46 hw)) Via.refl e85 f87 (g := (mkF m 223 #[.val (.ref oa), .val (.int xs), .val (.int xe), .val (.long qh), .second, .val (.long qc), .second] [(.ref oa), (.ref oa)])) rfl rfl (hb hby d4_223)
      refine ownEnds.law st88 ?_
      show ownEnds _ _ _ _ (T88.setTop (mkF m 226 #[.val (.ref oa), .val (.int xs), .val (.int xe), .val (.long qh), .second, .val (.long qc), .second] [(.int sz), (.ref oa)]))
      refine ownEnds.law (fun t k => XS.iconst X88.here hx rfl (hb hby d4_226) (XS.iadd X88.here hx rfl (hb hby d4_227) rfl k)) ?_
      show ownEnds _ _ _ _ (T88.setTop (mkF m 228 #[.val (.ref oa), .val (.int xs), .val (.int xe), .val (.long qh), .second, .val (.long qc), .second] [(.int (sz + (1 : Int32))), (.ref oa)]))
      have f89 := (Exa.wr W85 (Exa.wr W78 (Exa.wr W72 (Exa.wr W66 (Exa.wr W61 f59)))))
      obtain ⟨T90, h90, X90, e90, W90, st90⟩ := putF X88 hx hZ hown (host := "") (Or.inl (wd_46 hw)) Via.refl e88 f87 f89 (Or.inl (wd_47 hw)) (wd_5 hw) (ty := .int) (by decide) rfl rfl (g := (mkF m 228 #[.val (.ref oa), .val (.int xs), .val (.int xe), .val (.long qh), .second, .val (.long qc), .second] [(.int (sz + (1 : Int32))), (.ref oa)])) rfl rfl (hb hby d4_228)
      refine ownEnds.law st90 ?_
      have N90 := Fr.snoc X90 N85 g_oa
      have KK90 : Keep h0 h90 [oa, s1, s2, s3] := (KK85).wr W90 (Or.inl (List.mem_of_getElem? (i := 0) rfl))
      have Z90 : n0 ≤ h90.size := by rw [W90.size]; exact Z85
      have Fw90 : Fld Z h90 oa "com/example/vestline/vestline/engine/PayrollRows" "size" "I" (.int (sz + (1 : Int32))) := Fld.same W90 f87
      show ownEnds _ _ _ _ (T90.setTop (mkF m 231 #[.val (.ref oa), .val (.int xs), .val (.int xe), .val (.long qh), .second, .val (.long qc), .second] []))
      refine ownRetV X90 hlk hx hret (hb hby d4_231) (by decide) (by decide) ?_
      have f91 := (Fld.other W90 (Fld.other W85 f80 (Or.inl ne_oa_b55)) (Or.inr (slot_ne (Or.inl (wd_49 hw)) (Or.inl (wd_47 hw)) (by decide) (t := (.array .long)) (t' := .int) (by decide) (by decide))))
      have f92 := (Arv.other V85 W90 (Ne.symm ne_oa_b55))
      have f93 := (Exa.wr W90 f89)
      have f94 := (Fld.other W90 (Fld.other W85 (Fld.other W78 (Fld.other W72 (Fld.other W66 (Fld.other W61 (Fld.ext E55 (Fld.other W10 (Fld.other W5 F1 (Or.inr (slot_ne (Or.inl (wd_34 hw)) (Or.inl (wd_15 hw)) (by decide) (t := (.object "java/util/NavigableMap")) (t' := .int) (by decide) (by decide)))) (Or.inr (slot_ne (Or.inl (wd_34 hw)) (Or.inl (wd_18 hw)) (by decide) (t := (.object "java/util/NavigableMap")) (t' := .int) (by decide) (by decide))))) (Or.inr (slot_ne (Or.inl (wd_34 hw)) (Or.inl (wd_49 hw)) (by decide) (t := (.object "java/util/NavigableMap")) (t' := (.array .long)) (by decide) (by decide)))) (Or.inl n1)) (Or.inl n2)) (Or.inl n3)) (Or.inl ne_oa_b55)) (Or.inr (slot_ne (Or.inl (wd_34 hw)) (Or.inl (wd_47 hw)) (by decide) (t := (.object "java/util/NavigableMap")) (t' := .int) (by decide) (by decide))))
      have f95 := (Fld.other W90 (Fld.other W85 (Fld.other W78 (Fld.other W72 (Fld.other W66 (Fld.other W61 (Fld.ext E55 (Fld.other W10 Fw5 (Or.inr (slot_ne (Or.inl (wd_15 hw)) (Or.inl (wd_18 hw)) (by decide) (t := .int) (t' := .int) (by decide) (by decide))))) (Or.inr (slot_ne (Or.inl (wd_15 hw)) (Or.inl (wd_49 hw)) (by decide) (t := .int) (t' := (.array .long)) (by decide) (by decide)))) (Or.inl n1)) (Or.inl n2)) (Or.inl n3)) (Or.inl ne_oa_b55)) (Or.inr (slot_ne (Or.inl (wd_15 hw)) (Or.inl (wd_47 hw)) (by decide) (t := .int) (t' := .int) (by decide) (by decide))))
      have f96 := (Fld.other W90 (Fld.other W85 (Fld.other W78 (Fld.other W72 (Fld.other W66 (Fld.other W61 (Fld.ext E55 Fw10) (Or.inr (slot_ne (Or.inl (wd_18 hw)) (Or.inl (wd_49 hw)) (by decide) (t := .int) (t' := (.array .long)) (by decide) (by decide)))) (Or.inl n1)) (Or.inl n2)) (Or.inl n3)) (Or.inl ne_oa_b55)) (Or.inr (slot_ne (Or.inl (wd_18 hw)) (Or.inl (wd_47 hw)) (by decide) (t := .int) (t' := .int) (by decide) (by decide))))
      have f97 := (Fld.other W90 (Fld.other W85 (Fld.other W78 (Fld.other W72 (Fld.other W66 f62 (Or.inl n1)) (Or.inl n2)) (Or.inl n3)) (Or.inl ne_oa_b55)) (Or.inr (slot_ne (Or.inl (wd_21 hw)) (Or.inl (wd_47 hw)) (by decide) (t := (.array .int)) (t' := .int) (by decide) (by decide))))
      have f98 := (Fld.other W90 (Fld.other W85 (Fld.other W78 (Fld.other W72 f68 (Or.inl n2)) (Or.inl n3)) (Or.inl ne_oa_b55)) (Or.inr (slot_ne (Or.inl (wd_23 hw)) (Or.inl (wd_47 hw)) (by decide) (t := (.array .int)) (t' := .int) (by decide) (by decide))))
      have f99 := (Fld.other W90 (Fld.other W85 (Fld.other W78 f74 (Or.inl n3)) (Or.inl ne_oa_b55)) (Or.inr (slot_ne (Or.inl (wd_26 hw)) (Or.inl (wd_47 hw)) (by decide) (t := (.array .long)) (t' := .int) (by decide) (by decide))))
      have f100 := (Arv.other (Arv.other (Arv.other (Arv.other V66 W72 n4) W78 n5) W85 ne_s1_b55) W90 (Ne.symm n1))
      have f101 := (Arv.other (Arv.other (Arv.other V72 W78 n6) W85 ne_s2_b55) W90 (Ne.symm n2))
      have f102 := (Arv.other (Arv.other V78 W85 ne_s3_b55) W90 (Ne.symm n3))
      rw [e90]
      exact ⟨rfl, N90, (KK90).1, ⟨(FMin fs xs), s1, s2, s3, k1, k2, k3, (v1.set (sz).toNatClampNeg (.int xs)), (v2.set (sz).toNatClampNeg (.int xe)), (v3.set (sz).toNatClampNeg (.long qh)), ⟨g_oa, g_s1, g_s2, g_s3⟩, ⟨n1, n2, n3, n4, n5, n6⟩, ⟨by rw [List.length_set]; exact l1, by rw [List.length_set]; exact l2, by rw [List.length_set]; exact l3, by rw [List.length_append, l4, (own_n1 hsz).1]; rfl⟩, f93, f94, f95, f96, Fw90, f97, f98, f99, f100, f101, f102, Or.inr ⟨b55, k55, (([(.long (0 : Int64)), (.long (0 : Int64)), (.long (0 : Int64)), (.long (0 : Int64))] : List Value).set (sz).toNatClampNeg (.long qc)), g_b55, ⟨ne_oa_b55, ne_s1_b55, ne_s2_b55, ne_s3_b55⟩, (by rw [List.length_set]; rfl), f91, f92, own_c3 l4 (own_n1 hsz).2 (own_zz hz own_z4)⟩⟩⟩
  · show ownEnds _ _ _ _ (T0.setTop (mkF m 0 #[.val (.ref oa), .val (.int xs), .val (.int xe), .val (.long qh), .second, .val (.long qc), .second] []))
    refine ownEnds.law (fun t k => XS.aloadN X0.here hx rfl (hb hby d4_0) rfl rfl k) ?_
    show ownEnds _ _ _ _ (T0.setTop (mkF m 1 #[.val (.ref oa), .val (.int xs), .val (.int xe), .val (.long qh), .second, .val (.long qc), .second] [(.ref oa)]))
    obtain ⟨T103, X103, e103, st103⟩ := getF X0 hx hZ hown (host := "") (Or.inl (wd_33 hw)) Via.refl e0 F1 (g := (mkF m 1 #[.val (.ref oa), .val (.int xs), .val (.int xe), .val (.long qh), .second, .val (.long qc), .second] [(.ref oa)])) rfl rfl (hb hby d4_1)
    refine ownEnds.law st103 ?_
    show ownEnds _ _ _ _ (T103.setTop (mkF m 4 #[.val (.ref oa), .val (.int xs), .val (.int xe), .val (.long qh), .second, .val (.long qc), .second] [.null]))
    refine ownEnds.law (fun t k => XS.ifnonnullNo X103.here hx rfl (hb hby d4_4) rfl (XS.aloadN X103.here hx rfl (hb hby d4_7) rfl rfl (XS.iloadN X103.here hx rfl (hb hby d4_8) rfl (XS.iloadN X103.here hx rfl (hb hby d4_9) rfl k)))) ?_
    show ownEnds _ _ _ _ (T103.setTop (mkF m 10 #[.val (.ref oa), .val (.int xs), .val (.int xe), .val (.long qh), .second, .val (.long qc), .second] [(.int xe), (.int xs), (.ref oa)]))
    obtain ⟨v104, T104, L104, X104, hQ104, st104⟩ := ownCallP X103 hx hZ hown (y := (⟨"com/example/vestline/vestline/engine/PayrollRows", "isAmongRows", "(II)Z"⟩ : MethodName)) (z := (⟨"com/example/vestline/vestline/engine/PayrollRows", "add", "(IIJJ)V"⟩ : MethodName)) (a := oa) (as := [(.int xs), (.int xe)]) (wd_35 hw) rfl (wd_31 hw) (wd_36 hw) (wd_37 hw) (wd_6 hw) (wd_38 hw) (by decide) (rm5 l Z a0 hw oa xs xe le fs h0 n0 Z0 F3 F2) e103 E_oa 0 (by decide) (by decide) (by decide) (by decide) (g := (mkF m 10 #[.val (.ref oa), .val (.int xs), .val (.int xe), .val (.long qh), .second, .val (.long qc), .second] [(.int xe), (.int xs), (.ref oa)])) rfl (by rw [hml]; rfl) (rest := []) pd_1 rfl rfl (by show 2 * 0 + _ ≤ _; exact Nat.le_of_eq rfl) (hb hby d4_10)
    obtain ⟨rfl, rfl, e104⟩ := hQ104
    rw [List.append_nil] at X104
    refine ownEnds.law st104 ?_
    show ownEnds _ _ _ _ (T104.setTop (mkF m 13 #[.val (.ref oa), .val (.int xs), .val (.int xe), .val (.long qh), .second, .val (.long qc), .second] [(.int (FA le fs xs xe))]))
    have hc13 : (FA le fs xs xe) = (0 : Int32) := if_pos hlt
    refine ownEnds.law (fun t => XS.ifYes X104.here hx rfl (pc0 := 13) (pc' := 37) rfl (hb hby d4_13) rfl ((if0 _ _).trans (teq hc13).1) (by decide) (by decide)) ?_
    show ownEnds _ _ _ _ (T104.setTop (mkF m 37 #[.val (.ref oa), .val (.int xs), .val (.int xe), .val (.long qh), .second, .val (.long qc), .second] []))
    refine ownEnds.law (fun t k => XS.aloadN X104.here hx rfl (hb hby d4_37) rfl rfl (XS.aloadN X104.here hx rfl (hb hby d4_38) rfl rfl k)) ?_
    show ownEnds _ _ _ _ (T104.setTop (mkF m 39 #[.val (.ref oa), .val (.int xs), .val (.int xe), .val (.long qh), .second, .val (.long qc), .second] [(.ref oa), (.ref oa)]))
    obtain ⟨T105, X105, e105, st105⟩ := getF X104 hx hZ hown (host := "") (Or.inl (wd_14 hw)) Via.refl e104 F2 (g := (mkF m 39 #[.val (.ref oa), .val (.int xs), .val (.int xe), .val (.long qh), .second, .val (.long qc), .second] [(.ref oa), (.ref oa)])) rfl rfl (hb hby d4_39)
    refine ownEnds.law st105 ?_
    show ownEnds _ _ _ _ (T105.setTop (mkF m 42 #[.val (.ref oa), .val (.int xs), .val (.int xe), .val (.long qh), .second, .val (.long qc), .second] [(.int fs), (.ref oa)]))
    refine ownEnds.law (fun t k => XS.iloadN X105.here hx rfl (hb hby d4_42) rfl k) ?_
    show ownEnds _ _ _ _ (T105.setTop (mkF m 43 #[.val (.ref oa), .val (.int xs), .val (.int xe), .val (.long qh), .second, .val (.long qc), .second] [(.int xs), (.int fs), (.ref oa)]))
    obtain ⟨v106, T106, L106, X106, hQ106, st106⟩ := ownCallS X105 hx hZ hown (y := (⟨"java/lang/Math", "min", "(II)I"⟩ : MethodName)) (as := [(.int fs), (.int xs)]) (wd_39 hw) (wd_40 hw) (wd_41 hw) (wd_42 hw) (by decide) (rm6 l Z a0 hw fs xs  h0 n0 Z0 ) e105 1 (by decide) (by decide) (by decide) (by decide) (g := (mkF m 43 #[.val (.ref oa), .val (.int xs), .val (.int xe), .val (.long qh), .second, .val (.long qc), .second] [(.int xs), (.int fs), (.ref oa)])) rfl (by rw [hml]; rfl) (rest := [(.ref oa)]) pd_0 rfl rfl (by show 2 * 0 + _ ≤ _; exact Nat.le_of_eq rfl) (hb hby d4_43)
    obtain ⟨rfl, rfl, e106⟩ := hQ106
    rw [List.append_nil] at X106
    refine ownEnds.law st106 ?_
    show ownEnds _ _ _ _ (T106.setTop (mkF m 46 #[.val (.ref oa), .val (.int xs), .val (.int xe), .val (.long qh), .second, .val (.long qc), .second] [(.int (FMin fs xs)), (.ref oa)]))
    obtain ⟨T107, h107, X107, e107, W107, st107⟩ := putF X106 hx hZ hown (host := "") (Or.inl (wd_14 hw)) Via.refl e106 F2 E_oa (Or.inl (wd_15 hw)) (wd_5 hw) (ty := .int) (by decide) rfl rfl (g := (mkF m 46 #[.val (.ref oa), .val (.int xs), .val (.int xe), .val (.long qh), .second, .val (.long qc), .second] [(.int (FMin fs xs)), (.ref oa)])) rfl rfl (hb hby d4_46)
    refine ownEnds.law st107 ?_
    have N107 := Fr.snoc X107 (Fr.nil n0) g_oa
    have KK107 : Keep h0 h107 [oa, s1, s2, s3, c0] := (Keep.refl h0 [oa, s1, s2, s3, c0]).wr W107 (Or.inl (List.mem_of_getElem? (i := 0) rfl))
    have Z107 : n0 ≤ h107.size := by rw [W107.size]; exact Z0
    have Fw107 : Fld Z h107 oa "com/example/vestline/vestline/engine/PayrollRows" "firstPeriodStart" "I" (.int (FMin fs xs)) := Fld.same W107 F2
    show ownEnds _ _ _ _ (T107.setTop (mkF m 49 #[.val (.ref oa), .val (.int xs), .val (.int xe), .val (.long qh), .second, .val (.long qc), .second] []))
    refine ownEnds.law (fun t k => XS.aloadN X107.here hx rfl (hb hby d4_49) rfl rfl (XS.aloadN X107.here hx rfl (hb hby d4_50) rfl rfl k)) ?_
    show ownEnds _ _ _ _ (T107.setTop (mkF m 51 #[.val (.ref oa), .val (.int xs), .val (.int xe), .val (.long qh), .second, .val (.long qc), .second] [(.ref oa), (.ref oa)]))
    have f108 := (Fld.other W107 F3 (Or.inr (slot_ne (Or.inl (wd_18 hw)) (Or.inl (wd_15 hw)) (by decide) (t := .int) (t' := .int) (by decide) (by decide))))
    obtain ⟨T109, X109, e109, st109⟩ := getF X107 hx hZ hown (host := "") (Or.inl (wd_17 hw)) Via.refl e107 f108 (g := (mkF m 51 #[.val (.ref oa), .val (.int xs), .val (.int xe), .val (.long qh), .second, .val (.long qc), .second] [(.ref oa), (.ref oa)])) rfl rfl (hb hby d4_51)
    refine ownEnds.law st109 ?_
    show ownEnds _ _ _ _ (T109.setTop (mkF m 54 #[.val (.ref oa), .val (.int xs), .val (.int xe), .val (.long qh), .second, .val (.long qc), .second] [(.int le), (.ref oa)]))
    refine ownEnds.law (fun t k => XS.iloadN X109.here hx rfl (hb hby d4_54) rfl k) ?_
    show ownEnds _ _ _ _ (T109.setTop (mkF m 55 #[.val (.ref oa), .val (.int xs), .val (.int xe), .val (.long qh), .second, .val (.long qc), .second] [(.int xe), (.int le), (.ref oa)]))
    obtain ⟨v110, T110, L110, X110, hQ110, st110⟩ := ownCallS X109 hx hZ hown (y := (⟨"java/lang/Math", "max", "(II)I"⟩ : MethodName)) (as := [(.int le), (.int xe)]) (wd_43 hw) (wd_44 hw) (wd_41 hw) (wd_45 hw) (by decide) (rm7 l Z a0 hw le xe  h107 n0 Z107 ) e109 1 (by decide) (by decide) (by decide) (by decide) (g := (mkF m 55 #[.val (.ref oa), .val (.int xs), .val (.int xe), .val (.long qh), .second, .val (.long qc), .second] [(.int xe), (.int le), (.ref oa)])) rfl (by rw [hml]; rfl) (rest := [(.ref oa)]) pd_0 rfl rfl (by show 2 * 0 + _ ≤ _; exact Nat.le_of_eq rfl) (hb hby d4_55)
    obtain ⟨rfl, rfl, e110⟩ := hQ110
    rw [List.append_nil] at X110
    refine ownEnds.law st110 ?_
    show ownEnds _ _ _ _ (T110.setTop (mkF m 58 #[.val (.ref oa), .val (.int xs), .val (.int xe), .val (.long qh), .second, .val (.long qc), .second] [(.int (FMax le xe)), (.ref oa)]))
    have f111 := (Exa.wr W107 E_oa)
    obtain ⟨T112, h112, X112, e112, W112, st112⟩ := putF X110 hx hZ hown (host := "") (Or.inl (wd_17 hw)) Via.refl e110 f108 f111 (Or.inl (wd_18 hw)) (wd_5 hw) (ty := .int) (by decide) rfl rfl (g := (mkF m 58 #[.val (.ref oa), .val (.int xs), .val (.int xe), .val (.long qh), .second, .val (.long qc), .second] [(.int (FMax le xe)), (.ref oa)])) rfl rfl (hb hby d4_58)
    refine ownEnds.law st112 ?_
    have N112 := Fr.snoc X112 N107 g_oa
    have KK112 : Keep h0 h112 [oa, s1, s2, s3, c0] := (KK107).wr W112 (Or.inl (List.mem_of_getElem? (i := 0) rfl))
    have Z112 : n0 ≤ h112.size := by rw [W112.size]; exact Z107
    have Fw112 : Fld Z h112 oa "com/example/vestline/vestline/engine/PayrollRows" "lastPeriodEnd" "I" (.int (FMax le xe)) := Fld.same W112 f108
    show ownEnds _ _ _ _ (T112.setTop (mkF m 61 #[.val (.ref oa), .val (.int xs), .val (.int xe), .val (.long qh), .second, .val (.long qc), .second] []))
    refine ownEnds.law (fun t k => XS.aloadN X112.here hx rfl (hb hby d4_61) rfl rfl k) ?_
    show ownEnds _ _ _ _ (T112.setTop (mkF m 62 #[.val (.ref oa), .val (.int xs), .val (.int xe), .val (.long qh), .second, .val (.long qc), .second] [(.ref oa)]))
    have f113 := (Fld.other W112 (Fld.other W107 F4 (Or.inr (slot_ne (Or.inl (wd_47 hw)) (Or.inl (wd_15 hw)) (by decide) (t := .int) (t' := .int) (by decide) (by decide)))) (Or.inr (slot_ne (Or.inl (wd_47 hw)) (Or.inl (wd_18 hw)) (by decide) (t := .int) (t' := .int) (by decide) (by decide))))
    obtain ⟨T114, X114, e114, st114⟩ := getF X112 hx hZ hown (host := "") (Or.inl (wd_46 hw)) Via.refl e112 f113 (g := (mkF m 62 #[.val (.ref oa), .val (.int xs), .val (.int xe), .val (.long qh), .second, .val (.long qc), .second] [(.ref oa)])) rfl rfl (hb hby d4_62)
    refine ownEnds.law st114 ?_
    show ownEnds _ _ _ _ (T114.setTop (mkF m 65 #[.val (.ref oa), .val (.int xs), .val (.int xe), .val (.long qh), .second, .val (.long qc), .second] [(.int sz)]))
    refine ownEnds.law (fun t k => XS.aloadN X114.here hx rfl (hb hby d4_65) rfl rfl k) ?_
    show ownEnds _ _ _ _ (T114.setTop (mkF m 66 #[.val (.ref oa), .val (.int xs), .val (.int xe), .val (.long qh), .second, .val (.long qc), .second] [(.ref oa), (.int sz)]))
    have f115 := (Fld.other W112 (Fld.other W107 F6 (Or.inr (slot_ne (Or.inl (wd_23 hw)) (Or.inl (wd_15 hw)) (by decide) (t := (.array .int)) (t' := .int) (by decide) (by decide)))) (Or.inr (slot_ne (Or.inl (wd_23 hw)) (Or.inl (wd_18 hw)) (by decide) (t := (.array .int)) (t' := .int) (by decide) (by decide))))
    obtain ⟨T116, X116, e116, st116⟩ := getF X114 hx hZ hown (host := "") (Or.inl (wd_22 hw)) Via.refl e114 f115 (g := (mkF m 66 #[.val (.ref oa), .val (.int xs), .val (.int xe), .val (.long qh), .second, .val (.long qc), .second] [(.ref oa), (.int sz)])) rfl rfl (hb hby d4_66)
    refine ownEnds.law st116 ?_
    show ownEnds _ _ _ _ (T116.setTop (mkF m 69 #[.val (.ref oa), .val (.int xs), .val (.int xe), .val (.long qh), .second, .val (.long qc), .second] [(.ref s2), (.int sz)]))
    have f118 := (Arv.other (Arv.other V2 W107 (Ne.symm n2)) W112 (Ne.symm n2))
    obtain ⟨cl117, Ar117, -, S117, N117, -, -⟩ := id f118
    refine ownEnds.law (X116.arraylength hx (by rw [e116]; exact Ar117.1) (State.isArrayOf_alike hZ.alike Ar117.2.1) (g := (mkF m 69 #[.val (.ref oa), .val (.int xs), .val (.int xe), .val (.long qh), .second, .val (.long qc), .second] [(.ref s2), (.int sz)])) rfl rfl (hb hby d4_69)) ?_
    rw [len_of S117 N117]
    show ownEnds _ _ _ _ (T116.setTop (mkF m 70 #[.val (.ref oa), .val (.int xs), .val (.int xe), .val (.long qh), .second, .val (.long qc), .second] [(.int (4 : Int32)), (.int sz)]))
    have hc70 : ¬ (sz = (4 : Int32)) := own_n4 hsz
    refine ownEnds.law (fun t => XS.icmpYes X116.here hx rfl (pc0 := 70) (pc' := 148) rfl (hb hby d4_70) rfl (feq hc70).2 (by decide) (by decide)) ?_
    show ownEnds _ _ _ _ (T116.setTop (mkF m 148 #[.val (.ref oa), .val (.int xs), .val (.int xe), .val (.long qh), .second, .val (.long qc), .second] []))
    refine ownEnds.law (fun t k => XS.aloadN X116.here hx rfl (hb hby d4_148) rfl rfl k) ?_
    show ownEnds _ _ _ _ (T116.setTop (mkF m 149 #[.val (.ref oa), .val (.int xs), .val (.int xe), .val (.long qh), .second, .val (.long qc), .second] [(.ref oa)]))
    have f119 := (Fld.other W112 (Fld.other W107 FC (Or.inr (slot_ne (Or.inl (wd_49 hw)) (Or.inl (wd_15 hw)) (by decide) (t := (.array .long)) (t' := .int) (by decide) (by decide)))) (Or.inr (slot_ne (Or.inl (wd_49 hw)) (Or.inl (wd_18 hw)) (by decide) (t := (.array .long)) (t' := .int) (by decide) (by decide))))
    obtain ⟨T120, X120, e120, st120⟩ := getF X116 hx hZ hown (host := "") (Or.inl (wd_48 hw)) Via.refl e116 f119 (g := (mkF m 149 #[.val (.ref oa), .val (.int xs), .val (.int xe), .val (.long qh), .second, .val (.long qc), .second] [(.ref oa)])) rfl rfl (hb hby d4_149)
    refine ownEnds.law st120 ?_
    show ownEnds _ _ _ _ (T120.setTop (mkF m 152 #[.val (.ref oa), .val (.int xs), .val (.int xe), .val (.long qh), .second, .val (.long qc), .second] [(.ref c0)]))
    refine ownEnds.law (fun t k => XS.ifnonnullYes X120.here hx rfl (pc0 := 152) (pc' := 173) rfl (hb hby d4_152) rfl (by decide) (by decide) (XS.aloadN X120.here hx rfl (hb hby d4_173) rfl rfl k)) ?_
    show ownEnds _ _ _ _ (T120.setTop (mkF m 174 #[.val (.ref oa), .val (.int xs), .val (.int xe), .val (.long qh), .second, .val (.long qc), .second] [(.ref oa)]))
    have f121 := (Fld.other W112 (Fld.other W107 F5 (Or.inr (slot_ne (Or.inl (wd_21 hw)) (Or.inl (wd_15 hw)) (by decide) (t := (.array .int)) (t' := .int) (by decide) (by decide)))) (Or.inr (slot_ne (Or.inl (wd_21 hw)) (Or.inl (wd_18 hw)) (by decide) (t := (.array .int)) (t' := .int) (by decide) (by decide))))
    obtain ⟨T122, X122, e122, st122⟩ := getF X120 hx hZ hown (host := "") (Or.inl (wd_20 hw)) Via.refl e120 f121 (g := (mkF m 174 #[.val (.ref oa), .val (.int xs), .val (.int xe), .val (.long qh), .second, .val (.long qc), .second] [(.ref oa)])) rfl rfl (hb hby d4_174)
    refine ownEnds.law st122 ?_
    show ownEnds _ _ _ _ (T122.setTop (mkF m 177 #[.val (.ref oa), .val (.int xs), .val (.int xe), .val (.long qh), .second, .val (.long qc), .second] [(.ref s1)]))
    refine ownEnds.law (fun t k => XS.aloadN X122.here hx rfl (hb hby d4_177) rfl rfl k) ?_
    show ownEnds _ _ _ _ (T122.setTop (mkF m 178 #[.val (.ref oa), .val (.int xs), .val (.int xe), .val (.long qh), .second, .val (.long qc), .second] [(.ref oa), (.ref s1)]))
    obtain ⟨T123, X123, e123, st123⟩ := getF X122 hx hZ hown (host := "") (Or.inl (wd_46 hw)) Via.refl e122 f113 (g := (mkF m 178 #[.val (.ref oa), .val (.int xs), .val (.int xe), .val (.long qh), .second, .val (.long qc), .second] [(.ref oa), (.ref s1)])) rfl rfl (hb hby d4_178)
    refine ownEnds.law st123 ?_
    show ownEnds _ _ _ _ (T123.setTop (mkF m 181 #[.val (.ref oa), .val (.int xs), .val (.int xe), .val (.long qh), .second, .val (.long qc), .second] [(.int sz), (.ref s1)]))
    refine ownEnds.law (fun t k => XS.iloadN X123.here hx rfl (hb hby d4_181) rfl k) ?_
    show ownEnds _ _ _ _ (T123.setTop (mkF m 182 #[.val (.ref oa), .val (.int xs), .val (.int xe), .val (.long qh), .second, .val (.long qc), .second] [(.int xs), (.int sz), (.ref s1)]))
    have f125 := (Arv.other (Arv.other V1 W107 (Ne.symm n1)) W112 (Ne.symm n1))
    obtain ⟨cl124, Ar124, q124, S124, N124, H124, G124⟩ := id f125
    obtain ⟨T124, h124, X124, e124, W124, st124⟩ := stI X123 hx hZ e123 Ar124 (j := sz) (inb_of S124 (hsz)) (g := (mkF m 182 #[.val (.ref oa), .val (.int xs), .val (.int xe), .val (.long qh), .second, .val (.long qc), .second] [(.int xs), (.int sz), (.ref s1)])) rfl rfl (hb hby d4_182)
    refine ownEnds.law st124 ?_
    have V124 : Arv Z h124 s1 k1 .int (4 : Int32) (v1.set (sz).toNatClampNeg (.int xs)) (.int (0 : Int32)) := Arv.set Ar124 q124 S124 N124 H124 G124 rfl W124 _ rfl (by rw [l1]; exact (own_n1 hsz).2)
    have N124 := Fr.snoc X124 N112 g_s1
    have KK124 : Keep h0 h124 [oa, s1, s2, s3, c0] := (KK112).wr W124 (Or.inl (List.mem_of_getElem? (i := 1) rfl))
    have Z124 : n0 ≤ h124.size := by rw [W124.size]; exact Z112
    show ownEnds _ _ _ _ (T124.setTop (mkF m 183 #[.val (.ref oa), .val (.int xs), .val (.int xe), .val (.long qh), .second, .val (.long qc), .second] []))
    refine ownEnds.law (fun t k => XS.aloadN X124.here hx rfl (hb hby d4_183) rfl rfl k) ?_
    show ownEnds _ _ _ _ (T124.setTop (mkF m 184 #[.val (.ref oa), .val (.int xs), .val (.int xe), .val (.long qh), .second, .val (.long qc), .second] [(.ref oa)]))
    have f126 := (Fld.other W124 f115 (Or.inl n1))
    obtain ⟨T127, X127, e127, st127⟩ := getF X124 hx hZ hown (host := "") (Or.inl (wd_22 hw)) Via.refl e124 f126 (g := (mkF m 184 #[.val (.ref oa), .val (.int xs), .val (.int xe), .val (.long qh), .second, .val (.long qc), .second] [(.ref oa)])) rfl rfl (hb hby d4_184)
    refine ownEnds.law st127 ?_
    show ownEnds _ _ _ _ (T127.setTop (mkF m 187 #[.val (.ref oa), .val (.int xs), .val (.int xe), .val (.long qh), .second, .val (.long qc), .second] [(.ref s2)]))
    refine ownEnds.law (fun t k => XS.aloadN X127.here hx rfl (hb hby d4_187) rfl rfl k) ?_
    show ownEnds _ _ _ _ (T127.setTop (mkF m 188 #[.val (.ref oa), .val (.int xs), .val (.int xe), .val (.long qh), .second, .val (.long qc), .second] [(.ref oa), (.ref s2)]))
    have f128 := (Fld.other W124 f113 (Or.inl n1))
    obtain ⟨T129, X129, e129, st129⟩ := getF X127 hx hZ hown (host := "") (Or.inl (wd_46 hw)) Via.refl e127 f128 (g := (mkF m 188 #[.val (.ref oa), .val (.int xs), .val (.int xe), .val (.long qh), .second, .val (.long qc), .second] [(.ref oa), (.ref s2)])) rfl rfl (hb hby d4_188)
    refine ownEnds.law st129 ?_
    show ownEnds _ _ _ _ (T129.setTop (mkF m 191 #[.val (.ref oa), .val (.int xs), .val (.int xe), .val (.long qh), .second, .val (.long qc), .second] [(.int sz), (.ref s2)]))
    refine ownEnds.law (fun t k => XS.iloadN X129.here hx rfl (hb hby d4_191) rfl k) ?_
    show ownEnds _ _ _ _ (T129.setTop (mkF m 192 #[.val (.ref oa), .val (.int xs), .val (.int xe), .val (.long qh), .second, .val (.long qc), .second] [(.int xe), (.int sz), (.ref s2)]))
    have f131 := (Arv.other f118 W124 (Ne.symm n4))
    obtain ⟨cl130, Ar130, q130, S130, N130, H130, G130⟩ := id f131
    obtain ⟨T130, h130, X130, e130, W130, st130⟩ := stI X129 hx hZ e129 Ar130 (j := sz) (inb_of S130 (hsz)) (g := (mkF m 192 #[.val (.ref oa), .val (.int xs), .val (.int xe), .val (.long qh), .second, .val (.long qc), .second] [(.int xe), (.int sz), (.ref s2)])) rfl rfl (hb hby d4_192)
    refine ownEnds.law st130 ?_
    have V130 : Arv Z h130 s2 k2 .int (4 : Int32) (v2.set (sz).toNatClampNeg (.int xe)) (.int (0 : Int32)) := Arv.set Ar130 q130 S130 N130 H130 G130 rfl W130 _ rfl (by rw [l2]; exact (own_n1 hsz).2)
    have N130 := Fr.snoc X130 N124 g_s2
    have KK130 : Keep h0 h130 [oa, s1, s2, s3, c0] := (KK124).wr W130 (Or.inl (List.mem_of_getElem? (i := 2) rfl))
    have Z130 : n0 ≤ h130.size := by rw [W130.size]; exact Z124
    show ownEnds _ _ _ _ (T130.setTop (mkF m 193 #[.val (.ref oa), .val (.int xs), .val (.int xe), .val (.long qh), .second, .val (.long qc), .second] []))
    refine ownEnds.law (fun t k => XS.aloadN X130.here hx rfl (hb hby d4_193) rfl rfl k) ?_
    show ownEnds _ _ _ _ (T130.setTop (mkF m 194 #[.val (.ref oa), .val (.int xs), .val (.int xe), .val (.long qh), .second, .val (.long qc), .second] [(.ref oa)]))
    have f132 := (Fld.other W130 (Fld.other W124 (Fld.other W112 (Fld.other W107 F7 (Or.inr (slot_ne (Or.inl (wd_26 hw)) (Or.inl (wd_15 hw)) (by decide) (t := (.array .long)) (t' := .int) (by decide) (by decide)))) (Or.inr (slot_ne (Or.inl (wd_26 hw)) (Or.inl (wd_18 hw)) (by decide) (t := (.array .long)) (t' := .int) (by decide) (by decide)))) (Or.inl n1)) (Or.inl n2))
    obtain ⟨T133, X133, e133, st133⟩ := getF X130 hx hZ hown (host := "") (Or.inl (wd_25 hw)) Via.refl e130 f132 (g := (mkF m 194 #[.val (.ref oa), .val (.int xs), .val (.int xe), .val (.long qh), .second, .val (.long qc), .second] [(.ref oa)])) rfl rfl (hb hby d4_194)
    refine ownEnds.law st133 ?_
    show ownEnds _ _ _ _ (T133.setTop (mkF m 197 #[.val (.ref oa), .val (.int xs), .val (.int xe), .val (.long qh), .second, .val (.long qc), .second] [(.ref s3)]))
    refine ownEnds.law (fun t k => XS.aloadN X133.here hx rfl (hb hby d4_197) rfl rfl k) ?_
    show ownEnds _ _ _ _ (T133.setTop (mkF m 198 #[.val (.ref oa), .val (.int xs), .val (.int xe), .val (.long qh), .second, .val (.long qc), .second] [(.ref oa), (.ref s3)]))
    have f134 := (Fld.other W130 f128 (Or.inl n2))
    obtain ⟨T135, X135, e135, st135⟩ := getF X133 hx hZ hown (host := "") (Or.inl (wd_46 hw)) Via.refl e133 f134 (g := (mkF m 198 #[.val (.ref oa), .val (.int xs), .val (.int xe), .val (.long qh), .second, .val (.long qc), .second] [(.ref oa), (.ref s3)])) rfl rfl (hb hby d4_198)
    refine ownEnds.law st135 ?_
    show ownEnds _ _ _ _ (T135.setTop (mkF m 201 #[.val (.ref oa), .val (.int xs), .val (.int xe), .val (.long qh), .second, .val (.long qc), .second] [(.int sz), (.ref s3)]))
    refine ownEnds.law (fun t k => XS.lloadN X135.here hx rfl (hb hby d4_201) rfl k) ?_
    show ownEnds _ _ _ _ (T135.setTop (mkF m 202 #[.val (.ref oa), .val (.int xs), .val (.int xe), .val (.long qh), .second, .val (.long qc), .second] [(.long qh), (.int sz), (.ref s3)]))
    have f137 := (Arv.other (Arv.other (Arv.other (Arv.other V3 W107 (Ne.symm n3)) W112 (Ne.symm n3)) W124 (Ne.symm n5)) W130 (Ne.symm n6))
    obtain ⟨cl136, Ar136, q136, S136, N136, H136, G136⟩ := id f137
    obtain ⟨T136, h136, X136, e136, W136, st136⟩ := stJ X135 hx hZ e135 Ar136 (j := sz) (inb_of S136 (hsz)) (g := (mkF m 202 #[.val (.ref oa), .val (.int xs), .val (.int xe), .val (.long qh), .second, .val (.long qc), .second] [(.long qh), (.int sz), (.ref s3)])) rfl rfl (hb hby d4_202)
    refine ownEnds.law st136 ?_
    have V136 : Arv Z h136 s3 k3 .long (4 : Int32) (v3.set (sz).toNatClampNeg (.long qh)) (.long (0 : Int64)) := Arv.set Ar136 q136 S136 N136 H136 G136 rfl W136 _ rfl (by rw [l3]; exact (own_n1 hsz).2)
    have N136 := Fr.snoc X136 N130 g_s3
    have KK136 : Keep h0 h136 [oa, s1, s2, s3, c0] := (KK130).wr W136 (Or.inl (List.mem_of_getElem? (i := 3) rfl))
    have Z136 : n0 ≤ h136.size := by rw [W136.size]; exact Z130
    show ownEnds _ _ _ _ (T136.setTop (mkF m 203 #[.val (.ref oa), .val (.int xs), .val (.int xe), .val (.long qh), .second, .val (.long qc), .second] []))
    refine ownEnds.law (fun t k => XS.aloadN X136.here hx rfl (hb hby d4_203) rfl rfl k) ?_
    show ownEnds _ _ _ _ (T136.setTop (mkF m 204 #[.val (.ref oa), .val (.int xs), .val (.int xe), .val (.long qh), .second, .val (.long qc), .second] [(.ref oa)]))
    have f138 := (Fld.other W136 (Fld.other W130 (Fld.other W124 f119 (Or.inl n1)) (Or.inl n2)) (Or.inl n3))
    obtain ⟨T139, X139, e139, st139⟩ := getF X136 hx hZ hown (host := "") (Or.inl (wd_48 hw)) Via.refl e136 f138 (g := (mkF m 204 #[.val (.ref oa), .val (.int xs), .val (.int xe), .val (.long qh), .second, .val (.long qc), .second] [(.ref oa)])) rfl rfl (hb hby d4_204)
    refine ownEnds.law st139 ?_
    show ownEnds _ _ _ _ (T139.setTop (mkF m 207 #[.val (.ref oa), .val (.int xs), .val (.int xe), .val (.long qh), .second, .val (.long qc), .second] [(.ref c0)]))
    refine ownEnds.law (fun t k => XS.ifnullNo X139.here hx rfl (hb hby d4_207) rfl (XS.aloadN X139.here hx rfl (hb hby d4_210) rfl rfl k)) ?_
    show ownEnds _ _ _ _ (T139.setTop (mkF m 211 #[.val (.ref oa), .val (.int xs), .val (.int xe), .val (.long qh), .second, .val (.long qc), .second] [(.ref oa)]))
    obtain ⟨T140, X140, e140, st140⟩ := getF X139 hx hZ hown (host := "") (Or.inl (wd_48 hw)) Via.refl e139 f138 (g := (mkF m 211 #[.val (.ref oa), .val (.int xs), .val (.int xe), .val (.long qh), .second, .val (.long qc), .second] [(.ref oa)])) rfl rfl (hb hby d4_211)
    refine ownEnds.law st140 ?_
    show ownEnds _ _ _ _ (T140.setTop (mkF m 214 #[.val (.ref oa), .val (.int xs), .val (.int xe), .val (.long qh), .second, .val (.long qc), .second] [(.ref c0)]))
    refine ownEnds.law (fun t k => XS.aloadN X140.here hx rfl (hb hby d4_214) rfl rfl k) ?_
    show ownEnds _ _ _ _ (T140.setTop (mkF m 215 #[.val (.ref oa), .val (.int xs), .val (.int xe), .val (.long qh), .second, .val (.long qc), .second] [(.ref oa), (.ref c0)]))
    have f141 := (Fld.other W136 f134 (Or.inl n3))
    obtain ⟨T142, X142, e142, st142⟩ := getF X140 hx hZ hown (host := "") (Or.inl (wd_46 hw)) Via.refl e140 f141 (g := (mkF m 215 #[.val (.ref oa), .val (.int xs), .val (.int xe), .val (.long qh), .second, .val (.long qc), .second] [(.ref oa), (.ref c0)])) rfl rfl (hb hby d4_215)
    refine ownEnds.law st142 ?_
    show ownEnds _ _ _ _ (T142.setTop (mkF m 218 #[.val (.ref oa), .val (.int xs), .val (.int xe), .val (.long qh), .second, .val (.long qc), .second] [(.int sz), (.ref c0)]))
    refine ownEnds.law (fun t k => XS.lload X142.here hx rfl (hb hby d4_218) rfl k) ?_
    show ownEnds _ _ _ _ (T142.setTop (mkF m 220 #[.val (.ref oa), .val (.int xs), .val (.int xe), .val (.long qh), .second, .val (.long qc), .second] [(.long qc), (.int sz), (.ref c0)]))
    have f144 := (Arv.other (Arv.other (Arv.other (Arv.other (Arv.other VC W107 (Ne.symm m1)) W112 (Ne.symm m1)) W124 (Ne.symm m2)) W130 (Ne.symm m3)) W136 (Ne.symm m4))
    obtain ⟨cl143, Ar143, q143, S143, N143, H143, G143⟩ := id f144
    obtain ⟨T143, h143, X143, e143, W143, st143⟩ := stJ X142 hx hZ e142 Ar143 (j := sz) (inb_of S143 (hsz)) (g := (mkF m 220 #[.val (.ref oa), .val (.int xs), .val (.int xe), .val (.long qh), .second, .val (.long qc), .second] [(.long qc), (.int sz), (.ref c0)])) rfl rfl (hb hby d4_220)
    refine ownEnds.law st143 ?_
    have V143 : Arv Z h143 c0 kc .long (4 : Int32) (vc.set (sz).toNatClampNeg (.long qc)) (.long (0 : Int64)) := Arv.set Ar143 q143 S143 N143 H143 G143 rfl W143 _ rfl (by rw [l5]; exact (own_n1 hsz).2)
    have N143 := Fr.snoc X143 N136 g_c0
    have KK143 : Keep h0 h143 [oa, s1, s2, s3, c0] := (KK136).wr W143 (Or.inl (List.mem_of_getElem? (i := 4) rfl))
    have Z143 : n0 ≤ h143.size := by rw [W143.size]; exact Z136
    show ownEnds _ _ _ _ (T143.setTop (mkF m 221 #[.val (.ref oa), .val (.int xs), .val (.int xe), .val (.long qh), .second, .val (.long qc), .second] []))
    refine ownEnds.law (fun t k => XS.aloadN X143.here hx rfl (hb hby d4_221) rfl rfl (XS.dup X143.here hx rfl (hb hby d4_222) rfl rfl k)) ?_
    show ownEnds _ _ _ _ (T143.setTop (mkF m 223 #[.val (.ref oa), .val (.int xs), .val (.int xe), .val (.long qh), .second, .val (.long qc), .second] [(.ref oa), (.ref oa)]))
    have f145 := (Fld.other W143 f141 (Or.inl m1))
    obtain ⟨T146, X146, e146, st146⟩ := getF X143 hx hZ hown (host := "") (Or.inl (wd_46 hw)) Via.refl e143 f145 (g := (mkF m 223 #[.val (.ref oa), .val (.int xs), .val (.int xe), .val (.long qh), .second, .val (.long qc), .second] [(.ref oa), (.ref oa)])) rfl rfl (hb hby d4_223)
    refine ownEnds.law st146 ?_
    show ownEnds _ _ _ _ (T146.setTop (mkF m 226 #[.val (.ref oa), .val (.int xs), .val (.int xe), .val (.long qh), .second, .val (.long qc), .second] [(.int sz), (.ref oa)]))
    refine ownEnds.law (fun t k => XS.iconst X146.here hx rfl (hb hby d4_226) (XS.iadd X146.here hx rfl (hb hby d4_227) rfl k)) ?_
    show ownEnds _ _ _ _ (T146.setTop (mkF m 228 #[.val (.ref oa), .val (.int xs), .val (.int xe), .val (.long qh), .second, .val (.long qc), .second] [(.int (sz + (1 : Int32))), (.ref oa)]))
    have f147 := (Exa.wr W143 (Exa.wr W136 (Exa.wr W130 (Exa.wr W124 (Exa.wr W112 f111)))))
    obtain ⟨T148, h148, X148, e148, W148, st148⟩ := putF X146 hx hZ hown (host := "") (Or.inl (wd_46 hw)) Via.refl e146 f145 f147 (Or.inl (wd_47 hw)) (wd_5 hw) (ty := .int) (by decide) rfl rfl (g := (mkF m 228 #[.val (.ref oa), .val (.int xs), .val (.int xe), .val (.long qh), .second, .val (.long qc), .second] [(.int (sz + (1 : Int32))), (.ref oa)])) rfl rfl (hb hby d4_228)
    refine ownEnds.law st148 ?_
    have N148 := Fr.snoc X148 N143 g_oa
    have KK148 : Keep h0 h148 [oa, s1, s2, s3, c0] := (KK143).wr W148 (Or.inl (List.mem_of_getElem? (i := 0) rfl))
    have Z148 : n0 ≤ h148.size := by rw [W148.size]; exact Z143
    have Fw148 : Fld Z h148 oa "com/example/vestline/vestline/engine/PayrollRows" "size" "I" (.int (sz + (1 : Int32))) := Fld.same W148 f145
    show ownEnds _ _ _ _ (T148.setTop (mkF m 231 #[.val (.ref oa), .val (.int xs), .val (.int xe), .val (.long qh), .second, .val (.long qc), .second] []))
    refine ownRetV X148 hlk hx hret (hb hby d4_231) (by decide) (by decide) ?_
    have f149 := (Fld.other W148 (Fld.other W143 f138 (Or.inl m1)) (Or.inr (slot_ne (Or.inl (wd_49 hw)) (Or.inl (wd_47 hw)) (by decide) (t := (.array .long)) (t' := .int) (by decide) (by decide))))
    have f150 := (Arv.other V143 W148 (Ne.symm m1))
    have f151 := (Exa.wr W148 f147)
    have f152 := (Fld.other W148 (Fld.other W143 (Fld.other W136 (Fld.other W130 (Fld.other W124 (Fld.other W112 (Fld.other W107 F1 (Or.inr (slot_ne (Or.inl (wd_34 hw)) (Or.inl (wd_15 hw)) (by decide) (t := (.object "java/util/NavigableMap")) (t' := .int) (by decide) (by decide)))) (Or.inr (slot_ne (Or.inl (wd_34 hw)) (Or.inl (wd_18 hw)) (by decide) (t := (.object "java/util/NavigableMap")) (t' := .int) (by decide) (by decide)))) (Or.inl n1)) (Or.inl n2)) (Or.inl n3)) (Or.inl m1)) (Or.inr (slot_ne (Or.inl (wd_34 hw)) (Or.inl (wd_47 hw)) (by decide) (t := (.object "java/util/NavigableMap")) (t' := .int) (by decide) (by decide))))
    have f153 := (Fld.other W148 (Fld.other W143 (Fld.other W136 (Fld.other W130 (Fld.other W124 (Fld.other W112 Fw107 (Or.inr (slot_ne (Or.inl (wd_15 hw)) (Or.inl (wd_18 hw)) (by decide) (t := .int) (t' := .int) (by decide) (by decide)))) (Or.inl n1)) (Or.inl n2)) (Or.inl n3)) (Or.inl m1)) (Or.inr (slot_ne (Or.inl (wd_15 hw)) (Or.inl (wd_47 hw)) (by decide) (t := .int) (t' := .int) (by decide) (by decide))))
    have f154 := (Fld.other W148 (Fld.other W143 (Fld.other W136 (Fld.other W130 (Fld.other W124 Fw112 (Or.inl n1)) (Or.inl n2)) (Or.inl n3)) (Or.inl m1)) (Or.inr (slot_ne (Or.inl (wd_18 hw)) (Or.inl (wd_47 hw)) (by decide) (t := .int) (t' := .int) (by decide) (by decide))))
    have f155 := (Fld.other W148 (Fld.other W143 (Fld.other W136 (Fld.other W130 (Fld.other W124 f121 (Or.inl n1)) (Or.inl n2)) (Or.inl n3)) (Or.inl m1)) (Or.inr (slot_ne (Or.inl (wd_21 hw)) (Or.inl (wd_47 hw)) (by decide) (t := (.array .int)) (t' := .int) (by decide) (by decide))))
    have f156 := (Fld.other W148 (Fld.other W143 (Fld.other W136 (Fld.other W130 f126 (Or.inl n2)) (Or.inl n3)) (Or.inl m1)) (Or.inr (slot_ne (Or.inl (wd_23 hw)) (Or.inl (wd_47 hw)) (by decide) (t := (.array .int)) (t' := .int) (by decide) (by decide))))
    have f157 := (Fld.other W148 (Fld.other W143 (Fld.other W136 f132 (Or.inl n3)) (Or.inl m1)) (Or.inr (slot_ne (Or.inl (wd_26 hw)) (Or.inl (wd_47 hw)) (by decide) (t := (.array .long)) (t' := .int) (by decide) (by decide))))
    have f158 := (Arv.other (Arv.other (Arv.other (Arv.other V124 W130 n4) W136 n5) W143 m2) W148 (Ne.symm n1))
    have f159 := (Arv.other (Arv.other (Arv.other V130 W136 n6) W143 m3) W148 (Ne.symm n2))
    have f160 := (Arv.other (Arv.other V136 W143 m4) W148 (Ne.symm n3))
    rw [e148]
    exact ⟨rfl, N148, (KK148).1, ⟨(FMin fs xs), s1, s2, s3, k1, k2, k3, (v1.set (sz).toNatClampNeg (.int xs)), (v2.set (sz).toNatClampNeg (.int xe)), (v3.set (sz).toNatClampNeg (.long qh)), ⟨g_oa, g_s1, g_s2, g_s3⟩, ⟨n1, n2, n3, n4, n5, n6⟩, ⟨by rw [List.length_set]; exact l1, by rw [List.length_set]; exact l2, by rw [List.length_set]; exact l3, by rw [List.length_append, l4, (own_n1 hsz).1]; rfl⟩, f151, f152, f153, f154, Fw148, f155, f156, f157, f158, f159, f160, Or.inr ⟨c0, kc, (vc.set (sz).toNatClampNeg (.long qc)), g_c0, ⟨m1, m2, m3, m4⟩, (by rw [List.length_set]; exact l5), f149, f150, own_c3 l4 (by rw [l5]; exact (own_n1 hsz).2) hv⟩⟩⟩
set_option maxRecDepth 65536 in
set_option maxHeartbeats 40000000 in
theorem rm4b (l : Launch) (Z : State) (a0 : Array Value) (hw : ∀ d ∈ tables_1, d.before a0 Z = true) (oa : Addr) (xs : Int32) (xe : Int32) (qh : Int64) (qc : Int64) (le : Int32) (vs : List Int64) (h0 : Heap) (n0 : Nat) (Z0 : n0 ≤ h0.size) (R0 : Rows Z n0 h0 oa (4 : Int32) le (4 : Int32) vs) (hlt : le < xs) :
    ownMet l Z (⟨"com/example/vestline/vestline/engine/PayrollRows", "add", "(IIJJ)V"⟩ : MethodName) prog_50_method_2_code 7 none [] ({ frames := 2, cells := 4, slots := 32, locals := 70 } : Room) #[(.ref oa), (.int xs), (.int xe), (.long qh), (.long qc)] h0 (fun v h L => v = none ∧ Fr n0 L ∧ h0.size ≤ h.size ∧ Rows Z n0 h oa (5 : Int32) (FMax le xe) (8 : Int32) (vs ++ [qc])) := by
  refine ownMet.of (plainFor_of_name pn_4) ?_
  intro p e s m below meth c T0 hx hby hml hZ hown hnm hret hlk X0 e0
  refine ownEnds.cast (ef_rm4b m oa xs xe qh qc) ?_
  obtain ⟨fs, s1, s2, s3, k1, k2, k3, v1, v2, v3, ⟨g_oa, g_s1, g_s2, g_s3⟩, ⟨n1, n2, n3, n4, n5, n6⟩, ⟨l1, l2, l3, l4⟩, E_oa, F1, F2, F3, F4, F5, F6, F7, V1, V2, V3, CE⟩ := R0
  rcases CE with ⟨FC, hz⟩ | ⟨c0, kc, vc, g_c0, ⟨m1, m2, m3, m4⟩, l5, FC, VC, hv⟩
  · show ownEnds _ _ _ _ (T0.setTop (mkF m 0 #[.val (.ref oa), .val (.int xs), .val (.int xe), .val (.long qh), .second, .val (.long qc), .second] []))
    refine ownEnds.law (fun t k => XS.aloadN X0.here hx rfl (hb hby d4_0) rfl rfl k) ?_
    show ownEnds _ _ _ _ (T0.setTop (mkF m 1 #[.val (.ref oa), .val (.int xs), .val (.int xe), .val (.long qh), .second, .val (.long qc), .second] [(.ref oa)]))
    obtain ⟨T1, X1, e1, st1⟩ := getF X0 hx hZ hown (host := "") (Or.inl (wd_33 hw)) Via.refl e0 F1 (g := (mkF m 1 #[.val (.ref oa), .val (.int xs), .val (.int xe), .val (.long qh), .second, .val (.long qc), .second] [(.ref oa)])) rfl rfl (hb hby d4_1)
    refine ownEnds.law st1 ?_
    show ownEnds _ _ _ _ (T1.setTop (mkF m 4 #[.val (.ref oa), .val (.int xs), .val (.int xe), .val (.long qh), .second, .val (.long qc), .second] [.null]))
    refine ownEnds.law (fun t k => XS.ifnonnullNo X1.here hx rfl (hb hby d4_4) rfl (XS.aloadN X1.here hx rfl (hb hby d4_7) rfl rfl (XS.iloadN X1.here hx rfl (hb hby d4_8) rfl (XS.iloadN X1.here hx rfl (hb hby d4_9) rfl k)))) ?_
    show ownEnds _ _ _ _ (T1.setTop (mkF m 10 #[.val (.ref oa), .val (.int xs), .val (.int xe), .val (.long qh), .second, .val (.long qc), .second] [(.int xe), (.int xs), (.ref oa)]))
    obtain ⟨v2, T2, L2, X2, hQ2, st2⟩ := ownCallP X1 hx hZ hown (y := (⟨"com/example/vestline/vestline/engine/PayrollRows", "isAmongRows", "(II)Z"⟩ : MethodName)) (z := (⟨"com/example/vestline/vestline/engine/PayrollRows", "add", "(IIJJ)V"⟩ : MethodName)) (a := oa) (as := [(.int xs), (.int xe)]) (wd_35 hw) rfl (wd_31 hw) (wd_36 hw) (wd_37 hw) (wd_6 hw) (wd_38 hw) (by decide) (rm5 l Z a0 hw oa xs xe le fs h0 n0 Z0 F3 F2) e1 E_oa 0 (by decide) (by decide) (by decide) (by decide) (g := (mkF m 10 #[.val (.ref oa), .val (.int xs), .val (.int xe), .val (.long qh), .second, .val (.long qc), .second] [(.int xe), (.int xs), (.ref oa)])) rfl (by rw [hml]; rfl) (rest := []) pd_1 rfl rfl (by show 2 * 0 + _ ≤ _; exact Nat.le_of_eq rfl) (hb hby d4_10)
    obtain ⟨rfl, rfl, e2⟩ := hQ2
    rw [List.append_nil] at X2
    refine ownEnds.law st2 ?_
    show ownEnds _ _ _ _ (T2.setTop (mkF m 13 #[.val (.ref oa), .val (.int xs), .val (.int xe), .val (.long qh), .second, .val (.long qc), .second] [(.int (FA le fs xs xe))]))
    have hc13 : (FA le fs xs xe) = (0 : Int32) := if_pos hlt
    refine ownEnds.law (fun t => XS.ifYes X2.here hx rfl (pc0 := 13) (pc' := 37) rfl (hb hby d4_13) rfl ((if0 _ _).trans (teq hc13).1) (by decide) (by decide)) ?_
    show ownEnds _ _ _ _ (T2.setTop (mkF m 37 #[.val (.ref oa), .val (.int xs), .val (.int xe), .val (.long qh), .second, .val (.long qc), .second] []))
    refine ownEnds.law (fun t k => XS.aloadN X2.here hx rfl (hb hby d4_37) rfl rfl (XS.aloadN X2.here hx rfl (hb hby d4_38) rfl rfl k)) ?_
    show ownEnds _ _ _ _ (T2.setTop (mkF m 39 #[.val (.ref oa), .val (.int xs), .val (.int xe), .val (.long qh), .second, .val (.long qc), .second] [(.ref oa), (.ref oa)]))
    obtain ⟨T3, X3, e3, st3⟩ := getF X2 hx hZ hown (host := "") (Or.inl (wd_14 hw)) Via.refl e2 F2 (g := (mkF m 39 #[.val (.ref oa), .val (.int xs), .val (.int xe), .val (.long qh), .second, .val (.long qc), .second] [(.ref oa), (.ref oa)])) rfl rfl (hb hby d4_39)
    refine ownEnds.law st3 ?_
    show ownEnds _ _ _ _ (T3.setTop (mkF m 42 #[.val (.ref oa), .val (.int xs), .val (.int xe), .val (.long qh), .second, .val (.long qc), .second] [(.int fs), (.ref oa)]))
    refine ownEnds.law (fun t k => XS.iloadN X3.here hx rfl (hb hby d4_42) rfl k) ?_
    show ownEnds _ _ _ _ (T3.setTop (mkF m 43 #[.val (.ref oa), .val (.int xs), .val (.int xe), .val (.long qh), .second, .val (.long qc), .second] [(.int xs), (.int fs), (.ref oa)]))
    obtain ⟨v4, T4, L4, X4, hQ4, st4⟩ := ownCallS X3 hx hZ hown (y := (⟨"java/lang/Math", "min", "(II)I"⟩ : MethodName)) (as := [(.int fs), (.int xs)]) (wd_39 hw) (wd_40 hw) (wd_41 hw) (wd_42 hw) (by decide) (rm6 l Z a0 hw fs xs  h0 n0 Z0 ) e3 1 (by decide) (by decide) (by decide) (by decide) (g := (mkF m 43 #[.val (.ref oa), .val (.int xs), .val (.int xe), .val (.long qh), .second, .val (.long qc), .second] [(.int xs), (.int fs), (.ref oa)])) rfl (by rw [hml]; rfl) (rest := [(.ref oa)]) pd_0 rfl rfl (by show 2 * 0 + _ ≤ _; exact Nat.le_of_eq rfl) (hb hby d4_43)
    obtain ⟨rfl, rfl, e4⟩ := hQ4
    rw [List.append_nil] at X4
    refine ownEnds.law st4 ?_
    show ownEnds _ _ _ _ (T4.setTop (mkF m 46 #[.val (.ref oa), .val (.int xs), .val (.int xe), .val (.long qh), .second, .val (.long qc), .second] [(.int (FMin fs xs)), (.ref oa)]))
    obtain ⟨T5, h5, X5, e5, W5, st5⟩ := putF X4 hx hZ hown (host := "") (Or.inl (wd_14 hw)) Via.refl e4 F2 E_oa (Or.inl (wd_15 hw)) (wd_5 hw) (ty := .int) (by decide) rfl rfl (g := (mkF m 46 #[.val (.ref oa), .val (.int xs), .val (.int xe), .val (.long qh), .second, .val (.long qc), .second] [(.int (FMin fs xs)), (.ref oa)])) rfl rfl (hb hby d4_46)
    refine ownEnds.law st5 ?_
    have N5 := Fr.snoc X5 (Fr.nil n0) g_oa
    have KK5 : Keep h0 h5 [oa, s1, s2, s3] := (Keep.refl h0 [oa, s1, s2, s3]).wr W5 (Or.inl (List.mem_of_getElem? (i := 0) rfl))
    have Z5 : n0 ≤ h5.size := by rw [W5.size]; exact Z0
    have Fw5 : Fld Z h5 oa "com/example/vestline/vestline/engine/PayrollRows" "firstPeriodStart" "I" (.int (FMin fs xs)) := Fld.same W5 F2
    show ownEnds _ _ _ _ (T5.setTop (mkF m 49 #[.val (.ref oa), .val (.int xs), .val (.int xe), .val (.long qh), .second, .val (.long qc), .second] []))
    refine ownEnds.law (fun t k => XS.aloadN X5.here hx rfl (hb hby d4_49) rfl rfl (XS.aloadN X5.here hx rfl (hb hby d4_50) rfl rfl k)) ?_
    show ownEnds _ _ _ _ (T5.setTop (mkF m 51 #[.val (.ref oa), .val (.int xs), .val (.int xe), .val (.long qh), .second, .val (.long qc), .second] [(.ref oa), (.ref oa)]))
    have f6 := (Fld.other W5 F3 (Or.inr (slot_ne (Or.inl (wd_18 hw)) (Or.inl (wd_15 hw)) (by decide) (t := .int) (t' := .int) (by decide) (by decide))))
    obtain ⟨T7, X7, e7, st7⟩ := getF X5 hx hZ hown (host := "") (Or.inl (wd_17 hw)) Via.refl e5 f6 (g := (mkF m 51 #[.val (.ref oa), .val (.int xs), .val (.int xe), .val (.long qh), .second, .val (.long qc), .second] [(.ref oa), (.ref oa)])) rfl rfl (hb hby d4_51)
    refine ownEnds.law st7 ?_
    show ownEnds _ _ _ _ (T7.setTop (mkF m 54 #[.val (.ref oa), .val (.int xs), .val (.int xe), .val (.long qh), .second, .val (.long qc), .second] [(.int le), (.ref oa)]))
    refine ownEnds.law (fun t k => XS.iloadN X7.here hx rfl (hb hby d4_54) rfl k) ?_
    show ownEnds _ _ _ _ (T7.setTop (mkF m 55 #[.val (.ref oa), .val (.int xs), .val (.int xe), .val (.long qh), .second, .val (.long qc), .second] [(.int xe), (.int le), (.ref oa)]))
    obtain ⟨v8, T8, L8, X8, hQ8, st8⟩ := ownCallS X7 hx hZ hown (y := (⟨"java/lang/Math", "max", "(II)I"⟩ : MethodName)) (as := [(.int le), (.int xe)]) (wd_43 hw) (wd_44 hw) (wd_41 hw) (wd_45 hw) (by decide) (rm7 l Z a0 hw le xe  h5 n0 Z5 ) e7 1 (by decide) (by decide) (by decide) (by decide) (g := (mkF m 55 #[.val (.ref oa), .val (.int xs), .val (.int xe), .val (.long qh), .second, .val (.long qc), .second] [(.int xe), (.int le), (.ref oa)])) rfl (by rw [hml]; rfl) (rest := [(.ref oa)]) pd_0 rfl rfl (by show 2 * 0 + _ ≤ _; exact Nat.le_of_eq rfl) (hb hby d4_55)
    obtain ⟨rfl, rfl, e8⟩ := hQ8
    rw [List.append_nil] at X8
    refine ownEnds.law st8 ?_
    show ownEnds _ _ _ _ (T8.setTop (mkF m 58 #[.val (.ref oa), .val (.int xs), .val (.int xe), .val (.long qh), .second, .val (.long qc), .second] [(.int (FMax le xe)), (.ref oa)]))
    have f9 := (Exa.wr W5 E_oa)
    obtain ⟨T10, h10, X10, e10, W10, st10⟩ := putF X8 hx hZ hown (host := "") (Or.inl (wd_17 hw)) Via.refl e8 f6 f9 (Or.inl (wd_18 hw)) (wd_5 hw) (ty := .int) (by decide) rfl rfl (g := (mkF m 58 #[.val (.ref oa), .val (.int xs), .val (.int xe), .val (.long qh), .second, .val (.long qc), .second] [(.int (FMax le xe)), (.ref oa)])) rfl rfl (hb hby d4_58)
    refine ownEnds.law st10 ?_
    have N10 := Fr.snoc X10 N5 g_oa
    have KK10 : Keep h0 h10 [oa, s1, s2, s3] := (KK5).wr W10 (Or.inl (List.mem_of_getElem? (i := 0) rfl))
    have Z10 : n0 ≤ h10.size := by rw [W10.size]; exact Z5
    have Fw10 : Fld Z h10 oa "com/example/vestline/vestline/engine/PayrollRows" "lastPeriodEnd" "I" (.int (FMax le xe)) := Fld.same W10 f6
    show ownEnds _ _ _ _ (T10.setTop (mkF m 61 #[.val (.ref oa), .val (.int xs), .val (.int xe), .val (.long qh), .second, .val (.long qc), .second] []))
    refine ownEnds.law (fun t k => XS.aloadN X10.here hx rfl (hb hby d4_61) rfl rfl k) ?_
    show ownEnds _ _ _ _ (T10.setTop (mkF m 62 #[.val (.ref oa), .val (.int xs), .val (.int xe), .val (.long qh), .second, .val (.long qc), .second] [(.ref oa)]))
    have f11 := (Fld.other W10 (Fld.other W5 F4 (Or.inr (slot_ne (Or.inl (wd_47 hw)) (Or.inl (wd_15 hw)) (by decide) (t := .int) (t' := .int) (by decide) (by decide)))) (Or.inr (slot_ne (Or.inl (wd_47 hw)) (Or.inl (wd_18 hw)) (by decide) (t := .int) (t' := .int) (by decide) (by decide))))
    obtain ⟨T12, X12, e12, st12⟩ := getF X10 hx hZ hown (host := "") (Or.inl (wd_46 hw)) Via.refl e10 f11 (g := (mkF m 62 #[.val (.ref oa), .val (.int xs), .val (.int xe), .val (.long qh), .second, .val (.long qc), .second] [(.ref oa)])) rfl rfl (hb hby d4_62)
    refine ownEnds.law st12 ?_
    show ownEnds _ _ _ _ (T12.setTop (mkF m 65 #[.val (.ref oa), .val (.int xs), .val (.int xe), .val (.long qh), .second, .val (.long qc), .second] [(.int (4 : Int32))]))
    refine ownEnds.law (fun t k => XS.aloadN X12.here hx rfl (hb hby d4_65) rfl rfl k) ?_
    show ownEnds _ _ _ _ (T12.setTop (mkF m 66 #[.val (.ref oa), .val (.int xs), .val (.int xe), .val (.long qh), .second, .val (.long qc), .second] [(.ref oa), (.int (4 : Int32))]))
    have f13 := (Fld.other W10 (Fld.other W5 F6 (Or.inr (slot_ne (Or.inl (wd_23 hw)) (Or.inl (wd_15 hw)) (by decide) (t := (.array .int)) (t' := .int) (by decide) (by decide)))) (Or.inr (slot_ne (Or.inl (wd_23 hw)) (Or.inl (wd_18 hw)) (by decide) (t := (.array .int)) (t' := .int) (by decide) (by decide))))
    obtain ⟨T14, X14, e14, st14⟩ := getF X12 hx hZ hown (host := "") (Or.inl (wd_22 hw)) Via.refl e12 f13 (g := (mkF m 66 #[.val (.ref oa), .val (.int xs), .val (.int xe), .val (.long qh), .second, .val (.long qc), .second] [(.ref oa), (.int (4 : Int32))])) rfl rfl (hb hby d4_66)
    refine ownEnds.law st14 ?_
    show ownEnds _ _ _ _ (T14.setTop (mkF m 69 #[.val (.ref oa), .val (.int xs), .val (.int xe), .val (.long qh), .second, .val (.long qc), .second] [(.ref s2), (.int (4 : Int32))]))
    have f16 := (Arv.other (Arv.other V2 W5 (Ne.symm n2)) W10 (Ne.symm n2))
    obtain ⟨cl15, Ar15, -, S15, N15, -, -⟩ := id f16
    refine ownEnds.law (X14.arraylength hx (by rw [e14]; exact Ar15.1) (State.isArrayOf_alike hZ.alike Ar15.2.1) (g := (mkF m 69 #[.val (.ref oa), .val (.int xs), .val (.int xe), .val (.long qh), .second, .val (.long qc), .second] [(.ref s2), (.int (4 : Int32))])) rfl rfl (hb hby d4_69)) ?_
    rw [len_of S15 N15]
    show ownEnds _ _ _ _ (T14.setTop (mkF m 70 #[.val (.ref oa), .val (.int xs), .val (.int xe), .val (.long qh), .second, .val (.long qc), .second] [(.int (4 : Int32)), (.int (4 : Int32))]))
    refine ownEnds.law (fun t => XS.icmpNo X14.here hx rfl (hb hby d4_70) rfl (teq (rfl : (4 : Int32) = (4 : Int32))).2) ?_
    show ownEnds _ _ _ _ (T14.setTop (mkF m 73 #[.val (.ref oa), .val (.int xs), .val (.int xe), .val (.long qh), .second, .val (.long qc), .second] []))
    refine ownEnds.law (fun t k => XS.aloadN X14.here hx rfl (hb hby d4_73) rfl rfl (XS.aloadN X14.here hx rfl (hb hby d4_74) rfl rfl k)) ?_
    show ownEnds _ _ _ _ (T14.setTop (mkF m 75 #[.val (.ref oa), .val (.int xs), .val (.int xe), .val (.long qh), .second, .val (.long qc), .second] [(.ref oa), (.ref oa)]))
    have f17 := (Fld.other W10 (Fld.other W5 F5 (Or.inr (slot_ne (Or.inl (wd_21 hw)) (Or.inl (wd_15 hw)) (by decide) (t := (.array .int)) (t' := .int) (by decide) (by decide)))) (Or.inr (slot_ne (Or.inl (wd_21 hw)) (Or.inl (wd_18 hw)) (by decide) (t := (.array .int)) (t' := .int) (by decide) (by decide))))
    obtain ⟨T18, X18, e18, st18⟩ := getF X14 hx hZ hown (host := "") (Or.inl (wd_20 hw)) Via.refl e14 f17 (g := (mkF m 75 #[.val (.ref oa), .val (.int xs), .val (.int xe), .val (.long qh), .second, .val (.long qc), .second] [(.ref oa), (.ref oa)])) rfl rfl (hb hby d4_75)
    refine ownEnds.law st18 ?_
    show ownEnds _ _ _ _ (T18.setTop (mkF m 78 #[.val (.ref oa), .val (.int xs), .val (.int xe), .val (.long qh), .second, .val (.long qc), .second] [(.ref s1), (.ref oa)]))
    refine ownEnds.law (fun t k => XS.aloadN X18.here hx rfl (hb hby d4_78) rfl rfl k) ?_
    show ownEnds _ _ _ _ (T18.setTop (mkF m 79 #[.val (.ref oa), .val (.int xs), .val (.int xe), .val (.long qh), .second, .val (.long qc), .second] [(.ref oa), (.ref s1), (.ref oa)]))
    obtain ⟨T19, X19, e19, st19⟩ := getF X18 hx hZ hown (host := "") (Or.inl (wd_46 hw)) Via.refl e18 f11 (g := (mkF m 79 #[.val (.ref oa), .val (.int xs), .val (.int xe), .val (.long qh), .second, .val (.long qc), .second] [(.ref oa), (.ref s1), (.ref oa)])) rfl rfl (hb hby d4_79)
    refine ownEnds.law st19 ?_
    show ownEnds _ _ _ _ (T19.setTop (mkF m 82 #[.val (.ref oa), .val (.int xs), .val (.int xe), .val (.long qh), .second, .val (.long qc), .second] [(.int (4 : Int32)), (.ref s1), (.ref oa)]))
    refine ownEnds.law (fun t k => XS.iconst X19.here hx rfl (hb hby d4_82) (XS.imul X19.here hx rfl (hb hby d4_83) rfl k)) ?_
    show ownEnds _ _ _ _ (T19.setTop (mkF m 84 #[.val (.ref oa), .val (.int xs), .val (.int xe), .val (.long qh), .second, .val (.long qc), .second] [(.int (8 : Int32)), (.ref s1), (.ref oa)]))
    have f21 := (Arv.other (Arv.other V1 W5 (Ne.symm n1)) W10 (Ne.symm n1))
    obtain ⟨v20, T20, L20, X20, hQ20, st20⟩ := ownCallS X19 hx hZ hown (y := (⟨"java/util/Arrays", "copyOf", "([II)[I"⟩ : MethodName)) (as := [(.ref s1), (.int (8 : Int32))]) (wd_55 hw) (wd_56 hw) (wd_57 hw) (wd_58 hw) (by decide) (rm9 l Z a0 hw s1 k1 v1 h10 n0 Z10 f21) e19 1 (by decide) (by decide) (by decide) (by decide) (g := (mkF m 84 #[.val (.ref oa), .val (.int xs), .val (.int xe), .val (.long qh), .second, .val (.long qc), .second] [(.int (8 : Int32)), (.ref s1), (.ref oa)])) rfl (by rw [hml]; rfl) (rest := [(.ref oa)]) pd_2 rfl rfl (by show 2 * 0 + _ ≤ _; exact Nat.le_of_eq rfl) (hb hby d4_84)
    obtain ⟨b20, kb20, rfl, Nq20, Kq20, g_b20, zq20, Vq20⟩ := hQ20
    have f22 := (Exa.wr W10 f9)
    have ne_oa_b20 : oa ≠ b20 := Nat.ne_of_lt (Nat.lt_of_lt_of_le f22.lt zq20)
    have ne_s1_b20 : s1 ≠ b20 := Nat.ne_of_lt (Nat.lt_of_lt_of_le f21.lt zq20)
    have ne_s2_b20 : s2 ≠ b20 := Nat.ne_of_lt (Nat.lt_of_lt_of_le f16.lt zq20)
    have f23 := (Arv.other (Arv.other V3 W5 (Ne.symm n3)) W10 (Ne.symm n3))
    have ne_s3_b20 : s3 ≠ b20 := Nat.ne_of_lt (Nat.lt_of_lt_of_le f23.lt zq20)
    have sz_b20 : h0.size ≤ b20 := Nat.le_trans (KK10).1 zq20
    have N20 := Fr.app N10 Nq20
    have KK20 : Keep h0 T20.heap [oa, s1, s2, s3] := Keep.trans (KK10) Kq20 all0
    have Z20 : n0 ≤ T20.heap.size := Nat.le_trans Z10 Kq20.1
    refine ownEnds.law st20 ?_
    show ownEnds _ _ _ _ (T20.setTop (mkF m 87 #[.val (.ref oa), .val (.int xs), .val (.int xe), .val (.long qh), .second, .val (.long qc), .second] [(.ref b20), (.ref oa)]))
    have f24 := (Exa.keep f22 Kq20)
    have f25 := (Fld.keep f17 Kq20 nin0)
    obtain ⟨T26, h26, X26, e26, W26, st26⟩ := putF X20 hx hZ hown (host := "") (Or.inl (wd_20 hw)) Via.refl rfl f25 f24 (Or.inl (wd_21 hw)) (wd_5 hw) (ty := (.array .int)) (by decide) rfl rfl (g := (mkF m 87 #[.val (.ref oa), .val (.int xs), .val (.int xe), .val (.long qh), .second, .val (.long qc), .second] [(.ref b20), (.ref oa)])) rfl rfl (hb hby d4_87)
    refine ownEnds.law st26 ?_
    have N26 := Fr.snoc X26 N20 g_oa
    have KK26 : Keep h0 h26 [oa, s1, s2, s3] := (KK20).wr W26 (Or.inl (List.mem_of_getElem? (i := 0) rfl))
    have Z26 : n0 ≤ h26.size := by rw [W26.size]; exact Z20
    have Fw26 : Fld Z h26 oa "com/example/vestline/vestline/engine/PayrollRows" "periodStarts" "[I" (.ref b20) := Fld.same W26 f25
    show ownEnds _ _ _ _ (T26.setTop (mkF m 90 #[.val (.ref oa), .val (.int xs), .val (.int xe), .val (.long qh), .second, .val (.long qc), .second] []))
    refine ownEnds.law (fun t k => XS.aloadN X26.here hx rfl (hb hby d4_90) rfl rfl (XS.aloadN X26.here hx rfl (hb hby d4_91) rfl rfl k)) ?_
    show ownEnds _ _ _ _ (T26.setTop (mkF m 92 #[.val (.ref oa), .val (.int xs), .val (.int xe), .val (.long qh), .second, .val (.long qc), .second] [(.ref oa), (.ref oa)]))
    have f27 := (Fld.other W26 (Fld.keep f13 Kq20 nin0) (Or.inr (slot_ne (Or.inl (wd_23 hw)) (Or.inl (wd_21 hw)) (by decide) (t := (.array .int)) (t' := (.array .int)) (by decide) (by decide))))
    obtain ⟨T28, X28, e28, st28⟩ := getF X26 hx hZ hown (host := "") (Or.inl (wd_22 hw)) Via.refl e26 f27 (g := (mkF m 92 #[.val (.ref oa), .val (.int xs), .val (.int xe), .val (.long qh), .second, .val (.long qc), .second] [(.ref oa), (.ref oa)])) rfl rfl (hb hby d4_92)
    refine ownEnds.law st28 ?_
    show ownEnds _ _ _ _ (T28.setTop (mkF m 95 #[.val (.ref oa), .val (.int xs), .val (.int xe), .val (.long qh), .second, .val (.long qc), .second] [(.ref s2), (.ref oa)]))
    refine ownEnds.law (fun t k => XS.aloadN X28.here hx rfl (hb hby d4_95) rfl rfl k) ?_
    show ownEnds _ _ _ _ (T28.setTop (mkF m 96 #[.val (.ref oa), .val (.int xs), .val (.int xe), .val (.long qh), .second, .val (.long qc), .second] [(.ref oa), (.ref s2), (.ref oa)]))
    have f29 := (Fld.other W26 (Fld.keep f11 Kq20 nin0) (Or.inr (slot_ne (Or.inl (wd_47 hw)) (Or.inl (wd_21 hw)) (by decide) (t := .int) (t' := (.array .int)) (by decide) (by decide))))
    obtain ⟨T30, X30, e30, st30⟩ := getF X28 hx hZ hown (host := "") (Or.inl (wd_46 hw)) Via.refl e28 f29 (g := (mkF m 96 #[.val (.ref oa), .val (.int xs), .val (.int xe), .val (.long qh), .second, .val (.long qc), .second] [(.ref oa), (.ref s2), (.ref oa)])) rfl rfl (hb hby d4_96)
    refine ownEnds.law st30 ?_
    show ownEnds _ _ _ _ (T30.setTop (mkF m 99 #[.val (.ref oa), .val (.int xs), .val (.int xe), .val (.long qh), .second, .val (.long qc), .second] [(.int (4 : Int32)), (.ref s2), (.ref oa)]))
    refine ownEnds.law (fun t k => XS.iconst X30.here hx rfl (hb hby d4_99) (XS.imul X30.here hx rfl (hb hby d4_100) rfl k)) ?_
    show ownEnds _ _ _ _ (T30.setTop (mkF m 101 #[.val (.ref oa), .val (.int xs), .val (.int xe), .val (.long qh), .second, .val (.long qc), .second] [(.int (8 : Int32)), (.ref s2), (.ref oa)]))
    have f32 := (Arv.other (Arv.keep f16 Kq20 nin0) W26 (Ne.symm n2))
    obtain ⟨v31, T31, L31, X31, hQ31, st31⟩ := ownCallS X30 hx hZ hown (y := (⟨"java/util/Arrays", "copyOf", "([II)[I"⟩ : MethodName)) (as := [(.ref s2), (.int (8 : Int32))]) (wd_55 hw) (wd_56 hw) (wd_57 hw) (wd_58 hw) (by decide) (rm9 l Z a0 hw s2 k2 v2 h26 n0 Z26 f32) e30 1 (by decide) (by decide) (by decide) (by decide) (g := (mkF m 101 #[.val (.ref oa), .val (.int xs), .val (.int xe), .val (.long qh), .second, .val (.long qc), .second] [(.int (8 : Int32)), (.ref s2), (.ref oa)])) rfl (by rw [hml]; rfl) (rest := [(.ref oa)]) pd_2 rfl rfl (by show 2 * 0 + _ ≤ _; exact Nat.le_of_eq rfl) (hb hby d4_101)
    obtain ⟨b31, kb31, rfl, Nq31, Kq31, g_b31, zq31, Vq31⟩ := hQ31
    have f33 := (Exa.wr W26 f24)
    have ne_oa_b31 : oa ≠ b31 := Nat.ne_of_lt (Nat.lt_of_lt_of_le f33.lt zq31)
    have f34 := (Arv.other (Arv.keep f21 Kq20 nin0) W26 (Ne.symm n1))
    have ne_s1_b31 : s1 ≠ b31 := Nat.ne_of_lt (Nat.lt_of_lt_of_le f34.lt zq31)
    have ne_s2_b31 : s2 ≠ b31 := Nat.ne_of_lt (Nat.lt_of_lt_of_le f32.lt zq31)
    have f35 := (Arv.other (Arv.keep f23 Kq20 nin0) W26 (Ne.symm n3))
    have ne_s3_b31 : s3 ≠ b31 := Nat.ne_of_lt (Nat.lt_of_lt_of_le f35.lt zq31)
    have f36 := (Arv.other Vq20 W26 (Ne.symm ne_oa_b20))
    have ne_b20_b31 : b20 ≠ b31 := Nat.ne_of_lt (Nat.lt_of_lt_of_le f36.lt zq31)
    have sz_b31 : h0.size ≤ b31 := Nat.le_trans (KK26).1 zq31
    have N31 := Fr.app N26 Nq31
    have KK31 : Keep h0 T31.heap [oa, s1, s2, s3] := Keep.trans (KK26) Kq31 all0
    have Z31 : n0 ≤ T31.heap.size := Nat.le_trans Z26 Kq31.1
    refine ownEnds.law st31 ?_
    show ownEnds _ _ _ _ (T31.setTop (mkF m 104 #[.val (.ref oa), .val (.int xs), .val (.int xe), .val (.long qh), .second, .val (.long qc), .second] [(.ref b31), (.ref oa)]))
    have f37 := (Exa.keep f33 Kq31)
    have f38 := (Fld.keep f27 Kq31 nin0)
    obtain ⟨T39, h39, X39, e39, W39, st39⟩ := putF X31 hx hZ hown (host := "") (Or.inl (wd_22 hw)) Via.refl rfl f38 f37 (Or.inl (wd_23 hw)) (wd_5 hw) (ty := (.array .int)) (by decide) rfl rfl (g := (mkF m 104 #[.val (.ref oa), .val (.int xs), .val (.int xe), .val (.long qh), .second, .val (.long qc), .second] [(.ref b31), (.ref oa)])) rfl rfl (hb hby d4_104)
    refine ownEnds.law st39 ?_
    have N39 := Fr.snoc X39 N31 g_oa
    have KK39 : Keep h0 h39 [oa, s1, s2, s3] := (KK31).wr W39 (Or.inl (List.mem_of_getElem? (i := 0) rfl))
    have Z39 : n0 ≤ h39.size := by rw [W39.size]; exact Z31
    have Fw39 : Fld Z h39 oa "com/example/vestline/vestline/engine/PayrollRows" "periodEnds" "[I" (.ref b31) := Fld.same W39 f38
    show ownEnds _ _ _ _ (T39.setTop (mkF m 107 #[.val (.ref oa), .val (.int xs), .val (.int xe), .val (.long qh), .second, .val (.long qc), .second] []))
    refine ownEnds.law (fun t k => XS.aloadN X39.here hx rfl (hb hby d4_107) rfl rfl (XS.aloadN X39.here hx rfl (hb hby d4_108) rfl rfl k)) ?_
    show ownEnds _ _ _ _ (T39.setTop (mkF m 109 #[.val (.ref oa), .val (.int xs), .val (.int xe), .val (.long qh), .second, .val (.long qc), .second] [(.ref oa), (.ref oa)]))
    have f40 := (Fld.other W39 (Fld.keep (Fld.other W26 (Fld.keep (Fld.other W10 (Fld.other W5 F7 (Or.inr (slot_ne (Or.inl (wd_26 hw)) (Or.inl (wd_15 hw)) (by decide) (t := (.array .long)) (t' := .int) (by decide) (by decide)))) (Or.inr (slot_ne (Or.inl (wd_26 hw)) (Or.inl (wd_18 hw)) (by decide) (t := (.array .long)) (t' := .int) (by decide) (by decide)))) Kq20 nin0) (Or.inr (slot_ne (Or.inl (wd_26 hw)) (Or.inl (wd_21 hw)) (by decide) (t := (.array .long)) (t' := (.array .int)) (by decide) (by decide)))) Kq31 nin0) (Or.inr (slot_ne (Or.inl (wd_26 hw)) (Or.inl (wd_23 hw)) (by decide) (t := (.array .long)) (t' := (.array .int)) (by decide) (by decide))))
    obtain ⟨T41, X41, e41, st41⟩ := getF X39 hx hZ hown (host := "") (Or.inl (wd_25 hw)) Via.refl e39 f40 (g := (mkF m 109 #[.val (.ref oa), .val (.int xs), .val (.int xe), .val (.long qh), .second, .val (.long qc), .second] [(.ref oa), (.ref oa)])) rfl rfl (hb hby d4_109)
    refine ownEnds.law st41 ?_
    show ownEnds _ _ _ _ (T41.setTop (mkF m 112 #[.val (.ref oa), .val (.int xs), .val (.int xe), .val (.long qh), .second, .val (.long qc), .second] [(.ref s3), (.ref oa)]))
    refine ownEnds.law (fun t k => XS.aloadN X41.here hx rfl (hb hby d4_112) rfl rfl k) ?_
    show ownEnds _ _ _ _ (T41.setTop (mkF m 113 #[.val (.ref oa), .val (.int xs), .val (.int xe), .val (.long qh), .second, .val (.long qc), .second] [(.ref oa), (.ref s3), (.ref oa)]))
    have f42 := (Fld.other W39 (Fld.keep f29 Kq31 nin0) (Or.inr (slot_ne (Or.inl (wd_47 hw)) (Or.inl (wd_23 hw)) (by decide) (t := .int) (t' := (.array .int)) (by decide) (by decide))))
    obtain ⟨T43, X43, e43, st43⟩ := getF X41 hx hZ hown (host := "") (Or.inl (wd_46 hw)) Via.refl e41 f42 (g := (mkF m 113 #[.val (.ref oa), .val (.int xs), .val (.int xe), .val (.long qh), .second, .val (.long qc), .second] [(.ref oa), (.ref s3), (.ref oa)])) rfl rfl (hb hby d4_113)
    refine ownEnds.law st43 ?_
    show ownEnds _ _ _ _ (T43.setTop (mkF m 116 #[.val (.ref oa), .val (.int xs), .val (.int xe), .val (.long qh), .second, .val (.long qc), .second] [(.int (4 : Int32)), (.ref s3), (.ref oa)]))
    refine ownEnds.law (fun t k => XS.iconst X43.here hx rfl (hb hby d4_116) (XS.imul X43.here hx rfl (hb hby d4_117) rfl k)) ?_
    show ownEnds _ _ _ _ (T43.setTop (mkF m 118 #[.val (.ref oa), .val (.int xs), .val (.int xe), .val (.long qh), .second, .val (.long qc), .second] [(.int (8 : Int32)), (.ref s3), (.ref oa)]))
    have f45 := (Arv.other (Arv.keep f35 Kq31 nin0) W39 (Ne.symm n3))
    obtain ⟨v44, T44, L44, X44, hQ44, st44⟩ := ownCallS X43 hx hZ hown (y := (⟨"java/util/Arrays", "copyOf", "([JI)[J"⟩ : MethodName)) (as := [(.ref s3), (.int (8 : Int32))]) (wd_64 hw) (wd_65 hw) (wd_57 hw) (wd_66 hw) (by decide) (rm10 l Z a0 hw s3 k3 v3 h39 n0 Z39 f45) e43 1 (by decide) (by decide) (by decide) (by decide) (g := (mkF m 118 #[.val (.ref oa), .val (.int xs), .val (.int xe), .val (.long qh), .second, .val (.long qc), .second] [(.int (8 : Int32)), (.ref s3), (.ref oa)])) rfl (by rw [hml]; rfl) (rest := [(.ref oa)]) pd_3 rfl rfl (by show 2 * 0 + _ ≤ _; exact Nat.le_of_eq rfl) (hb hby d4_118)
    obtain ⟨b44, kb44, rfl, Nq44, Kq44, g_b44, zq44, Vq44⟩ := hQ44
    have f46 := (Exa.wr W39 f37)
    have ne_oa_b44 : oa ≠ b44 := Nat.ne_of_lt (Nat.lt_of_lt_of_le f46.lt zq44)
    have f47 := (Arv.other (Arv.keep f34 Kq31 nin0) W39 (Ne.symm n1))
    have ne_s1_b44 : s1 ≠ b44 := Nat.ne_of_lt (Nat.lt_of_lt_of_le f47.lt zq44)
    have f48 := (Arv.other (Arv.keep f32 Kq31 nin0) W39 (Ne.symm n2))
    have ne_s2_b44 : s2 ≠ b44 := Nat.ne_of_lt (Nat.lt_of_lt_of_le f48.lt zq44)
    have ne_s3_b44 : s3 ≠ b44 := Nat.ne_of_lt (Nat.lt_of_lt_of_le f45.lt zq44)
    have f49 := (Arv.other (Arv.keep f36 Kq31 nin0) W39 (Ne.symm ne_oa_b20))
    have ne_b20_b44 : b20 ≠ b44 := Nat.ne_of_lt (Nat.lt_of_lt_of_le f49.lt zq44)
    have f50 := (Arv.other Vq31 W39 (Ne.symm ne_oa_b31))
    have ne_b31_b44 : b31 ≠ b44 := Nat.ne_of_lt (Nat.lt_of_lt_of_le f50.lt zq44)
    have sz_b44 : h0.size ≤ b44 := Nat.le_trans (KK39).1 zq44
    have N44 := Fr.app N39 Nq44
    have KK44 : Keep h0 T44.heap [oa, s1, s2, s3] := Keep.trans (KK39) Kq44 all0
    have Z44 : n0 ≤ T44.heap.size := Nat.le_trans Z39 Kq44.1
    refine ownEnds.law st44 ?_
    show ownEnds _ _ _ _ (T44.setTop (mkF m 121 #[.val (.ref oa), .val (.int xs), .val (.int xe), .val (.long qh), .second, .val (.long qc), .second] [(.ref b44), (.ref oa)]))
    have f51 := (Exa.keep f46 Kq44)
    have f52 := (Fld.keep f40 Kq44 nin0)
    obtain ⟨T53, h53, X53, e53, W53, st53⟩ := putF X44 hx hZ hown (host := "") (Or.inl (wd_25 hw)) Via.refl rfl f52 f51 (Or.inl (wd_26 hw)) (wd_5 hw) (ty := (.array .long)) (by decide) rfl rfl (g := (mkF m 121 #[.val (.ref oa), .val (.int xs), .val (.int xe), .val (.long qh), .second, .val (.long qc), .second] [(.ref b44), (.ref oa)])) rfl rfl (hb hby d4_121)
    refine ownEnds.law st53 ?_
    have N53 := Fr.snoc X53 N44 g_oa
    have KK53 : Keep h0 h53 [oa, s1, s2, s3] := (KK44).wr W53 (Or.inl (List.mem_of_getElem? (i := 0) rfl))
    have Z53 : n0 ≤ h53.size := by rw [W53.size]; exact Z44
    have Fw53 : Fld Z h53 oa "com/example/vestline/vestline/engine/PayrollRows" "hundredths" "[J" (.ref b44) := Fld.same W53 f52
    show ownEnds _ _ _ _ (T53.setTop (mkF m 124 #[.val (.ref oa), .val (.int xs), .val (.int xe), .val (.long qh), .second, .val (.long qc), .second] []))
    refine ownEnds.law (fun t k => XS.aloadN X53.here hx rfl (hb hby d4_124) rfl rfl k) ?_
    show ownEnds _ _ _ _ (T53.setTop (mkF m 125 #[.val (.ref oa), .val (.int xs), .val (.int xe), .val (.long qh), .second, .val (.long qc), .second] [(.ref oa)]))
    have f54 := (Fld.other W53 (Fld.keep (Fld.other W39 (Fld.keep (Fld.other W26 (Fld.keep (Fld.other W10 (Fld.other W5 FC (Or.inr (slot_ne (Or.inl (wd_49 hw)) (Or.inl (wd_15 hw)) (by decide) (t := (.array .long)) (t' := .int) (by decide) (by decide)))) (Or.inr (slot_ne (Or.inl (wd_49 hw)) (Or.inl (wd_18 hw)) (by decide) (t := (.array .long)) (t' := .int) (by decide) (by decide)))) Kq20 nin0) (Or.inr (slot_ne (Or.inl (wd_49 hw)) (Or.inl (wd_21 hw)) (by decide) (t := (.array .long)) (t' := (.array .int)) (by decide) (by decide)))) Kq31 nin0) (Or.inr (slot_ne (Or.inl (wd_49 hw)) (Or.inl (wd_23 hw)) (by decide) (t := (.array .long)) (t' := (.array .int)) (by decide) (by decide)))) Kq44 nin0) (Or.inr (slot_ne (Or.inl (wd_49 hw)) (Or.inl (wd_26 hw)) (by decide) (t := (.array .long)) (t' := (.array .long)) (by decide) (by decide))))
    obtain ⟨T55, X55, e55, st55⟩ := getF X53 hx hZ hown (host := "") (Or.inl (wd_48 hw)) Via.refl e53 f54 (g := (mkF m 125 #[.val (.ref oa), .val (.int xs), .val (.int xe), .val (.long qh), .second, .val (.long qc), .second] [(.ref oa)])) rfl rfl (hb hby d4_125)
    refine ownEnds.law st55 ?_
    show ownEnds _ _ _ _ (T55.setTop (mkF m 128 #[.val (.ref oa), .val (.int xs), .val (.int xe), .val (.long qh), .second, .val (.long qc), .second] [.null]))
    refine ownEnds.law (fun t k => XS.ifnullYes X55.here hx rfl (pc0 := 128) (pc' := 148) rfl (hb hby d4_128) rfl (by decide) (by decide) (XS.aloadN X55.here hx rfl (hb hby d4_148) rfl rfl k)) ?_
    show ownEnds _ _ _ _ (T55.setTop (mkF m 149 #[.val (.ref oa), .val (.int xs), .val (.int xe), .val (.long qh), .second, .val (.long qc), .second] [(.ref oa)]))
    obtain ⟨T56, X56, e56, st56⟩ := getF X55 hx hZ hown (host := "") (Or.inl (wd_48 hw)) Via.refl e55 f54 (g := (mkF m 149 #[.val (.ref oa), .val (.int xs), .val (.int xe), .val (.long qh), .second, .val (.long qc), .second] [(.ref oa)])) rfl rfl (hb hby d4_149)
    refine ownEnds.law st56 ?_
    show ownEnds _ _ _ _ (T56.setTop (mkF m 152 #[.val (.ref oa), .val (.int xs), .val (.int xe), .val (.long qh), .second, .val (.long qc), .second] [.null]))
    refine ownEnds.law (fun t k => XS.ifnonnullNo X56.here hx rfl (hb hby d4_152) rfl (XS.lload X56.here hx rfl (hb hby d4_155) rfl (XS.lconst X56.here hx rfl (hb hby d4_157) (XS.lcmp X56.here hx rfl (hb hby d4_158) rfl k)))) ?_
    show ownEnds _ _ _ _ (T56.setTop (mkF m 159 #[.val (.ref oa), .val (.int xs), .val (.int xe), .val (.long qh), .second, .val (.long qc), .second] [(.int (lcmpW qc (0 : Int64)))]))
    by_cases hc159 : qc = (0 : Int64)
    · refine ownEnds.law (fun t => XS.ifYes X56.here hx rfl (pc0 := 159) (pc' := 173) rfl (hb hby d4_159) rfl ((if0 _ _).trans (teq ((lw_eq _ _).mpr hc159)).1) (by decide) (by decide)) ?_
      show ownEnds _ _ _ _ (T56.setTop (mkF m 173 #[.val (.ref oa), .val (.int xs), .val (.int xe), .val (.long qh), .second, .val (.long qc), .second] []))
      refine ownEnds.law (fun t k => XS.aloadN X56.here hx rfl (hb hby d4_173) rfl rfl k) ?_
      show ownEnds _ _ _ _ (T56.setTop (mkF m 174 #[.val (.ref oa), .val (.int xs), .val (.int xe), .val (.long qh), .second, .val (.long qc), .second] [(.ref oa)]))
      have f57 := (Fld.other W53 (Fld.keep (Fld.other W39 (Fld.keep Fw26 Kq31 nin0) (Or.inr (slot_ne (Or.inl (wd_21 hw)) (Or.inl (wd_23 hw)) (by decide) (t := (.array .int)) (t' := (.array .int)) (by decide) (by decide)))) Kq44 nin0) (Or.inr (slot_ne (Or.inl (wd_21 hw)) (Or.inl (wd_26 hw)) (by decide) (t := (.array .int)) (t' := (.array .long)) (by decide) (by decide))))
      obtain ⟨T58, X58, e58, st58⟩ := getF X56 hx hZ hown (host := "") (Or.inl (wd_20 hw)) Via.refl e56 f57 (g := (mkF m 174 #[.val (.ref oa), .val (.int xs), .val (.int xe), .val (.long qh), .second, .val (.long qc), .second] [(.ref oa)])) rfl rfl (hb hby d4_174)
      refine ownEnds.law st58 ?_
      show ownEnds _ _ _ _ (T58.setTop (mkF m 177 #[.val (.ref oa), .val (.int xs), .val (.int xe), .val (.long qh), .second, .val (.long qc), .second] [(.ref b20)]))
      refine ownEnds.law (fun t k => XS.aloadN X58.here hx rfl (hb hby d4_177) rfl rfl k) ?_
      show ownEnds _ _ _ _ (T58.setTop (mkF m 178 #[.val (.ref oa), .val (.int xs), .val (.int xe), .val (.long qh), .second, .val (.long qc), .second] [(.ref oa), (.ref b20)]))
      have f59 := (Fld.other W53 (Fld.keep f42 Kq44 nin0) (Or.inr (slot_ne (Or.inl (wd_47 hw)) (Or.inl (wd_26 hw)) (by decide) (t := .int) (t' := (.array .long)) (by decide) (by decide))))
      obtain ⟨T60, X60, e60, st60⟩ := getF X58 hx hZ hown (host := "") (Or.inl (wd_46 hw)) Via.refl e58 f59 (g := (mkF m 178 #[.val (.ref oa), .val (.int xs), .val (.int xe), .val (.long qh), .second, .val (.long qc), .second] [(.ref oa), (.ref b20)])) rfl rfl (hb hby d4_178)
      refine ownEnds.law st60 ?_
      show ownEnds _ _ _ _ (T60.setTop (mkF m 181 #[.val (.ref oa), .val (.int xs), .val (.int xe), .val (.long qh), .second, .val (.long qc), .second] [(.int (4 : Int32)), (.ref b20)]))
      refine ownEnds.law (fun t k => XS.iloadN X60.here hx rfl (hb hby d4_181) rfl k) ?_
      show ownEnds _ _ _ _ (T60.setTop (mkF m 182 #[.val (.ref oa), .val (.int xs), .val (.int xe), .val (.long qh), .second, .val (.long qc), .second] [(.int xs), (.int (4 : Int32)), (.ref b20)]))
      have f62 := (Arv.other (Arv.keep f49 Kq44 nin0) W53 (Ne.symm ne_oa_b20))
      obtain ⟨cl61, Ar61, q61, S61, N61, H61, G61⟩ := id f62
      obtain ⟨T61, h61, X61, e61, W61, st61⟩ := stI X60 hx hZ e60 Ar61 (j := (4 : Int32)) (inb_of S61 ⟨by decide, by decide⟩) (g := (mkF m 182 #[.val (.ref oa), .val (.int xs), .val (.int xe), .val (.long qh), .second, .val (.long qc), .second] [(.int xs), (.int (4 : Int32)), (.ref b20)])) rfl rfl (hb hby d4_182)
      refine ownEnds.law st61 ?_
      have V61 : Arv Z h61 b20 kb20 .int (8 : Int32) [(v1.getD 0 (.int (0 : Int32))), (v1.getD 1 (.int (0 : Int32))), (v1.getD 2 (.int (0 : Int32))), (v1.getD 3 (.int (0 : Int32))), (.int xs), (.int (0 : Int32)), (.int (0 : Int32)), (.int (0 : Int32))] (.int (0 : Int32)) := Arv.set Ar61 q61 S61 N61 H61 G61 rfl W61 4 rfl (Nat.le_of_ble_eq_true rfl)
      have N61 := Fr.snoc X61 N53 g_b20
      have KK61 : Keep h0 h61 [oa, s1, s2, s3] := (KK53).wr W61 (Or.inr sz_b20)
      have Z61 : n0 ≤ h61.size := by rw [W61.size]; exact Z53
      show ownEnds _ _ _ _ (T61.setTop (mkF m 183 #[.val (.ref oa), .val (.int xs), .val (.int xe), .val (.long qh), .second, .val (.long qc), .second] []))
      refine ownEnds.law (fun t k => XS.aloadN X61.here hx rfl (hb hby d4_183) rfl rfl k) ?_
      show ownEnds _ _ _ _ (T61.setTop (mkF m 184 #[.val (.ref oa), .val (.int xs), .val (.int xe), .val (.long qh), .second, .val (.long qc), .second] [(.ref oa)]))
      have f63 := (Fld.other W61 (Fld.other W53 (Fld.keep Fw39 Kq44 nin0) (Or.inr (slot_ne (Or.inl (wd_23 hw)) (Or.inl (wd_26 hw)) (by decide) (t := (.array .int)) (t' := (.array .long)) (by decide) (by decide)))) (Or.inl ne_oa_b20))
      obtain ⟨T64, X64, e64, st64⟩ := getF X61 hx hZ hown (host := "") (Or.inl (wd_22 hw)) Via.refl e61 f63 (g := (mkF m 184 #[.val (.ref oa), .val (.int xs), .val (.int xe), .val (.long qh), .second, .val (.long qc), .second] [(.ref oa)])) rfl rfl (hb hby d4_184)
      refine ownEnds.law st64 ?_
      show ownEnds _ _ _ _ (T64.setTop (mkF m 187 #[.val (.ref oa), .val (.int xs), .val (.int xe), .val (.long qh), .second, .val (.long qc), .second] [(.ref b31)]))
      refine ownEnds.law (fun t k => XS.aloadN X64.here hx rfl (hb hby d4_187) rfl rfl k) ?_
      show ownEnds _ _ _ _ (T64.setTop (mkF m 188 #[.val (.ref oa), .val (.int xs), .val (.int xe), .val (.long qh), .second, .val (.long qc), .second] [(.ref oa), (.ref b31)]))
      have f65 := (Fld.other W61 f59 (Or.inl ne_oa_b20))
      obtain ⟨T66, X66, e66, st66⟩ := getF X64 hx hZ hown (host := "") (Or.inl (wd_46 hw)) Via.refl e64 f65 (g := (mkF m 188 #[.val (.ref oa), .val (.int xs), .val (.int xe), .val (.long qh), .second, .val (.long qc), .second] [(.ref oa), (.ref b31)])) rfl rfl (hb hby d4_188)
      refine ownEnds.law st66 ?_
      show ownEnds _ _ _ _ (T66.setTop (mkF m 191 #[.val (.ref oa), .val (.int xs), .val (.int xe), .val (.long qh), .second, .val (.long qc), .second] [(.int (4 : Int32)), (.ref b31)]))
      refine ownEnds.law (fun t k => XS.iloadN X66.here hx rfl (hb hby d4_191) rfl k) ?_
      show ownEnds _ _ _ _ (T66.setTop (mkF m 192 #[.val (.ref oa), .val (.int xs), .val (.int xe), .val (.long qh), .second, .val (.long qc), .second] [(.int xe), (.int (4 : Int32)), (.ref b31)]))
      have f68 := (Arv.other (Arv.other (Arv.keep f50 Kq44 nin0) W53 (Ne.symm ne_oa_b31)) W61 (Ne.symm ne_b20_b31))
      obtain ⟨cl67, Ar67, q67, S67, N67, H67, G67⟩ := id f68
      obtain ⟨T67, h67, X67, e67, W67, st67⟩ := stI X66 hx hZ e66 Ar67 (j := (4 : Int32)) (inb_of S67 ⟨by decide, by decide⟩) (g := (mkF m 192 #[.val (.ref oa), .val (.int xs), .val (.int xe), .val (.long qh), .second, .val (.long qc), .second] [(.int xe), (.int (4 : Int32)), (.ref b31)])) rfl rfl (hb hby d4_192)
      refine ownEnds.law st67 ?_
      have V67 : Arv Z h67 b31 kb31 .int (8 : Int32) [(v2.getD 0 (.int (0 : Int32))), (v2.getD 1 (.int (0 : Int32))), (v2.getD 2 (.int (0 : Int32))), (v2.getD 3 (.int (0 : Int32))), (.int xe), (.int (0 : Int32)), (.int (0 : Int32)), (.int (0 : Int32))] (.int (0 : Int32)) := Arv.set Ar67 q67 S67 N67 H67 G67 rfl W67 4 rfl (Nat.le_of_ble_eq_true rfl)
      have N67 := Fr.snoc X67 N61 g_b31
      have KK67 : Keep h0 h67 [oa, s1, s2, s3] := (KK61).wr W67 (Or.inr sz_b31)
      have Z67 : n0 ≤ h67.size := by rw [W67.size]; exact Z61
      show ownEnds _ _ _ _ (T67.setTop (mkF m 193 #[.val (.ref oa), .val (.int xs), .val (.int xe), .val (.long qh), .second, .val (.long qc), .second] []))
      refine ownEnds.law (fun t k => XS.aloadN X67.here hx rfl (hb hby d4_193) rfl rfl k) ?_
      show ownEnds _ _ _ _ (T67.setTop (mkF m 194 #[.val (.ref oa), .val (.int xs), .val (.int xe), .val (.long qh), .second, .val (.long qc), .second] [(.ref oa)]))
      have f69 := (Fld.other W67 (Fld.other W61 Fw53 (Or.inl ne_oa_b20)) (Or.inl ne_oa_b31))
      obtain ⟨T70, X70, e70, st70⟩ := getF X67 hx hZ hown (host := "") (Or.inl (wd_25 hw)) Via.refl e67 f69 (g := (mkF m 194 #[.val (.ref oa), .val (.int xs), .val (.int xe), .val (.long qh), .second, .val (.long qc), .second] [(.ref oa)])) rfl rfl (hb hby d4_194)
      refine ownEnds.law st70 ?_
      show ownEnds _ _ _ _ (T70.setTop (mkF m 197 #[.val (.ref oa), .val (.int xs), .val (.int xe), .val (.long qh), .second, .val (.long qc), .second] [(.ref b44)]))
      refine ownEnds.law (fun t k => XS.aloadN X70.here hx rfl (hb hby d4_197) rfl rfl k) ?_
      show ownEnds _ _ _ _ (T70.setTop (mkF m 198 #[.val (.ref oa), .val (.int xs), .val (.int xe), .val (.long qh), .second, .val (.long qc), .second] [(.ref oa), (.ref b44)]))
      have f71 := (Fld.other W67 f65 (Or.inl ne_oa_b31))
      obtain ⟨T72, X72, e72, st72⟩ := getF X70 hx hZ hown (host := "") (Or.inl (wd_46 hw)) Via.refl e70 f71 (g := (mkF m 198 #[.val (.ref oa), .val (.int xs), .val (.int xe), .val (.long qh), .second, .val (.long qc), .second] [(.ref oa), (.ref b44)])) rfl rfl (hb hby d4_198)
      refine ownEnds.law st72 ?_
      show ownEnds _ _ _ _ (T72.setTop (mkF m 201 #[.val (.ref oa), .val (.int xs), .val (.int xe), .val (.long qh), .second, .val (.long qc), .second] [(.int (4 : Int32)), (.ref b44)]))
      refine ownEnds.law (fun t k => XS.lloadN X72.here hx rfl (hb hby d4_201) rfl k) ?_
      show ownEnds _ _ _ _ (T72.setTop (mkF m 202 #[.val (.ref oa), .val (.int xs), .val (.int xe), .val (.long qh), .second, .val (.long qc), .second] [(.long qh), (.int (4 : Int32)), (.ref b44)]))
      have f74 := (Arv.other (Arv.other (Arv.other Vq44 W53 (Ne.symm ne_oa_b44)) W61 (Ne.symm ne_b20_b44)) W67 (Ne.symm ne_b31_b44))
      obtain ⟨cl73, Ar73, q73, S73, N73, H73, G73⟩ := id f74
      obtain ⟨T73, h73, X73, e73, W73, st73⟩ := stJ X72 hx hZ e72 Ar73 (j := (4 : Int32)) (inb_of S73 ⟨by decide, by decide⟩) (g := (mkF m 202 #[.val (.ref oa), .val (.int xs), .val (.int xe), .val (.long qh), .second, .val (.long qc), .second] [(.long qh), (.int (4 : Int32)), (.ref b44)])) rfl rfl (hb hby d4_202)
      refine ownEnds.law st73 ?_
      have V73 : Arv Z h73 b44 kb44 .long (8 : Int32) [(v3.getD 0 (.long (0 : Int64))), (v3.getD 1 (.long (0 : Int64))), (v3.getD 2 (.long (0 : Int64))), (v3.getD 3 (.long (0 : Int64))), (.long qh), (.long (0 : Int64)), (.long (0 : Int64)), (.long (0 : Int64))] (.long (0 : Int64)) := Arv.set Ar73 q73 S73 N73 H73 G73 rfl W73 4 rfl (Nat.le_of_ble_eq_true rfl)
      have N73 := Fr.snoc X73 N67 g_b44
      have KK73 : Keep h0 h73 [oa, s1, s2, s3] := (KK67).wr W73 (Or.inr sz_b44)
      have Z73 : n0 ≤ h73.size := by rw [W73.size]; exact Z67
      show ownEnds _ _ _ _ (T73.setTop (mkF m 203 #[.val (.ref oa), .val (.int xs), .val (.int xe), .val (.long qh), .second, .val (.long qc), .second] []))
      refine ownEnds.law (fun t k => XS.aloadN X73.here hx rfl (hb hby d4_203) rfl rfl k) ?_
      show ownEnds _ _ _ _ (T73.setTop (mkF m 204 #[.val (.ref oa), .val (.int xs), .val (.int xe), .val (.long qh), .second, .val (.long qc), .second] [(.ref oa)]))
      have f75 := (Fld.other W73 (Fld.other W67 (Fld.other W61 f54 (Or.inl ne_oa_b20)) (Or.inl ne_oa_b31)) (Or.inl ne_oa_b44))
      obtain ⟨T76, X76, e76, st76⟩ := getF X73 hx hZ hown (host := "") (Or.inl (wd_48 hw)) Via.refl e73 f75 (g := (mkF m 204 #[.val (.ref oa), .val (.int xs), .val (.int xe), .val (.long qh), .second, .val (.long qc), .second] [(.ref oa)])) rfl rfl (hb hby d4_204)
      refine ownEnds.law st76 ?_
      show ownEnds _ _ _ _ (T76.setTop (mkF m 207 #[.val (.ref oa), .val (.int xs), .val (.int xe), .val (.long qh), .second, .val (.long qc), .second] [.null]))
      refine ownEnds.law (fun t k => XS.ifnullYes X76.here hx rfl (pc0 := 207) (pc' := 221) rfl (hb hby d4_207) rfl (by decide) (by decide) (XS.aloadN X76.here hx rfl (hb hby d4_221) rfl rfl (XS.dup X76.here hx rfl (hb hby d4_222) rfl rfl k))) ?_
      show ownEnds _ _ _ _ (T76.setTop (mkF m 223 #[.val (.ref oa), .val (.int xs), .val (.int xe), .val (.long qh), .second, .val (.long qc), .second] [(.ref oa), (.ref oa)]))
      have f77 := (Fld.other W73 f71 (Or.inl ne_oa_b44))
      obtain ⟨T78, X78, e78, st78⟩ := getF X76 hx hZ hown (host := "") (Or.inl (wd_46 hw)) Via.refl e76 f77 (g := (mkF m 223 #[.val (.ref oa), .val (.int xs), .val (.int xe), .val (.long qh), .second, .val (.long qc), .second] [(.ref oa), (.ref oa)])) rfl rfl (hb hby d4_223)
      refine ownEnds.law st78 ?_
      show ownEnds _ _ _ _ (T78.setTop (mkF m 226 #[.val (.ref oa), .val (.int xs), .val (.int xe), .val (.long qh), .second, .val (.long qc), .second] [(.int (4 : Int32)), (.ref oa)]))
      refine ownEnds.law (fun t k => XS.iconst X78.here hx rfl (hb hby d4_226) (XS.iadd X78.here hx rfl (hb hby d4_227) rfl k)) ?_
      show ownEnds _ _ _ _ (T78.setTop (mkF m 228 #[.val (.ref oa), .val (.int xs), .val (.int xe), .val (.long qh), .second, .val (.long qc), .second] [(.int (5 : Int32)), (.ref oa)]))
      have f79 := (Exa.wr W73 (Exa.wr W67 (Exa.wr W61 (Exa.wr W53 f51))))
      obtain ⟨T80, h80, X80, e80, W80, st80⟩ := putF X78 hx hZ hown (host := "") (Or.inl (wd_46 hw)) Via.refl e78 f77 f79 (Or.inl (wd_47 hw)) (wd_5 hw) (ty := .int) (by decide) rfl rfl (g := (mkF m 228 #[.val (.ref oa), .val (.int xs), .val (.int xe), .val (.long qh), .second, .val (.long qc), .second] [(.int (5 : Int32)), (.ref oa)])) rfl rfl (hb hby d4_228)
      refine ownEnds.law st80 ?_
      have N80 := Fr.snoc X80 N73 g_oa
      have KK80 : Keep h0 h80 [oa, s1, s2, s3] := (KK73).wr W80 (Or.inl (List.mem_of_getElem? (i := 0) rfl))
      have Z80 : n0 ≤ h80.size := by rw [W80.size]; exact Z73
      have Fw80 : Fld Z h80 oa "com/example/vestline/vestline/engine/PayrollRows" "size" "I" (.int (5 : Int32)) := Fld.same W80 f77
      show ownEnds _ _ _ _ (T80.setTop (mkF m 231 #[.val (.ref oa), .val (.int xs), .val (.int xe), .val (.long qh), .second, .val (.long qc), .second] []))
      refine ownRetV X80 hlk hx hret (hb hby d4_231) (by decide) (by decide) ?_
      have f81 := (Fld.other W80 f75 (Or.inr (slot_ne (Or.inl (wd_49 hw)) (Or.inl (wd_47 hw)) (by decide) (t := (.array .long)) (t' := .int) (by decide) (by decide))))
      have f82 := (Exa.wr W80 f79)
      have f83 := (Fld.other W80 (Fld.other W73 (Fld.other W67 (Fld.other W61 (Fld.other W53 (Fld.keep (Fld.other W39 (Fld.keep (Fld.other W26 (Fld.keep (Fld.other W10 (Fld.other W5 F1 (Or.inr (slot_ne (Or.inl (wd_34 hw)) (Or.inl (wd_15 hw)) (by decide) (t := (.object "java/util/NavigableMap")) (t' := .int) (by decide) (by decide)))) (Or.inr (slot_ne (Or.inl (wd_34 hw)) (Or.inl (wd_18 hw)) (by decide) (t := (.object "java/util/NavigableMap")) (t' := .int) (by decide) (by decide)))) Kq20 nin0) (Or.inr (slot_ne (Or.inl (wd_34 hw)) (Or.inl (wd_21 hw)) (by decide) (t := (.object "java/util/NavigableMap")) (t' := (.array .int)) (by decide) (by decide)))) Kq31 nin0) (Or.inr (slot_ne (Or.inl (wd_34 hw)) (Or.inl (wd_23 hw)) (by decide) (t := (.object "java/util/NavigableMap")) (t' := (.array .int)) (by decide) (by decide)))) Kq44 nin0) (Or.inr (slot_ne (Or.inl (wd_34 hw)) (Or.inl (wd_26 hw)) (by decide) (t := (.object "java/util/NavigableMap")) (t' := (.array .long)) (by decide) (by decide)))) (Or.inl ne_oa_b20)) (Or.inl ne_oa_b31)) (Or.inl ne_oa_b44)) (Or.inr (slot_ne (Or.inl (wd_34 hw)) (Or.inl (wd_47 hw)) (by decide) (t := (.object "java/util/NavigableMap")) (t' := .int) (by decide) (by decide))))
      have f84 := (Fld.other W80 (Fld.other W73 (Fld.other W67 (Fld.other W61 (Fld.other W53 (Fld.keep (Fld.other W39 (Fld.keep (Fld.other W26 (Fld.keep (Fld.other W10 Fw5 (Or.inr (slot_ne (Or.inl (wd_15 hw)) (Or.inl (wd_18 hw)) (by decide) (t := .int) (t' := .int) (by decide) (by decide)))) Kq20 nin0) (Or.inr (slot_ne (Or.inl (wd_15 hw)) (Or.inl (wd_21 hw)) (by decide) (t := .int) (t' := (.array .int)) (by decide) (by decide)))) Kq31 nin0) (Or.inr (slot_ne (Or.inl (wd_15 hw)) (Or.inl (wd_23 hw)) (by decide) (t := .int) (t' := (.array .int)) (by decide) (by decide)))) Kq44 nin0) (Or.inr (slot_ne (Or.inl (wd_15 hw)) (Or.inl (wd_26 hw)) (by decide) (t := .int) (t' := (.array .long)) (by decide) (by decide)))) (Or.inl ne_oa_b20)) (Or.inl ne_oa_b31)) (Or.inl ne_oa_b44)) (Or.inr (slot_ne (Or.inl (wd_15 hw)) (Or.inl (wd_47 hw)) (by decide) (t := .int) (t' := .int) (by decide) (by decide))))
      have f85 := (Fld.other W80 (Fld.other W73 (Fld.other W67 (Fld.other W61 (Fld.other W53 (Fld.keep (Fld.other W39 (Fld.keep (Fld.other W26 (Fld.keep Fw10 Kq20 nin0) (Or.inr (slot_ne (Or.inl (wd_18 hw)) (Or.inl (wd_21 hw)) (by decide) (t := .int) (t' := (.array .int)) (by decide) (by decide)))) Kq31 nin0) (Or.inr (slot_ne (Or.inl (wd_18 hw)) (Or.inl (wd_23 hw)) (by decide) (t := .int) (t' := (.array .int)) (by decide) (by decide)))) Kq44 nin0) (Or.inr (slot_ne (Or.inl (wd_18 hw)) (Or.inl (wd_26 hw)) (by decide) (t := .int) (t' := (.array .long)) (by decide) (by decide)))) (Or.inl ne_oa_b20)) (Or.inl ne_oa_b31)) (Or.inl ne_oa_b44)) (Or.inr (slot_ne (Or.inl (wd_18 hw)) (Or.inl (wd_47 hw)) (by decide) (t := .int) (t' := .int) (by decide) (by decide))))
      have f86 := (Fld.other W80 (Fld.other W73 (Fld.other W67 (Fld.other W61 f57 (Or.inl ne_oa_b20)) (Or.inl ne_oa_b31)) (Or.inl ne_oa_b44)) (Or.inr (slot_ne (Or.inl (wd_21 hw)) (Or.inl (wd_47 hw)) (by decide) (t := (.array .int)) (t' := .int) (by decide) (by decide))))
      have f87 := (Fld.other W80 (Fld.other W73 (Fld.other W67 f63 (Or.inl ne_oa_b31)) (Or.inl ne_oa_b44)) (Or.inr (slot_ne (Or.inl (wd_23 hw)) (Or.inl (wd_47 hw)) (by decide) (t := (.array .int)) (t' := .int) (by decide) (by decide))))
      have f88 := (Fld.other W80 (Fld.other W73 f69 (Or.inl ne_oa_b44)) (Or.inr (slot_ne (Or.inl (wd_26 hw)) (Or.inl (wd_47 hw)) (by decide) (t := (.array .long)) (t' := .int) (by decide) (by decide))))
      have f89 := (Arv.other (Arv.other (Arv.other V61 W67 ne_b20_b31) W73 ne_b20_b44) W80 (Ne.symm ne_oa_b20))
      have f90 := (Arv.other (Arv.other V67 W73 ne_b31_b44) W80 (Ne.symm ne_oa_b31))
      have f91 := (Arv.other V73 W80 (Ne.symm ne_oa_b44))
      rw [e80]
      exact ⟨rfl, N80, (KK80).1, ⟨(FMin fs xs), b20, b31, b44, kb20, kb31, kb44, [(v1.getD 0 (.int (0 : Int32))), (v1.getD 1 (.int (0 : Int32))), (v1.getD 2 (.int (0 : Int32))), (v1.getD 3 (.int (0 : Int32))), (.int xs), (.int (0 : Int32)), (.int (0 : Int32)), (.int (0 : Int32))], [(v2.getD 0 (.int (0 : Int32))), (v2.getD 1 (.int (0 : Int32))), (v2.getD 2 (.int (0 : Int32))), (v2.getD 3 (.int (0 : Int32))), (.int xe), (.int (0 : Int32)), (.int (0 : Int32)), (.int (0 : Int32))], [(v3.getD 0 (.long (0 : Int64))), (v3.getD 1 (.long (0 : Int64))), (v3.getD 2 (.long (0 : Int64))), (v3.getD 3 (.long (0 : Int64))), (.long qh), (.long (0 : Int64)), (.long (0 : Int64)), (.long (0 : Int64))], ⟨g_oa, g_b20, g_b31, g_b44⟩, ⟨ne_oa_b20, ne_oa_b31, ne_oa_b44, ne_b20_b31, ne_b20_b44, ne_b31_b44⟩, ⟨rfl, rfl, rfl, by rw [List.length_append, l4]; rfl⟩, f82, f83, f84, f85, Fw80, f86, f87, f88, f89, f90, f91, Or.inl ⟨f81, own_za hz hc159⟩⟩⟩
    · refine ownEnds.law (fun t => XS.ifNo X56.here hx rfl (hb hby d4_159) rfl ((if0 _ _).trans (feq (fun q => hc159 ((lw_eq _ _).mp q))).1)) ?_
      show ownEnds _ _ _ _ (T56.setTop (mkF m 162 #[.val (.ref oa), .val (.int xs), .val (.int xe), .val (.long qh), .second, .val (.long qc), .second] []))
      refine ownEnds.law (fun t k => XS.aloadN X56.here hx rfl (hb hby d4_162) rfl rfl (XS.aloadN X56.here hx rfl (hb hby d4_163) rfl rfl k)) ?_
      show ownEnds _ _ _ _ (T56.setTop (mkF m 164 #[.val (.ref oa), .val (.int xs), .val (.int xe), .val (.long qh), .second, .val (.long qc), .second] [(.ref oa), (.ref oa)]))
      have f92 := (Fld.other W53 (Fld.keep Fw39 Kq44 nin0) (Or.inr (slot_ne (Or.inl (wd_23 hw)) (Or.inl (wd_26 hw)) (by decide) (t := (.array .int)) (t' := (.array .long)) (by decide) (by decide))))
      obtain ⟨T93, X93, e93, st93⟩ := getF X56 hx hZ hown (host := "") (Or.inl (wd_22 hw)) Via.refl e56 f92 (g := (mkF m 164 #[.val (.ref oa), .val (.int xs), .val (.int xe), .val (.long qh), .second, .val (.long qc), .second] [(.ref oa), (.ref oa)])) rfl rfl (hb hby d4_164)
      refine ownEnds.law st93 ?_
      show ownEnds _ _ _ _ (T93.setTop (mkF m 167 #[.val (.ref oa), .val (.int xs), .val (.int xe), .val (.long qh), .second, .val (.long qc), .second] [(.ref b31), (.ref oa)]))
      have f95 := (Arv.other (Arv.keep f50 Kq44 nin0) W53 (Ne.symm ne_oa_b31))
      obtain ⟨cl94, Ar94, -, S94, N94, -, -⟩ := id f95
      refine ownEnds.law (X93.arraylength hx (by rw [e93]; exact Ar94.1) (State.isArrayOf_alike hZ.alike Ar94.2.1) (g := (mkF m 167 #[.val (.ref oa), .val (.int xs), .val (.int xe), .val (.long qh), .second, .val (.long qc), .second] [(.ref b31), (.ref oa)])) rfl rfl (hb hby d4_167)) ?_
      rw [len_of S94 N94]
      show ownEnds _ _ _ _ (T93.setTop (mkF m 168 #[.val (.ref oa), .val (.int xs), .val (.int xe), .val (.long qh), .second, .val (.long qc), .second] [(.int (8 : Int32)), (.ref oa)]))
      obtain ⟨T96, h96, k96, X96, e96, E96, A96, st96⟩ := newP X93 hx hZ (aty := .long) (wd_24 hw) e93 (g := (mkF m 168 #[.val (.ref oa), .val (.int xs), .val (.int xe), .val (.long qh), .second, .val (.long qc), .second] [(.int (8 : Int32)), (.ref oa)])) rfl (hb hby d4_168) rfl (by decide) (cap := 8) (by decide) (by decide) (by decide) (by decide)
      obtain ⟨b96, g96⟩ : ∃ z, z = h53.size := ⟨_, rfl⟩
      rw [← g96] at A96 st96
      refine ownEnds.law st96 ?_
      have V_b96 : Arv Z h96 b96 k96 .long (8 : Int32) [(.long (0 : Int64)), (.long (0 : Int64)), (.long (0 : Int64)), (.long (0 : Int64)), (.long (0 : Int64)), (.long (0 : Int64)), (.long (0 : Int64)), (.long (0 : Int64))] (.long (0 : Int64)) := (Arv.new A96 (by decide)).pad (pad_rep [] (.long (0 : Int64)) 8)
      have f97 := (Exa.wr W53 f51)
      have ne_oa_b96 : oa ≠ b96 := Nat.ne_of_lt (Nat.lt_of_lt_of_eq f97.lt g96.symm)
      have f98 := (Arv.other (Arv.keep f47 Kq44 nin0) W53 (Ne.symm n1))
      have ne_s1_b96 : s1 ≠ b96 := Nat.ne_of_lt (Nat.lt_of_lt_of_eq f98.lt g96.symm)
      have f99 := (Arv.other (Arv.keep f48 Kq44 nin0) W53 (Ne.symm n2))
      have ne_s2_b96 : s2 ≠ b96 := Nat.ne_of_lt (Nat.lt_of_lt_of_eq f99.lt g96.symm)
      have f100 := (Arv.other (Arv.keep f45 Kq44 nin0) W53 (Ne.symm n3))
      have ne_s3_b96 : s3 ≠ b96 := Nat.ne_of_lt (Nat.lt_of_lt_of_eq f100.lt g96.symm)
      have f101 := (Arv.other (Arv.keep f49 Kq44 nin0) W53 (Ne.symm ne_oa_b20))
      have ne_b20_b96 : b20 ≠ b96 := Nat.ne_of_lt (Nat.lt_of_lt_of_eq f101.lt g96.symm)
      have ne_b31_b96 : b31 ≠ b96 := Nat.ne_of_lt (Nat.lt_of_lt_of_eq f95.lt g96.symm)
      have f102 := (Arv.other Vq44 W53 (Ne.symm ne_oa_b44))
      have ne_b44_b96 : b44 ≠ b96 := Nat.ne_of_lt (Nat.lt_of_lt_of_eq f102.lt g96.symm)
      have g_b96 : n0 ≤ b96 := Nat.le_trans Z53 (Nat.le_of_eq g96.symm)
      have sz_b96 : h0.size ≤ b96 := Nat.le_trans (KK53).1 (Nat.le_of_eq g96.symm)
      have Z96 : n0 ≤ h96.size := Nat.le_trans Z53 E96.1
      have KK96 : Keep h0 h96 [oa, s1, s2, s3] := (KK53).ext E96
      show ownEnds _ _ _ _ (T96.setTop (mkF m 170 #[.val (.ref oa), .val (.int xs), .val (.int xe), .val (.long qh), .second, .val (.long qc), .second] [(.ref b96), (.ref oa)]))
      have f103 := (Exa.ext E96 f97)
      have f104 := (Fld.ext E96 f54)
      obtain ⟨T105, h105, X105, e105, W105, st105⟩ := putF X96 hx hZ hown (host := "") (Or.inl (wd_48 hw)) Via.refl e96 f104 f103 (Or.inl (wd_49 hw)) (wd_5 hw) (ty := (.array .long)) (by decide) rfl rfl (g := (mkF m 170 #[.val (.ref oa), .val (.int xs), .val (.int xe), .val (.long qh), .second, .val (.long qc), .second] [(.ref b96), (.ref oa)])) rfl rfl (hb hby d4_170)
      refine ownEnds.law st105 ?_
      have N105 := Fr.snoc X105 N53 g_oa
      have KK105 : Keep h0 h105 [oa, s1, s2, s3] := (KK96).wr W105 (Or.inl (List.mem_of_getElem? (i := 0) rfl))
      have Z105 : n0 ≤ h105.size := by rw [W105.size]; exact Z96
      have Fw105 : Fld Z h105 oa "com/example/vestline/vestline/engine/PayrollRows" "cents" "[J" (.ref b96) := Fld.same W105 f104
      show ownEnds _ _ _ _ (T105.setTop (mkF m 173 #[.val (.ref oa), .val (.int xs), .val (.int xe), .val (.long qh), .second, .val (.long qc), .second] []))
      refine ownEnds.law (fun t k => XS.aloadN X105.here hx rfl (hb hby d4_173) rfl rfl k) ?_
      show ownEnds _ _ _ _ (T105.setTop (mkF m 174 #[.val (.ref oa), .val (.int xs), .val (.int xe), .val (.long qh), .second, .val (.long qc), .second] [(.ref oa)]))
      have f106 := (Fld.other W105 (Fld.ext E96 (Fld.other W53 (Fld.keep (Fld.other W39 (Fld.keep Fw26 Kq31 nin0) (Or.inr (slot_ne (Or.inl (wd_21 hw)) (Or.inl (wd_23 hw)) (by decide) (t := (.array .int)) (t' := (.array .int)) (by decide) (by decide)))) Kq44 nin0) (Or.inr (slot_ne (Or.inl (wd_21 hw)) (Or.inl (wd_26 hw)) (by decide) (t := (.array .int)) (t' := (.array .long)) (by decide) (by decide))))) (Or.inr (slot_ne (Or.inl (wd_21 hw)) (Or.inl (wd_49 hw)) (by decide) (t := (.array .int)) (t' := (.array .long)) (by decide) (by decide))))
      obtain ⟨T107, X107, e107, st107⟩ := getF X105 hx hZ hown (host := "") (Or.inl (wd_20 hw)) Via.refl e105 f106 (g := (mkF m 174 #[.val (.ref oa), .val (.int xs), .val (.int xe), .val (.long qh), .second, .val (.long qc), .second] [(.ref oa)])) rfl rfl (hb hby d4_174)
      refine ownEnds.law st107 ?_
      show ownEnds _ _ _ _ (T107.setTop (mkF m 177 #[.val (.ref oa), .val (.int xs), .val (.int xe), .val (.long qh), .second, .val (.long qc), .second] [(.ref b20)]))
      refine ownEnds.law (fun t k => XS.aloadN X107.here hx rfl (hb hby d4_177) rfl rfl k) ?_
      show ownEnds _ _ _ _ (T107.setTop (mkF m 178 #[.val (.ref oa), .val (.int xs), .val (.int xe), .val (.long qh), .second, .val (.long qc), .second] [(.ref oa), (.ref b20)]))
      have f108 := (Fld.other W105 (Fld.ext E96 (Fld.other W53 (Fld.keep f42 Kq44 nin0) (Or.inr (slot_ne (Or.inl (wd_47 hw)) (Or.inl (wd_26 hw)) (by decide) (t := .int) (t' := (.array .long)) (by decide) (by decide))))) (Or.inr (slot_ne (Or.inl (wd_47 hw)) (Or.inl (wd_49 hw)) (by decide) (t := .int) (t' := (.array .long)) (by decide) (by decide))))
      obtain ⟨T109, X109, e109, st109⟩ := getF X107 hx hZ hown (host := "") (Or.inl (wd_46 hw)) Via.refl e107 f108 (g := (mkF m 178 #[.val (.ref oa), .val (.int xs), .val (.int xe), .val (.long qh), .second, .val (.long qc), .second] [(.ref oa), (.ref b20)])) rfl rfl (hb hby d4_178)
      refine ownEnds.law st109 ?_
      show ownEnds _ _ _ _ (T109.setTop (mkF m 181 #[.val (.ref oa), .val (.int xs), .val (.int xe), .val (.long qh), .second, .val (.long qc), .second] [(.int (4 : Int32)), (.ref b20)]))
      refine ownEnds.law (fun t k => XS.iloadN X109.here hx rfl (hb hby d4_181) rfl k) ?_
      show ownEnds _ _ _ _ (T109.setTop (mkF m 182 #[.val (.ref oa), .val (.int xs), .val (.int xe), .val (.long qh), .second, .val (.long qc), .second] [(.int xs), (.int (4 : Int32)), (.ref b20)]))
      have f111 := (Arv.other (Arv.ext f101 E96) W105 (Ne.symm ne_oa_b20))
      obtain ⟨cl110, Ar110, q110, S110, N110, H110, G110⟩ := id f111
      obtain ⟨T110, h110, X110, e110, W110, st110⟩ := stI X109 hx hZ e109 Ar110 (j := (4 : Int32)) (inb_of S110 ⟨by decide, by decide⟩) (g := (mkF m 182 #[.val (.ref oa), .val (.int xs), .val (.int xe), .val (.long qh), .second, .val (.long qc), .second] [(.int xs), (.int (4 : Int32)), (.ref b20)])) rfl rfl (hb hby d4_182)
      refine ownEnds.law st110 ?_
      have V110 : Arv Z h110 b20 kb20 .int (8 : Int32) [(v1.getD 0 (.int (0 : Int32))), (v1.getD 1 (.int (0 : Int32))), (v1.getD 2 (.int (0 : Int32))), (v1.getD 3 (.int (0 : Int32))), (.int xs), (.int (0 : Int32)), (.int (0 : Int32)), (.int (0 : Int32))] (.int (0 : Int32)) := Arv.set Ar110 q110 S110 N110 H110 G110 rfl W110 4 rfl (Nat.le_of_ble_eq_true rfl)
      have N110 := Fr.snoc X110 N105 g_b20
      have KK110 : Keep h0 h110 [oa, s1, s2, s3] := (KK105).wr W110 (Or.inr sz_b20)
      have Z110 : n0 ≤ h110.size := by rw [W110.size]; exact Z105
      show ownEnds _ _ _ _ (T110.setTop (mkF m 183 #[.val (.ref oa), .val (.int xs), .val (.int xe), .val (.long qh), .second, .val (.long qc), .second] []))
      refine ownEnds.law (fun t k => XS.aloadN X110.here hx rfl (hb hby d4_183) rfl rfl k) ?_
      show ownEnds _ _ _ _ (T110.setTop (mkF m 184 #[.val (.ref oa), .val (.int xs), .val (.int xe), .val (.long qh), .second, .val (.long qc), .second] [(.ref oa)]))
      have f112 := (Fld.other W110 (Fld.other W105 (Fld.ext E96 f92) (Or.inr (slot_ne (Or.inl (wd_23 hw)) (Or.inl (wd_49 hw)) (by decide) (t := (.array .int)) (t' := (.array .long)) (by decide) (by decide)))) (Or.inl ne_oa_b20))
      obtain ⟨T113, X113, e113, st113⟩ := getF X110 hx hZ hown (host := "") (Or.inl (wd_22 hw)) Via.refl e110 f112 (g := (mkF m 184 #[.val (.ref oa), .val (.int xs), .val (.int xe), .val (.long qh), .second, .val (.long qc), .second] [(.ref oa)])) rfl rfl (hb hby d4_184)
      refine ownEnds.law st113 ?_
      show ownEnds _ _ _ _ (T113.setTop (mkF m 187 #[.val (.ref oa), .val (.int xs), .val (.int xe), .val (.long qh), .second, .val (.long qc), .second] [(.ref b31)]))
      refine ownEnds.law (fun t k => XS.aloadN X113.here hx rfl (hb hby d4_187) rfl rfl k) ?_
      show ownEnds _ _ _ _ (T113.setTop (mkF m 188 #[.val (.ref oa), .val (.int xs), .val (.int xe), .val (.long qh), .second, .val (.long qc), .second] [(.ref oa), (.ref b31)]))
      have f114 := (Fld.other W110 f108 (Or.inl ne_oa_b20))
      obtain ⟨T115, X115, e115, st115⟩ := getF X113 hx hZ hown (host := "") (Or.inl (wd_46 hw)) Via.refl e113 f114 (g := (mkF m 188 #[.val (.ref oa), .val (.int xs), .val (.int xe), .val (.long qh), .second, .val (.long qc), .second] [(.ref oa), (.ref b31)])) rfl rfl (hb hby d4_188)
      refine ownEnds.law st115 ?_
      show ownEnds _ _ _ _ (T115.setTop (mkF m 191 #[.val (.ref oa), .val (.int xs), .val (.int xe), .val (.long qh), .second, .val (.long qc), .second] [(.int (4 : Int32)), (.ref b31)]))
      refine ownEnds.law (fun t k => XS.iloadN X115.here hx rfl (hb hby d4_191) rfl k) ?_
      show ownEnds _ _ _ _ (T115.setTop (mkF m 192 #[.val (.ref oa), .val (.int xs), .val (.int xe), .val (.long qh), .second, .val (.long qc), .second] [(.int xe), (.int (4 : Int32)), (.ref b31)]))
      have f117 := (Arv.other (Arv.other (Arv.ext f95 E96) W105 (Ne.symm ne_oa_b31)) W110 (Ne.symm ne_b20_b31))
      obtain ⟨cl116, Ar116, q116, S116, N116, H116, G116⟩ := id f117
      obtain ⟨T116, h116, X116, e116, W116, st116⟩ := stI X115 hx hZ e115 Ar116 (j := (4 : Int32)) (inb_of S116 ⟨by decide, by decide⟩) (g := (mkF m 192 #[.val (.ref oa), .val (.int xs), .val (.int xe), .val (.long qh), .second, .val (.long qc), .second] [(.int xe), (.int (4 : Int32)), (.ref b31)])) rfl rfl (hb hby d4_192)
      refine ownEnds.law st116 ?_
      have V116 : Arv Z h116 b31 kb31 .int (8 : Int32) [(v2.getD 0 (.int (0 : Int32))), (v2.getD 1 (.int (0 : Int32))), (v2.getD 2 (.int (0 : Int32))), (v2.getD 3 (.int (0 : Int32))), (.int xe), (.int (0 : Int32)), (.int (0 : Int32)), (.int (0 : Int32))] (.int (0 : Int32)) := Arv.set Ar116 q116 S116 N116 H116 G116 rfl W116 4 rfl (Nat.le_of_ble_eq_true rfl)
      have N116 := Fr.snoc X116 N110 g_b31
      have KK116 : Keep h0 h116 [oa, s1, s2, s3] := (KK110).wr W116 (Or.inr sz_b31)
      have Z116 : n0 ≤ h116.size := by rw [W116.size]; exact Z110
      show ownEnds _ _ _ _ (T116.setTop (mkF m 193 #[.val (.ref oa), .val (.int xs), .val (.int xe), .val (.long qh), .second, .val (.long qc), .second] []))
      refine ownEnds.law (fun t k => XS.aloadN X116.here hx rfl (hb hby d4_193) rfl rfl k) ?_
      show ownEnds _ _ _ _ (T116.setTop (mkF m 194 #[.val (.ref oa), .val (.int xs), .val (.int xe), .val (.long qh), .second, .val (.long qc), .second] [(.ref oa)]))
      have f118 := (Fld.other W116 (Fld.other W110 (Fld.other W105 (Fld.ext E96 Fw53) (Or.inr (slot_ne (Or.inl (wd_26 hw)) (Or.inl (wd_49 hw)) (by decide) (t := (.array .long)) (t' := (.array .long)) (by decide) (by decide)))) (Or.inl ne_oa_b20)) (Or.inl ne_oa_b31))
      obtain ⟨T119, X119, e119, st119⟩ := getF X116 hx hZ hown (host := "") (Or.inl (wd_25 hw)) Via.refl e116 f118 (g := (mkF m 194 #[.val (.ref oa), .val (.int xs), .val (.int xe), .val (.long qh), .second, .val (.long qc), .second] [(.ref oa)])) rfl rfl (hb hby d4_194)
      refine ownEnds.law st119 ?_
      show ownEnds _ _ _ _ (T119.setTop (mkF m 197 #[.val (.ref oa), .val (.int xs), .val (.int xe), .val (.long qh), .second, .val (.long qc), .second] [(.ref b44)]))
      refine ownEnds.law (fun t k => XS.aloadN X119.here hx rfl (hb hby d4_197) rfl rfl k) ?_
      show ownEnds _ _ _ _ (T119.setTop (mkF m 198 #[.val (.ref oa), .val (.int xs), .val (.int xe), .val (.long qh), .second, .val (.long qc), .second] [(.ref oa), (.ref b44)]))
      have f120 := (Fld.other W116 f114 (Or.inl ne_oa_b31))
      obtain ⟨T121, X121, e121, st121⟩ := getF X119 hx hZ hown (host := "") (Or.inl (wd_46 hw)) Via.refl e119 f120 (g := (mkF m 198 #[.val (.ref oa), .val (.int xs), .val (.int xe), .val (.long qh), .second, .val (.long qc), .second] [(.ref oa), (.ref b44)])) rfl rfl (hb hby d4_198)
      refine ownEnds.law st121 ?_
      show ownEnds _ _ _ _ (T121.setTop (mkF m 201 #[.val (.ref oa), .val (.int xs), .val (.int xe), .val (.long qh), .second, .val (.long qc), .second] [(.int (4 : Int32)), (.ref b44)]))
      refine ownEnds.law (fun t k => XS.lloadN X121.here hx rfl (hb hby d4_201) rfl k) ?_
      show ownEnds _ _ _ _ (T121.setTop (mkF m 202 #[.val (.ref oa), .val (.int xs), .val (.int xe), .val (.long qh), .second, .val (.long qc), .second] [(.long qh), (.int (4 : Int32)), (.ref b44)]))
      have f123 := (Arv.other (Arv.other (Arv.other (Arv.ext f102 E96) W105 (Ne.symm ne_oa_b44)) W110 (Ne.symm ne_b20_b44)) W116 (Ne.symm ne_b31_b44))
      obtain ⟨cl122, Ar122, q122, S122, N122, H122, G122⟩ := id f123
      obtain ⟨T122, h122, X122, e122, W122, st122⟩ := stJ X121 hx hZ e121 Ar122 (j := (4 : Int32)) (inb_of S122 ⟨by decide, by decide⟩) (g := (mkF m 202 #[.val (.ref oa), .val (.int xs), .val (.int xe), .val (.long qh), .second, .val (.long qc), .second] [(.long qh), (.int (4 : Int32)), (.ref b44)])) rfl rfl (hb hby d4_202)
      refine ownEnds.law st122 ?_
      have V122 : Arv Z h122 b44 kb44 .long (8 : Int32) [(v3.getD 0 (.long (0 : Int64))), (v3.getD 1 (.long (0 : Int64))), (v3.getD 2 (.long (0 : Int64))), (v3.getD 3 (.long (0 : Int64))), (.long qh), (.long (0 : Int64)), (.long (0 : Int64)), (.long (0 : Int64))] (.long (0 : Int64)) := Arv.set Ar122 q122 S122 N122 H122 G122 rfl W122 4 rfl (Nat.le_of_ble_eq_true rfl)
      have N122 := Fr.snoc X122 N116 g_b44
      have KK122 : Keep h0 h122 [oa, s1, s2, s3] := (KK116).wr W122 (Or.inr sz_b44)
      have Z122 : n0 ≤ h122.size := by rw [W122.size]; exact Z116
      show ownEnds _ _ _ _ (T122.setTop (mkF m 203 #[.val (.ref oa), .val (.int xs), .val (.int xe), .val (.long qh), .second, .val (.long qc), .second] []))
      refine ownEnds.law (fun t k => XS.aloadN X122.here hx rfl (hb hby d4_203) rfl rfl k) ?_
      show ownEnds _ _ _ _ (T122.setTop (mkF m 204 #[.val (.ref oa), .val (.int xs), .val (.int xe), .val (.long qh), .second, .val (.long qc), .second] [(.ref oa)]))
      have f124 := (Fld.other W122 (Fld.other W116 (Fld.other W110 Fw105 (Or.inl ne_oa_b20)) (Or.inl ne_oa_b31)) (Or.inl ne_oa_b44))
      obtain ⟨T125, X125, e125, st125⟩ := getF X122 hx hZ hown (host := "") (Or.inl (wd_48 hw)) Via.refl e122 f124 (g := (mkF m 204 #[.val (.ref oa), .val (.int xs), .val (.int xe), .val (.long qh), .second, .val (.long qc), .second] [(.ref oa)])) rfl rfl (hb hby d4_204)
      refine ownEnds.law st125 ?_
      show ownEnds _ _ _ _ (T125.setTop (mkF m 207 #[.val (.ref oa), .val (.int xs), .val (.int xe), .val (.long qh), .second, .val (.long qc), .second] [(.ref b96)]))
      refine ownEnds.law (fun t k => XS.ifnullNo X125.here hx rfl (hb hby d4_207) rfl (XS.aloadN X125.here hx rfl (hb hby d4_210) rfl rfl k)) ?_
      show ownEnds _ _ _ _ (T125.setTop (mkF m 211 #[.val (.ref oa), .val (.int xs), .val (.int xe), .val (.long qh), .second, .val (.long qc), .second] [(.ref oa)]))
      obtain ⟨T126, X126, e126, st126⟩ := getF X125 hx hZ hown (host := "") (Or.inl (wd_48 hw)) Via.refl e125 f124 (g := (mkF m 211 #[.val (.ref oa), .val (.int xs), .val (.int xe), .val (.long qh), .second, .val (.long qc), .second] [(.ref oa)])) rfl rfl (hb hby d4_211)
      refine ownEnds.law st126 ?_
      show ownEnds _ _ _ _ (T126.setTop (mkF m 214 #[.val (.ref oa), .val (.int xs), .val (.int xe), .val (.long qh), .second, .val (.long qc), .second] [(.ref b96)]))
      refine ownEnds.law (fun t k => XS.aloadN X126.here hx rfl (hb hby d4_214) rfl rfl k) ?_
      show ownEnds _ _ _ _ (T126.setTop (mkF m 215 #[.val (.ref oa), .val (.int xs), .val (.int xe), .val (.long qh), .second, .val (.long qc), .second] [(.ref oa), (.ref b96)]))
      have f127 := (Fld.other W122 f120 (Or.inl ne_oa_b44))
      obtain ⟨T128, X128, e128, st128⟩ := getF X126 hx hZ hown (host := "") (Or.inl (wd_46 hw)) Via.refl e126 f127 (g := (mkF m 215 #[.val (.ref oa), .val (.int xs), .val (.int xe), .val (.long qh), .second, .val (.long qc), .second] [(.ref oa), (.ref b96)])) rfl rfl (hb hby d4_215)
      refine ownEnds.law st128 ?_
      show ownEnds _ _ _ _ (T128.setTop (mkF m 218 #[.val (.ref oa), .val (.int xs), .val (.int xe), .val (.long qh), .second, .val (.long qc), .second] [(.int (4 : Int32)), (.ref b96)]))
      refine ownEnds.law (fun t k => XS.lload X128.here hx rfl (hb hby d4_218) rfl k) ?_
      show ownEnds _ _ _ _ (T128.setTop (mkF m 220 #[.val (.ref oa), .val (.int xs), .val (.int xe), .val (.long qh), .second, .val (.long qc), .second] [(.long qc), (.int (4 : Int32)), (.ref b96)]))
      have f130 := (Arv.other (Arv.other (Arv.other (Arv.other V_b96 W105 (Ne.symm ne_oa_b96)) W110 (Ne.symm ne_b20_b96)) W116 (Ne.symm ne_b31_b96)) W122 (Ne.symm ne_b44_b96))
      obtain ⟨cl129, Ar129, q129, S129, N129, H129, G129⟩ := id f130
      obtain ⟨T129, h129, X129, e129, W129, st129⟩ := stJ X128 hx hZ e128 Ar129 (j := (4 : Int32)) (inb_of S129 ⟨by decide, by decide⟩) (g := (mkF m 220 #[.val (.ref oa), .val (.int xs), .val (.int xe), .val (.long qh), .second, .val (.long qc), .second] [(.long qc), (.int (4 : Int32)), (.ref b96)])) rfl rfl (hb hby d4_220)
      refine ownEnds.law st129 ?_
      have V129 : Arv Z h129 b96 k96 .long (8 : Int32) [(.long (0 : Int64)), (.long (0 : Int64)), (.long (0 : Int64)), (.long (0 : Int64)), (.long qc), (.long (0 : Int64)), (.long (0 : Int64)), (.long (0 : Int64))] (.long (0 : Int64)) := Arv.set Ar129 q129 S129 N129 H129 G129 rfl W129 4 rfl (Nat.le_of_ble_eq_true rfl)
      have N129 := Fr.snoc X129 N122 g_b96
      have KK129 : Keep h0 h129 [oa, s1, s2, s3] := (KK122).wr W129 (Or.inr sz_b96)
      have Z129 : n0 ≤ h129.size := by rw [W129.size]; exact Z122
      show ownEnds _ _ _ _ (T129.setTop (mkF m 221 #[.val (.ref oa), .val (.int xs), .val (.int xe), .val (.long qh), .second, .val (.long qc), .second] []))
      refine ownEnds.law (fun t k => XS.aloadN X129.here hx rfl (hb hby d4_221) rfl rfl (XS.dup X129.here hx rfl (hb hby d4_222) rfl rfl k)) ?_
      show ownEnds _ _ _ _ (T129.setTop (mkF m 223 #[.val (.ref oa), .val (.int xs), .val (.int xe), .val (.long qh), .second, .val (.long qc), .second] [(.ref oa), (.ref oa)]))
      have f131 := (Fld.other W129 f127 (Or.inl ne_oa_b96))
      obtain ⟨T132, X132, e132, st132⟩ := getF X129 hx hZ hown (host := "") (Or.inl (wd_46 hw)) Via.refl e129 f131 (g := (mkF m 223 #[.val (.ref oa), .val (.int xs), .val (.int xe), .val (.long qh), .second, .val (.long qc), .second] [(.ref oa), (.ref oa)])) rfl rfl (hb hby d4_223)
      refine ownEnds.law st132 ?_
      show ownEnds _ _ _ _ (T132.setTop (mkF m 226 #[.val (.ref oa), .val (.int xs), .val (.int xe), .val (.long qh), .second, .val (.long qc), .second] [(.int (4 : Int32)), (.ref oa)]))
      refine ownEnds.law (fun t k => XS.iconst X132.here hx rfl (hb hby d4_226) (XS.iadd X132.here hx rfl (hb hby d4_227) rfl k)) ?_
      show ownEnds _ _ _ _ (T132.setTop (mkF m 228 #[.val (.ref oa), .val (.int xs), .val (.int xe), .val (.long qh), .second, .val (.long qc), .second] [(.int (5 : Int32)), (.ref oa)]))
      have f133 := (Exa.wr W129 (Exa.wr W122 (Exa.wr W116 (Exa.wr W110 (Exa.wr W105 f103)))))
      obtain ⟨T134, h134, X134, e134, W134, st134⟩ := putF X132 hx hZ hown (host := "") (Or.inl (wd_46 hw)) Via.refl e132 f131 f133 (Or.inl (wd_47 hw)) (wd_5 hw) (ty := .int) (by decide) rfl rfl (g := (mkF m 228 #[.val (.ref oa), .val (.int xs), .val (.int xe), .val (.long qh), .second, .val (.long qc), .second] [(.int (5 : Int32)), (.ref oa)])) rfl rfl (hb hby d4_228)
      refine ownEnds.law st134 ?_
      have N134 := Fr.snoc X134 N129 g_oa
      have KK134 : Keep h0 h134 [oa, s1, s2, s3] := (KK129).wr W134 (Or.inl (List.mem_of_getElem? (i := 0) rfl))
      have Z134 : n0 ≤ h134.size := by rw [W134.size]; exact Z129
      have Fw134 : Fld Z h134 oa "com/example/vestline/vestline/engine/PayrollRows" "size" "I" (.int (5 : Int32)) := Fld.same W134 f131
      show ownEnds _ _ _ _ (T134.setTop (mkF m 231 #[.val (.ref oa), .val (.int xs), .val (.int xe), .val (.long qh), .second, .val (.long qc), .second] []))
      refine ownRetV X134 hlk hx hret (hb hby d4_231) (by decide) (by decide) ?_
      have f135 := (Fld.other W134 (Fld.other W129 f124 (Or.inl ne_oa_b96)) (Or.inr (slot_ne (Or.inl (wd_49 hw)) (Or.inl (wd_47 hw)) (by decide) (t := (.array .long)) (t' := .int) (by decide) (by decide))))
      have f136 := (Arv.other V129 W134 (Ne.symm ne_oa_b96))
      have f137 := (Exa.wr W134 f133)
      have f138 := (Fld.other W134 (Fld.other W129 (Fld.other W122 (Fld.other W116 (Fld.other W110 (Fld.other W105 (Fld.ext E96 (Fld.other W53 (Fld.keep (Fld.other W39 (Fld.keep (Fld.other W26 (Fld.keep (Fld.other W10 (Fld.other W5 F1 (Or.inr (slot_ne (Or.inl (wd_34 hw)) (Or.inl (wd_15 hw)) (by decide) (t := (.object "java/util/NavigableMap")) (t' := .int) (by decide) (by decide)))) (Or.inr (slot_ne (Or.inl (wd_34 hw)) (Or.inl (wd_18 hw)) (by decide) (t := (.object "java/util/NavigableMap")) (t' := .int) (by decide) (by decide)))) Kq20 nin0) (Or.inr (slot_ne (Or.inl (wd_34 hw)) (Or.inl (wd_21 hw)) (by decide) (t := (.object "java/util/NavigableMap")) (t' := (.array .int)) (by decide) (by decide)))) Kq31 nin0) (Or.inr (slot_ne (Or.inl (wd_34 hw)) (Or.inl (wd_23 hw)) (by decide) (t := (.object "java/util/NavigableMap")) (t' := (.array .int)) (by decide) (by decide)))) Kq44 nin0) (Or.inr (slot_ne (Or.inl (wd_34 hw)) (Or.inl (wd_26 hw)) (by decide) (t := (.object "java/util/NavigableMap")) (t' := (.array .long)) (by decide) (by decide))))) (Or.inr (slot_ne (Or.inl (wd_34 hw)) (Or.inl (wd_49 hw)) (by decide) (t := (.object "java/util/NavigableMap")) (t' := (.array .long)) (by decide) (by decide)))) (Or.inl ne_oa_b20)) (Or.inl ne_oa_b31)) (Or.inl ne_oa_b44)) (Or.inl ne_oa_b96)) (Or.inr (slot_ne (Or.inl (wd_34 hw)) (Or.inl (wd_47 hw)) (by decide) (t := (.object "java/util/NavigableMap")) (t' := .int) (by decide) (by decide))))
      have f139 := (Fld.other W134 (Fld.other W129 (Fld.other W122 (Fld.other W116 (Fld.other W110 (Fld.other W105 (Fld.ext E96 (Fld.other W53 (Fld.keep (Fld.other W39 (Fld.keep (Fld.other W26 (Fld.keep (Fld.other W10 Fw5 (Or.inr (slot_ne (Or.inl (wd_15 hw)) (Or.inl (wd_18 hw)) (by decide) (t := .int) (t' := .int) (by decide) (by decide)))) Kq20 nin0) (Or.inr (slot_ne (Or.inl (wd_15 hw)) (Or.inl (wd_21 hw)) (by decide) (t := .int) (t' := (.array .int)) (by decide) (by decide)))) Kq31 nin0) (Or.inr (slot_ne (Or.inl (wd_15 hw)) (Or.inl (wd_23 hw)) (by decide) (t := .int) (t' := (.array .int)) (by decide) (by decide)))) Kq44 nin0) (Or.inr (slot_ne (Or.inl (wd_15 hw)) (Or.inl (wd_26 hw)) (by decide) (t := .int) (t' := (.array .long)) (by decide) (by decide))))) (Or.inr (slot_ne (Or.inl (wd_15 hw)) (Or.inl (wd_49 hw)) (by decide) (t := .int) (t' := (.array .long)) (by decide) (by decide)))) (Or.inl ne_oa_b20)) (Or.inl ne_oa_b31)) (Or.inl ne_oa_b44)) (Or.inl ne_oa_b96)) (Or.inr (slot_ne (Or.inl (wd_15 hw)) (Or.inl (wd_47 hw)) (by decide) (t := .int) (t' := .int) (by decide) (by decide))))
      have f140 := (Fld.other W134 (Fld.other W129 (Fld.other W122 (Fld.other W116 (Fld.other W110 (Fld.other W105 (Fld.ext E96 (Fld.other W53 (Fld.keep (Fld.other W39 (Fld.keep (Fld.other W26 (Fld.keep Fw10 Kq20 nin0) (Or.inr (slot_ne (Or.inl (wd_18 hw)) (Or.inl (wd_21 hw)) (by decide) (t := .int) (t' := (.array .int)) (by decide) (by decide)))) Kq31 nin0) (Or.inr (slot_ne (Or.inl (wd_18 hw)) (Or.inl (wd_23 hw)) (by decide) (t := .int) (t' := (.array .int)) (by decide) (by decide)))) Kq44 nin0) (Or.inr (slot_ne (Or.inl (wd_18 hw)) (Or.inl (wd_26 hw)) (by decide) (t := .int) (t' := (.array .long)) (by decide) (by decide))))) (Or.inr (slot_ne (Or.inl (wd_18 hw)) (Or.inl (wd_49 hw)) (by decide) (t := .int) (t' := (.array .long)) (by decide) (by decide)))) (Or.inl ne_oa_b20)) (Or.inl ne_oa_b31)) (Or.inl ne_oa_b44)) (Or.inl ne_oa_b96)) (Or.inr (slot_ne (Or.inl (wd_18 hw)) (Or.inl (wd_47 hw)) (by decide) (t := .int) (t' := .int) (by decide) (by decide))))
      have f141 := (Fld.other W134 (Fld.other W129 (Fld.other W122 (Fld.other W116 (Fld.other W110 f106 (Or.inl ne_oa_b20)) (Or.inl ne_oa_b31)) (Or.inl ne_oa_b44)) (Or.inl ne_oa_b96)) (Or.inr (slot_ne (Or.inl (wd_21 hw)) (Or.inl (wd_47 hw)) (by decide) (t := (.array .int)) (t' := .int) (by decide) (by decide))))
      have f142 := (Fld.other W134 (Fld.other W129 (Fld.other W122 (Fld.other W116 f112 (Or.inl ne_oa_b31)) (Or.inl ne_oa_b44)) (Or.inl ne_oa_b96)) (Or.inr (slot_ne (Or.inl (wd_23 hw)) (Or.inl (wd_47 hw)) (by decide) (t := (.array .int)) (t' := .int) (by decide) (by decide))))
      have f143 := (Fld.other W134 (Fld.other W129 (Fld.other W122 f118 (Or.inl ne_oa_b44)) (Or.inl ne_oa_b96)) (Or.inr (slot_ne (Or.inl (wd_26 hw)) (Or.inl (wd_47 hw)) (by decide) (t := (.array .long)) (t' := .int) (by decide) (by decide))))
      have f144 := (Arv.other (Arv.other (Arv.other (Arv.other V110 W116 ne_b20_b31) W122 ne_b20_b44) W129 ne_b20_b96) W134 (Ne.symm ne_oa_b20))
      have f145 := (Arv.other (Arv.other (Arv.other V116 W122 ne_b31_b44) W129 ne_b31_b96) W134 (Ne.symm ne_oa_b31))
      have f146 := (Arv.other (Arv.other V122 W129 ne_b44_b96) W134 (Ne.symm ne_oa_b44))
      rw [e134]
      exact ⟨rfl, N134, (KK134).1, ⟨(FMin fs xs), b20, b31, b44, kb20, kb31, kb44, [(v1.getD 0 (.int (0 : Int32))), (v1.getD 1 (.int (0 : Int32))), (v1.getD 2 (.int (0 : Int32))), (v1.getD 3 (.int (0 : Int32))), (.int xs), (.int (0 : Int32)), (.int (0 : Int32)), (.int (0 : Int32))], [(v2.getD 0 (.int (0 : Int32))), (v2.getD 1 (.int (0 : Int32))), (v2.getD 2 (.int (0 : Int32))), (v2.getD 3 (.int (0 : Int32))), (.int xe), (.int (0 : Int32)), (.int (0 : Int32)), (.int (0 : Int32))], [(v3.getD 0 (.long (0 : Int64))), (v3.getD 1 (.long (0 : Int64))), (v3.getD 2 (.long (0 : Int64))), (v3.getD 3 (.long (0 : Int64))), (.long qh), (.long (0 : Int64)), (.long (0 : Int64)), (.long (0 : Int64))], ⟨g_oa, g_b20, g_b31, g_b44⟩, ⟨ne_oa_b20, ne_oa_b31, ne_oa_b44, ne_b20_b31, ne_b20_b44, ne_b31_b44⟩, ⟨rfl, rfl, rfl, by rw [List.length_append, l4]; rfl⟩, f137, f138, f139, f140, Fw134, f141, f142, f143, f144, f145, f146, Or.inr ⟨b96, k96, [(.long (0 : Int64)), (.long (0 : Int64)), (.long (0 : Int64)), (.long (0 : Int64)), (.long qc), (.long (0 : Int64)), (.long (0 : Int64)), (.long (0 : Int64))], g_b96, ⟨ne_oa_b96, ne_b20_b96, ne_b31_b96, ne_b44_b96⟩, rfl, f135, f136, own_cB0 l4 hz⟩⟩⟩
  · show ownEnds _ _ _ _ (T0.setTop (mkF m 0 #[.val (.ref oa), .val (.int xs), .val (.int xe), .val (.long qh), .second, .val (.long qc), .second] []))
    refine ownEnds.law (fun t k => XS.aloadN X0.here hx rfl (hb hby d4_0) rfl rfl k) ?_
    show ownEnds _ _ _ _ (T0.setTop (mkF m 1 #[.val (.ref oa), .val (.int xs), .val (.int xe), .val (.long qh), .second, .val (.long qc), .second] [(.ref oa)]))
    obtain ⟨T147, X147, e147, st147⟩ := getF X0 hx hZ hown (host := "") (Or.inl (wd_33 hw)) Via.refl e0 F1 (g := (mkF m 1 #[.val (.ref oa), .val (.int xs), .val (.int xe), .val (.long qh), .second, .val (.long qc), .second] [(.ref oa)])) rfl rfl (hb hby d4_1)
    refine ownEnds.law st147 ?_
    show ownEnds _ _ _ _ (T147.setTop (mkF m 4 #[.val (.ref oa), .val (.int xs), .val (.int xe), .val (.long qh), .second, .val (.long qc), .second] [.null]))
    refine ownEnds.law (fun t k => XS.ifnonnullNo X147.here hx rfl (hb hby d4_4) rfl (XS.aloadN X147.here hx rfl (hb hby d4_7) rfl rfl (XS.iloadN X147.here hx rfl (hb hby d4_8) rfl (XS.iloadN X147.here hx rfl (hb hby d4_9) rfl k)))) ?_
    show ownEnds _ _ _ _ (T147.setTop (mkF m 10 #[.val (.ref oa), .val (.int xs), .val (.int xe), .val (.long qh), .second, .val (.long qc), .second] [(.int xe), (.int xs), (.ref oa)]))
    obtain ⟨v148, T148, L148, X148, hQ148, st148⟩ := ownCallP X147 hx hZ hown (y := (⟨"com/example/vestline/vestline/engine/PayrollRows", "isAmongRows", "(II)Z"⟩ : MethodName)) (z := (⟨"com/example/vestline/vestline/engine/PayrollRows", "add", "(IIJJ)V"⟩ : MethodName)) (a := oa) (as := [(.int xs), (.int xe)]) (wd_35 hw) rfl (wd_31 hw) (wd_36 hw) (wd_37 hw) (wd_6 hw) (wd_38 hw) (by decide) (rm5 l Z a0 hw oa xs xe le fs h0 n0 Z0 F3 F2) e147 E_oa 0 (by decide) (by decide) (by decide) (by decide) (g := (mkF m 10 #[.val (.ref oa), .val (.int xs), .val (.int xe), .val (.long qh), .second, .val (.long qc), .second] [(.int xe), (.int xs), (.ref oa)])) rfl (by rw [hml]; rfl) (rest := []) pd_1 rfl rfl (by show 2 * 0 + _ ≤ _; exact Nat.le_of_eq rfl) (hb hby d4_10)
    obtain ⟨rfl, rfl, e148⟩ := hQ148
    rw [List.append_nil] at X148
    refine ownEnds.law st148 ?_
    show ownEnds _ _ _ _ (T148.setTop (mkF m 13 #[.val (.ref oa), .val (.int xs), .val (.int xe), .val (.long qh), .second, .val (.long qc), .second] [(.int (FA le fs xs xe))]))
    have hc13 : (FA le fs xs xe) = (0 : Int32) := if_pos hlt
    refine ownEnds.law (fun t => XS.ifYes X148.here hx rfl (pc0 := 13) (pc' := 37) rfl (hb hby d4_13) rfl ((if0 _ _).trans (teq hc13).1) (by decide) (by decide)) ?_
    show ownEnds _ _ _ _ (T148.setTop (mkF m 37 #[.val (.ref oa), .val (.int xs), .val (.int xe), .val (.long qh), .second, .val (.long qc), .second] []))
    refine ownEnds.law (fun t k => XS.aloadN X148.here hx rfl (hb hby d4_37) rfl rfl (XS.aloadN X148.here hx rfl (hb hby d4_38) rfl rfl k)) ?_
    show ownEnds _ _ _ _ (T148.setTop (mkF m 39 #[.val (.ref oa), .val (.int xs), .val (.int xe), .val (.long qh), .second, .val (.long qc), .second] [(.ref oa), (.ref oa)]))
    obtain ⟨T149, X149, e149, st149⟩ := getF X148 hx hZ hown (host := "") (Or.inl (wd_14 hw)) Via.refl e148 F2 (g := (mkF m 39 #[.val (.ref oa), .val (.int xs), .val (.int xe), .val (.long qh), .second, .val (.long qc), .second] [(.ref oa), (.ref oa)])) rfl rfl (hb hby d4_39)
    refine ownEnds.law st149 ?_
    show ownEnds _ _ _ _ (T149.setTop (mkF m 42 #[.val (.ref oa), .val (.int xs), .val (.int xe), .val (.long qh), .second, .val (.long qc), .second] [(.int fs), (.ref oa)]))
    refine ownEnds.law (fun t k => XS.iloadN X149.here hx rfl (hb hby d4_42) rfl k) ?_
    show ownEnds _ _ _ _ (T149.setTop (mkF m 43 #[.val (.ref oa), .val (.int xs), .val (.int xe), .val (.long qh), .second, .val (.long qc), .second] [(.int xs), (.int fs), (.ref oa)]))
    obtain ⟨v150, T150, L150, X150, hQ150, st150⟩ := ownCallS X149 hx hZ hown (y := (⟨"java/lang/Math", "min", "(II)I"⟩ : MethodName)) (as := [(.int fs), (.int xs)]) (wd_39 hw) (wd_40 hw) (wd_41 hw) (wd_42 hw) (by decide) (rm6 l Z a0 hw fs xs  h0 n0 Z0 ) e149 1 (by decide) (by decide) (by decide) (by decide) (g := (mkF m 43 #[.val (.ref oa), .val (.int xs), .val (.int xe), .val (.long qh), .second, .val (.long qc), .second] [(.int xs), (.int fs), (.ref oa)])) rfl (by rw [hml]; rfl) (rest := [(.ref oa)]) pd_0 rfl rfl (by show 2 * 0 + _ ≤ _; exact Nat.le_of_eq rfl) (hb hby d4_43)
    obtain ⟨rfl, rfl, e150⟩ := hQ150
    rw [List.append_nil] at X150
    refine ownEnds.law st150 ?_
    show ownEnds _ _ _ _ (T150.setTop (mkF m 46 #[.val (.ref oa), .val (.int xs), .val (.int xe), .val (.long qh), .second, .val (.long qc), .second] [(.int (FMin fs xs)), (.ref oa)]))
    obtain ⟨T151, h151, X151, e151, W151, st151⟩ := putF X150 hx hZ hown (host := "") (Or.inl (wd_14 hw)) Via.refl e150 F2 E_oa (Or.inl (wd_15 hw)) (wd_5 hw) (ty := .int) (by decide) rfl rfl (g := (mkF m 46 #[.val (.ref oa), .val (.int xs), .val (.int xe), .val (.long qh), .second, .val (.long qc), .second] [(.int (FMin fs xs)), (.ref oa)])) rfl rfl (hb hby d4_46)
    refine ownEnds.law st151 ?_
    have N151 := Fr.snoc X151 (Fr.nil n0) g_oa
    have KK151 : Keep h0 h151 [oa, s1, s2, s3, c0] := (Keep.refl h0 [oa, s1, s2, s3, c0]).wr W151 (Or.inl (List.mem_of_getElem? (i := 0) rfl))
    have Z151 : n0 ≤ h151.size := by rw [W151.size]; exact Z0
    have Fw151 : Fld Z h151 oa "com/example/vestline/vestline/engine/PayrollRows" "firstPeriodStart" "I" (.int (FMin fs xs)) := Fld.same W151 F2
    show ownEnds _ _ _ _ (T151.setTop (mkF m 49 #[.val (.ref oa), .val (.int xs), .val (.int xe), .val (.long qh), .second, .val (.long qc), .second] []))
    refine ownEnds.law (fun t k => XS.aloadN X151.here hx rfl (hb hby d4_49) rfl rfl (XS.aloadN X151.here hx rfl (hb hby d4_50) rfl rfl k)) ?_
    show ownEnds _ _ _ _ (T151.setTop (mkF m 51 #[.val (.ref oa), .val (.int xs), .val (.int xe), .val (.long qh), .second, .val (.long qc), .second] [(.ref oa), (.ref oa)]))
    have f152 := (Fld.other W151 F3 (Or.inr (slot_ne (Or.inl (wd_18 hw)) (Or.inl (wd_15 hw)) (by decide) (t := .int) (t' := .int) (by decide) (by decide))))
    obtain ⟨T153, X153, e153, st153⟩ := getF X151 hx hZ hown (host := "") (Or.inl (wd_17 hw)) Via.refl e151 f152 (g := (mkF m 51 #[.val (.ref oa), .val (.int xs), .val (.int xe), .val (.long qh), .second, .val (.long qc), .second] [(.ref oa), (.ref oa)])) rfl rfl (hb hby d4_51)
    refine ownEnds.law st153 ?_
    show ownEnds _ _ _ _ (T153.setTop (mkF m 54 #[.val (.ref oa), .val (.int xs), .val (.int xe), .val (.long qh), .second, .val (.long qc), .second] [(.int le), (.ref oa)]))
    refine ownEnds.law (fun t k => XS.iloadN X153.here hx rfl (hb hby d4_54) rfl k) ?_
    show ownEnds _ _ _ _ (T153.setTop (mkF m 55 #[.val (.ref oa), .val (.int xs), .val (.int xe), .val (.long qh), .second, .val (.long qc), .second] [(.int xe), (.int le), (.ref oa)]))
    obtain ⟨v154, T154, L154, X154, hQ154, st154⟩ := ownCallS X153 hx hZ hown (y := (⟨"java/lang/Math", "max", "(II)I"⟩ : MethodName)) (as := [(.int le), (.int xe)]) (wd_43 hw) (wd_44 hw) (wd_41 hw) (wd_45 hw) (by decide) (rm7 l Z a0 hw le xe  h151 n0 Z151 ) e153 1 (by decide) (by decide) (by decide) (by decide) (g := (mkF m 55 #[.val (.ref oa), .val (.int xs), .val (.int xe), .val (.long qh), .second, .val (.long qc), .second] [(.int xe), (.int le), (.ref oa)])) rfl (by rw [hml]; rfl) (rest := [(.ref oa)]) pd_0 rfl rfl (by show 2 * 0 + _ ≤ _; exact Nat.le_of_eq rfl) (hb hby d4_55)
    obtain ⟨rfl, rfl, e154⟩ := hQ154
    rw [List.append_nil] at X154
    refine ownEnds.law st154 ?_
    show ownEnds _ _ _ _ (T154.setTop (mkF m 58 #[.val (.ref oa), .val (.int xs), .val (.int xe), .val (.long qh), .second, .val (.long qc), .second] [(.int (FMax le xe)), (.ref oa)]))
    have f155 := (Exa.wr W151 E_oa)
    obtain ⟨T156, h156, X156, e156, W156, st156⟩ := putF X154 hx hZ hown (host := "") (Or.inl (wd_17 hw)) Via.refl e154 f152 f155 (Or.inl (wd_18 hw)) (wd_5 hw) (ty := .int) (by decide) rfl rfl (g := (mkF m 58 #[.val (.ref oa), .val (.int xs), .val (.int xe), .val (.long qh), .second, .val (.long qc), .second] [(.int (FMax le xe)), (.ref oa)])) rfl rfl (hb hby d4_58)
    refine ownEnds.law st156 ?_
    have N156 := Fr.snoc X156 N151 g_oa
    have KK156 : Keep h0 h156 [oa, s1, s2, s3, c0] := (KK151).wr W156 (Or.inl (List.mem_of_getElem? (i := 0) rfl))
    have Z156 : n0 ≤ h156.size := by rw [W156.size]; exact Z151
    have Fw156 : Fld Z h156 oa "com/example/vestline/vestline/engine/PayrollRows" "lastPeriodEnd" "I" (.int (FMax le xe)) := Fld.same W156 f152
    show ownEnds _ _ _ _ (T156.setTop (mkF m 61 #[.val (.ref oa), .val (.int xs), .val (.int xe), .val (.long qh), .second, .val (.long qc), .second] []))
    refine ownEnds.law (fun t k => XS.aloadN X156.here hx rfl (hb hby d4_61) rfl rfl k) ?_
    show ownEnds _ _ _ _ (T156.setTop (mkF m 62 #[.val (.ref oa), .val (.int xs), .val (.int xe), .val (.long qh), .second, .val (.long qc), .second] [(.ref oa)]))
    have f157 := (Fld.other W156 (Fld.other W151 F4 (Or.inr (slot_ne (Or.inl (wd_47 hw)) (Or.inl (wd_15 hw)) (by decide) (t := .int) (t' := .int) (by decide) (by decide)))) (Or.inr (slot_ne (Or.inl (wd_47 hw)) (Or.inl (wd_18 hw)) (by decide) (t := .int) (t' := .int) (by decide) (by decide))))
    obtain ⟨T158, X158, e158, st158⟩ := getF X156 hx hZ hown (host := "") (Or.inl (wd_46 hw)) Via.refl e156 f157 (g := (mkF m 62 #[.val (.ref oa), .val (.int xs), .val (.int xe), .val (.long qh), .second, .val (.long qc), .second] [(.ref oa)])) rfl rfl (hb hby d4_62)
    refine ownEnds.law st158 ?_
    show ownEnds _ _ _ _ (T158.setTop (mkF m 65 #[.val (.ref oa), .val (.int xs), .val (.int xe), .val (.long qh), .second, .val (.long qc), .second] [(.int (4 : Int32))]))
    refine ownEnds.law (fun t k => XS.aloadN X158.here hx rfl (hb hby d4_65) rfl rfl k) ?_
    show ownEnds _ _ _ _ (T158.setTop (mkF m 66 #[.val (.ref oa), .val (.int xs), .val (.int xe), .val (.long qh), .second, .val (.long qc), .second] [(.ref oa), (.int (4 : Int32))]))
    have f159 := (Fld.other W156 (Fld.other W151 F6 (Or.inr (slot_ne (Or.inl (wd_23 hw)) (Or.inl (wd_15 hw)) (by decide) (t := (.array .int)) (t' := .int) (by decide) (by decide)))) (Or.inr (slot_ne (Or.inl (wd_23 hw)) (Or.inl (wd_18 hw)) (by decide) (t := (.array .int)) (t' := .int) (by decide) (by decide))))
    obtain ⟨T160, X160, e160, st160⟩ := getF X158 hx hZ hown (host := "") (Or.inl (wd_22 hw)) Via.refl e158 f159 (g := (mkF m 66 #[.val (.ref oa), .val (.int xs), .val (.int xe), .val (.long qh), .second, .val (.long qc), .second] [(.ref oa), (.int (4 : Int32))])) rfl rfl (hb hby d4_66)
    refine ownEnds.law st160 ?_
    show ownEnds _ _ _ _ (T160.setTop (mkF m 69 #[.val (.ref oa), .val (.int xs), .val (.int xe), .val (.long qh), .second, .val (.long qc), .second] [(.ref s2), (.int (4 : Int32))]))
    have f162 := (Arv.other (Arv.other V2 W151 (Ne.symm n2)) W156 (Ne.symm n2))
    obtain ⟨cl161, Ar161, -, S161, N161, -, -⟩ := id f162
    refine ownEnds.law (X160.arraylength hx (by rw [e160]; exact Ar161.1) (State.isArrayOf_alike hZ.alike Ar161.2.1) (g := (mkF m 69 #[.val (.ref oa), .val (.int xs), .val (.int xe), .val (.long qh), .second, .val (.long qc), .second] [(.ref s2), (.int (4 : Int32))])) rfl rfl (hb hby d4_69)) ?_
    rw [len_of S161 N161]
    show ownEnds _ _ _ _ (T160.setTop (mkF m 70 #[.val (.ref oa), .val (.int xs), .val (.int xe), .val (.long qh), .second, .val (.long qc), .second] [(.int (4 : Int32)), (.int (4 : Int32))]))
    refine ownEnds.law (fun t => XS.icmpNo X160.here hx rfl (hb hby d4_70) rfl (teq (rfl : (4 : Int32) = (4 : Int32))).2) ?_
    show ownEnds _ _ _ _ (T160.setTop (mkF m 73 #[.val (.ref oa), .val (.int xs), .val (.int xe), .val (.long qh), .second, .val (.long qc), .second] []))
    refine ownEnds.law (fun t k => XS.aloadN X160.here hx rfl (hb hby d4_73) rfl rfl (XS.aloadN X160.here hx rfl (hb hby d4_74) rfl rfl k)) ?_
    show ownEnds _ _ _ _ (T160.setTop (mkF m 75 #[.val (.ref oa), .val (.int xs), .val (.int xe), .val (.long qh), .second, .val (.long qc), .second] [(.ref oa), (.ref oa)]))
    have f163 := (Fld.other W156 (Fld.other W151 F5 (Or.inr (slot_ne (Or.inl (wd_21 hw)) (Or.inl (wd_15 hw)) (by decide) (t := (.array .int)) (t' := .int) (by decide) (by decide)))) (Or.inr (slot_ne (Or.inl (wd_21 hw)) (Or.inl (wd_18 hw)) (by decide) (t := (.array .int)) (t' := .int) (by decide) (by decide))))
    obtain ⟨T164, X164, e164, st164⟩ := getF X160 hx hZ hown (host := "") (Or.inl (wd_20 hw)) Via.refl e160 f163 (g := (mkF m 75 #[.val (.ref oa), .val (.int xs), .val (.int xe), .val (.long qh), .second, .val (.long qc), .second] [(.ref oa), (.ref oa)])) rfl rfl (hb hby d4_75)
    refine ownEnds.law st164 ?_
    show ownEnds _ _ _ _ (T164.setTop (mkF m 78 #[.val (.ref oa), .val (.int xs), .val (.int xe), .val (.long qh), .second, .val (.long qc), .second] [(.ref s1), (.ref oa)]))
    refine ownEnds.law (fun t k => XS.aloadN X164.here hx rfl (hb hby d4_78) rfl rfl k) ?_
    show ownEnds _ _ _ _ (T164.setTop (mkF m 79 #[.val (.ref oa), .val (.int xs), .val (.int xe), .val (.long qh), .second, .val (.long qc), .second] [(.ref oa), (.ref s1), (.ref oa)]))
    obtain ⟨T165, X165, e165, st165⟩ := getF X164 hx hZ hown (host := "") (Or.inl (wd_46 hw)) Via.refl e164 f157 (g := (mkF m 79 #[.val (.ref oa), .val (.int xs), .val (.int xe), .val (.long qh), .second, .val (.long qc), .second] [(.ref oa), (.ref s1), (.ref oa)])) rfl rfl (hb hby d4_79)
    refine ownEnds.law st165 ?_
    show ownEnds _ _ _ _ (T165.setTop (mkF m 82 #[.val (.ref oa), .val (.int xs), .val (.int xe), .val (.long qh), .second, .val (.long qc), .second] [(.int (4 : Int32)), (.ref s1), (.ref oa)]))
    refine ownEnds.law (fun t k => XS.iconst X165.here hx rfl (hb hby d4_82) (XS.imul X165.here hx rfl (hb hby d4_83) rfl k)) ?_
    show ownEnds _ _ _ _ (T165.setTop (mkF m 84 #[.val (.ref oa), .val (.int xs), .val (.int xe), .val (.long qh), .second, .val (.long qc), .second] [(.int (8 : Int32)), (.ref s1), (.ref oa)]))
    have f167 := (Arv.other (Arv.other V1 W151 (Ne.symm n1)) W156 (Ne.symm n1))
    obtain ⟨v166, T166, L166, X166, hQ166, st166⟩ := ownCallS X165 hx hZ hown (y := (⟨"java/util/Arrays", "copyOf", "([II)[I"⟩ : MethodName)) (as := [(.ref s1), (.int (8 : Int32))]) (wd_55 hw) (wd_56 hw) (wd_57 hw) (wd_58 hw) (by decide) (rm9 l Z a0 hw s1 k1 v1 h156 n0 Z156 f167) e165 1 (by decide) (by decide) (by decide) (by decide) (g := (mkF m 84 #[.val (.ref oa), .val (.int xs), .val (.int xe), .val (.long qh), .second, .val (.long qc), .second] [(.int (8 : Int32)), (.ref s1), (.ref oa)])) rfl (by rw [hml]; rfl) (rest := [(.ref oa)]) pd_2 rfl rfl (by show 2 * 0 + _ ≤ _; exact Nat.le_of_eq rfl) (hb hby d4_84)
    obtain ⟨b166, kb166, rfl, Nq166, Kq166, g_b166, zq166, Vq166⟩ := hQ166
    have f168 := (Exa.wr W156 f155)
    have ne_oa_b166 : oa ≠ b166 := Nat.ne_of_lt (Nat.lt_of_lt_of_le f168.lt zq166)
    have ne_s1_b166 : s1 ≠ b166 := Nat.ne_of_lt (Nat.lt_of_lt_of_le f167.lt zq166)
    have ne_s2_b166 : s2 ≠ b166 := Nat.ne_of_lt (Nat.lt_of_lt_of_le f162.lt zq166)
    have f169 := (Arv.other (Arv.other V3 W151 (Ne.symm n3)) W156 (Ne.symm n3))
    have ne_s3_b166 : s3 ≠ b166 := Nat.ne_of_lt (Nat.lt_of_lt_of_le f169.lt zq166)
    have f170 := (Arv.other (Arv.other VC W151 (Ne.symm m1)) W156 (Ne.symm m1))
    have ne_c0_b166 : c0 ≠ b166 := Nat.ne_of_lt (Nat.lt_of_lt_of_le f170.lt zq166)
    have sz_b166 : h0.size ≤ b166 := Nat.le_trans (KK156).1 zq166
    have N166 := Fr.app N156 Nq166
    have KK166 : Keep h0 T166.heap [oa, s1, s2, s3, c0] := Keep.trans (KK156) Kq166 all0
    have Z166 : n0 ≤ T166.heap.size := Nat.le_trans Z156 Kq166.1
    refine ownEnds.law st166 ?_
    show ownEnds _ _ _ _ (T166.setTop (mkF m 87 #[.val (.ref oa), .val (.int xs), .val (.int xe), .val (.long qh), .second, .val (.long qc), .second] [(.ref b166), (.ref oa)]))
    have f171 := (Exa.keep f168 Kq166)
    have f172 := (Fld.keep f163 Kq166 nin0)
    obtain ⟨T173, h173, X173, e173, W173, st173⟩ := putF X166 hx hZ hown (host := "") (Or.inl (wd_20 hw)) Via.refl rfl f172 f171 (Or.inl (wd_21 hw)) (wd_5 hw) (ty := (.array .int)) (by decide) rfl rfl (g := (mkF m 87 #[.val (.ref oa), .val (.int xs), .val (.int xe), .val (.long qh), .second, .val (.long qc), .second] [(.ref b166), (.ref oa)])) rfl rfl (hb hby d4_87)
    refine ownEnds.law st173 ?_
    have N173 := Fr.snoc X173 N166 g_oa
    have KK173 : Keep h0 h173 [oa, s1, s2, s3, c0] := (KK166).wr W173 (Or.inl (List.mem_of_getElem? (i := 0) rfl))
    have Z173 : n0 ≤ h173.size := by rw [W173.size]; exact Z166
    have Fw173 : Fld Z h173 oa "com/example/vestline/vestline/engine/PayrollRows" "periodStarts" "[I" (.ref b166) := Fld.same W173 f172
    show ownEnds _ _ _ _ (T173.setTop (mkF m 90 #[.val (.ref oa), .val (.int xs), .val (.int xe), .val (.long qh), .second, .val (.long qc), .second] []))
    refine ownEnds.law (fun t k => XS.aloadN X173.here hx rfl (hb hby d4_90) rfl rfl (XS.aloadN X173.here hx rfl (hb hby d4_91) rfl rfl k)) ?_
    show ownEnds _ _ _ _ (T173.setTop (mkF m 92 #[.val (.ref oa), .val (.int xs), .val (.int xe), .val (.long qh), .second, .val (.long qc), .second] [(.ref oa), (.ref oa)]))
    have f174 := (Fld.other W173 (Fld.keep f159 Kq166 nin0) (Or.inr (slot_ne (Or.inl (wd_23 hw)) (Or.inl (wd_21 hw)) (by decide) (t := (.array .int)) (t' := (.array .int)) (by decide) (by decide))))
    obtain ⟨T175, X175, e175, st175⟩ := getF X173 hx hZ hown (host := "") (Or.inl (wd_22 hw)) Via.refl e173 f174 (g := (mkF m 92 #[.val (.ref oa), .val (.int xs), .val (.int xe), .val (.long qh), .second, .val (.long qc), .second] [(.ref oa), (.ref oa)])) rfl rfl (hb hby d4_92)
    refine ownEnds.law st175 ?_
    show ownEnds _ _ _ _ (T175.setTop (mkF m 95 #[.val (.ref oa), .val (.int xs), .val (.int xe), .val (.long qh), .second, .val (.long qc), .second] [(.ref s2), (.ref oa)]))
    refine ownEnds.law (fun t k => XS.aloadN X175.here hx rfl (hb hby d4_95) rfl rfl k) ?_
    show ownEnds _ _ _ _ (T175.setTop (mkF m 96 #[.val (.ref oa), .val (.int xs), .val (.int xe), .val (.long qh), .second, .val (.long qc), .second] [(.ref oa), (.ref s2), (.ref oa)]))
    have f176 := (Fld.other W173 (Fld.keep f157 Kq166 nin0) (Or.inr (slot_ne (Or.inl (wd_47 hw)) (Or.inl (wd_21 hw)) (by decide) (t := .int) (t' := (.array .int)) (by decide) (by decide))))
    obtain ⟨T177, X177, e177, st177⟩ := getF X175 hx hZ hown (host := "") (Or.inl (wd_46 hw)) Via.refl e175 f176 (g := (mkF m 96 #[.val (.ref oa), .val (.int xs), .val (.int xe), .val (.long qh), .second, .val (.long qc), .second] [(.ref oa), (.ref s2), (.ref oa)])) rfl rfl (hb hby d4_96)
    refine ownEnds.law st177 ?_
    show ownEnds _ _ _ _ (T177.setTop (mkF m 99 #[.val (.ref oa), .val (.int xs), .val (.int xe), .val (.long qh), .second, .val (.long qc), .second] [(.int (4 : Int32)), (.ref s2), (.ref oa)]))
    refine ownEnds.law (fun t k => XS.iconst X177.here hx rfl (hb hby d4_99) (XS.imul X177.here hx rfl (hb hby d4_100) rfl k)) ?_
    show ownEnds _ _ _ _ (T177.setTop (mkF m 101 #[.val (.ref oa), .val (.int xs), .val (.int xe), .val (.long qh), .second, .val (.long qc), .second] [(.int (8 : Int32)), (.ref s2), (.ref oa)]))
    have f179 := (Arv.other (Arv.keep f162 Kq166 nin0) W173 (Ne.symm n2))
    obtain ⟨v178, T178, L178, X178, hQ178, st178⟩ := ownCallS X177 hx hZ hown (y := (⟨"java/util/Arrays", "copyOf", "([II)[I"⟩ : MethodName)) (as := [(.ref s2), (.int (8 : Int32))]) (wd_55 hw) (wd_56 hw) (wd_57 hw) (wd_58 hw) (by decide) (rm9 l Z a0 hw s2 k2 v2 h173 n0 Z173 f179) e177 1 (by decide) (by decide) (by decide) (by decide) (g := (mkF m 101 #[.val (.ref oa), .val (.int xs), .val (.int xe), .val (.long qh), .second, .val (.long qc), .second] [(.int (8 : Int32)), (.ref s2), (.ref oa)])) rfl (by rw [hml]; rfl) (rest := [(.ref oa)]) pd_2 rfl rfl (by show 2 * 0 + _ ≤ _; exact Nat.le_of_eq rfl) (hb hby d4_101)
    obtain ⟨b178, kb178, rfl, Nq178, Kq178, g_b178, zq178, Vq178⟩ := hQ178
    have f180 := (Exa.wr W173 f171)
    have ne_oa_b178 : oa ≠ b178 := Nat.ne_of_lt (Nat.lt_of_lt_of_le f180.lt zq178)
    have f181 := (Arv.other (Arv.keep f167 Kq166 nin0) W173 (Ne.symm n1))
    have ne_s1_b178 : s1 ≠ b178 := Nat.ne_of_lt (Nat.lt_of_lt_of_le f181.lt zq178)
    have ne_s2_b178 : s2 ≠ b178 := Nat.ne_of_lt (Nat.lt_of_lt_of_le f179.lt zq178)
    have f182 := (Arv.other (Arv.keep f169 Kq166 nin0) W173 (Ne.symm n3))
    have ne_s3_b178 : s3 ≠ b178 := Nat.ne_of_lt (Nat.lt_of_lt_of_le f182.lt zq178)
    have f183 := (Arv.other (Arv.keep f170 Kq166 nin0) W173 (Ne.symm m1))
    have ne_c0_b178 : c0 ≠ b178 := Nat.ne_of_lt (Nat.lt_of_lt_of_le f183.lt zq178)
    have f184 := (Arv.other Vq166 W173 (Ne.symm ne_oa_b166))
    have ne_b166_b178 : b166 ≠ b178 := Nat.ne_of_lt (Nat.lt_of_lt_of_le f184.lt zq178)
    have sz_b178 : h0.size ≤ b178 := Nat.le_trans (KK173).1 zq178
    have N178 := Fr.app N173 Nq178
    have KK178 : Keep h0 T178.heap [oa, s1, s2, s3, c0] := Keep.trans (KK173) Kq178 all0
    have Z178 : n0 ≤ T178.heap.size := Nat.le_trans Z173 Kq178.1
    refine ownEnds.law st178 ?_
    show ownEnds _ _ _ _ (T178.setTop (mkF m 104 #[.val (.ref oa), .val (.int xs), .val (.int xe), .val (.long qh), .second, .val (.long qc), .second] [(.ref b178), (.ref oa)]))
    have f185 := (Exa.keep f180 Kq178)
    have f186 := (Fld.keep f174 Kq178 nin0)
    obtain ⟨T187, h187, X187, e187, W187, st187⟩ := putF X178 hx hZ hown (host := "") (Or.inl (wd_22 hw)) Via.refl rfl f186 f185 (Or.inl (wd_23 hw)) (wd_5 hw) (ty := (.array .int)) (by decide) rfl rfl (g := (mkF m 104 #[.val (.ref oa), .val (.int xs), .val (.int xe), .val (.long qh), .second, .val (.long qc), .second] [(.ref b178), (.ref oa)])) rfl rfl (hb hby d4_104)
    refine ownEnds.law st187 ?_
    have N187 := Fr.snoc X187 N178 g_oa
    have KK187 : Keep h0 h187 [oa, s1, s2, s3, c0] := (KK178).wr W187 (Or.inl (List.mem_of_getElem? (i := 0) rfl))
    have Z187 : n0 ≤ h187.size := by rw [W187.size]; exact Z178
    have Fw187 : Fld Z h187 oa "com/example/vestline/vestline/engine/PayrollRows" "periodEnds" "[I" (.ref b178) := Fld.same W187 f186
    show ownEnds _ _ _ _ (T187.setTop (mkF m 107 #[.val (.ref oa), .val (.int xs), .val (.int xe), .val (.long qh), .second, .val (.long qc), .second] []))
    refine ownEnds.law (fun t k => XS.aloadN X187.here hx rfl (hb hby d4_107) rfl rfl (XS.aloadN X187.here hx rfl (hb hby d4_108) rfl rfl k)) ?_
    show ownEnds _ _ _ _ (T187.setTop (mkF m 109 #[.val (.ref oa), .val (.int xs), .val (.int xe), .val (.long qh), .second, .val (.long qc), .second] [(.ref oa), (.ref oa)]))
    have f188 := (Fld.other W187 (Fld.keep (Fld.other W173 (Fld.keep (Fld.other W156 (Fld.other W151 F7 (Or.inr (slot_ne (Or.inl (wd_26 hw)) (Or.inl (wd_15 hw)) (by decide) (t := (.array .long)) (t' := .int) (by decide) (by decide)))) (Or.inr (slot_ne (Or.inl (wd_26 hw)) (Or.inl (wd_18 hw)) (by decide) (t := (.array .long)) (t' := .int) (by decide) (by decide)))) Kq166 nin0) (Or.inr (slot_ne (Or.inl (wd_26 hw)) (Or.inl (wd_21 hw)) (by decide) (t := (.array .long)) (t' := (.array .int)) (by decide) (by decide)))) Kq178 nin0) (Or.inr (slot_ne (Or.inl (wd_26 hw)) (Or.inl (wd_23 hw)) (by decide) (t := (.array .long)) (t' := (.array .int)) (by decide) (by decide))))
    obtain ⟨T189, X189, e189, st189⟩ := getF X187 hx hZ hown (host := "") (Or.inl (wd_25 hw)) Via.refl e187 f188 (g := (mkF m 109 #[.val (.ref oa), .val (.int xs), .val (.int xe), .val (.long qh), .second, .val (.long qc), .second] [(.ref oa), (.ref oa)])) rfl rfl (hb hby d4_109)
    refine ownEnds.law st189 ?_
    show ownEnds _ _ _ _ (T189.setTop (mkF m 112 #[.val (.ref oa), .val (.int xs), .val (.int xe), .val (.long qh), .second, .val (.long qc), .second] [(.ref s3), (.ref oa)]))
    refine ownEnds.law (fun t k => XS.aloadN X189.here hx rfl (hb hby d4_112) rfl rfl k) ?_
    show ownEnds _ _ _ _ (T189.setTop (mkF m 113 #[.val (.ref oa), .val (.int xs), .val (.int xe), .val (.long qh), .second, .val (.long qc), .second] [(.ref oa), (.ref s3), (.ref oa)]))
    have f190 := (Fld.other W187 (Fld.keep f176 Kq178 nin0) (Or.inr (slot_ne (Or.inl (wd_47 hw)) (Or.inl (wd_23 hw)) (by decide) (t := .int) (t' := (.array .int)) (by decide) (by decide))))
    obtain ⟨T191, X191, e191, st191⟩ := getF X189 hx hZ hown (host := "") (Or.inl (wd_46 hw)) Via.refl e189 f190 (g := (mkF m 113 #[.val (.ref oa), .val (.int xs), .val (.int xe), .val (.long qh), .second, .val (.long qc), .second] [(.ref oa), (.ref s3), (.ref oa)])) rfl rfl (hb hby d4_113)
    refine ownEnds.law st191 ?_
    show ownEnds _ _ _ _ (T191.setTop (mkF m 116 #[.val (.ref oa), .val (.int xs), .val (.int xe), .val (.long qh), .second, .val (.long qc), .second] [(.int (4 : Int32)), (.ref s3), (.ref oa)]))
    refine ownEnds.law (fun t k => XS.iconst X191.here hx rfl (hb hby d4_116) (XS.imul X191.here hx rfl (hb hby d4_117) rfl k)) ?_
    show ownEnds _ _ _ _ (T191.setTop (mkF m 118 #[.val (.ref oa), .val (.int xs), .val (.int xe), .val (.long qh), .second, .val (.long qc), .second] [(.int (8 : Int32)), (.ref s3), (.ref oa)]))
    have f193 := (Arv.other (Arv.keep f182 Kq178 nin0) W187 (Ne.symm n3))
    obtain ⟨v192, T192, L192, X192, hQ192, st192⟩ := ownCallS X191 hx hZ hown (y := (⟨"java/util/Arrays", "copyOf", "([JI)[J"⟩ : MethodName)) (as := [(.ref s3), (.int (8 : Int32))]) (wd_64 hw) (wd_65 hw) (wd_57 hw) (wd_66 hw) (by decide) (rm10 l Z a0 hw s3 k3 v3 h187 n0 Z187 f193) e191 1 (by decide) (by decide) (by decide) (by decide) (g := (mkF m 118 #[.val (.ref oa), .val (.int xs), .val (.int xe), .val (.long qh), .second, .val (.long qc), .second] [(.int (8 : Int32)), (.ref s3), (.ref oa)])) rfl (by rw [hml]; rfl) (rest := [(.ref oa)]) pd_3 rfl rfl (by show 2 * 0 + _ ≤ _; exact Nat.le_of_eq rfl) (hb hby d4_118)
    obtain ⟨b192, kb192, rfl, Nq192, Kq192, g_b192, zq192, Vq192⟩ := hQ192
    have f194 := (Exa.wr W187 f185)
    have ne_oa_b192 : oa ≠ b192 := Nat.ne_of_lt (Nat.lt_of_lt_of_le f194.lt zq192)
    have f195 := (Arv.other (Arv.keep f181 Kq178 nin0) W187 (Ne.symm n1))
    have ne_s1_b192 : s1 ≠ b192 := Nat.ne_of_lt (Nat.lt_of_lt_of_le f195.lt zq192)
    have f196 := (Arv.other (Arv.keep f179 Kq178 nin0) W187 (Ne.symm n2))
    have ne_s2_b192 : s2 ≠ b192 := Nat.ne_of_lt (Nat.lt_of_lt_of_le f196.lt zq192)
    have ne_s3_b192 : s3 ≠ b192 := Nat.ne_of_lt (Nat.lt_of_lt_of_le f193.lt zq192)
    have f197 := (Arv.other (Arv.keep f183 Kq178 nin0) W187 (Ne.symm m1))
    have ne_c0_b192 : c0 ≠ b192 := Nat.ne_of_lt (Nat.lt_of_lt_of_le f197.lt zq192)
    have f198 := (Arv.other (Arv.keep f184 Kq178 nin0) W187 (Ne.symm ne_oa_b166))
    have ne_b166_b192 : b166 ≠ b192 := Nat.ne_of_lt (Nat.lt_of_lt_of_le f198.lt zq192)
    have f199 := (Arv.other Vq178 W187 (Ne.symm ne_oa_b178))
    have ne_b178_b192 : b178 ≠ b192 := Nat.ne_of_lt (Nat.lt_of_lt_of_le f199.lt zq192)
    have sz_b192 : h0.size ≤ b192 := Nat.le_trans (KK187).1 zq192
    have N192 := Fr.app N187 Nq192
    have KK192 : Keep h0 T192.heap [oa, s1, s2, s3, c0] := Keep.trans (KK187) Kq192 all0
    have Z192 : n0 ≤ T192.heap.size := Nat.le_trans Z187 Kq192.1
    refine ownEnds.law st192 ?_
    show ownEnds _ _ _ _ (T192.setTop (mkF m 121 #[.val (.ref oa), .val (.int xs), .val (.int xe), .val (.long qh), .second, .val (.long qc), .second] [(.ref b192), (.ref oa)]))
    have f200 := (Exa.keep f194 Kq192)
    have f201 := (Fld.keep f188 Kq192 nin0)
    obtain ⟨T202, h202, X202, e202, W202, st202⟩ := putF X192 hx hZ hown (host := "") (Or.inl (wd_25 hw)) Via.refl rfl f201 f200 (Or.inl (wd_26 hw)) (wd_5 hw) (ty := (.array .long)) (by decide) rfl rfl (g := (mkF m 121 #[.val (.ref oa), .val (.int xs), .val (.int xe), .val (.long qh), .second, .val (.long qc), .second] [(.ref b192), (.ref oa)])) rfl rfl (hb hby d4_121)
    refine ownEnds.law st202 ?_
    have N202 := Fr.snoc X202 N192 g_oa
    have KK202 : Keep h0 h202 [oa, s1, s2, s3, c0] := (KK192).wr W202 (Or.inl (List.mem_of_getElem? (i := 0) rfl))
    have Z202 : n0 ≤ h202.size := by rw [W202.size]; exact Z192
    have Fw202 : Fld Z h202 oa "com/example/vestline/vestline/engine/PayrollRows" "hundredths" "[J" (.ref b192) := Fld.same W202 f201
    show ownEnds _ _ _ _ (T202.setTop (mkF m 124 #[.val (.ref oa), .val (.int xs), .val (.int xe), .val (.long qh), .second, .val (.long qc), .second] []))
    refine ownEnds.law (fun t k => XS.aloadN X202.here hx rfl (hb hby d4_124) rfl rfl k) ?_
    show ownEnds _ _ _ _ (T202.setTop (mkF m 125 #[.val (.ref oa), .val (.int xs), .val (.int xe), .val (.long qh), .second, .val (.long qc), .second] [(.ref oa)]))
    have f203 := (Fld.other W202 (Fld.keep (Fld.other W187 (Fld.keep (Fld.other W173 (Fld.keep (Fld.other W156 (Fld.other W151 FC (Or.inr (slot_ne (Or.inl (wd_49 hw)) (Or.inl (wd_15 hw)) (by decide) (t := (.array .long)) (t' := .int) (by decide) (by decide)))) (Or.inr (slot_ne (Or.inl (wd_49 hw)) (Or.inl (wd_18 hw)) (by decide) (t := (.array .long)) (t' := .int) (by decide) (by decide)))) Kq166 nin0) (Or.inr (slot_ne (Or.inl (wd_49 hw)) (Or.inl (wd_21 hw)) (by decide) (t := (.array .long)) (t' := (.array .int)) (by decide) (by decide)))) Kq178 nin0) (Or.inr (slot_ne (Or.inl (wd_49 hw)) (Or.inl (wd_23 hw)) (by decide) (t := (.array .long)) (t' := (.array .int)) (by decide) (by decide)))) Kq192 nin0) (Or.inr (slot_ne (Or.inl (wd_49 hw)) (Or.inl (wd_26 hw)) (by decide) (t := (.array .long)) (t' := (.array .long)) (by decide) (by decide))))
    obtain ⟨T204, X204, e204, st204⟩ := getF X202 hx hZ hown (host := "") (Or.inl (wd_48 hw)) Via.refl e202 f203 (g := (mkF m 125 #[.val (.ref oa), .val (.int xs), .val (.int xe), .val (.long qh), .second, .val (.long qc), .second] [(.ref oa)])) rfl rfl (hb hby d4_125)
    refine ownEnds.law st204 ?_
    show ownEnds _ _ _ _ (T204.setTop (mkF m 128 #[.val (.ref oa), .val (.int xs), .val (.int xe), .val (.long qh), .second, .val (.long qc), .second] [(.ref c0)]))
    refine ownEnds.law (fun t k => XS.ifnullNo X204.here hx rfl (hb hby d4_128) rfl (XS.aloadN X204.here hx rfl (hb hby d4_131) rfl rfl (XS.aloadN X204.here hx rfl (hb hby d4_132) rfl rfl k))) ?_
    show ownEnds _ _ _ _ (T204.setTop (mkF m 133 #[.val (.ref oa), .val (.int xs), .val (.int xe), .val (.long qh), .second, .val (.long qc), .second] [(.ref oa), (.ref oa)]))
    obtain ⟨T205, X205, e205, st205⟩ := getF X204 hx hZ hown (host := "") (Or.inl (wd_48 hw)) Via.refl e204 f203 (g := (mkF m 133 #[.val (.ref oa), .val (.int xs), .val (.int xe), .val (.long qh), .second, .val (.long qc), .second] [(.ref oa), (.ref oa)])) rfl rfl (hb hby d4_133)
    refine ownEnds.law st205 ?_
    show ownEnds _ _ _ _ (T205.setTop (mkF m 136 #[.val (.ref oa), .val (.int xs), .val (.int xe), .val (.long qh), .second, .val (.long qc), .second] [(.ref c0), (.ref oa)]))
    refine ownEnds.law (fun t k => XS.aloadN X205.here hx rfl (hb hby d4_136) rfl rfl k) ?_
    show ownEnds _ _ _ _ (T205.setTop (mkF m 137 #[.val (.ref oa), .val (.int xs), .val (.int xe), .val (.long qh), .second, .val (.long qc), .second] [(.ref oa), (.ref c0), (.ref oa)]))
    have f206 := (Fld.other W202 (Fld.keep f190 Kq192 nin0) (Or.inr (slot_ne (Or.inl (wd_47 hw)) (Or.inl (wd_26 hw)) (by decide) (t := .int) (t' := (.array .long)) (by decide) (by decide))))
    obtain ⟨T207, X207, e207, st207⟩ := getF X205 hx hZ hown (host := "") (Or.inl (wd_46 hw)) Via.refl e205 f206 (g := (mkF m 137 #[.val (.ref oa), .val (.int xs), .val (.int xe), .val (.long qh), .second, .val (.long qc), .second] [(.ref oa), (.ref c0), (.ref oa)])) rfl rfl (hb hby d4_137)
    refine ownEnds.law st207 ?_
    show ownEnds _ _ _ _ (T207.setTop (mkF m 140 #[.val (.ref oa), .val (.int xs), .val (.int xe), .val (.long qh), .second, .val (.long qc), .second] [(.int (4 : Int32)), (.ref c0), (.ref oa)]))
    refine ownEnds.law (fun t k => XS.iconst X207.here hx rfl (hb hby d4_140) (XS.imul X207.here hx rfl (hb hby d4_141) rfl k)) ?_
    show ownEnds _ _ _ _ (T207.setTop (mkF m 142 #[.val (.ref oa), .val (.int xs), .val (.int xe), .val (.long qh), .second, .val (.long qc), .second] [(.int (8 : Int32)), (.ref c0), (.ref oa)]))
    have f209 := (Arv.other (Arv.keep f197 Kq192 nin0) W202 (Ne.symm m1))
    obtain ⟨v208, T208, L208, X208, hQ208, st208⟩ := ownCallS X207 hx hZ hown (y := (⟨"java/util/Arrays", "copyOf", "([JI)[J"⟩ : MethodName)) (as := [(.ref c0), (.int (8 : Int32))]) (wd_64 hw) (wd_65 hw) (wd_57 hw) (wd_66 hw) (by decide) (rm10 l Z a0 hw c0 kc vc h202 n0 Z202 f209) e207 1 (by decide) (by decide) (by decide) (by decide) (g := (mkF m 142 #[.val (.ref oa), .val (.int xs), .val (.int xe), .val (.long qh), .second, .val (.long qc), .second] [(.int (8 : Int32)), (.ref c0), (.ref oa)])) rfl (by rw [hml]; rfl) (rest := [(.ref oa)]) pd_3 rfl rfl (by show 2 * 0 + _ ≤ _; exact Nat.le_of_eq rfl) (hb hby d4_142)
    obtain ⟨b208, kb208, rfl, Nq208, Kq208, g_b208, zq208, Vq208⟩ := hQ208
    have f210 := (Exa.wr W202 f200)
    have ne_oa_b208 : oa ≠ b208 := Nat.ne_of_lt (Nat.lt_of_lt_of_le f210.lt zq208)
    have f211 := (Arv.other (Arv.keep f195 Kq192 nin0) W202 (Ne.symm n1))
    have ne_s1_b208 : s1 ≠ b208 := Nat.ne_of_lt (Nat.lt_of_lt_of_le f211.lt zq208)
    have f212 := (Arv.other (Arv.keep f196 Kq192 nin0) W202 (Ne.symm n2))
    have ne_s2_b208 : s2 ≠ b208 := Nat.ne_of_lt (Nat.lt_of_lt_of_le f212.lt zq208)
    have f213 := (Arv.other (Arv.keep f193 Kq192 nin0) W202 (Ne.symm n3))
    have ne_s3_b208 : s3 ≠ b208 := Nat.ne_of_lt (Nat.lt_of_lt_of_le f213.lt zq208)
    have ne_c0_b208 : c0 ≠ b208 := Nat.ne_of_lt (Nat.lt_of_lt_of_le f209.lt zq208)
    have f214 := (Arv.other (Arv.keep f198 Kq192 nin0) W202 (Ne.symm ne_oa_b166))
    have ne_b166_b208 : b166 ≠ b208 := Nat.ne_of_lt (Nat.lt_of_lt_of_le f214.lt zq208)
    have f215 := (Arv.other (Arv.keep f199 Kq192 nin0) W202 (Ne.symm ne_oa_b178))
    have ne_b178_b208 : b178 ≠ b208 := Nat.ne_of_lt (Nat.lt_of_lt_of_le f215.lt zq208)
    have f216 := (Arv.other Vq192 W202 (Ne.symm ne_oa_b192))
    have ne_b192_b208 : b192 ≠ b208 := Nat.ne_of_lt (Nat.lt_of_lt_of_le f216.lt zq208)
    have sz_b208 : h0.size ≤ b208 := Nat.le_trans (KK202).1 zq208
    have N208 := Fr.app N202 Nq208
    have KK208 : Keep h0 T208.heap [oa, s1, s2, s3, c0] := Keep.trans (KK202) Kq208 all0
    have Z208 : n0 ≤ T208.heap.size := Nat.le_trans Z202 Kq208.1
    refine ownEnds.law st208 ?_
    show ownEnds _ _ _ _ (T208.setTop (mkF m 145 #[.val (.ref oa), .val (.int xs), .val (.int xe), .val (.long qh), .second, .val (.long qc), .second] [(.ref b208), (.ref oa)]))
    have f217 := (Exa.keep f210 Kq208)
    have f218 := (Fld.keep f203 Kq208 nin0)
    obtain ⟨T219, h219, X219, e219, W219, st219⟩ := putF X208 hx hZ hown (host := "") (Or.inl (wd_48 hw)) Via.refl rfl f218 f217 (Or.inl (wd_49 hw)) (wd_5 hw) (ty := (.array .long)) (by decide) rfl rfl (g := (mkF m 145 #[.val (.ref oa), .val (.int xs), .val (.int xe), .val (.long qh), .second, .val (.long qc), .second] [(.ref b208), (.ref oa)])) rfl rfl (hb hby d4_145)
    refine ownEnds.law st219 ?_
    have N219 := Fr.snoc X219 N208 g_oa
    have KK219 : Keep h0 h219 [oa, s1, s2, s3, c0] := (KK208).wr W219 (Or.inl (List.mem_of_getElem? (i := 0) rfl))
    have Z219 : n0 ≤ h219.size := by rw [W219.size]; exact Z208
    have Fw219 : Fld Z h219 oa "com/example/vestline/vestline/engine/PayrollRows" "cents" "[J" (.ref b208) := Fld.same W219 f218
    show ownEnds _ _ _ _ (T219.setTop (mkF m 148 #[.val (.ref oa), .val (.int xs), .val (.int xe), .val (.long qh), .second, .val (.long qc), .second] []))
    refine ownEnds.law (fun t k => XS.aloadN X219.here hx rfl (hb hby d4_148) rfl rfl k) ?_
    show ownEnds _ _ _ _ (T219.setTop (mkF m 149 #[.val (.ref oa), .val (.int xs), .val (.int xe), .val (.long qh), .second, .val (.long qc), .second] [(.ref oa)]))
    obtain ⟨T220, X220, e220, st220⟩ := getF X219 hx hZ hown (host := "") (Or.inl (wd_48 hw)) Via.refl e219 Fw219 (g := (mkF m 149 #[.val (.ref oa), .val (.int xs), .val (.int xe), .val (.long qh), .second, .val (.long qc), .second] [(.ref oa)])) rfl rfl (hb hby d4_149)
    refine ownEnds.law st220 ?_
    show ownEnds _ _ _ _ (T220.setTop (mkF m 152 #[.val (.ref oa), .val (.int xs), .val (.int xe), .val (.long qh), .second, .val (.long qc), .second] [(.ref b208)]))
    refine ownEnds.law (fun t k => XS.ifnonnullYes X220.here hx rfl (pc0 := 152) (pc' := 173) rfl (hb hby d4_152) rfl (by decide) (by decide) (XS.aloadN X220.here hx rfl (hb hby d4_173) rfl rfl k)) ?_
    show ownEnds _ _ _ _ (T220.setTop (mkF m 174 #[.val (.ref oa), .val (.int xs), .val (.int xe), .val (.long qh), .second, .val (.long qc), .second] [(.ref oa)]))
    have f221 := (Fld.other W219 (Fld.keep (Fld.other W202 (Fld.keep (Fld.other W187 (Fld.keep Fw173 Kq178 nin0) (Or.inr (slot_ne (Or.inl (wd_21 hw)) (Or.inl (wd_23 hw)) (by decide) (t := (.array .int)) (t' := (.array .int)) (by decide) (by decide)))) Kq192 nin0) (Or.inr (slot_ne (Or.inl (wd_21 hw)) (Or.inl (wd_26 hw)) (by decide) (t := (.array .int)) (t' := (.array .long)) (by decide) (by decide)))) Kq208 nin0) (Or.inr (slot_ne (Or.inl (wd_21 hw)) (Or.inl (wd_49 hw)) (by decide) (t := (.array .int)) (t' := (.array .long)) (by decide) (by decide))))
    obtain ⟨T222, X222, e222, st222⟩ := getF X220 hx hZ hown (host := "") (Or.inl (wd_20 hw)) Via.refl e220 f221 (g := (mkF m 174 #[.val (.ref oa), .val (.int xs), .val (.int xe), .val (.long qh), .second, .val (.long qc), .second] [(.ref oa)])) rfl rfl (hb hby d4_174)
    refine ownEnds.law st222 ?_
    show ownEnds _ _ _ _ (T222.setTop (mkF m 177 #[.val (.ref oa), .val (.int xs), .val (.int xe), .val (.long qh), .second, .val (.long qc), .second] [(.ref b166)]))
    refine ownEnds.law (fun t k => XS.aloadN X222.here hx rfl (hb hby d4_177) rfl rfl k) ?_
    show ownEnds _ _ _ _ (T222.setTop (mkF m 178 #[.val (.ref oa), .val (.int xs), .val (.int xe), .val (.long qh), .second, .val (.long qc), .second] [(.ref oa), (.ref b166)]))
    have f223 := (Fld.other W219 (Fld.keep f206 Kq208 nin0) (Or.inr (slot_ne (Or.inl (wd_47 hw)) (Or.inl (wd_49 hw)) (by decide) (t := .int) (t' := (.array .long)) (by decide) (by decide))))
    obtain ⟨T224, X224, e224, st224⟩ := getF X222 hx hZ hown (host := "") (Or.inl (wd_46 hw)) Via.refl e222 f223 (g := (mkF m 178 #[.val (.ref oa), .val (.int xs), .val (.int xe), .val (.long qh), .second, .val (.long qc), .second] [(.ref oa), (.ref b166)])) rfl rfl (hb hby d4_178)
    refine ownEnds.law st224 ?_
    show ownEnds _ _ _ _ (T224.setTop (mkF m 181 #[.val (.ref oa), .val (.int xs), .val (.int xe), .val (.long qh), .second, .val (.long qc), .second] [(.int (4 : Int32)), (.ref b166)]))
    refine ownEnds.law (fun t k => XS.iloadN X224.here hx rfl (hb hby d4_181) rfl k) ?_
    show ownEnds _ _ _ _ (T224.setTop (mkF m 182 #[.val (.ref oa), .val (.int xs), .val (.int xe), .val (.long qh), .second, .val (.long qc), .second] [(.int xs), (.int (4 : Int32)), (.ref b166)]))
    have f226 := (Arv.other (Arv.keep f214 Kq208 nin0) W219 (Ne.symm ne_oa_b166))
    obtain ⟨cl225, Ar225, q225, S225, N225, H225, G225⟩ := id f226
    obtain ⟨T225, h225, X225, e225, W225, st225⟩ := stI X224 hx hZ e224 Ar225 (j := (4 : Int32)) (inb_of S225 ⟨by decide, by decide⟩) (g := (mkF m 182 #[.val (.ref oa), .val (.int xs), .val (.int xe), .val (.long qh), .second, .val (.long qc), .second] [(.int xs), (.int (4 : Int32)), (.ref b166)])) rfl rfl (hb hby d4_182)
    refine ownEnds.law st225 ?_
    have V225 : Arv Z h225 b166 kb166 .int (8 : Int32) [(v1.getD 0 (.int (0 : Int32))), (v1.getD 1 (.int (0 : Int32))), (v1.getD 2 (.int (0 : Int32))), (v1.getD 3 (.int (0 : Int32))), (.int xs), (.int (0 : Int32)), (.int (0 : Int32)), (.int (0 : Int32))] (.int (0 : Int32)) := Arv.set Ar225 q225 S225 N225 H225 G225 rfl W225 4 rfl (Nat.le_of_ble_eq_true rfl)
    have N225 := Fr.snoc X225 N219 g_b166
    have KK225 : Keep h0 h225 [oa, s1, s2, s3, c0] := (KK219).wr W225 (Or.inr sz_b166)
    have Z225 : n0 ≤ h225.size := by rw [W225.size]; exact Z219
    show ownEnds _ _ _ _ (T225.setTop (mkF m 183 #[.val (.ref oa), .val (.int xs), .val (.int xe), .val (.long qh), .second, .val (.long qc), .second] []))
    refine ownEnds.law (fun t k => XS.aloadN X225.here hx rfl (hb hby d4_183) rfl rfl k) ?_
    show ownEnds _ _ _ _ (T225.setTop (mkF m 184 #[.val (.ref oa), .val (.int xs), .val (.int xe), .val (.long qh), .second, .val (.long qc), .second] [(.ref oa)]))
    have f227 := (Fld.other W225 (Fld.other W219 (Fld.keep (Fld.other W202 (Fld.keep Fw187 Kq192 nin0) (Or.inr (slot_ne (Or.inl (wd_23 hw)) (Or.inl (wd_26 hw)) (by decide) (t := (.array .int)) (t' := (.array .long)) (by decide) (by decide)))) Kq208 nin0) (Or.inr (slot_ne (Or.inl (wd_23 hw)) (Or.inl (wd_49 hw)) (by decide) (t := (.array .int)) (t' := (.array .long)) (by decide) (by decide)))) (Or.inl ne_oa_b166))
    obtain ⟨T228, X228, e228, st228⟩ := getF X225 hx hZ hown (host := "") (Or.inl (wd_22 hw)) Via.refl e225 f227 (g := (mkF m 184 #[.val (.ref oa), .val (.int xs), .val (.int xe), .val (.long qh), .second, .val (.long qc), .second] [(.ref oa)])) rfl rfl (hb hby d4_184)
    refine ownEnds.law st228 ?_
    show ownEnds _ _ _ _ (T228.setTop (mkF m 187 #[.val (.ref oa), .val (.int xs), .val (.int xe), .val (.long qh), .second, .val (.long qc), .second] [(.ref b178)]))
    refine ownEnds.law (fun t k => XS.aloadN X228.here hx rfl (hb hby d4_187) rfl rfl k) ?_
    show ownEnds _ _ _ _ (T228.setTop (mkF m 188 #[.val (.ref oa), .val (.int xs), .val (.int xe), .val (.long qh), .second, .val (.long qc), .second] [(.ref oa), (.ref b178)]))
    have f229 := (Fld.other W225 f223 (Or.inl ne_oa_b166))
    obtain ⟨T230, X230, e230, st230⟩ := getF X228 hx hZ hown (host := "") (Or.inl (wd_46 hw)) Via.refl e228 f229 (g := (mkF m 188 #[.val (.ref oa), .val (.int xs), .val (.int xe), .val (.long qh), .second, .val (.long qc), .second] [(.ref oa), (.ref b178)])) rfl rfl (hb hby d4_188)
    refine ownEnds.law st230 ?_
    show ownEnds _ _ _ _ (T230.setTop (mkF m 191 #[.val (.ref oa), .val (.int xs), .val (.int xe), .val (.long qh), .second, .val (.long qc), .second] [(.int (4 : Int32)), (.ref b178)]))
    refine ownEnds.law (fun t k => XS.iloadN X230.here hx rfl (hb hby d4_191) rfl k) ?_
    show ownEnds _ _ _ _ (T230.setTop (mkF m 192 #[.val (.ref oa), .val (.int xs), .val (.int xe), .val (.long qh), .second, .val (.long qc), .second] [(.int xe), (.int (4 : Int32)), (.ref b178)]))
    have f232 := (Arv.other (Arv.other (Arv.keep f215 Kq208 nin0) W219 (Ne.symm ne_oa_b178)) W225 (Ne.symm ne_b166_b178))
    obtain ⟨cl231, Ar231, q231, S231, N231, H231, G231⟩ := id f232
    obtain ⟨T231, h231, X231, e231, W231, st231⟩ := stI X230 hx hZ e230 Ar231 (j := (4 : Int32)) (inb_of S231 ⟨by decide, by decide⟩) (g := (mkF m 192 #[.val (.ref oa), .val (.int xs), .val (.int xe), .val (.long qh), .second, .val (.long qc), .second] [(.int xe), (.int (4 : Int32)), (.ref b178)])) rfl rfl (hb hby d4_192)
    refine ownEnds.law st231 ?_
    have V231 : Arv Z h231 b178 kb178 .int (8 : Int32) [(v2.getD 0 (.int (0 : Int32))), (v2.getD 1 (.int (0 : Int32))), (v2.getD 2 (.int (0 : Int32))), (v2.getD 3 (.int (0 : Int32))), (.int xe), (.int (0 : Int32)), (.int (0 : Int32)), (.int (0 : Int32))] (.int (0 : Int32)) := Arv.set Ar231 q231 S231 N231 H231 G231 rfl W231 4 rfl (Nat.le_of_ble_eq_true rfl)
    have N231 := Fr.snoc X231 N225 g_b178
    have KK231 : Keep h0 h231 [oa, s1, s2, s3, c0] := (KK225).wr W231 (Or.inr sz_b178)
    have Z231 : n0 ≤ h231.size := by rw [W231.size]; exact Z225
    show ownEnds _ _ _ _ (T231.setTop (mkF m 193 #[.val (.ref oa), .val (.int xs), .val (.int xe), .val (.long qh), .second, .val (.long qc), .second] []))
    refine ownEnds.law (fun t k => XS.aloadN X231.here hx rfl (hb hby d4_193) rfl rfl k) ?_
    show ownEnds _ _ _ _ (T231.setTop (mkF m 194 #[.val (.ref oa), .val (.int xs), .val (.int xe), .val (.long qh), .second, .val (.long qc), .second] [(.ref oa)]))
    have f233 := (Fld.other W231 (Fld.other W225 (Fld.other W219 (Fld.keep Fw202 Kq208 nin0) (Or.inr (slot_ne (Or.inl (wd_26 hw)) (Or.inl (wd_49 hw)) (by decide) (t := (.array .long)) (t' := (.array .long)) (by decide) (by decide)))) (Or.inl ne_oa_b166)) (Or.inl ne_oa_b178))
    obtain ⟨T234, X234, e234, st234⟩ := getF X231 hx hZ hown (host := "") (Or.inl (wd_25 hw)) Via.refl e231 f233 (g := (mkF m 194 #[.val (.ref oa), .val (.int xs), .val (.int xe), .val (.long qh), .second, .val (.long qc), .second] [(.ref oa)])) rfl rfl (hb hby d4_194)
    refine ownEnds.law st234 ?_
    show ownEnds _ _ _ _ (T234.setTop (mkF m 197 #[.val (.ref oa), .val (.int xs), .val (.int xe), .val (.long qh), .second, .val (.long qc), .second] [(.ref b192)]))
    refine ownEnds.law (fun t k => XS.aloadN X234.here hx rfl (hb hby d4_197) rfl rfl k) ?_
    show ownEnds _ _ _ _ (T234.setTop (mkF m 198 #[.val (.ref oa), .val (.int xs), .val (.int xe), .val (.long qh), .second, .val (.long qc), .second] [(.ref oa), (.ref b192)]))
    have f235 := (Fld.other W231 f229 (Or.inl ne_oa_b178))
    obtain ⟨T236, X236, e236, st236⟩ := getF X234 hx hZ hown (host := "") (Or.inl (wd_46 hw)) Via.refl e234 f235 (g := (mkF m 198 #[.val (.ref oa), .val (.int xs), .val (.int xe), .val (.long qh), .second, .val (.long qc), .second] [(.ref oa), (.ref b192)])) rfl rfl (hb hby d4_198)
    refine ownEnds.law st236 ?_
    show ownEnds _ _ _ _ (T236.setTop (mkF m 201 #[.val (.ref oa), .val (.int xs), .val (.int xe), .val (.long qh), .second, .val (.long qc), .second] [(.int (4 : Int32)), (.ref b192)]))
    refine ownEnds.law (fun t k => XS.lloadN X236.here hx rfl (hb hby d4_201) rfl k) ?_
    show ownEnds _ _ _ _ (T236.setTop (mkF m 202 #[.val (.ref oa), .val (.int xs), .val (.int xe), .val (.long qh), .second, .val (.long qc), .second] [(.long qh), (.int (4 : Int32)), (.ref b192)]))
    have f238 := (Arv.other (Arv.other (Arv.other (Arv.keep f216 Kq208 nin0) W219 (Ne.symm ne_oa_b192)) W225 (Ne.symm ne_b166_b192)) W231 (Ne.symm ne_b178_b192))
    obtain ⟨cl237, Ar237, q237, S237, N237, H237, G237⟩ := id f238
    obtain ⟨T237, h237, X237, e237, W237, st237⟩ := stJ X236 hx hZ e236 Ar237 (j := (4 : Int32)) (inb_of S237 ⟨by decide, by decide⟩) (g := (mkF m 202 #[.val (.ref oa), .val (.int xs), .val (.int xe), .val (.long qh), .second, .val (.long qc), .second] [(.long qh), (.int (4 : Int32)), (.ref b192)])) rfl rfl (hb hby d4_202)
    refine ownEnds.law st237 ?_
    have V237 : Arv Z h237 b192 kb192 .long (8 : Int32) [(v3.getD 0 (.long (0 : Int64))), (v3.getD 1 (.long (0 : Int64))), (v3.getD 2 (.long (0 : Int64))), (v3.getD 3 (.long (0 : Int64))), (.long qh), (.long (0 : Int64)), (.long (0 : Int64)), (.long (0 : Int64))] (.long (0 : Int64)) := Arv.set Ar237 q237 S237 N237 H237 G237 rfl W237 4 rfl (Nat.le_of_ble_eq_true rfl)
    have N237 := Fr.snoc X237 N231 g_b192
    have KK237 : Keep h0 h237 [oa, s1, s2, s3, c0] := (KK231).wr W237 (Or.inr sz_b192)
    have Z237 : n0 ≤ h237.size := by rw [W237.size]; exact Z231
    show ownEnds _ _ _ _ (T237.setTop (mkF m 203 #[.val (.ref oa), .val (.int xs), .val (.int xe), .val (.long qh), .second, .val (.long qc), .second] []))
    refine ownEnds.law (fun t k => XS.aloadN X237.here hx rfl (hb hby d4_203) rfl rfl k) ?_
    show ownEnds _ _ _ _ (T237.setTop (mkF m 204 #[.val (.ref oa), .val (.int xs), .val (.int xe), .val (.long qh), .second, .val (.long qc), .second] [(.ref oa)]))
    have f239 := (Fld.other W237 (Fld.other W231 (Fld.other W225 Fw219 (Or.inl ne_oa_b166)) (Or.inl ne_oa_b178)) (Or.inl ne_oa_b192))
    obtain ⟨T240, X240, e240, st240⟩ := getF X237 hx hZ hown (host := "") (Or.inl (wd_48 hw)) Via.refl e237 f239 (g := (mkF m 204 #[.val (.ref oa), .val (.int xs), .val (.int xe), .val (.long qh), .second, .val (.long qc), .second] [(.ref oa)])) rfl rfl (hb hby d4_204)
    refine ownEnds.law st240 ?_
    show ownEnds _ _ _ _ (T240.setTop (mkF m 207 #[.val (.ref oa), .val (.int xs), .val (.int xe), .val (.long qh), .second, .val (.long qc), .second] [(.ref b208)]))
    refine ownEnds.law (fun t k => XS.ifnullNo X240.here hx rfl (hb hby d4_207) rfl (XS.aloadN X240.here hx rfl (hb hby d4_210) rfl rfl k)) ?_
    show ownEnds _ _ _ _ (T240.setTop (mkF m 211 #[.val (.ref oa), .val (.int xs), .val (.int xe), .val (.long qh), .second, .val (.long qc), .second] [(.ref oa)]))
    obtain ⟨T241, X241, e241, st241⟩ := getF X240 hx hZ hown (host := "") (Or.inl (wd_48 hw)) Via.refl e240 f239 (g := (mkF m 211 #[.val (.ref oa), .val (.int xs), .val (.int xe), .val (.long qh), .second, .val (.long qc), .second] [(.ref oa)])) rfl rfl (hb hby d4_211)
    refine ownEnds.law st241 ?_
    show ownEnds _ _ _ _ (T241.setTop (mkF m 214 #[.val (.ref oa), .val (.int xs), .val (.int xe), .val (.long qh), .second, .val (.long qc), .second] [(.ref b208)]))
    refine ownEnds.law (fun t k => XS.aloadN X241.here hx rfl (hb hby d4_214) rfl rfl k) ?_
    show ownEnds _ _ _ _ (T241.setTop (mkF m 215 #[.val (.ref oa), .val (.int xs), .val (.int xe), .val (.long qh), .second, .val (.long qc), .second] [(.ref oa), (.ref b208)]))
    have f242 := (Fld.other W237 f235 (Or.inl ne_oa_b192))
    obtain ⟨T243, X243, e243, st243⟩ := getF X241 hx hZ hown (host := "") (Or.inl (wd_46 hw)) Via.refl e241 f242 (g := (mkF m 215 #[.val (.ref oa), .val (.int xs), .val (.int xe), .val (.long qh), .second, .val (.long qc), .second] [(.ref oa), (.ref b208)])) rfl rfl (hb hby d4_215)
    refine ownEnds.law st243 ?_
    show ownEnds _ _ _ _ (T243.setTop (mkF m 218 #[.val (.ref oa), .val (.int xs), .val (.int xe), .val (.long qh), .second, .val (.long qc), .second] [(.int (4 : Int32)), (.ref b208)]))
    refine ownEnds.law (fun t k => XS.lload X243.here hx rfl (hb hby d4_218) rfl k) ?_
    show ownEnds _ _ _ _ (T243.setTop (mkF m 220 #[.val (.ref oa), .val (.int xs), .val (.int xe), .val (.long qh), .second, .val (.long qc), .second] [(.long qc), (.int (4 : Int32)), (.ref b208)]))
    have f245 := (Arv.other (Arv.other (Arv.other (Arv.other Vq208 W219 (Ne.symm ne_oa_b208)) W225 (Ne.symm ne_b166_b208)) W231 (Ne.symm ne_b178_b208)) W237 (Ne.symm ne_b192_b208))
    obtain ⟨cl244, Ar244, q244, S244, N244, H244, G244⟩ := id f245
    obtain ⟨T244, h244, X244, e244, W244, st244⟩ := stJ X243 hx hZ e243 Ar244 (j := (4 : Int32)) (inb_of S244 ⟨by decide, by decide⟩) (g := (mkF m 220 #[.val (.ref oa), .val (.int xs), .val (.int xe), .val (.long qh), .second, .val (.long qc), .second] [(.long qc), (.int (4 : Int32)), (.ref b208)])) rfl rfl (hb hby d4_220)
    refine ownEnds.law st244 ?_
    have V244 : Arv Z h244 b208 kb208 .long (8 : Int32) [(vc.getD 0 (.long (0 : Int64))), (vc.getD 1 (.long (0 : Int64))), (vc.getD 2 (.long (0 : Int64))), (vc.getD 3 (.long (0 : Int64))), (.long qc), (.long (0 : Int64)), (.long (0 : Int64)), (.long (0 : Int64))] (.long (0 : Int64)) := Arv.set Ar244 q244 S244 N244 H244 G244 rfl W244 4 rfl (Nat.le_of_ble_eq_true rfl)
    have N244 := Fr.snoc X244 N237 g_b208
    have KK244 : Keep h0 h244 [oa, s1, s2, s3, c0] := (KK237).wr W244 (Or.inr sz_b208)
    have Z244 : n0 ≤ h244.size := by rw [W244.size]; exact Z237
    show ownEnds _ _ _ _ (T244.setTop (mkF m 221 #[.val (.ref oa), .val (.int xs), .val (.int xe), .val (.long qh), .second, .val (.long qc), .second] []))
    refine ownEnds.law (fun t k => XS.aloadN X244.here hx rfl (hb hby d4_221) rfl rfl (XS.dup X244.here hx rfl (hb hby d4_222) rfl rfl k)) ?_
    show ownEnds _ _ _ _ (T244.setTop (mkF m 223 #[.val (.ref oa), .val (.int xs), .val (.int xe), .val (.long qh), .second, .val (.long qc), .second] [(.ref oa), (.ref oa)]))
    have f246 := (Fld.other W244 f242 (Or.inl ne_oa_b208))
    obtain ⟨T247, X247, e247, st247⟩ := getF X244 hx hZ hown (host := "") (Or.inl (wd_46 hw)) Via.refl e244 f246 (g := (mkF m 223 #[.val (.ref oa), .val (.int xs), .val (.int xe), .val (.long qh), .second, .val (.long qc), .second] [(.ref oa), (.ref oa)])) rfl rfl (hb hby d4_223)
    refine ownEnds.law st247 ?_
    show ownEnds _ _ _ _ (T247.setTop (mkF m 226 #[.val (.ref oa), .val (.int xs), .val (.int xe), .val (.long qh), .second, .val (.long qc), .second] [(.int (4 : Int32)), (.ref oa)]))
    refine ownEnds.law (fun t k => XS.iconst X247.here hx rfl (hb hby d4_226) (XS.iadd X247.here hx rfl (hb hby d4_227) rfl k)) ?_
    show ownEnds _ _ _ _ (T247.setTop (mkF m 228 #[.val (.ref oa), .val (.int xs), .val (.int xe), .val (.long qh), .second, .val (.long qc), .second] [(.int (5 : Int32)), (.ref oa)]))
    have f248 := (Exa.wr W244 (Exa.wr W237 (Exa.wr W231 (Exa.wr W225 (Exa.wr W219 f217)))))
    obtain ⟨T249, h249, X249, e249, W249, st249⟩ := putF X247 hx hZ hown (host := "") (Or.inl (wd_46 hw)) Via.refl e247 f246 f248 (Or.inl (wd_47 hw)) (wd_5 hw) (ty := .int) (by decide) rfl rfl (g := (mkF m 228 #[.val (.ref oa), .val (.int xs), .val (.int xe), .val (.long qh), .second, .val (.long qc), .second] [(.int (5 : Int32)), (.ref oa)])) rfl rfl (hb hby d4_228)
    refine ownEnds.law st249 ?_
    have N249 := Fr.snoc X249 N244 g_oa
    have KK249 : Keep h0 h249 [oa, s1, s2, s3, c0] := (KK244).wr W249 (Or.inl (List.mem_of_getElem? (i := 0) rfl))
    have Z249 : n0 ≤ h249.size := by rw [W249.size]; exact Z244
    have Fw249 : Fld Z h249 oa "com/example/vestline/vestline/engine/PayrollRows" "size" "I" (.int (5 : Int32)) := Fld.same W249 f246
    show ownEnds _ _ _ _ (T249.setTop (mkF m 231 #[.val (.ref oa), .val (.int xs), .val (.int xe), .val (.long qh), .second, .val (.long qc), .second] []))
    refine ownRetV X249 hlk hx hret (hb hby d4_231) (by decide) (by decide) ?_
    have f250 := (Fld.other W249 (Fld.other W244 f239 (Or.inl ne_oa_b208)) (Or.inr (slot_ne (Or.inl (wd_49 hw)) (Or.inl (wd_47 hw)) (by decide) (t := (.array .long)) (t' := .int) (by decide) (by decide))))
    have f251 := (Arv.other V244 W249 (Ne.symm ne_oa_b208))
    have f252 := (Exa.wr W249 f248)
    have f253 := (Fld.other W249 (Fld.other W244 (Fld.other W237 (Fld.other W231 (Fld.other W225 (Fld.other W219 (Fld.keep (Fld.other W202 (Fld.keep (Fld.other W187 (Fld.keep (Fld.other W173 (Fld.keep (Fld.other W156 (Fld.other W151 F1 (Or.inr (slot_ne (Or.inl (wd_34 hw)) (Or.inl (wd_15 hw)) (by decide) (t := (.object "java/util/NavigableMap")) (t' := .int) (by decide) (by decide)))) (Or.inr (slot_ne (Or.inl (wd_34 hw)) (Or.inl (wd_18 hw)) (by decide) (t := (.object "java/util/NavigableMap")) (t' := .int) (by decide) (by decide)))) Kq166 nin0) (Or.inr (slot_ne (Or.inl (wd_34 hw)) (Or.inl (wd_21 hw)) (by decide) (t := (.object "java/util/NavigableMap")) (t' := (.array .int)) (by decide) (by decide)))) Kq178 nin0) (Or.inr (slot_ne (Or.inl (wd_34 hw)) (Or.inl (wd_23 hw)) (by decide) (t := (.object "java/util/NavigableMap")) (t' := (.array .int)) (by decide) (by decide)))) Kq192 nin0) (Or.inr (slot_ne (Or.inl (wd_34 hw)) (Or.inl (wd_26 hw)) (by decide) (t := (.object "java/util/NavigableMap")) (t' := (.array .long)) (by decide) (by decide)))) Kq208 nin0) (Or.inr (slot_ne (Or.inl (wd_34 hw)) (Or.inl (wd_49 hw)) (by decide) (t := (.object "java/util/NavigableMap")) (t' := (.array .long)) (by decide) (by decide)))) (Or.inl ne_oa_b166)) (Or.inl ne_oa_b178)) (Or.inl ne_oa_b192)) (Or.inl ne_oa_b208)) (Or.inr (slot_ne (Or.inl (wd_34 hw)) (Or.inl (wd_47 hw)) (by decide) (t := (.object "java/util/NavigableMap")) (t' := .int) (by decide) (by decide))))
    have f254 := (Fld.other W249 (Fld.other W244 (Fld.other W237 (Fld.other W231 (Fld.other W225 (Fld.other W219 (Fld.keep (Fld.other W202 (Fld.keep (Fld.other W187 (Fld.keep (Fld.other W173 (Fld.keep (Fld.other W156 Fw151 (Or.inr (slot_ne (Or.inl (wd_15 hw)) (Or.inl (wd_18 hw)) (by decide) (t := .int) (t' := .int) (by decide) (by decide)))) Kq166 nin0) (Or.inr (slot_ne (Or.inl (wd_15 hw)) (Or.inl (wd_21 hw)) (by decide) (t := .int) (t' := (.array .int)) (by decide) (by decide)))) Kq178 nin0) (Or.inr (slot_ne (Or.inl (wd_15 hw)) (Or.inl (wd_23 hw)) (by decide) (t := .int) (t' := (.array .int)) (by decide) (by decide)))) Kq192 nin0) (Or.inr (slot_ne (Or.inl (wd_15 hw)) (Or.inl (wd_26 hw)) (by decide) (t := .int) (t' := (.array .long)) (by decide) (by decide)))) Kq208 nin0) (Or.inr (slot_ne (Or.inl (wd_15 hw)) (Or.inl (wd_49 hw)) (by decide) (t := .int) (t' := (.array .long)) (by decide) (by decide)))) (Or.inl ne_oa_b166)) (Or.inl ne_oa_b178)) (Or.inl ne_oa_b192)) (Or.inl ne_oa_b208)) (Or.inr (slot_ne (Or.inl (wd_15 hw)) (Or.inl (wd_47 hw)) (by decide) (t := .int) (t' := .int) (by decide) (by decide))))
    have f255 := (Fld.other W249 (Fld.other W244 (Fld.other W237 (Fld.other W231 (Fld.other W225 (Fld.other W219 (Fld.keep (Fld.other W202 (Fld.keep (Fld.other W187 (Fld.keep (Fld.other W173 (Fld.keep Fw156 Kq166 nin0) (Or.inr (slot_ne (Or.inl (wd_18 hw)) (Or.inl (wd_21 hw)) (by decide) (t := .int) (t' := (.array .int)) (by decide) (by decide)))) Kq178 nin0) (Or.inr (slot_ne (Or.inl (wd_18 hw)) (Or.inl (wd_23 hw)) (by decide) (t := .int) (t' := (.array .int)) (by decide) (by decide)))) Kq192 nin0) (Or.inr (slot_ne (Or.inl (wd_18 hw)) (Or.inl (wd_26 hw)) (by decide) (t := .int) (t' := (.array .long)) (by decide) (by decide)))) Kq208 nin0) (Or.inr (slot_ne (Or.inl (wd_18 hw)) (Or.inl (wd_49 hw)) (by decide) (t := .int) (t' := (.array .long)) (by decide) (by decide)))) (Or.inl ne_oa_b166)) (Or.inl ne_oa_b178)) (Or.inl ne_oa_b192)) (Or.inl ne_oa_b208)) (Or.inr (slot_ne (Or.inl (wd_18 hw)) (Or.inl (wd_47 hw)) (by decide) (t := .int) (t' := .int) (by decide) (by decide))))
    have f256 := (Fld.other W249 (Fld.other W244 (Fld.other W237 (Fld.other W231 (Fld.other W225 f221 (Or.inl ne_oa_b166)) (Or.inl ne_oa_b178)) (Or.inl ne_oa_b192)) (Or.inl ne_oa_b208)) (Or.inr (slot_ne (Or.inl (wd_21 hw)) (Or.inl (wd_47 hw)) (by decide) (t := (.array .int)) (t' := .int) (by decide) (by decide))))
    have f257 := (Fld.other W249 (Fld.other W244 (Fld.other W237 (Fld.other W231 f227 (Or.inl ne_oa_b178)) (Or.inl ne_oa_b192)) (Or.inl ne_oa_b208)) (Or.inr (slot_ne (Or.inl (wd_23 hw)) (Or.inl (wd_47 hw)) (by decide) (t := (.array .int)) (t' := .int) (by decide) (by decide))))
    have f258 := (Fld.other W249 (Fld.other W244 (Fld.other W237 f233 (Or.inl ne_oa_b192)) (Or.inl ne_oa_b208)) (Or.inr (slot_ne (Or.inl (wd_26 hw)) (Or.inl (wd_47 hw)) (by decide) (t := (.array .long)) (t' := .int) (by decide) (by decide))))
    have f259 := (Arv.other (Arv.other (Arv.other (Arv.other V225 W231 ne_b166_b178) W237 ne_b166_b192) W244 ne_b166_b208) W249 (Ne.symm ne_oa_b166))
    have f260 := (Arv.other (Arv.other (Arv.other V231 W237 ne_b178_b192) W244 ne_b178_b208) W249 (Ne.symm ne_oa_b178))
    have f261 := (Arv.other (Arv.other V237 W244 ne_b192_b208) W249 (Ne.symm ne_oa_b192))
    rw [e249]
    exact ⟨rfl, N249, (KK249).1, ⟨(FMin fs xs), b166, b178, b192, kb166, kb178, kb192, [(v1.getD 0 (.int (0 : Int32))), (v1.getD 1 (.int (0 : Int32))), (v1.getD 2 (.int (0 : Int32))), (v1.getD 3 (.int (0 : Int32))), (.int xs), (.int (0 : Int32)), (.int (0 : Int32)), (.int (0 : Int32))], [(v2.getD 0 (.int (0 : Int32))), (v2.getD 1 (.int (0 : Int32))), (v2.getD 2 (.int (0 : Int32))), (v2.getD 3 (.int (0 : Int32))), (.int xe), (.int (0 : Int32)), (.int (0 : Int32)), (.int (0 : Int32))], [(v3.getD 0 (.long (0 : Int64))), (v3.getD 1 (.long (0 : Int64))), (v3.getD 2 (.long (0 : Int64))), (v3.getD 3 (.long (0 : Int64))), (.long qh), (.long (0 : Int64)), (.long (0 : Int64)), (.long (0 : Int64))], ⟨g_oa, g_b166, g_b178, g_b192⟩, ⟨ne_oa_b166, ne_oa_b178, ne_oa_b192, ne_b166_b178, ne_b166_b192, ne_b178_b192⟩, ⟨rfl, rfl, rfl, by rw [List.length_append, l4]; rfl⟩, f252, f253, f254, f255, Fw249, f256, f257, f258, f259, f260, f261, Or.inr ⟨b208, kb208, [(vc.getD 0 (.long (0 : Int64))), (vc.getD 1 (.long (0 : Int64))), (vc.getD 2 (.long (0 : Int64))), (vc.getD 3 (.long (0 : Int64))), (.long qc), (.long (0 : Int64)), (.long (0 : Int64)), (.long (0 : Int64))], g_b208, ⟨ne_oa_b208, ne_b166_b208, ne_b178_b208, ne_b192_b208⟩, rfl, f250, f251, own_cB l4 hv⟩⟩⟩
set_option maxRecDepth 65536 in
set_option maxHeartbeats 40000000 in
theorem rm8 (l : Launch) (Z : State) (a0 : Array Value) (hw : ∀ d ∈ tables_1, d.before a0 Z = true) (oa : Addr) (xi : Int32) (sz le cap : Int32) (vs : List Int64) (h0 : Heap) (n0 : Nat) (Z0 : n0 ≤ h0.size) (R0 : Rows Z n0 h0 oa sz le cap vs) (hi : ¬ xi < 0 ∧ xi < cap) (hj : xi.toNatClampNeg < vs.length) :
    ownMet l Z (⟨"com/example/vestline/vestline/engine/PayrollRows", "cents", "(I)J"⟩ : MethodName) prog_50_method_11_code 2 (some .long) [] ({ frames := 0, cells := 0, slots := 0, locals := 0 } : Room) #[(.ref oa), (.int xi)] h0 (fun v h L => v = some (.long (vs.getD xi.toNatClampNeg 0)) ∧ L = [] ∧ h = h0) := by
  refine ownMet.of (plainFor_of_name pn_8) ?_
  intro p e s m below meth c T0 hx hby hml hZ hown hnm hret hlk X0 e0
  refine ownEnds.cast (ef_rm8 m oa xi) ?_
  obtain ⟨fs, s1, s2, s3, k1, k2, k3, v1, v2, v3, ⟨g_oa, g_s1, g_s2, g_s3⟩, ⟨n1, n2, n3, n4, n5, n6⟩, ⟨l1, l2, l3, l4⟩, E_oa, F1, F2, F3, F4, F5, F6, F7, V1, V2, V3, CE⟩ := R0
  rcases CE with ⟨FC, hz⟩ | ⟨c0, kc, vc, g_c0, ⟨m1, m2, m3, m4⟩, l5, FC, VC, hv⟩
  · show ownEnds _ _ _ _ (T0.setTop (mkF m 0 #[.val (.ref oa), .val (.int xi)] []))
    refine ownEnds.law (fun t k => XS.aloadN X0.here hx rfl (hb hby d8_0) rfl rfl k) ?_
    show ownEnds _ _ _ _ (T0.setTop (mkF m 1 #[.val (.ref oa), .val (.int xi)] [(.ref oa)]))
    obtain ⟨T1, X1, e1, st1⟩ := getF X0 hx hZ hown (host := "") (Or.inl (wd_48 hw)) Via.refl e0 FC (g := (mkF m 1 #[.val (.ref oa), .val (.int xi)] [(.ref oa)])) rfl rfl (hb hby d8_1)
    refine ownEnds.law st1 ?_
    show ownEnds _ _ _ _ (T1.setTop (mkF m 4 #[.val (.ref oa), .val (.int xi)] [.null]))
    refine ownEnds.law (fun t k => XS.ifnonnullNo X1.here hx rfl (hb hby d8_4) rfl (XS.lconst X1.here hx rfl (hb hby d8_7) (XS.goto X1.here hx rfl (pc0 := 8) (pc' := 17) rfl (hb hby d8_8) (by decide) (by decide) k))) ?_
    show ownEnds _ _ _ _ (T1.setTop (mkF m 17 #[.val (.ref oa), .val (.int xi)] [(.long (0 : Int64))]))
    refine ownRetL X1 hlk hx hret (hb hby d8_17) (by decide) (by decide) ?_
    exact ⟨by rw [show vs.getD xi.toNatClampNeg 0 = 0 from by rw [List.getD_eq_getElem?_getD, List.getElem?_eq_getElem hj]; exact hz _ (List.getElem_mem hj)], rfl, e1⟩
  · show ownEnds _ _ _ _ (T0.setTop (mkF m 0 #[.val (.ref oa), .val (.int xi)] []))
    refine ownEnds.law (fun t k => XS.aloadN X0.here hx rfl (hb hby d8_0) rfl rfl k) ?_
    show ownEnds _ _ _ _ (T0.setTop (mkF m 1 #[.val (.ref oa), .val (.int xi)] [(.ref oa)]))
    obtain ⟨T2, X2, e2, st2⟩ := getF X0 hx hZ hown (host := "") (Or.inl (wd_48 hw)) Via.refl e0 FC (g := (mkF m 1 #[.val (.ref oa), .val (.int xi)] [(.ref oa)])) rfl rfl (hb hby d8_1)
    refine ownEnds.law st2 ?_
    show ownEnds _ _ _ _ (T2.setTop (mkF m 4 #[.val (.ref oa), .val (.int xi)] [(.ref c0)]))
    refine ownEnds.law (fun t k => XS.ifnonnullYes X2.here hx rfl (pc0 := 4) (pc' := 11) rfl (hb hby d8_4) rfl (by decide) (by decide) (XS.aloadN X2.here hx rfl (hb hby d8_11) rfl rfl k)) ?_
    show ownEnds _ _ _ _ (T2.setTop (mkF m 12 #[.val (.ref oa), .val (.int xi)] [(.ref oa)]))
    obtain ⟨T3, X3, e3, st3⟩ := getF X2 hx hZ hown (host := "") (Or.inl (wd_48 hw)) Via.refl e2 FC (g := (mkF m 12 #[.val (.ref oa), .val (.int xi)] [(.ref oa)])) rfl rfl (hb hby d8_12)
    refine ownEnds.law st3 ?_
    show ownEnds _ _ _ _ (T3.setTop (mkF m 15 #[.val (.ref oa), .val (.int xi)] [(.ref c0)]))
    refine ownEnds.law (fun t k => XS.iloadN X3.here hx rfl (hb hby d8_15) rfl k) ?_
    show ownEnds _ _ _ _ (T3.setTop (mkF m 16 #[.val (.ref oa), .val (.int xi)] [(.int xi), (.ref c0)]))
    obtain ⟨cl4, Ar4, q4, S4, N4, H4, G4⟩ := id VC
    have hi4 := inb_of (j := xi) S4 hi
    have hv4 : cl4.slots[xi.toNatClampNeg]? = some (.long (vs.getD xi.toNatClampNeg 0)) := H4.at hi4 (hv _ hj)
    refine ownEnds.law (X3.laload hx (j := xi) (v := (.long (vs.getD xi.toNatClampNeg 0))) (by rw [e3]; exact Ar4.1) (State.isArrayOf_alike hZ.alike Ar4.2.1) Ar4.2.2 hi4 hv4 (g := (mkF m 16 #[.val (.ref oa), .val (.int xi)] [(.int xi), (.ref c0)])) rfl rfl (hb hby d8_16)) ?_
    show ownEnds _ _ _ _ (T3.setTop (mkF m 17 #[.val (.ref oa), .val (.int xi)] [(.long (vs.getD xi.toNatClampNeg 0))]))
    refine ownRetL X3 hlk hx hret (hb hby d8_17) (by decide) (by decide) ?_
    exact ⟨rfl, rfl, e3⟩
set_option maxRecDepth 65536 in
set_option maxHeartbeats 40000000 in
theorem rm0 (l : Launch) (Z : State) (a0 : Array Value) (hw : ∀ d ∈ tables_1, d.before a0 Z = true) (qa : Int64) (qb : Int64) (qc : Int64) (qd : Int64) (qe : Int64) (xk : Int32)  (h0 : Heap) (n0 : Nat) (Z0 : n0 ≤ h0.size)  :
    ownMet l Z x code maxLocals ret tables_1 room_1 #[(.long qa), (.long qb), (.long qc), (.long qd), (.long qe), (.int xk)] h0 (fun v h L => v = some (.int 1) ∧ Fr n0 L) := by
  refine ownMet.of (plainFor_of_name pn_0) ?_
  intro p e s m below meth c T0 hx hby hml hZ hown hnm hret hlk X0 e0
  have hown : s.vm.findClass "com/example/vestline/vestline/engine/PayrollRowsCentsPinLaw" = some m.cls := hown
  have hml : c.maxLocals = 24 := hml
  have hret : meth.sig.returnType = some .boolean := hret
  refine ownEnds.cast (ef_rm0 m qa qb qc qd qe xk) ?_
  show ownEnds _ _ _ _ (T0.setTop (mkF m 0 #[.val (.long qa), .second, .val (.long qb), .second, .val (.long qc), .second, .val (.long qd), .second, .val (.long qe), .second, .val (.int xk), .unset, .unset, .unset, .unset, .unset, .unset, .unset, .unset, .unset, .unset, .unset, .unset, .unset] []))
  refine ownEnds.law (fun t k => XS.iload X0.here hx rfl (hb hby at_0) rfl (XS.bipush X0.here hx rfl (hb hby at_2) (XS.iand X0.here hx rfl (hb hby at_4) rfl (XS.bipush X0.here hx rfl (hb hby at_5) (iremM X0 hx rfl (hb hby at_7) rfl (by decide) k))))) ?_
  show ownEnds _ _ _ _ (T0.setTop (mkF m 8 #[.val (.long qa), .second, .val (.long qb), .second, .val (.long qc), .second, .val (.long qd), .second, .val (.long qe), .second, .val (.int xk), .unset, .unset, .unset, .unset, .unset, .unset, .unset, .unset, .unset, .unset, .unset, .unset, .unset] [(.int ((xk &&& (7 : Int32)) % (6 : Int32)))]))
  obtain ⟨k0, e_k0⟩ : ∃ z : Int32, z = ((xk &&& (7 : Int32)) % (6 : Int32)) := ⟨_, rfl⟩
  rw [← e_k0]
  show ownEnds _ _ _ _ (T0.setTop (mkF m 8 #[.val (.long qa), .second, .val (.long qb), .second, .val (.long qc), .second, .val (.long qd), .second, .val (.long qe), .second, .val (.int xk), .unset, .unset, .unset, .unset, .unset, .unset, .unset, .unset, .unset, .unset, .unset, .unset, .unset] [(.int k0)]))
  refine ownEnds.law (fun t k => XS.istore X0.here hx rfl (hb hby at_8) rfl (l' := #[.val (.long qa), .second, .val (.long qb), .second, .val (.long qc), .second, .val (.long qd), .second, .val (.long qe), .second, .val (.int xk), .val (.int k0), .unset, .unset, .unset, .unset, .unset, .unset, .unset, .unset, .unset, .unset, .unset, .unset]) rfl (XS.lloadN X0.here hx rfl (hb hby at_10) rfl (XS.iload X0.here hx rfl (hb hby at_11) rfl (XS.iconst X0.here hx rfl (hb hby at_13) k)))) ?_
  show ownEnds _ _ _ _ (T0.setTop (mkF m 14 #[.val (.long qa), .second, .val (.long qb), .second, .val (.long qc), .second, .val (.long qd), .second, .val (.long qe), .second, .val (.int xk), .val (.int k0), .unset, .unset, .unset, .unset, .unset, .unset, .unset, .unset, .unset, .unset, .unset, .unset] [(.int (0 : Int32)), (.int xk), (.long qa)]))
  obtain ⟨v1, T1, L1, X1, hQ1, st1⟩ := ownCallS X0 hx hZ hown (y := (⟨"com/example/vestline/vestline/engine/PayrollRowsCentsPinLaw", "eff", "(JII)J"⟩ : MethodName)) (as := [(.long qa), (.int xk), (.int (0 : Int32))]) (wd_0 hw) (wd_1 hw) (wd_2 hw) (wd_3 hw) (by decide) (rm1 l Z a0 hw qa xk (0 : Int32)  h0 n0 Z0 ) e0 0 (by decide) (by decide) (by decide) (by decide) (g := (mkF m 14 #[.val (.long qa), .second, .val (.long qb), .second, .val (.long qc), .second, .val (.long qd), .second, .val (.long qe), .second, .val (.int xk), .val (.int k0), .unset, .unset, .unset, .unset, .unset, .unset, .unset, .unset, .unset, .unset, .unset, .unset] [(.int (0 : Int32)), (.int xk), (.long qa)])) rfl (by rw [hml]; rfl) (rest := []) pd_4 rfl rfl (by show 2 * 0 + _ ≤ _; exact Nat.le_of_eq rfl) (hb hby at_14)
  obtain ⟨rfl, rfl, e1⟩ := hQ1
  rw [List.append_nil] at X1
  refine ownEnds.law st1 ?_
  show ownEnds _ _ _ _ (T1.setTop (mkF m 17 #[.val (.long qa), .second, .val (.long qb), .second, .val (.long qc), .second, .val (.long qd), .second, .val (.long qe), .second, .val (.int xk), .val (.int k0), .unset, .unset, .unset, .unset, .unset, .unset, .unset, .unset, .unset, .unset, .unset, .unset] [(.long (FE qa xk (0 : Int32)))]))
  obtain ⟨y0, e_y0⟩ : ∃ z : Int64, z = (FE qa xk (0 : Int32)) := ⟨_, rfl⟩
  rw [← e_y0]
  show ownEnds _ _ _ _ (T1.setTop (mkF m 17 #[.val (.long qa), .second, .val (.long qb), .second, .val (.long qc), .second, .val (.long qd), .second, .val (.long qe), .second, .val (.int xk), .val (.int k0), .unset, .unset, .unset, .unset, .unset, .unset, .unset, .unset, .unset, .unset, .unset, .unset] [(.long y0)]))
  refine ownEnds.law (fun t k => XS.lstore X1.here hx rfl (hb hby at_17) rfl (l' := #[.val (.long qa), .second, .val (.long qb), .second, .val (.long qc), .second, .val (.long qd), .second, .val (.long qe), .second, .val (.int xk), .val (.int k0), .val (.long y0), .second, .unset, .unset, .unset, .unset, .unset, .unset, .unset, .unset, .unset, .unset]) rfl (XS.lloadN X1.here hx rfl (hb hby at_19) rfl (XS.iload X1.here hx rfl (hb hby at_20) rfl (XS.iconst X1.here hx rfl (hb hby at_22) k)))) ?_
  show ownEnds _ _ _ _ (T1.setTop (mkF m 23 #[.val (.long qa), .second, .val (.long qb), .second, .val (.long qc), .second, .val (.long qd), .second, .val (.long qe), .second, .val (.int xk), .val (.int k0), .val (.long y0), .second, .unset, .unset, .unset, .unset, .unset, .unset, .unset, .unset, .unset, .unset] [(.int (1 : Int32)), (.int xk), (.long qb)]))
  obtain ⟨v2, T2, L2, X2, hQ2, st2⟩ := ownCallS X1 hx hZ hown (y := (⟨"com/example/vestline/vestline/engine/PayrollRowsCentsPinLaw", "eff", "(JII)J"⟩ : MethodName)) (as := [(.long qb), (.int xk), (.int (1 : Int32))]) (wd_0 hw) (wd_1 hw) (wd_2 hw) (wd_3 hw) (by decide) (rm1 l Z a0 hw qb xk (1 : Int32)  h0 n0 Z0 ) e1 0 (by decide) (by decide) (by decide) (by decide) (g := (mkF m 23 #[.val (.long qa), .second, .val (.long qb), .second, .val (.long qc), .second, .val (.long qd), .second, .val (.long qe), .second, .val (.int xk), .val (.int k0), .val (.long y0), .second, .unset, .unset, .unset, .unset, .unset, .unset, .unset, .unset, .unset, .unset] [(.int (1 : Int32)), (.int xk), (.long qb)])) rfl (by rw [hml]; rfl) (rest := []) pd_4 rfl rfl (by show 2 * 0 + _ ≤ _; exact Nat.le_of_eq rfl) (hb hby at_23)
  obtain ⟨rfl, rfl, e2⟩ := hQ2
  rw [List.append_nil] at X2
  refine ownEnds.law st2 ?_
  show ownEnds _ _ _ _ (T2.setTop (mkF m 26 #[.val (.long qa), .second, .val (.long qb), .second, .val (.long qc), .second, .val (.long qd), .second, .val (.long qe), .second, .val (.int xk), .val (.int k0), .val (.long y0), .second, .unset, .unset, .unset, .unset, .unset, .unset, .unset, .unset, .unset, .unset] [(.long (FE qb xk (1 : Int32)))]))
  obtain ⟨y1, e_y1⟩ : ∃ z : Int64, z = (FE qb xk (1 : Int32)) := ⟨_, rfl⟩
  rw [← e_y1]
  show ownEnds _ _ _ _ (T2.setTop (mkF m 26 #[.val (.long qa), .second, .val (.long qb), .second, .val (.long qc), .second, .val (.long qd), .second, .val (.long qe), .second, .val (.int xk), .val (.int k0), .val (.long y0), .second, .unset, .unset, .unset, .unset, .unset, .unset, .unset, .unset, .unset, .unset] [(.long y1)]))
  refine ownEnds.law (fun t k => XS.lstore X2.here hx rfl (hb hby at_26) rfl (l' := #[.val (.long qa), .second, .val (.long qb), .second, .val (.long qc), .second, .val (.long qd), .second, .val (.long qe), .second, .val (.int xk), .val (.int k0), .val (.long y0), .second, .val (.long y1), .second, .unset, .unset, .unset, .unset, .unset, .unset, .unset, .unset]) rfl (XS.lload X2.here hx rfl (hb hby at_28) rfl (XS.iload X2.here hx rfl (hb hby at_30) rfl (XS.iconst X2.here hx rfl (hb hby at_32) k)))) ?_
  show ownEnds _ _ _ _ (T2.setTop (mkF m 33 #[.val (.long qa), .second, .val (.long qb), .second, .val (.long qc), .second, .val (.long qd), .second, .val (.long qe), .second, .val (.int xk), .val (.int k0), .val (.long y0), .second, .val (.long y1), .second, .unset, .unset, .unset, .unset, .unset, .unset, .unset, .unset] [(.int (2 : Int32)), (.int xk), (.long qc)]))
  obtain ⟨v3, T3, L3, X3, hQ3, st3⟩ := ownCallS X2 hx hZ hown (y := (⟨"com/example/vestline/vestline/engine/PayrollRowsCentsPinLaw", "eff", "(JII)J"⟩ : MethodName)) (as := [(.long qc), (.int xk), (.int (2 : Int32))]) (wd_0 hw) (wd_1 hw) (wd_2 hw) (wd_3 hw) (by decide) (rm1 l Z a0 hw qc xk (2 : Int32)  h0 n0 Z0 ) e2 0 (by decide) (by decide) (by decide) (by decide) (g := (mkF m 33 #[.val (.long qa), .second, .val (.long qb), .second, .val (.long qc), .second, .val (.long qd), .second, .val (.long qe), .second, .val (.int xk), .val (.int k0), .val (.long y0), .second, .val (.long y1), .second, .unset, .unset, .unset, .unset, .unset, .unset, .unset, .unset] [(.int (2 : Int32)), (.int xk), (.long qc)])) rfl (by rw [hml]; rfl) (rest := []) pd_4 rfl rfl (by show 2 * 0 + _ ≤ _; exact Nat.le_of_eq rfl) (hb hby at_33)
  obtain ⟨rfl, rfl, e3⟩ := hQ3
  rw [List.append_nil] at X3
  refine ownEnds.law st3 ?_
  show ownEnds _ _ _ _ (T3.setTop (mkF m 36 #[.val (.long qa), .second, .val (.long qb), .second, .val (.long qc), .second, .val (.long qd), .second, .val (.long qe), .second, .val (.int xk), .val (.int k0), .val (.long y0), .second, .val (.long y1), .second, .unset, .unset, .unset, .unset, .unset, .unset, .unset, .unset] [(.long (FE qc xk (2 : Int32)))]))
  obtain ⟨y2, e_y2⟩ : ∃ z : Int64, z = (FE qc xk (2 : Int32)) := ⟨_, rfl⟩
  rw [← e_y2]
  show ownEnds _ _ _ _ (T3.setTop (mkF m 36 #[.val (.long qa), .second, .val (.long qb), .second, .val (.long qc), .second, .val (.long qd), .second, .val (.long qe), .second, .val (.int xk), .val (.int k0), .val (.long y0), .second, .val (.long y1), .second, .unset, .unset, .unset, .unset, .unset, .unset, .unset, .unset] [(.long y2)]))
  refine ownEnds.law (fun t k => XS.lstore X3.here hx rfl (hb hby at_36) rfl (l' := #[.val (.long qa), .second, .val (.long qb), .second, .val (.long qc), .second, .val (.long qd), .second, .val (.long qe), .second, .val (.int xk), .val (.int k0), .val (.long y0), .second, .val (.long y1), .second, .val (.long y2), .second, .unset, .unset, .unset, .unset, .unset, .unset]) rfl (XS.lload X3.here hx rfl (hb hby at_38) rfl (XS.iload X3.here hx rfl (hb hby at_40) rfl (XS.iconst X3.here hx rfl (hb hby at_42) k)))) ?_
  show ownEnds _ _ _ _ (T3.setTop (mkF m 43 #[.val (.long qa), .second, .val (.long qb), .second, .val (.long qc), .second, .val (.long qd), .second, .val (.long qe), .second, .val (.int xk), .val (.int k0), .val (.long y0), .second, .val (.long y1), .second, .val (.long y2), .second, .unset, .unset, .unset, .unset, .unset, .unset] [(.int (3 : Int32)), (.int xk), (.long qd)]))
  obtain ⟨v4, T4, L4, X4, hQ4, st4⟩ := ownCallS X3 hx hZ hown (y := (⟨"com/example/vestline/vestline/engine/PayrollRowsCentsPinLaw", "eff", "(JII)J"⟩ : MethodName)) (as := [(.long qd), (.int xk), (.int (3 : Int32))]) (wd_0 hw) (wd_1 hw) (wd_2 hw) (wd_3 hw) (by decide) (rm1 l Z a0 hw qd xk (3 : Int32)  h0 n0 Z0 ) e3 0 (by decide) (by decide) (by decide) (by decide) (g := (mkF m 43 #[.val (.long qa), .second, .val (.long qb), .second, .val (.long qc), .second, .val (.long qd), .second, .val (.long qe), .second, .val (.int xk), .val (.int k0), .val (.long y0), .second, .val (.long y1), .second, .val (.long y2), .second, .unset, .unset, .unset, .unset, .unset, .unset] [(.int (3 : Int32)), (.int xk), (.long qd)])) rfl (by rw [hml]; rfl) (rest := []) pd_4 rfl rfl (by show 2 * 0 + _ ≤ _; exact Nat.le_of_eq rfl) (hb hby at_43)
  obtain ⟨rfl, rfl, e4⟩ := hQ4
  rw [List.append_nil] at X4
  refine ownEnds.law st4 ?_
  show ownEnds _ _ _ _ (T4.setTop (mkF m 46 #[.val (.long qa), .second, .val (.long qb), .second, .val (.long qc), .second, .val (.long qd), .second, .val (.long qe), .second, .val (.int xk), .val (.int k0), .val (.long y0), .second, .val (.long y1), .second, .val (.long y2), .second, .unset, .unset, .unset, .unset, .unset, .unset] [(.long (FE qd xk (3 : Int32)))]))
  obtain ⟨y3, e_y3⟩ : ∃ z : Int64, z = (FE qd xk (3 : Int32)) := ⟨_, rfl⟩
  rw [← e_y3]
  show ownEnds _ _ _ _ (T4.setTop (mkF m 46 #[.val (.long qa), .second, .val (.long qb), .second, .val (.long qc), .second, .val (.long qd), .second, .val (.long qe), .second, .val (.int xk), .val (.int k0), .val (.long y0), .second, .val (.long y1), .second, .val (.long y2), .second, .unset, .unset, .unset, .unset, .unset, .unset] [(.long y3)]))
  refine ownEnds.law (fun t k => XS.lstore X4.here hx rfl (hb hby at_46) rfl (l' := #[.val (.long qa), .second, .val (.long qb), .second, .val (.long qc), .second, .val (.long qd), .second, .val (.long qe), .second, .val (.int xk), .val (.int k0), .val (.long y0), .second, .val (.long y1), .second, .val (.long y2), .second, .val (.long y3), .second, .unset, .unset, .unset, .unset]) rfl (XS.lload X4.here hx rfl (hb hby at_48) rfl (XS.iload X4.here hx rfl (hb hby at_50) rfl (XS.iconst X4.here hx rfl (hb hby at_52) k)))) ?_
  show ownEnds _ _ _ _ (T4.setTop (mkF m 53 #[.val (.long qa), .second, .val (.long qb), .second, .val (.long qc), .second, .val (.long qd), .second, .val (.long qe), .second, .val (.int xk), .val (.int k0), .val (.long y0), .second, .val (.long y1), .second, .val (.long y2), .second, .val (.long y3), .second, .unset, .unset, .unset, .unset] [(.int (4 : Int32)), (.int xk), (.long qe)]))
  obtain ⟨v5, T5, L5, X5, hQ5, st5⟩ := ownCallS X4 hx hZ hown (y := (⟨"com/example/vestline/vestline/engine/PayrollRowsCentsPinLaw", "eff", "(JII)J"⟩ : MethodName)) (as := [(.long qe), (.int xk), (.int (4 : Int32))]) (wd_0 hw) (wd_1 hw) (wd_2 hw) (wd_3 hw) (by decide) (rm1 l Z a0 hw qe xk (4 : Int32)  h0 n0 Z0 ) e4 0 (by decide) (by decide) (by decide) (by decide) (g := (mkF m 53 #[.val (.long qa), .second, .val (.long qb), .second, .val (.long qc), .second, .val (.long qd), .second, .val (.long qe), .second, .val (.int xk), .val (.int k0), .val (.long y0), .second, .val (.long y1), .second, .val (.long y2), .second, .val (.long y3), .second, .unset, .unset, .unset, .unset] [(.int (4 : Int32)), (.int xk), (.long qe)])) rfl (by rw [hml]; rfl) (rest := []) pd_4 rfl rfl (by show 2 * 0 + _ ≤ _; exact Nat.le_of_eq rfl) (hb hby at_53)
  obtain ⟨rfl, rfl, e5⟩ := hQ5
  rw [List.append_nil] at X5
  refine ownEnds.law st5 ?_
  show ownEnds _ _ _ _ (T5.setTop (mkF m 56 #[.val (.long qa), .second, .val (.long qb), .second, .val (.long qc), .second, .val (.long qd), .second, .val (.long qe), .second, .val (.int xk), .val (.int k0), .val (.long y0), .second, .val (.long y1), .second, .val (.long y2), .second, .val (.long y3), .second, .unset, .unset, .unset, .unset] [(.long (FE qe xk (4 : Int32)))]))
  obtain ⟨y4, e_y4⟩ : ∃ z : Int64, z = (FE qe xk (4 : Int32)) := ⟨_, rfl⟩
  rw [← e_y4]
  show ownEnds _ _ _ _ (T5.setTop (mkF m 56 #[.val (.long qa), .second, .val (.long qb), .second, .val (.long qc), .second, .val (.long qd), .second, .val (.long qe), .second, .val (.int xk), .val (.int k0), .val (.long y0), .second, .val (.long y1), .second, .val (.long y2), .second, .val (.long y3), .second, .unset, .unset, .unset, .unset] [(.long y4)]))
  refine ownEnds.law (fun t k => XS.lstore X5.here hx rfl (hb hby at_56) rfl (l' := #[.val (.long qa), .second, .val (.long qb), .second, .val (.long qc), .second, .val (.long qd), .second, .val (.long qe), .second, .val (.int xk), .val (.int k0), .val (.long y0), .second, .val (.long y1), .second, .val (.long y2), .second, .val (.long y3), .second, .val (.long y4), .second, .unset, .unset]) rfl k) ?_
  show ownEnds _ _ _ _ (T5.setTop (mkF m 58 #[.val (.long qa), .second, .val (.long qb), .second, .val (.long qc), .second, .val (.long qd), .second, .val (.long qe), .second, .val (.int xk), .val (.int k0), .val (.long y0), .second, .val (.long y1), .second, .val (.long y2), .second, .val (.long y3), .second, .val (.long y4), .second, .unset, .unset] []))
  obtain ⟨T6, h6, X6, e6, E6, A6, D6, -, st6⟩ := newO X5 hx hZ hown (wd_4 hw) (wd_5 hw) (wd_6 hw) e5 (g := (mkF m 58 #[.val (.long qa), .second, .val (.long qb), .second, .val (.long qc), .second, .val (.long qd), .second, .val (.long qe), .second, .val (.int xk), .val (.int k0), .val (.long y0), .second, .val (.long y1), .second, .val (.long y2), .second, .val (.long y3), .second, .val (.long y4), .second, .unset, .unset] [])) rfl (hb hby at_58) (by decide) (by decide)
  obtain ⟨b6, g6⟩ : ∃ z, z = h0.size := ⟨_, rfl⟩
  rw [← g6] at A6 D6 st6
  refine ownEnds.law st6 ?_
  have g_b6 : n0 ≤ b6 := Nat.le_trans Z0 (Nat.le_of_eq g6.symm)
  have Z6 : n0 ≤ h6.size := Nat.le_trans Z0 E6.1
  have F7 : Fld Z h6 b6 "com/example/vestline/vestline/engine/PayrollRows" "firstPeriodStart" "I" (.int (0 : Int32)) := D6 (Or.inl (wd_15 hw)) (ty := .int) (by decide)
  have F8 : Fld Z h6 b6 "com/example/vestline/vestline/engine/PayrollRows" "lastPeriodEnd" "I" (.int (0 : Int32)) := D6 (Or.inl (wd_18 hw)) (ty := .int) (by decide)
  have F9 : Fld Z h6 b6 "com/example/vestline/vestline/engine/PayrollRows" "periodStarts" "[I" .null := D6 (Or.inl (wd_21 hw)) (ty := (.array .int)) (by decide)
  have F10 : Fld Z h6 b6 "com/example/vestline/vestline/engine/PayrollRows" "periodEnds" "[I" .null := D6 (Or.inl (wd_23 hw)) (ty := (.array .int)) (by decide)
  have F11 : Fld Z h6 b6 "com/example/vestline/vestline/engine/PayrollRows" "hundredths" "[J" .null := D6 (Or.inl (wd_26 hw)) (ty := (.array .long)) (by decide)
  have F12 : Fld Z h6 b6 "com/example/vestline/vestline/engine/PayrollRows" "byPeriodStart" "Ljava/util/NavigableMap;" .null := D6 (Or.inl (wd_34 hw)) (ty := (.object "java/util/NavigableMap")) (by decide)
  have F13 : Fld Z h6 b6 "com/example/vestline/vestline/engine/PayrollRows" "size" "I" (.int (0 : Int32)) := D6 (Or.inl (wd_47 hw)) (ty := .int) (by decide)
  have F14 : Fld Z h6 b6 "com/example/vestline/vestline/engine/PayrollRows" "cents" "[J" .null := D6 (Or.inl (wd_49 hw)) (ty := (.array .long)) (by decide)
  show ownEnds _ _ _ _ (T6.setTop (mkF m 61 #[.val (.long qa), .second, .val (.long qb), .second, .val (.long qc), .second, .val (.long qd), .second, .val (.long qe), .second, .val (.int xk), .val (.int k0), .val (.long y0), .second, .val (.long y1), .second, .val (.long y2), .second, .val (.long y3), .second, .val (.long y4), .second, .unset, .unset] [(.ref b6)]))
  refine ownEnds.law (fun t k => XS.dup X6.here hx rfl (hb hby at_61) rfl rfl k) ?_
  show ownEnds _ _ _ _ (T6.setTop (mkF m 62 #[.val (.long qa), .second, .val (.long qb), .second, .val (.long qc), .second, .val (.long qd), .second, .val (.long qe), .second, .val (.int xk), .val (.int k0), .val (.long y0), .second, .val (.long y1), .second, .val (.long y2), .second, .val (.long y3), .second, .val (.long y4), .second, .unset, .unset] [(.ref b6), (.ref b6)]))
  obtain ⟨v15, T15, L15, X15, hQ15, st15⟩ := ownCallC X6 hx hZ hown (y := (⟨"com/example/vestline/vestline/engine/PayrollRows", "<init>", "()V"⟩ : MethodName)) rfl (a := b6) (as := []) (wd_7 hw) (wd_8 hw) (wd_6 hw) (wd_9 hw) (by decide) (rm2 l Z a0 hw b6 h6 n0 Z6 A6 g_b6 F7 F8 F9 F10 F11 F12 F13 F14) e6 1 (by decide) (by decide) (by decide) (by decide) (g := (mkF m 62 #[.val (.long qa), .second, .val (.long qb), .second, .val (.long qc), .second, .val (.long qd), .second, .val (.long qe), .second, .val (.int xk), .val (.int k0), .val (.long y0), .second, .val (.long y1), .second, .val (.long y2), .second, .val (.long y3), .second, .val (.long y4), .second, .unset, .unset] [(.ref b6), (.ref b6)])) rfl (by rw [hml]; rfl) (rest := [(.ref b6)]) pd_5 rfl rfl (by show 2 * 0 + _ ≤ _; exact Nat.le_of_eq rfl) (hb hby at_62)
  obtain ⟨rfl, Nq15, zq15, R15⟩ := hQ15
  have N15 := Fr.app (Fr.nil n0) Nq15
  have Z15 : n0 ≤ T15.heap.size := Nat.le_trans Z6 zq15
  have E15 := R15.exa
  refine ownEnds.law st15 ?_
  show ownEnds _ _ _ _ (T15.setTop (mkF m 65 #[.val (.long qa), .second, .val (.long qb), .second, .val (.long qc), .second, .val (.long qd), .second, .val (.long qe), .second, .val (.int xk), .val (.int k0), .val (.long y0), .second, .val (.long y1), .second, .val (.long y2), .second, .val (.long y3), .second, .val (.long y4), .second, .unset, .unset] [(.ref b6)]))
  refine ownEnds.law (fun t k => XS.astore X15.here hx rfl (hb hby at_65) rfl rfl (l' := #[.val (.long qa), .second, .val (.long qb), .second, .val (.long qc), .second, .val (.long qd), .second, .val (.long qe), .second, .val (.int xk), .val (.int k0), .val (.long y0), .second, .val (.long y1), .second, .val (.long y2), .second, .val (.long y3), .second, .val (.long y4), .second, .val (.ref b6), .unset]) rfl k) ?_
  show ownEnds _ _ _ _ (T15.setTop (mkF m 67 #[.val (.long qa), .second, .val (.long qb), .second, .val (.long qc), .second, .val (.long qd), .second, .val (.long qe), .second, .val (.int xk), .val (.int k0), .val (.long y0), .second, .val (.long y1), .second, .val (.long y2), .second, .val (.long y3), .second, .val (.long y4), .second, .val (.ref b6), .unset] []))
  have hk := own_k xk
  rw [← e_k0] at hk
  clear e_k0
  rcases hk with rfl | rfl | rfl | rfl | rfl | rfl
  · show ownEnds _ _ _ _ (T15.setTop (mkF m 67 #[.val (.long qa), .second, .val (.long qb), .second, .val (.long qc), .second, .val (.long qd), .second, .val (.long qe), .second, .val (.int xk), .val (.int (0 : Int32)), .val (.long y0), .second, .val (.long y1), .second, .val (.long y2), .second, .val (.long y3), .second, .val (.long y4), .second, .val (.ref b6), .unset] []))
    refine ownEnds.law (fun t k => XS.iload X15.here hx rfl (hb hby at_67) rfl k) ?_
    show ownEnds _ _ _ _ (T15.setTop (mkF m 69 #[.val (.long qa), .second, .val (.long qb), .second, .val (.long qc), .second, .val (.long qd), .second, .val (.long qe), .second, .val (.int xk), .val (.int (0 : Int32)), .val (.long y0), .second, .val (.long y1), .second, .val (.long y2), .second, .val (.long y3), .second, .val (.long y4), .second, .val (.ref b6), .unset] [(.int (0 : Int32))]))
    refine ownEnds.law (fun t => XS.ifYes X15.here hx rfl (pc0 := 69) (pc' := 87) rfl (hb hby at_69) rfl ((if0 _ _).trans (flt (Int32.lt_irrefl)).2.2.2) (by decide) (by decide)) ?_
    show ownEnds _ _ _ _ (T15.setTop (mkF m 87 #[.val (.long qa), .second, .val (.long qb), .second, .val (.long qc), .second, .val (.long qd), .second, .val (.long qe), .second, .val (.int xk), .val (.int (0 : Int32)), .val (.long y0), .second, .val (.long y1), .second, .val (.long y2), .second, .val (.long y3), .second, .val (.long y4), .second, .val (.ref b6), .unset] []))
    refine ownEnds.law (fun t k => XS.iload X15.here hx rfl (hb hby at_87) rfl (XS.iconst X15.here hx rfl (hb hby at_89) k)) ?_
    show ownEnds _ _ _ _ (T15.setTop (mkF m 90 #[.val (.long qa), .second, .val (.long qb), .second, .val (.long qc), .second, .val (.long qd), .second, .val (.long qe), .second, .val (.int xk), .val (.int (0 : Int32)), .val (.long y0), .second, .val (.long y1), .second, .val (.long y2), .second, .val (.long y3), .second, .val (.long y4), .second, .val (.ref b6), .unset] [(.int (1 : Int32)), (.int (0 : Int32))]))
    refine ownEnds.law (fun t => XS.icmpYes X15.here hx rfl (pc0 := 90) (pc' := 110) rfl (hb hby at_90) rfl (flt (by decide : ¬ ((1 : Int32) < (0 : Int32)))).2.2.2 (by decide) (by decide)) ?_
    show ownEnds _ _ _ _ (T15.setTop (mkF m 110 #[.val (.long qa), .second, .val (.long qb), .second, .val (.long qc), .second, .val (.long qd), .second, .val (.long qe), .second, .val (.int xk), .val (.int (0 : Int32)), .val (.long y0), .second, .val (.long y1), .second, .val (.long y2), .second, .val (.long y3), .second, .val (.long y4), .second, .val (.ref b6), .unset] []))
    refine ownEnds.law (fun t k => XS.iload X15.here hx rfl (hb hby at_110) rfl (XS.iconst X15.here hx rfl (hb hby at_112) k)) ?_
    show ownEnds _ _ _ _ (T15.setTop (mkF m 113 #[.val (.long qa), .second, .val (.long qb), .second, .val (.long qc), .second, .val (.long qd), .second, .val (.long qe), .second, .val (.int xk), .val (.int (0 : Int32)), .val (.long y0), .second, .val (.long y1), .second, .val (.long y2), .second, .val (.long y3), .second, .val (.long y4), .second, .val (.ref b6), .unset] [(.int (2 : Int32)), (.int (0 : Int32))]))
    refine ownEnds.law (fun t => XS.icmpYes X15.here hx rfl (pc0 := 113) (pc' := 133) rfl (hb hby at_113) rfl (flt (by decide : ¬ ((2 : Int32) < (0 : Int32)))).2.2.2 (by decide) (by decide)) ?_
    show ownEnds _ _ _ _ (T15.setTop (mkF m 133 #[.val (.long qa), .second, .val (.long qb), .second, .val (.long qc), .second, .val (.long qd), .second, .val (.long qe), .second, .val (.int xk), .val (.int (0 : Int32)), .val (.long y0), .second, .val (.long y1), .second, .val (.long y2), .second, .val (.long y3), .second, .val (.long y4), .second, .val (.ref b6), .unset] []))
    refine ownEnds.law (fun t k => XS.iload X15.here hx rfl (hb hby at_133) rfl (XS.iconst X15.here hx rfl (hb hby at_135) k)) ?_
    show ownEnds _ _ _ _ (T15.setTop (mkF m 136 #[.val (.long qa), .second, .val (.long qb), .second, .val (.long qc), .second, .val (.long qd), .second, .val (.long qe), .second, .val (.int xk), .val (.int (0 : Int32)), .val (.long y0), .second, .val (.long y1), .second, .val (.long y2), .second, .val (.long y3), .second, .val (.long y4), .second, .val (.ref b6), .unset] [(.int (3 : Int32)), (.int (0 : Int32))]))
    refine ownEnds.law (fun t => XS.icmpYes X15.here hx rfl (pc0 := 136) (pc' := 156) rfl (hb hby at_136) rfl (flt (by decide : ¬ ((3 : Int32) < (0 : Int32)))).2.2.2 (by decide) (by decide)) ?_
    show ownEnds _ _ _ _ (T15.setTop (mkF m 156 #[.val (.long qa), .second, .val (.long qb), .second, .val (.long qc), .second, .val (.long qd), .second, .val (.long qe), .second, .val (.int xk), .val (.int (0 : Int32)), .val (.long y0), .second, .val (.long y1), .second, .val (.long y2), .second, .val (.long y3), .second, .val (.long y4), .second, .val (.ref b6), .unset] []))
    refine ownEnds.law (fun t k => XS.iload X15.here hx rfl (hb hby at_156) rfl (XS.iconst X15.here hx rfl (hb hby at_158) k)) ?_
    show ownEnds _ _ _ _ (T15.setTop (mkF m 159 #[.val (.long qa), .second, .val (.long qb), .second, .val (.long qc), .second, .val (.long qd), .second, .val (.long qe), .second, .val (.int xk), .val (.int (0 : Int32)), .val (.long y0), .second, .val (.long y1), .second, .val (.long y2), .second, .val (.long y3), .second, .val (.long y4), .second, .val (.ref b6), .unset] [(.int (4 : Int32)), (.int (0 : Int32))]))
    refine ownEnds.law (fun t => XS.icmpYes X15.here hx rfl (pc0 := 159) (pc' := 179) rfl (hb hby at_159) rfl (flt (by decide : ¬ ((4 : Int32) < (0 : Int32)))).2.2.2 (by decide) (by decide)) ?_
    show ownEnds _ _ _ _ (T15.setTop (mkF m 179 #[.val (.long qa), .second, .val (.long qb), .second, .val (.long qc), .second, .val (.long qd), .second, .val (.long qe), .second, .val (.int xk), .val (.int (0 : Int32)), .val (.long y0), .second, .val (.long y1), .second, .val (.long y2), .second, .val (.long y3), .second, .val (.long y4), .second, .val (.ref b6), .unset] []))
    refine ownEnds.law (fun t k => XS.iconst X15.here hx rfl (hb hby at_179) (XS.istore X15.here hx rfl (hb hby at_180) rfl (l' := #[.val (.long qa), .second, .val (.long qb), .second, .val (.long qc), .second, .val (.long qd), .second, .val (.long qe), .second, .val (.int xk), .val (.int (0 : Int32)), .val (.long y0), .second, .val (.long y1), .second, .val (.long y2), .second, .val (.long y3), .second, .val (.long y4), .second, .val (.ref b6), .val (.int (1 : Int32))]) rfl (XS.iload X15.here hx rfl (hb hby at_182) rfl k))) ?_
    show ownEnds _ _ _ _ (T15.setTop (mkF m 184 #[.val (.long qa), .second, .val (.long qb), .second, .val (.long qc), .second, .val (.long qd), .second, .val (.long qe), .second, .val (.int xk), .val (.int (0 : Int32)), .val (.long y0), .second, .val (.long y1), .second, .val (.long y2), .second, .val (.long y3), .second, .val (.long y4), .second, .val (.ref b6), .val (.int (1 : Int32))] [(.int (0 : Int32))]))
    refine ownEnds.law (fun t => XS.ifYes X15.here hx rfl (pc0 := 184) (pc' := 211) rfl (hb hby at_184) rfl ((if0 _ _).trans (flt (Int32.lt_irrefl)).2.2.2) (by decide) (by decide)) ?_
    show ownEnds _ _ _ _ (T15.setTop (mkF m 211 #[.val (.long qa), .second, .val (.long qb), .second, .val (.long qc), .second, .val (.long qd), .second, .val (.long qe), .second, .val (.int xk), .val (.int (0 : Int32)), .val (.long y0), .second, .val (.long y1), .second, .val (.long y2), .second, .val (.long y3), .second, .val (.long y4), .second, .val (.ref b6), .val (.int (1 : Int32))] []))
    refine ownEnds.law (fun t k => XS.iload X15.here hx rfl (hb hby at_211) rfl (XS.iconst X15.here hx rfl (hb hby at_213) k)) ?_
    show ownEnds _ _ _ _ (T15.setTop (mkF m 214 #[.val (.long qa), .second, .val (.long qb), .second, .val (.long qc), .second, .val (.long qd), .second, .val (.long qe), .second, .val (.int xk), .val (.int (0 : Int32)), .val (.long y0), .second, .val (.long y1), .second, .val (.long y2), .second, .val (.long y3), .second, .val (.long y4), .second, .val (.ref b6), .val (.int (1 : Int32))] [(.int (1 : Int32)), (.int (0 : Int32))]))
    refine ownEnds.law (fun t => XS.icmpYes X15.here hx rfl (pc0 := 214) (pc' := 241) rfl (hb hby at_214) rfl (flt (by decide : ¬ ((1 : Int32) < (0 : Int32)))).2.2.2 (by decide) (by decide)) ?_
    show ownEnds _ _ _ _ (T15.setTop (mkF m 241 #[.val (.long qa), .second, .val (.long qb), .second, .val (.long qc), .second, .val (.long qd), .second, .val (.long qe), .second, .val (.int xk), .val (.int (0 : Int32)), .val (.long y0), .second, .val (.long y1), .second, .val (.long y2), .second, .val (.long y3), .second, .val (.long y4), .second, .val (.ref b6), .val (.int (1 : Int32))] []))
    refine ownEnds.law (fun t k => XS.iload X15.here hx rfl (hb hby at_241) rfl (XS.iconst X15.here hx rfl (hb hby at_243) k)) ?_
    show ownEnds _ _ _ _ (T15.setTop (mkF m 244 #[.val (.long qa), .second, .val (.long qb), .second, .val (.long qc), .second, .val (.long qd), .second, .val (.long qe), .second, .val (.int xk), .val (.int (0 : Int32)), .val (.long y0), .second, .val (.long y1), .second, .val (.long y2), .second, .val (.long y3), .second, .val (.long y4), .second, .val (.ref b6), .val (.int (1 : Int32))] [(.int (2 : Int32)), (.int (0 : Int32))]))
    refine ownEnds.law (fun t => XS.icmpYes X15.here hx rfl (pc0 := 244) (pc' := 271) rfl (hb hby at_244) rfl (flt (by decide : ¬ ((2 : Int32) < (0 : Int32)))).2.2.2 (by decide) (by decide)) ?_
    show ownEnds _ _ _ _ (T15.setTop (mkF m 271 #[.val (.long qa), .second, .val (.long qb), .second, .val (.long qc), .second, .val (.long qd), .second, .val (.long qe), .second, .val (.int xk), .val (.int (0 : Int32)), .val (.long y0), .second, .val (.long y1), .second, .val (.long y2), .second, .val (.long y3), .second, .val (.long y4), .second, .val (.ref b6), .val (.int (1 : Int32))] []))
    refine ownEnds.law (fun t k => XS.iload X15.here hx rfl (hb hby at_271) rfl (XS.iconst X15.here hx rfl (hb hby at_273) k)) ?_
    show ownEnds _ _ _ _ (T15.setTop (mkF m 274 #[.val (.long qa), .second, .val (.long qb), .second, .val (.long qc), .second, .val (.long qd), .second, .val (.long qe), .second, .val (.int xk), .val (.int (0 : Int32)), .val (.long y0), .second, .val (.long y1), .second, .val (.long y2), .second, .val (.long y3), .second, .val (.long y4), .second, .val (.ref b6), .val (.int (1 : Int32))] [(.int (3 : Int32)), (.int (0 : Int32))]))
    refine ownEnds.law (fun t => XS.icmpYes X15.here hx rfl (pc0 := 274) (pc' := 301) rfl (hb hby at_274) rfl (flt (by decide : ¬ ((3 : Int32) < (0 : Int32)))).2.2.2 (by decide) (by decide)) ?_
    show ownEnds _ _ _ _ (T15.setTop (mkF m 301 #[.val (.long qa), .second, .val (.long qb), .second, .val (.long qc), .second, .val (.long qd), .second, .val (.long qe), .second, .val (.int xk), .val (.int (0 : Int32)), .val (.long y0), .second, .val (.long y1), .second, .val (.long y2), .second, .val (.long y3), .second, .val (.long y4), .second, .val (.ref b6), .val (.int (1 : Int32))] []))
    refine ownEnds.law (fun t k => XS.iload X15.here hx rfl (hb hby at_301) rfl (XS.iconst X15.here hx rfl (hb hby at_303) k)) ?_
    show ownEnds _ _ _ _ (T15.setTop (mkF m 304 #[.val (.long qa), .second, .val (.long qb), .second, .val (.long qc), .second, .val (.long qd), .second, .val (.long qe), .second, .val (.int xk), .val (.int (0 : Int32)), .val (.long y0), .second, .val (.long y1), .second, .val (.long y2), .second, .val (.long y3), .second, .val (.long y4), .second, .val (.ref b6), .val (.int (1 : Int32))] [(.int (4 : Int32)), (.int (0 : Int32))]))
    refine ownEnds.law (fun t => XS.icmpYes X15.here hx rfl (pc0 := 304) (pc' := 331) rfl (hb hby at_304) rfl (flt (by decide : ¬ ((4 : Int32) < (0 : Int32)))).2.2.2 (by decide) (by decide)) ?_
    show ownEnds _ _ _ _ (T15.setTop (mkF m 331 #[.val (.long qa), .second, .val (.long qb), .second, .val (.long qc), .second, .val (.long qd), .second, .val (.long qe), .second, .val (.int xk), .val (.int (0 : Int32)), .val (.long y0), .second, .val (.long y1), .second, .val (.long y2), .second, .val (.long y3), .second, .val (.long y4), .second, .val (.ref b6), .val (.int (1 : Int32))] []))
    refine ownEnds.law (fun t k => XS.iload X15.here hx rfl (hb hby at_331) rfl k) ?_
    show ownEnds _ _ _ _ (T15.setTop (mkF m 333 #[.val (.long qa), .second, .val (.long qb), .second, .val (.long qc), .second, .val (.long qd), .second, .val (.long qe), .second, .val (.int xk), .val (.int (0 : Int32)), .val (.long y0), .second, .val (.long y1), .second, .val (.long y2), .second, .val (.long y3), .second, .val (.long y4), .second, .val (.ref b6), .val (.int (1 : Int32))] [(.int (1 : Int32))]))
    refine ownRetN X15 hlk hx (t := .boolean) hret (by simp) (hb hby at_333) (by decide) (by decide) ?_
    exact ⟨rfl, N15⟩
  · show ownEnds _ _ _ _ (T15.setTop (mkF m 67 #[.val (.long qa), .second, .val (.long qb), .second, .val (.long qc), .second, .val (.long qd), .second, .val (.long qe), .second, .val (.int xk), .val (.int (1 : Int32)), .val (.long y0), .second, .val (.long y1), .second, .val (.long y2), .second, .val (.long y3), .second, .val (.long y4), .second, .val (.ref b6), .unset] []))
    refine ownEnds.law (fun t k => XS.iload X15.here hx rfl (hb hby at_67) rfl k) ?_
    show ownEnds _ _ _ _ (T15.setTop (mkF m 69 #[.val (.long qa), .second, .val (.long qb), .second, .val (.long qc), .second, .val (.long qd), .second, .val (.long qe), .second, .val (.int xk), .val (.int (1 : Int32)), .val (.long y0), .second, .val (.long y1), .second, .val (.long y2), .second, .val (.long y3), .second, .val (.long y4), .second, .val (.ref b6), .unset] [(.int (1 : Int32))]))
    refine ownEnds.law (fun t => XS.ifNo X15.here hx rfl (hb hby at_69) rfl ((if0 _ _).trans (tlt (by decide : (0 : Int32) < (1 : Int32))).2.2.2)) ?_
    show ownEnds _ _ _ _ (T15.setTop (mkF m 72 #[.val (.long qa), .second, .val (.long qb), .second, .val (.long qc), .second, .val (.long qd), .second, .val (.long qe), .second, .val (.int xk), .val (.int (1 : Int32)), .val (.long y0), .second, .val (.long y1), .second, .val (.long y2), .second, .val (.long y3), .second, .val (.long y4), .second, .val (.ref b6), .unset] []))
    refine ownEnds.law (fun t k => XS.aload X15.here hx rfl (hb hby at_72) rfl rfl (XS.iconst X15.here hx rfl (hb hby at_74) (XS.iconst X15.here hx rfl (hb hby at_75) (XS.lload X15.here hx rfl (hb hby at_76) rfl (X15.ldc2Long hx hown (mvT hZ (wd_27 hw)) (g := (mkF m 78 #[.val (.long qa), .second, .val (.long qb), .second, .val (.long qc), .second, .val (.long qd), .second, .val (.long qe), .second, .val (.int xk), .val (.int (1 : Int32)), .val (.long y0), .second, .val (.long y1), .second, .val (.long y2), .second, .val (.long y3), .second, .val (.long y4), .second, .val (.ref b6), .unset] [(.long y0), (.int (5 : Int32)), (.int (0 : Int32)), (.ref b6)])) rfl (hb hby at_78) _ (XS.lxor X15.here hx rfl (hb hby at_81) rfl (XS.lload X15.here hx rfl (hb hby at_82) rfl k))))))) ?_
    show ownEnds _ _ _ _ (T15.setTop (mkF m 84 #[.val (.long qa), .second, .val (.long qb), .second, .val (.long qc), .second, .val (.long qd), .second, .val (.long qe), .second, .val (.int xk), .val (.int (1 : Int32)), .val (.long y0), .second, .val (.long y1), .second, .val (.long y2), .second, .val (.long y3), .second, .val (.long y4), .second, .val (.ref b6), .unset] [(.long y0), (.long (y0 ^^^ (-1 : Int64))), (.int (5 : Int32)), (.int (0 : Int32)), (.ref b6)]))
    obtain ⟨v16, T16, L16, X16, hQ16, st16⟩ := ownCallV X15 hx hZ hown (y := (⟨"com/example/vestline/vestline/engine/PayrollRows", "add", "(IIJJ)V"⟩ : MethodName)) (z := (⟨"com/example/vestline/vestline/engine/PayrollRows", "add", "(IIJJ)V"⟩ : MethodName)) (a := b6) (as := [(.int (0 : Int32)), (.int (5 : Int32)), (.long (y0 ^^^ (-1 : Int64))), (.long y0)]) (wd_28 hw) (wd_29 hw) (notFace_of_selects (args := #[]) (mvT hZ (wd_31 hw))) (wd_31 hw) (wd_30 hw) (wd_6 hw) (wd_32 hw) (by decide) (rm4a l Z a0 hw b6 (0 : Int32) (5 : Int32) (y0 ^^^ (-1 : Int64)) y0 (0 : Int32) (-2147483648 : Int32) ([] : List Int64) T15.heap n0 Z15 R15 (by decide) ⟨by decide, by decide⟩) rfl E15 0 (by decide) (by decide) (by decide) (by decide) (g := (mkF m 84 #[.val (.long qa), .second, .val (.long qb), .second, .val (.long qc), .second, .val (.long qd), .second, .val (.long qe), .second, .val (.int xk), .val (.int (1 : Int32)), .val (.long y0), .second, .val (.long y1), .second, .val (.long y2), .second, .val (.long y3), .second, .val (.long y4), .second, .val (.ref b6), .unset] [(.long y0), (.long (y0 ^^^ (-1 : Int64))), (.int (5 : Int32)), (.int (0 : Int32)), (.ref b6)])) rfl (by rw [hml]; rfl) (rest := []) pd_6 rfl rfl (by show 2 * 0 + _ ≤ _; exact Nat.le_of_eq rfl) (hb hby at_84)
    obtain ⟨rfl, Nq16, zq16, Rq16⟩ := hQ16
    have R16 : Rows Z n0 T16.heap b6 (1 : Int32) (5 : Int32) (4 : Int32) [y0] := by
      have q2 : FMax (-2147483648 : Int32) (5 : Int32) = (5 : Int32) := by decide
      have q1 : (0 : Int32) + 1 = (1 : Int32) := by decide
      rw [q1, q2] at Rq16
      exact Rq16
    have N16 := Fr.app N15 Nq16
    have Z16 : n0 ≤ T16.heap.size := Nat.le_trans Z15 zq16
    have E16 := R16.exa
    refine ownEnds.law st16 ?_
    show ownEnds _ _ _ _ (T16.setTop (mkF m 87 #[.val (.long qa), .second, .val (.long qb), .second, .val (.long qc), .second, .val (.long qd), .second, .val (.long qe), .second, .val (.int xk), .val (.int (1 : Int32)), .val (.long y0), .second, .val (.long y1), .second, .val (.long y2), .second, .val (.long y3), .second, .val (.long y4), .second, .val (.ref b6), .unset] []))
    refine ownEnds.law (fun t k => XS.iload X16.here hx rfl (hb hby at_87) rfl (XS.iconst X16.here hx rfl (hb hby at_89) k)) ?_
    show ownEnds _ _ _ _ (T16.setTop (mkF m 90 #[.val (.long qa), .second, .val (.long qb), .second, .val (.long qc), .second, .val (.long qd), .second, .val (.long qe), .second, .val (.int xk), .val (.int (1 : Int32)), .val (.long y0), .second, .val (.long y1), .second, .val (.long y2), .second, .val (.long y3), .second, .val (.long y4), .second, .val (.ref b6), .unset] [(.int (1 : Int32)), (.int (1 : Int32))]))
    refine ownEnds.law (fun t => XS.icmpYes X16.here hx rfl (pc0 := 90) (pc' := 110) rfl (hb hby at_90) rfl (flt (Int32.lt_irrefl)).2.2.2 (by decide) (by decide)) ?_
    show ownEnds _ _ _ _ (T16.setTop (mkF m 110 #[.val (.long qa), .second, .val (.long qb), .second, .val (.long qc), .second, .val (.long qd), .second, .val (.long qe), .second, .val (.int xk), .val (.int (1 : Int32)), .val (.long y0), .second, .val (.long y1), .second, .val (.long y2), .second, .val (.long y3), .second, .val (.long y4), .second, .val (.ref b6), .unset] []))
    refine ownEnds.law (fun t k => XS.iload X16.here hx rfl (hb hby at_110) rfl (XS.iconst X16.here hx rfl (hb hby at_112) k)) ?_
    show ownEnds _ _ _ _ (T16.setTop (mkF m 113 #[.val (.long qa), .second, .val (.long qb), .second, .val (.long qc), .second, .val (.long qd), .second, .val (.long qe), .second, .val (.int xk), .val (.int (1 : Int32)), .val (.long y0), .second, .val (.long y1), .second, .val (.long y2), .second, .val (.long y3), .second, .val (.long y4), .second, .val (.ref b6), .unset] [(.int (2 : Int32)), (.int (1 : Int32))]))
    refine ownEnds.law (fun t => XS.icmpYes X16.here hx rfl (pc0 := 113) (pc' := 133) rfl (hb hby at_113) rfl (flt (by decide : ¬ ((2 : Int32) < (1 : Int32)))).2.2.2 (by decide) (by decide)) ?_
    show ownEnds _ _ _ _ (T16.setTop (mkF m 133 #[.val (.long qa), .second, .val (.long qb), .second, .val (.long qc), .second, .val (.long qd), .second, .val (.long qe), .second, .val (.int xk), .val (.int (1 : Int32)), .val (.long y0), .second, .val (.long y1), .second, .val (.long y2), .second, .val (.long y3), .second, .val (.long y4), .second, .val (.ref b6), .unset] []))
    refine ownEnds.law (fun t k => XS.iload X16.here hx rfl (hb hby at_133) rfl (XS.iconst X16.here hx rfl (hb hby at_135) k)) ?_
    show ownEnds _ _ _ _ (T16.setTop (mkF m 136 #[.val (.long qa), .second, .val (.long qb), .second, .val (.long qc), .second, .val (.long qd), .second, .val (.long qe), .second, .val (.int xk), .val (.int (1 : Int32)), .val (.long y0), .second, .val (.long y1), .second, .val (.long y2), .second, .val (.long y3), .second, .val (.long y4), .second, .val (.ref b6), .unset] [(.int (3 : Int32)), (.int (1 : Int32))]))
    refine ownEnds.law (fun t => XS.icmpYes X16.here hx rfl (pc0 := 136) (pc' := 156) rfl (hb hby at_136) rfl (flt (by decide : ¬ ((3 : Int32) < (1 : Int32)))).2.2.2 (by decide) (by decide)) ?_
    show ownEnds _ _ _ _ (T16.setTop (mkF m 156 #[.val (.long qa), .second, .val (.long qb), .second, .val (.long qc), .second, .val (.long qd), .second, .val (.long qe), .second, .val (.int xk), .val (.int (1 : Int32)), .val (.long y0), .second, .val (.long y1), .second, .val (.long y2), .second, .val (.long y3), .second, .val (.long y4), .second, .val (.ref b6), .unset] []))
    refine ownEnds.law (fun t k => XS.iload X16.here hx rfl (hb hby at_156) rfl (XS.iconst X16.here hx rfl (hb hby at_158) k)) ?_
    show ownEnds _ _ _ _ (T16.setTop (mkF m 159 #[.val (.long qa), .second, .val (.long qb), .second, .val (.long qc), .second, .val (.long qd), .second, .val (.long qe), .second, .val (.int xk), .val (.int (1 : Int32)), .val (.long y0), .second, .val (.long y1), .second, .val (.long y2), .second, .val (.long y3), .second, .val (.long y4), .second, .val (.ref b6), .unset] [(.int (4 : Int32)), (.int (1 : Int32))]))
    refine ownEnds.law (fun t => XS.icmpYes X16.here hx rfl (pc0 := 159) (pc' := 179) rfl (hb hby at_159) rfl (flt (by decide : ¬ ((4 : Int32) < (1 : Int32)))).2.2.2 (by decide) (by decide)) ?_
    show ownEnds _ _ _ _ (T16.setTop (mkF m 179 #[.val (.long qa), .second, .val (.long qb), .second, .val (.long qc), .second, .val (.long qd), .second, .val (.long qe), .second, .val (.int xk), .val (.int (1 : Int32)), .val (.long y0), .second, .val (.long y1), .second, .val (.long y2), .second, .val (.long y3), .second, .val (.long y4), .second, .val (.ref b6), .unset] []))
    refine ownEnds.law (fun t k => XS.iconst X16.here hx rfl (hb hby at_179) (XS.istore X16.here hx rfl (hb hby at_180) rfl (l' := #[.val (.long qa), .second, .val (.long qb), .second, .val (.long qc), .second, .val (.long qd), .second, .val (.long qe), .second, .val (.int xk), .val (.int (1 : Int32)), .val (.long y0), .second, .val (.long y1), .second, .val (.long y2), .second, .val (.long y3), .second, .val (.long y4), .second, .val (.ref b6), .val (.int (1 : Int32))]) rfl (XS.iload X16.here hx rfl (hb hby at_182) rfl k))) ?_
    show ownEnds _ _ _ _ (T16.setTop (mkF m 184 #[.val (.long qa), .second, .val (.long qb), .second, .val (.long qc), .second, .val (.long qd), .second, .val (.long qe), .second, .val (.int xk), .val (.int (1 : Int32)), .val (.long y0), .second, .val (.long y1), .second, .val (.long y2), .second, .val (.long y3), .second, .val (.long y4), .second, .val (.ref b6), .val (.int (1 : Int32))] [(.int (1 : Int32))]))
    refine ownEnds.law (fun t => XS.ifNo X16.here hx rfl (hb hby at_184) rfl ((if0 _ _).trans (tlt (by decide : (0 : Int32) < (1 : Int32))).2.2.2)) ?_
    show ownEnds _ _ _ _ (T16.setTop (mkF m 187 #[.val (.long qa), .second, .val (.long qb), .second, .val (.long qc), .second, .val (.long qd), .second, .val (.long qe), .second, .val (.int xk), .val (.int (1 : Int32)), .val (.long y0), .second, .val (.long y1), .second, .val (.long y2), .second, .val (.long y3), .second, .val (.long y4), .second, .val (.ref b6), .val (.int (1 : Int32))] []))
    refine ownEnds.law (fun t k => XS.iload X16.here hx rfl (hb hby at_187) rfl k) ?_
    show ownEnds _ _ _ _ (T16.setTop (mkF m 189 #[.val (.long qa), .second, .val (.long qb), .second, .val (.long qc), .second, .val (.long qd), .second, .val (.long qe), .second, .val (.int xk), .val (.int (1 : Int32)), .val (.long y0), .second, .val (.long y1), .second, .val (.long y2), .second, .val (.long y3), .second, .val (.long y4), .second, .val (.ref b6), .val (.int (1 : Int32))] [(.int (1 : Int32))]))
    refine ownEnds.law (fun t => XS.ifNo X16.here hx rfl (hb hby at_189) rfl ((if0 _ _).trans (feq (by decide : ¬ ((1 : Int32) = (0 : Int32)))).1)) ?_
    show ownEnds _ _ _ _ (T16.setTop (mkF m 192 #[.val (.long qa), .second, .val (.long qb), .second, .val (.long qc), .second, .val (.long qd), .second, .val (.long qe), .second, .val (.int xk), .val (.int (1 : Int32)), .val (.long y0), .second, .val (.long y1), .second, .val (.long y2), .second, .val (.long y3), .second, .val (.long y4), .second, .val (.ref b6), .val (.int (1 : Int32))] []))
    refine ownEnds.law (fun t k => XS.aload X16.here hx rfl (hb hby at_192) rfl rfl (XS.iconst X16.here hx rfl (hb hby at_194) k)) ?_
    show ownEnds _ _ _ _ (T16.setTop (mkF m 195 #[.val (.long qa), .second, .val (.long qb), .second, .val (.long qc), .second, .val (.long qd), .second, .val (.long qe), .second, .val (.int xk), .val (.int (1 : Int32)), .val (.long y0), .second, .val (.long y1), .second, .val (.long y2), .second, .val (.long y3), .second, .val (.long y4), .second, .val (.ref b6), .val (.int (1 : Int32))] [(.int (0 : Int32)), (.ref b6)]))
    obtain ⟨v17, T17, L17, X17, hQ17, st17⟩ := ownCallV X16 hx hZ hown (y := (⟨"com/example/vestline/vestline/engine/PayrollRows", "cents", "(I)J"⟩ : MethodName)) (z := (⟨"com/example/vestline/vestline/engine/PayrollRows", "cents", "(I)J"⟩ : MethodName)) (a := b6) (as := [(.int (0 : Int32))]) (wd_50 hw) (wd_51 hw) (notFace_of_selects (args := #[]) (mvT hZ (wd_53 hw))) (wd_53 hw) (wd_52 hw) (wd_6 hw) (wd_54 hw) (by decide) (rm8 l Z a0 hw b6 (0 : Int32) (1 : Int32) (5 : Int32) (4 : Int32) [y0] T16.heap n0 Z16 R16 ⟨by decide, by decide⟩ (show (0 : Int32).toNatClampNeg < 1 from by decide)) rfl E16 0 (by decide) (by decide) (by decide) (by decide) (g := (mkF m 195 #[.val (.long qa), .second, .val (.long qb), .second, .val (.long qc), .second, .val (.long qd), .second, .val (.long qe), .second, .val (.int xk), .val (.int (1 : Int32)), .val (.long y0), .second, .val (.long y1), .second, .val (.long y2), .second, .val (.long y3), .second, .val (.long y4), .second, .val (.ref b6), .val (.int (1 : Int32))] [(.int (0 : Int32)), (.ref b6)])) rfl (by rw [hml]; rfl) (rest := []) pd_7 rfl rfl (by show 2 * 0 + _ ≤ _; exact Nat.le_of_eq rfl) (hb hby at_195)
    obtain ⟨rfl, rfl, e17⟩ := hQ17
    rw [List.append_nil] at X17
    refine ownEnds.law st17 ?_
    show ownEnds _ _ _ _ (T17.setTop (mkF m 198 #[.val (.long qa), .second, .val (.long qb), .second, .val (.long qc), .second, .val (.long qd), .second, .val (.long qe), .second, .val (.int xk), .val (.int (1 : Int32)), .val (.long y0), .second, .val (.long y1), .second, .val (.long y2), .second, .val (.long y3), .second, .val (.long y4), .second, .val (.ref b6), .val (.int (1 : Int32))] [(.long y0)]))
    refine ownEnds.law (fun t k => XS.lload X17.here hx rfl (hb hby at_198) rfl (XS.lcmp X17.here hx rfl (hb hby at_200) rfl k)) ?_
    show ownEnds _ _ _ _ (T17.setTop (mkF m 201 #[.val (.long qa), .second, .val (.long qb), .second, .val (.long qc), .second, .val (.long qd), .second, .val (.long qe), .second, .val (.int xk), .val (.int (1 : Int32)), .val (.long y0), .second, .val (.long y1), .second, .val (.long y2), .second, .val (.long y3), .second, .val (.long y4), .second, .val (.ref b6), .val (.int (1 : Int32))] [(.int (lcmpW y0 y0))]))
    refine ownEnds.law (fun t => XS.ifNo X17.here hx rfl (hb hby at_201) rfl ((if0 _ _).trans (teq ((lw_eq _ _).mpr (rfl : y0 = y0))).2)) ?_
    show ownEnds _ _ _ _ (T17.setTop (mkF m 204 #[.val (.long qa), .second, .val (.long qb), .second, .val (.long qc), .second, .val (.long qd), .second, .val (.long qe), .second, .val (.int xk), .val (.int (1 : Int32)), .val (.long y0), .second, .val (.long y1), .second, .val (.long y2), .second, .val (.long y3), .second, .val (.long y4), .second, .val (.ref b6), .val (.int (1 : Int32))] []))
    refine ownEnds.law (fun t k => XS.iconst X17.here hx rfl (hb hby at_204) (XS.goto X17.here hx rfl (pc0 := 205) (pc' := 209) rfl (hb hby at_205) (by decide) (by decide) (XS.istore X17.here hx rfl (hb hby at_209) rfl (l' := #[.val (.long qa), .second, .val (.long qb), .second, .val (.long qc), .second, .val (.long qd), .second, .val (.long qe), .second, .val (.int xk), .val (.int (1 : Int32)), .val (.long y0), .second, .val (.long y1), .second, .val (.long y2), .second, .val (.long y3), .second, .val (.long y4), .second, .val (.ref b6), .val (.int (1 : Int32))]) rfl (XS.iload X17.here hx rfl (hb hby at_211) rfl (XS.iconst X17.here hx rfl (hb hby at_213) k))))) ?_
    show ownEnds _ _ _ _ (T17.setTop (mkF m 214 #[.val (.long qa), .second, .val (.long qb), .second, .val (.long qc), .second, .val (.long qd), .second, .val (.long qe), .second, .val (.int xk), .val (.int (1 : Int32)), .val (.long y0), .second, .val (.long y1), .second, .val (.long y2), .second, .val (.long y3), .second, .val (.long y4), .second, .val (.ref b6), .val (.int (1 : Int32))] [(.int (1 : Int32)), (.int (1 : Int32))]))
    refine ownEnds.law (fun t => XS.icmpYes X17.here hx rfl (pc0 := 214) (pc' := 241) rfl (hb hby at_214) rfl (flt (Int32.lt_irrefl)).2.2.2 (by decide) (by decide)) ?_
    show ownEnds _ _ _ _ (T17.setTop (mkF m 241 #[.val (.long qa), .second, .val (.long qb), .second, .val (.long qc), .second, .val (.long qd), .second, .val (.long qe), .second, .val (.int xk), .val (.int (1 : Int32)), .val (.long y0), .second, .val (.long y1), .second, .val (.long y2), .second, .val (.long y3), .second, .val (.long y4), .second, .val (.ref b6), .val (.int (1 : Int32))] []))
    refine ownEnds.law (fun t k => XS.iload X17.here hx rfl (hb hby at_241) rfl (XS.iconst X17.here hx rfl (hb hby at_243) k)) ?_
    show ownEnds _ _ _ _ (T17.setTop (mkF m 244 #[.val (.long qa), .second, .val (.long qb), .second, .val (.long qc), .second, .val (.long qd), .second, .val (.long qe), .second, .val (.int xk), .val (.int (1 : Int32)), .val (.long y0), .second, .val (.long y1), .second, .val (.long y2), .second, .val (.long y3), .second, .val (.long y4), .second, .val (.ref b6), .val (.int (1 : Int32))] [(.int (2 : Int32)), (.int (1 : Int32))]))
    refine ownEnds.law (fun t => XS.icmpYes X17.here hx rfl (pc0 := 244) (pc' := 271) rfl (hb hby at_244) rfl (flt (by decide : ¬ ((2 : Int32) < (1 : Int32)))).2.2.2 (by decide) (by decide)) ?_
    show ownEnds _ _ _ _ (T17.setTop (mkF m 271 #[.val (.long qa), .second, .val (.long qb), .second, .val (.long qc), .second, .val (.long qd), .second, .val (.long qe), .second, .val (.int xk), .val (.int (1 : Int32)), .val (.long y0), .second, .val (.long y1), .second, .val (.long y2), .second, .val (.long y3), .second, .val (.long y4), .second, .val (.ref b6), .val (.int (1 : Int32))] []))
    refine ownEnds.law (fun t k => XS.iload X17.here hx rfl (hb hby at_271) rfl (XS.iconst X17.here hx rfl (hb hby at_273) k)) ?_
    show ownEnds _ _ _ _ (T17.setTop (mkF m 274 #[.val (.long qa), .second, .val (.long qb), .second, .val (.long qc), .second, .val (.long qd), .second, .val (.long qe), .second, .val (.int xk), .val (.int (1 : Int32)), .val (.long y0), .second, .val (.long y1), .second, .val (.long y2), .second, .val (.long y3), .second, .val (.long y4), .second, .val (.ref b6), .val (.int (1 : Int32))] [(.int (3 : Int32)), (.int (1 : Int32))]))
    refine ownEnds.law (fun t => XS.icmpYes X17.here hx rfl (pc0 := 274) (pc' := 301) rfl (hb hby at_274) rfl (flt (by decide : ¬ ((3 : Int32) < (1 : Int32)))).2.2.2 (by decide) (by decide)) ?_
    show ownEnds _ _ _ _ (T17.setTop (mkF m 301 #[.val (.long qa), .second, .val (.long qb), .second, .val (.long qc), .second, .val (.long qd), .second, .val (.long qe), .second, .val (.int xk), .val (.int (1 : Int32)), .val (.long y0), .second, .val (.long y1), .second, .val (.long y2), .second, .val (.long y3), .second, .val (.long y4), .second, .val (.ref b6), .val (.int (1 : Int32))] []))
    refine ownEnds.law (fun t k => XS.iload X17.here hx rfl (hb hby at_301) rfl (XS.iconst X17.here hx rfl (hb hby at_303) k)) ?_
    show ownEnds _ _ _ _ (T17.setTop (mkF m 304 #[.val (.long qa), .second, .val (.long qb), .second, .val (.long qc), .second, .val (.long qd), .second, .val (.long qe), .second, .val (.int xk), .val (.int (1 : Int32)), .val (.long y0), .second, .val (.long y1), .second, .val (.long y2), .second, .val (.long y3), .second, .val (.long y4), .second, .val (.ref b6), .val (.int (1 : Int32))] [(.int (4 : Int32)), (.int (1 : Int32))]))
    refine ownEnds.law (fun t => XS.icmpYes X17.here hx rfl (pc0 := 304) (pc' := 331) rfl (hb hby at_304) rfl (flt (by decide : ¬ ((4 : Int32) < (1 : Int32)))).2.2.2 (by decide) (by decide)) ?_
    show ownEnds _ _ _ _ (T17.setTop (mkF m 331 #[.val (.long qa), .second, .val (.long qb), .second, .val (.long qc), .second, .val (.long qd), .second, .val (.long qe), .second, .val (.int xk), .val (.int (1 : Int32)), .val (.long y0), .second, .val (.long y1), .second, .val (.long y2), .second, .val (.long y3), .second, .val (.long y4), .second, .val (.ref b6), .val (.int (1 : Int32))] []))
    refine ownEnds.law (fun t k => XS.iload X17.here hx rfl (hb hby at_331) rfl k) ?_
    show ownEnds _ _ _ _ (T17.setTop (mkF m 333 #[.val (.long qa), .second, .val (.long qb), .second, .val (.long qc), .second, .val (.long qd), .second, .val (.long qe), .second, .val (.int xk), .val (.int (1 : Int32)), .val (.long y0), .second, .val (.long y1), .second, .val (.long y2), .second, .val (.long y3), .second, .val (.long y4), .second, .val (.ref b6), .val (.int (1 : Int32))] [(.int (1 : Int32))]))
    refine ownRetN X17 hlk hx (t := .boolean) hret (by simp) (hb hby at_333) (by decide) (by decide) ?_
    exact ⟨rfl, N16⟩
  · show ownEnds _ _ _ _ (T15.setTop (mkF m 67 #[.val (.long qa), .second, .val (.long qb), .second, .val (.long qc), .second, .val (.long qd), .second, .val (.long qe), .second, .val (.int xk), .val (.int (2 : Int32)), .val (.long y0), .second, .val (.long y1), .second, .val (.long y2), .second, .val (.long y3), .second, .val (.long y4), .second, .val (.ref b6), .unset] []))
    refine ownEnds.law (fun t k => XS.iload X15.here hx rfl (hb hby at_67) rfl k) ?_
    show ownEnds _ _ _ _ (T15.setTop (mkF m 69 #[.val (.long qa), .second, .val (.long qb), .second, .val (.long qc), .second, .val (.long qd), .second, .val (.long qe), .second, .val (.int xk), .val (.int (2 : Int32)), .val (.long y0), .second, .val (.long y1), .second, .val (.long y2), .second, .val (.long y3), .second, .val (.long y4), .second, .val (.ref b6), .unset] [(.int (2 : Int32))]))
    refine ownEnds.law (fun t => XS.ifNo X15.here hx rfl (hb hby at_69) rfl ((if0 _ _).trans (tlt (by decide : (0 : Int32) < (2 : Int32))).2.2.2)) ?_
    show ownEnds _ _ _ _ (T15.setTop (mkF m 72 #[.val (.long qa), .second, .val (.long qb), .second, .val (.long qc), .second, .val (.long qd), .second, .val (.long qe), .second, .val (.int xk), .val (.int (2 : Int32)), .val (.long y0), .second, .val (.long y1), .second, .val (.long y2), .second, .val (.long y3), .second, .val (.long y4), .second, .val (.ref b6), .unset] []))
    refine ownEnds.law (fun t k => XS.aload X15.here hx rfl (hb hby at_72) rfl rfl (XS.iconst X15.here hx rfl (hb hby at_74) (XS.iconst X15.here hx rfl (hb hby at_75) (XS.lload X15.here hx rfl (hb hby at_76) rfl (X15.ldc2Long hx hown (mvT hZ (wd_27 hw)) (g := (mkF m 78 #[.val (.long qa), .second, .val (.long qb), .second, .val (.long qc), .second, .val (.long qd), .second, .val (.long qe), .second, .val (.int xk), .val (.int (2 : Int32)), .val (.long y0), .second, .val (.long y1), .second, .val (.long y2), .second, .val (.long y3), .second, .val (.long y4), .second, .val (.ref b6), .unset] [(.long y0), (.int (5 : Int32)), (.int (0 : Int32)), (.ref b6)])) rfl (hb hby at_78) _ (XS.lxor X15.here hx rfl (hb hby at_81) rfl (XS.lload X15.here hx rfl (hb hby at_82) rfl k))))))) ?_
    show ownEnds _ _ _ _ (T15.setTop (mkF m 84 #[.val (.long qa), .second, .val (.long qb), .second, .val (.long qc), .second, .val (.long qd), .second, .val (.long qe), .second, .val (.int xk), .val (.int (2 : Int32)), .val (.long y0), .second, .val (.long y1), .second, .val (.long y2), .second, .val (.long y3), .second, .val (.long y4), .second, .val (.ref b6), .unset] [(.long y0), (.long (y0 ^^^ (-1 : Int64))), (.int (5 : Int32)), (.int (0 : Int32)), (.ref b6)]))
    obtain ⟨v18, T18, L18, X18, hQ18, st18⟩ := ownCallV X15 hx hZ hown (y := (⟨"com/example/vestline/vestline/engine/PayrollRows", "add", "(IIJJ)V"⟩ : MethodName)) (z := (⟨"com/example/vestline/vestline/engine/PayrollRows", "add", "(IIJJ)V"⟩ : MethodName)) (a := b6) (as := [(.int (0 : Int32)), (.int (5 : Int32)), (.long (y0 ^^^ (-1 : Int64))), (.long y0)]) (wd_28 hw) (wd_29 hw) (notFace_of_selects (args := #[]) (mvT hZ (wd_31 hw))) (wd_31 hw) (wd_30 hw) (wd_6 hw) (wd_32 hw) (by decide) (rm4a l Z a0 hw b6 (0 : Int32) (5 : Int32) (y0 ^^^ (-1 : Int64)) y0 (0 : Int32) (-2147483648 : Int32) ([] : List Int64) T15.heap n0 Z15 R15 (by decide) ⟨by decide, by decide⟩) rfl E15 0 (by decide) (by decide) (by decide) (by decide) (g := (mkF m 84 #[.val (.long qa), .second, .val (.long qb), .second, .val (.long qc), .second, .val (.long qd), .second, .val (.long qe), .second, .val (.int xk), .val (.int (2 : Int32)), .val (.long y0), .second, .val (.long y1), .second, .val (.long y2), .second, .val (.long y3), .second, .val (.long y4), .second, .val (.ref b6), .unset] [(.long y0), (.long (y0 ^^^ (-1 : Int64))), (.int (5 : Int32)), (.int (0 : Int32)), (.ref b6)])) rfl (by rw [hml]; rfl) (rest := []) pd_6 rfl rfl (by show 2 * 0 + _ ≤ _; exact Nat.le_of_eq rfl) (hb hby at_84)
    obtain ⟨rfl, Nq18, zq18, Rq18⟩ := hQ18
    have R18 : Rows Z n0 T18.heap b6 (1 : Int32) (5 : Int32) (4 : Int32) [y0] := by
      have q2 : FMax (-2147483648 : Int32) (5 : Int32) = (5 : Int32) := by decide
      have q1 : (0 : Int32) + 1 = (1 : Int32) := by decide
      rw [q1, q2] at Rq18
      exact Rq18
    have N18 := Fr.app N15 Nq18
    have Z18 : n0 ≤ T18.heap.size := Nat.le_trans Z15 zq18
    have E18 := R18.exa
    refine ownEnds.law st18 ?_
    show ownEnds _ _ _ _ (T18.setTop (mkF m 87 #[.val (.long qa), .second, .val (.long qb), .second, .val (.long qc), .second, .val (.long qd), .second, .val (.long qe), .second, .val (.int xk), .val (.int (2 : Int32)), .val (.long y0), .second, .val (.long y1), .second, .val (.long y2), .second, .val (.long y3), .second, .val (.long y4), .second, .val (.ref b6), .unset] []))
    refine ownEnds.law (fun t k => XS.iload X18.here hx rfl (hb hby at_87) rfl (XS.iconst X18.here hx rfl (hb hby at_89) k)) ?_
    show ownEnds _ _ _ _ (T18.setTop (mkF m 90 #[.val (.long qa), .second, .val (.long qb), .second, .val (.long qc), .second, .val (.long qd), .second, .val (.long qe), .second, .val (.int xk), .val (.int (2 : Int32)), .val (.long y0), .second, .val (.long y1), .second, .val (.long y2), .second, .val (.long y3), .second, .val (.long y4), .second, .val (.ref b6), .unset] [(.int (1 : Int32)), (.int (2 : Int32))]))
    refine ownEnds.law (fun t => XS.icmpNo X18.here hx rfl (hb hby at_90) rfl (tlt (by decide : (1 : Int32) < (2 : Int32))).2.2.2) ?_
    show ownEnds _ _ _ _ (T18.setTop (mkF m 93 #[.val (.long qa), .second, .val (.long qb), .second, .val (.long qc), .second, .val (.long qd), .second, .val (.long qe), .second, .val (.int xk), .val (.int (2 : Int32)), .val (.long y0), .second, .val (.long y1), .second, .val (.long y2), .second, .val (.long y3), .second, .val (.long y4), .second, .val (.ref b6), .unset] []))
    refine ownEnds.law (fun t k => XS.aload X18.here hx rfl (hb hby at_93) rfl rfl (XS.bipush X18.here hx rfl (hb hby at_95) (XS.bipush X18.here hx rfl (hb hby at_97) (XS.lload X18.here hx rfl (hb hby at_99) rfl (X18.ldc2Long hx hown (mvT hZ (wd_27 hw)) (g := (mkF m 101 #[.val (.long qa), .second, .val (.long qb), .second, .val (.long qc), .second, .val (.long qd), .second, .val (.long qe), .second, .val (.int xk), .val (.int (2 : Int32)), .val (.long y0), .second, .val (.long y1), .second, .val (.long y2), .second, .val (.long y3), .second, .val (.long y4), .second, .val (.ref b6), .unset] [(.long y1), (.int (15 : Int32)), (.int (10 : Int32)), (.ref b6)])) rfl (hb hby at_101) _ (XS.lxor X18.here hx rfl (hb hby at_104) rfl (XS.lload X18.here hx rfl (hb hby at_105) rfl k))))))) ?_
    show ownEnds _ _ _ _ (T18.setTop (mkF m 107 #[.val (.long qa), .second, .val (.long qb), .second, .val (.long qc), .second, .val (.long qd), .second, .val (.long qe), .second, .val (.int xk), .val (.int (2 : Int32)), .val (.long y0), .second, .val (.long y1), .second, .val (.long y2), .second, .val (.long y3), .second, .val (.long y4), .second, .val (.ref b6), .unset] [(.long y1), (.long (y1 ^^^ (-1 : Int64))), (.int (15 : Int32)), (.int (10 : Int32)), (.ref b6)]))
    obtain ⟨v19, T19, L19, X19, hQ19, st19⟩ := ownCallV X18 hx hZ hown (y := (⟨"com/example/vestline/vestline/engine/PayrollRows", "add", "(IIJJ)V"⟩ : MethodName)) (z := (⟨"com/example/vestline/vestline/engine/PayrollRows", "add", "(IIJJ)V"⟩ : MethodName)) (a := b6) (as := [(.int (10 : Int32)), (.int (15 : Int32)), (.long (y1 ^^^ (-1 : Int64))), (.long y1)]) (wd_28 hw) (wd_29 hw) (notFace_of_selects (args := #[]) (mvT hZ (wd_31 hw))) (wd_31 hw) (wd_30 hw) (wd_6 hw) (wd_32 hw) (by decide) (rm4a l Z a0 hw b6 (10 : Int32) (15 : Int32) (y1 ^^^ (-1 : Int64)) y1 (1 : Int32) (5 : Int32) ([y0] : List Int64) T18.heap n0 Z18 R18 (by decide) ⟨by decide, by decide⟩) rfl E18 0 (by decide) (by decide) (by decide) (by decide) (g := (mkF m 107 #[.val (.long qa), .second, .val (.long qb), .second, .val (.long qc), .second, .val (.long qd), .second, .val (.long qe), .second, .val (.int xk), .val (.int (2 : Int32)), .val (.long y0), .second, .val (.long y1), .second, .val (.long y2), .second, .val (.long y3), .second, .val (.long y4), .second, .val (.ref b6), .unset] [(.long y1), (.long (y1 ^^^ (-1 : Int64))), (.int (15 : Int32)), (.int (10 : Int32)), (.ref b6)])) rfl (by rw [hml]; rfl) (rest := []) pd_6 rfl rfl (by show 2 * 0 + _ ≤ _; exact Nat.le_of_eq rfl) (hb hby at_107)
    obtain ⟨rfl, Nq19, zq19, Rq19⟩ := hQ19
    have R19 : Rows Z n0 T19.heap b6 (2 : Int32) (15 : Int32) (4 : Int32) [y0, y1] := by
      have q2 : FMax (5 : Int32) (15 : Int32) = (15 : Int32) := by decide
      have q1 : (1 : Int32) + 1 = (2 : Int32) := by decide
      rw [q1, q2] at Rq19
      exact Rq19
    have N19 := Fr.app N18 Nq19
    have Z19 : n0 ≤ T19.heap.size := Nat.le_trans Z18 zq19
    have E19 := R19.exa
    refine ownEnds.law st19 ?_
    show ownEnds _ _ _ _ (T19.setTop (mkF m 110 #[.val (.long qa), .second, .val (.long qb), .second, .val (.long qc), .second, .val (.long qd), .second, .val (.long qe), .second, .val (.int xk), .val (.int (2 : Int32)), .val (.long y0), .second, .val (.long y1), .second, .val (.long y2), .second, .val (.long y3), .second, .val (.long y4), .second, .val (.ref b6), .unset] []))
    refine ownEnds.law (fun t k => XS.iload X19.here hx rfl (hb hby at_110) rfl (XS.iconst X19.here hx rfl (hb hby at_112) k)) ?_
    show ownEnds _ _ _ _ (T19.setTop (mkF m 113 #[.val (.long qa), .second, .val (.long qb), .second, .val (.long qc), .second, .val (.long qd), .second, .val (.long qe), .second, .val (.int xk), .val (.int (2 : Int32)), .val (.long y0), .second, .val (.long y1), .second, .val (.long y2), .second, .val (.long y3), .second, .val (.long y4), .second, .val (.ref b6), .unset] [(.int (2 : Int32)), (.int (2 : Int32))]))
    refine ownEnds.law (fun t => XS.icmpYes X19.here hx rfl (pc0 := 113) (pc' := 133) rfl (hb hby at_113) rfl (flt (Int32.lt_irrefl)).2.2.2 (by decide) (by decide)) ?_
    show ownEnds _ _ _ _ (T19.setTop (mkF m 133 #[.val (.long qa), .second, .val (.long qb), .second, .val (.long qc), .second, .val (.long qd), .second, .val (.long qe), .second, .val (.int xk), .val (.int (2 : Int32)), .val (.long y0), .second, .val (.long y1), .second, .val (.long y2), .second, .val (.long y3), .second, .val (.long y4), .second, .val (.ref b6), .unset] []))
    refine ownEnds.law (fun t k => XS.iload X19.here hx rfl (hb hby at_133) rfl (XS.iconst X19.here hx rfl (hb hby at_135) k)) ?_
    show ownEnds _ _ _ _ (T19.setTop (mkF m 136 #[.val (.long qa), .second, .val (.long qb), .second, .val (.long qc), .second, .val (.long qd), .second, .val (.long qe), .second, .val (.int xk), .val (.int (2 : Int32)), .val (.long y0), .second, .val (.long y1), .second, .val (.long y2), .second, .val (.long y3), .second, .val (.long y4), .second, .val (.ref b6), .unset] [(.int (3 : Int32)), (.int (2 : Int32))]))
    refine ownEnds.law (fun t => XS.icmpYes X19.here hx rfl (pc0 := 136) (pc' := 156) rfl (hb hby at_136) rfl (flt (by decide : ¬ ((3 : Int32) < (2 : Int32)))).2.2.2 (by decide) (by decide)) ?_
    show ownEnds _ _ _ _ (T19.setTop (mkF m 156 #[.val (.long qa), .second, .val (.long qb), .second, .val (.long qc), .second, .val (.long qd), .second, .val (.long qe), .second, .val (.int xk), .val (.int (2 : Int32)), .val (.long y0), .second, .val (.long y1), .second, .val (.long y2), .second, .val (.long y3), .second, .val (.long y4), .second, .val (.ref b6), .unset] []))
    refine ownEnds.law (fun t k => XS.iload X19.here hx rfl (hb hby at_156) rfl (XS.iconst X19.here hx rfl (hb hby at_158) k)) ?_
    show ownEnds _ _ _ _ (T19.setTop (mkF m 159 #[.val (.long qa), .second, .val (.long qb), .second, .val (.long qc), .second, .val (.long qd), .second, .val (.long qe), .second, .val (.int xk), .val (.int (2 : Int32)), .val (.long y0), .second, .val (.long y1), .second, .val (.long y2), .second, .val (.long y3), .second, .val (.long y4), .second, .val (.ref b6), .unset] [(.int (4 : Int32)), (.int (2 : Int32))]))
    refine ownEnds.law (fun t => XS.icmpYes X19.here hx rfl (pc0 := 159) (pc' := 179) rfl (hb hby at_159) rfl (flt (by decide : ¬ ((4 : Int32) < (2 : Int32)))).2.2.2 (by decide) (by decide)) ?_
    show ownEnds _ _ _ _ (T19.setTop (mkF m 179 #[.val (.long qa), .second, .val (.long qb), .second, .val (.long qc), .second, .val (.long qd), .second, .val (.long qe), .second, .val (.int xk), .val (.int (2 : Int32)), .val (.long y0), .second, .val (.long y1), .second, .val (.long y2), .second, .val (.long y3), .second, .val (.long y4), .second, .val (.ref b6), .unset] []))
    refine ownEnds.law (fun t k => XS.iconst X19.here hx rfl (hb hby at_179) (XS.istore X19.here hx rfl (hb hby at_180) rfl (l' := #[.val (.long qa), .second, .val (.long qb), .second, .val (.long qc), .second, .val (.long qd), .second, .val (.long qe), .second, .val (.int xk), .val (.int (2 : Int32)), .val (.long y0), .second, .val (.long y1), .second, .val (.long y2), .second, .val (.long y3), .second, .val (.long y4), .second, .val (.ref b6), .val (.int (1 : Int32))]) rfl (XS.iload X19.here hx rfl (hb hby at_182) rfl k))) ?_
    show ownEnds _ _ _ _ (T19.setTop (mkF m 184 #[.val (.long qa), .second, .val (.long qb), .second, .val (.long qc), .second, .val (.long qd), .second, .val (.long qe), .second, .val (.int xk), .val (.int (2 : Int32)), .val (.long y0), .second, .val (.long y1), .second, .val (.long y2), .second, .val (.long y3), .second, .val (.long y4), .second, .val (.ref b6), .val (.int (1 : Int32))] [(.int (2 : Int32))]))
    refine ownEnds.law (fun t => XS.ifNo X19.here hx rfl (hb hby at_184) rfl ((if0 _ _).trans (tlt (by decide : (0 : Int32) < (2 : Int32))).2.2.2)) ?_
    show ownEnds _ _ _ _ (T19.setTop (mkF m 187 #[.val (.long qa), .second, .val (.long qb), .second, .val (.long qc), .second, .val (.long qd), .second, .val (.long qe), .second, .val (.int xk), .val (.int (2 : Int32)), .val (.long y0), .second, .val (.long y1), .second, .val (.long y2), .second, .val (.long y3), .second, .val (.long y4), .second, .val (.ref b6), .val (.int (1 : Int32))] []))
    refine ownEnds.law (fun t k => XS.iload X19.here hx rfl (hb hby at_187) rfl k) ?_
    show ownEnds _ _ _ _ (T19.setTop (mkF m 189 #[.val (.long qa), .second, .val (.long qb), .second, .val (.long qc), .second, .val (.long qd), .second, .val (.long qe), .second, .val (.int xk), .val (.int (2 : Int32)), .val (.long y0), .second, .val (.long y1), .second, .val (.long y2), .second, .val (.long y3), .second, .val (.long y4), .second, .val (.ref b6), .val (.int (1 : Int32))] [(.int (1 : Int32))]))
    refine ownEnds.law (fun t => XS.ifNo X19.here hx rfl (hb hby at_189) rfl ((if0 _ _).trans (feq (by decide : ¬ ((1 : Int32) = (0 : Int32)))).1)) ?_
    show ownEnds _ _ _ _ (T19.setTop (mkF m 192 #[.val (.long qa), .second, .val (.long qb), .second, .val (.long qc), .second, .val (.long qd), .second, .val (.long qe), .second, .val (.int xk), .val (.int (2 : Int32)), .val (.long y0), .second, .val (.long y1), .second, .val (.long y2), .second, .val (.long y3), .second, .val (.long y4), .second, .val (.ref b6), .val (.int (1 : Int32))] []))
    refine ownEnds.law (fun t k => XS.aload X19.here hx rfl (hb hby at_192) rfl rfl (XS.iconst X19.here hx rfl (hb hby at_194) k)) ?_
    show ownEnds _ _ _ _ (T19.setTop (mkF m 195 #[.val (.long qa), .second, .val (.long qb), .second, .val (.long qc), .second, .val (.long qd), .second, .val (.long qe), .second, .val (.int xk), .val (.int (2 : Int32)), .val (.long y0), .second, .val (.long y1), .second, .val (.long y2), .second, .val (.long y3), .second, .val (.long y4), .second, .val (.ref b6), .val (.int (1 : Int32))] [(.int (0 : Int32)), (.ref b6)]))
    obtain ⟨v20, T20, L20, X20, hQ20, st20⟩ := ownCallV X19 hx hZ hown (y := (⟨"com/example/vestline/vestline/engine/PayrollRows", "cents", "(I)J"⟩ : MethodName)) (z := (⟨"com/example/vestline/vestline/engine/PayrollRows", "cents", "(I)J"⟩ : MethodName)) (a := b6) (as := [(.int (0 : Int32))]) (wd_50 hw) (wd_51 hw) (notFace_of_selects (args := #[]) (mvT hZ (wd_53 hw))) (wd_53 hw) (wd_52 hw) (wd_6 hw) (wd_54 hw) (by decide) (rm8 l Z a0 hw b6 (0 : Int32) (2 : Int32) (15 : Int32) (4 : Int32) [y0, y1] T19.heap n0 Z19 R19 ⟨by decide, by decide⟩ (show (0 : Int32).toNatClampNeg < 2 from by decide)) rfl E19 0 (by decide) (by decide) (by decide) (by decide) (g := (mkF m 195 #[.val (.long qa), .second, .val (.long qb), .second, .val (.long qc), .second, .val (.long qd), .second, .val (.long qe), .second, .val (.int xk), .val (.int (2 : Int32)), .val (.long y0), .second, .val (.long y1), .second, .val (.long y2), .second, .val (.long y3), .second, .val (.long y4), .second, .val (.ref b6), .val (.int (1 : Int32))] [(.int (0 : Int32)), (.ref b6)])) rfl (by rw [hml]; rfl) (rest := []) pd_7 rfl rfl (by show 2 * 0 + _ ≤ _; exact Nat.le_of_eq rfl) (hb hby at_195)
    obtain ⟨rfl, rfl, e20⟩ := hQ20
    rw [List.append_nil] at X20
    refine ownEnds.law st20 ?_
    show ownEnds _ _ _ _ (T20.setTop (mkF m 198 #[.val (.long qa), .second, .val (.long qb), .second, .val (.long qc), .second, .val (.long qd), .second, .val (.long qe), .second, .val (.int xk), .val (.int (2 : Int32)), .val (.long y0), .second, .val (.long y1), .second, .val (.long y2), .second, .val (.long y3), .second, .val (.long y4), .second, .val (.ref b6), .val (.int (1 : Int32))] [(.long y0)]))
    refine ownEnds.law (fun t k => XS.lload X20.here hx rfl (hb hby at_198) rfl (XS.lcmp X20.here hx rfl (hb hby at_200) rfl k)) ?_
    show ownEnds _ _ _ _ (T20.setTop (mkF m 201 #[.val (.long qa), .second, .val (.long qb), .second, .val (.long qc), .second, .val (.long qd), .second, .val (.long qe), .second, .val (.int xk), .val (.int (2 : Int32)), .val (.long y0), .second, .val (.long y1), .second, .val (.long y2), .second, .val (.long y3), .second, .val (.long y4), .second, .val (.ref b6), .val (.int (1 : Int32))] [(.int (lcmpW y0 y0))]))
    refine ownEnds.law (fun t => XS.ifNo X20.here hx rfl (hb hby at_201) rfl ((if0 _ _).trans (teq ((lw_eq _ _).mpr (rfl : y0 = y0))).2)) ?_
    show ownEnds _ _ _ _ (T20.setTop (mkF m 204 #[.val (.long qa), .second, .val (.long qb), .second, .val (.long qc), .second, .val (.long qd), .second, .val (.long qe), .second, .val (.int xk), .val (.int (2 : Int32)), .val (.long y0), .second, .val (.long y1), .second, .val (.long y2), .second, .val (.long y3), .second, .val (.long y4), .second, .val (.ref b6), .val (.int (1 : Int32))] []))
    refine ownEnds.law (fun t k => XS.iconst X20.here hx rfl (hb hby at_204) (XS.goto X20.here hx rfl (pc0 := 205) (pc' := 209) rfl (hb hby at_205) (by decide) (by decide) (XS.istore X20.here hx rfl (hb hby at_209) rfl (l' := #[.val (.long qa), .second, .val (.long qb), .second, .val (.long qc), .second, .val (.long qd), .second, .val (.long qe), .second, .val (.int xk), .val (.int (2 : Int32)), .val (.long y0), .second, .val (.long y1), .second, .val (.long y2), .second, .val (.long y3), .second, .val (.long y4), .second, .val (.ref b6), .val (.int (1 : Int32))]) rfl (XS.iload X20.here hx rfl (hb hby at_211) rfl (XS.iconst X20.here hx rfl (hb hby at_213) k))))) ?_
    show ownEnds _ _ _ _ (T20.setTop (mkF m 214 #[.val (.long qa), .second, .val (.long qb), .second, .val (.long qc), .second, .val (.long qd), .second, .val (.long qe), .second, .val (.int xk), .val (.int (2 : Int32)), .val (.long y0), .second, .val (.long y1), .second, .val (.long y2), .second, .val (.long y3), .second, .val (.long y4), .second, .val (.ref b6), .val (.int (1 : Int32))] [(.int (1 : Int32)), (.int (2 : Int32))]))
    refine ownEnds.law (fun t => XS.icmpNo X20.here hx rfl (hb hby at_214) rfl (tlt (by decide : (1 : Int32) < (2 : Int32))).2.2.2) ?_
    show ownEnds _ _ _ _ (T20.setTop (mkF m 217 #[.val (.long qa), .second, .val (.long qb), .second, .val (.long qc), .second, .val (.long qd), .second, .val (.long qe), .second, .val (.int xk), .val (.int (2 : Int32)), .val (.long y0), .second, .val (.long y1), .second, .val (.long y2), .second, .val (.long y3), .second, .val (.long y4), .second, .val (.ref b6), .val (.int (1 : Int32))] []))
    refine ownEnds.law (fun t k => XS.iload X20.here hx rfl (hb hby at_217) rfl k) ?_
    show ownEnds _ _ _ _ (T20.setTop (mkF m 219 #[.val (.long qa), .second, .val (.long qb), .second, .val (.long qc), .second, .val (.long qd), .second, .val (.long qe), .second, .val (.int xk), .val (.int (2 : Int32)), .val (.long y0), .second, .val (.long y1), .second, .val (.long y2), .second, .val (.long y3), .second, .val (.long y4), .second, .val (.ref b6), .val (.int (1 : Int32))] [(.int (1 : Int32))]))
    refine ownEnds.law (fun t => XS.ifNo X20.here hx rfl (hb hby at_219) rfl ((if0 _ _).trans (feq (by decide : ¬ ((1 : Int32) = (0 : Int32)))).1)) ?_
    show ownEnds _ _ _ _ (T20.setTop (mkF m 222 #[.val (.long qa), .second, .val (.long qb), .second, .val (.long qc), .second, .val (.long qd), .second, .val (.long qe), .second, .val (.int xk), .val (.int (2 : Int32)), .val (.long y0), .second, .val (.long y1), .second, .val (.long y2), .second, .val (.long y3), .second, .val (.long y4), .second, .val (.ref b6), .val (.int (1 : Int32))] []))
    refine ownEnds.law (fun t k => XS.aload X20.here hx rfl (hb hby at_222) rfl rfl (XS.iconst X20.here hx rfl (hb hby at_224) k)) ?_
    show ownEnds _ _ _ _ (T20.setTop (mkF m 225 #[.val (.long qa), .second, .val (.long qb), .second, .val (.long qc), .second, .val (.long qd), .second, .val (.long qe), .second, .val (.int xk), .val (.int (2 : Int32)), .val (.long y0), .second, .val (.long y1), .second, .val (.long y2), .second, .val (.long y3), .second, .val (.long y4), .second, .val (.ref b6), .val (.int (1 : Int32))] [(.int (1 : Int32)), (.ref b6)]))
    obtain ⟨v21, T21, L21, X21, hQ21, st21⟩ := ownCallV X20 hx hZ hown (y := (⟨"com/example/vestline/vestline/engine/PayrollRows", "cents", "(I)J"⟩ : MethodName)) (z := (⟨"com/example/vestline/vestline/engine/PayrollRows", "cents", "(I)J"⟩ : MethodName)) (a := b6) (as := [(.int (1 : Int32))]) (wd_50 hw) (wd_51 hw) (notFace_of_selects (args := #[]) (mvT hZ (wd_53 hw))) (wd_53 hw) (wd_52 hw) (wd_6 hw) (wd_54 hw) (by decide) (rm8 l Z a0 hw b6 (1 : Int32) (2 : Int32) (15 : Int32) (4 : Int32) [y0, y1] T19.heap n0 Z19 R19 ⟨by decide, by decide⟩ (show (1 : Int32).toNatClampNeg < 2 from by decide)) e20 E19 0 (by decide) (by decide) (by decide) (by decide) (g := (mkF m 225 #[.val (.long qa), .second, .val (.long qb), .second, .val (.long qc), .second, .val (.long qd), .second, .val (.long qe), .second, .val (.int xk), .val (.int (2 : Int32)), .val (.long y0), .second, .val (.long y1), .second, .val (.long y2), .second, .val (.long y3), .second, .val (.long y4), .second, .val (.ref b6), .val (.int (1 : Int32))] [(.int (1 : Int32)), (.ref b6)])) rfl (by rw [hml]; rfl) (rest := []) pd_7 rfl rfl (by show 2 * 0 + _ ≤ _; exact Nat.le_of_eq rfl) (hb hby at_225)
    obtain ⟨rfl, rfl, e21⟩ := hQ21
    rw [List.append_nil] at X21
    refine ownEnds.law st21 ?_
    show ownEnds _ _ _ _ (T21.setTop (mkF m 228 #[.val (.long qa), .second, .val (.long qb), .second, .val (.long qc), .second, .val (.long qd), .second, .val (.long qe), .second, .val (.int xk), .val (.int (2 : Int32)), .val (.long y0), .second, .val (.long y1), .second, .val (.long y2), .second, .val (.long y3), .second, .val (.long y4), .second, .val (.ref b6), .val (.int (1 : Int32))] [(.long y1)]))
    refine ownEnds.law (fun t k => XS.lload X21.here hx rfl (hb hby at_228) rfl (XS.lcmp X21.here hx rfl (hb hby at_230) rfl k)) ?_
    show ownEnds _ _ _ _ (T21.setTop (mkF m 231 #[.val (.long qa), .second, .val (.long qb), .second, .val (.long qc), .second, .val (.long qd), .second, .val (.long qe), .second, .val (.int xk), .val (.int (2 : Int32)), .val (.long y0), .second, .val (.long y1), .second, .val (.long y2), .second, .val (.long y3), .second, .val (.long y4), .second, .val (.ref b6), .val (.int (1 : Int32))] [(.int (lcmpW y1 y1))]))
    refine ownEnds.law (fun t => XS.ifNo X21.here hx rfl (hb hby at_231) rfl ((if0 _ _).trans (teq ((lw_eq _ _).mpr (rfl : y1 = y1))).2)) ?_
    show ownEnds _ _ _ _ (T21.setTop (mkF m 234 #[.val (.long qa), .second, .val (.long qb), .second, .val (.long qc), .second, .val (.long qd), .second, .val (.long qe), .second, .val (.int xk), .val (.int (2 : Int32)), .val (.long y0), .second, .val (.long y1), .second, .val (.long y2), .second, .val (.long y3), .second, .val (.long y4), .second, .val (.ref b6), .val (.int (1 : Int32))] []))
    refine ownEnds.law (fun t k => XS.iconst X21.here hx rfl (hb hby at_234) (XS.goto X21.here hx rfl (pc0 := 235) (pc' := 239) rfl (hb hby at_235) (by decide) (by decide) (XS.istore X21.here hx rfl (hb hby at_239) rfl (l' := #[.val (.long qa), .second, .val (.long qb), .second, .val (.long qc), .second, .val (.long qd), .second, .val (.long qe), .second, .val (.int xk), .val (.int (2 : Int32)), .val (.long y0), .second, .val (.long y1), .second, .val (.long y2), .second, .val (.long y3), .second, .val (.long y4), .second, .val (.ref b6), .val (.int (1 : Int32))]) rfl (XS.iload X21.here hx rfl (hb hby at_241) rfl (XS.iconst X21.here hx rfl (hb hby at_243) k))))) ?_
    show ownEnds _ _ _ _ (T21.setTop (mkF m 244 #[.val (.long qa), .second, .val (.long qb), .second, .val (.long qc), .second, .val (.long qd), .second, .val (.long qe), .second, .val (.int xk), .val (.int (2 : Int32)), .val (.long y0), .second, .val (.long y1), .second, .val (.long y2), .second, .val (.long y3), .second, .val (.long y4), .second, .val (.ref b6), .val (.int (1 : Int32))] [(.int (2 : Int32)), (.int (2 : Int32))]))
    refine ownEnds.law (fun t => XS.icmpYes X21.here hx rfl (pc0 := 244) (pc' := 271) rfl (hb hby at_244) rfl (flt (Int32.lt_irrefl)).2.2.2 (by decide) (by decide)) ?_
    show ownEnds _ _ _ _ (T21.setTop (mkF m 271 #[.val (.long qa), .second, .val (.long qb), .second, .val (.long qc), .second, .val (.long qd), .second, .val (.long qe), .second, .val (.int xk), .val (.int (2 : Int32)), .val (.long y0), .second, .val (.long y1), .second, .val (.long y2), .second, .val (.long y3), .second, .val (.long y4), .second, .val (.ref b6), .val (.int (1 : Int32))] []))
    refine ownEnds.law (fun t k => XS.iload X21.here hx rfl (hb hby at_271) rfl (XS.iconst X21.here hx rfl (hb hby at_273) k)) ?_
    show ownEnds _ _ _ _ (T21.setTop (mkF m 274 #[.val (.long qa), .second, .val (.long qb), .second, .val (.long qc), .second, .val (.long qd), .second, .val (.long qe), .second, .val (.int xk), .val (.int (2 : Int32)), .val (.long y0), .second, .val (.long y1), .second, .val (.long y2), .second, .val (.long y3), .second, .val (.long y4), .second, .val (.ref b6), .val (.int (1 : Int32))] [(.int (3 : Int32)), (.int (2 : Int32))]))
    refine ownEnds.law (fun t => XS.icmpYes X21.here hx rfl (pc0 := 274) (pc' := 301) rfl (hb hby at_274) rfl (flt (by decide : ¬ ((3 : Int32) < (2 : Int32)))).2.2.2 (by decide) (by decide)) ?_
    show ownEnds _ _ _ _ (T21.setTop (mkF m 301 #[.val (.long qa), .second, .val (.long qb), .second, .val (.long qc), .second, .val (.long qd), .second, .val (.long qe), .second, .val (.int xk), .val (.int (2 : Int32)), .val (.long y0), .second, .val (.long y1), .second, .val (.long y2), .second, .val (.long y3), .second, .val (.long y4), .second, .val (.ref b6), .val (.int (1 : Int32))] []))
    refine ownEnds.law (fun t k => XS.iload X21.here hx rfl (hb hby at_301) rfl (XS.iconst X21.here hx rfl (hb hby at_303) k)) ?_
    show ownEnds _ _ _ _ (T21.setTop (mkF m 304 #[.val (.long qa), .second, .val (.long qb), .second, .val (.long qc), .second, .val (.long qd), .second, .val (.long qe), .second, .val (.int xk), .val (.int (2 : Int32)), .val (.long y0), .second, .val (.long y1), .second, .val (.long y2), .second, .val (.long y3), .second, .val (.long y4), .second, .val (.ref b6), .val (.int (1 : Int32))] [(.int (4 : Int32)), (.int (2 : Int32))]))
    refine ownEnds.law (fun t => XS.icmpYes X21.here hx rfl (pc0 := 304) (pc' := 331) rfl (hb hby at_304) rfl (flt (by decide : ¬ ((4 : Int32) < (2 : Int32)))).2.2.2 (by decide) (by decide)) ?_
    show ownEnds _ _ _ _ (T21.setTop (mkF m 331 #[.val (.long qa), .second, .val (.long qb), .second, .val (.long qc), .second, .val (.long qd), .second, .val (.long qe), .second, .val (.int xk), .val (.int (2 : Int32)), .val (.long y0), .second, .val (.long y1), .second, .val (.long y2), .second, .val (.long y3), .second, .val (.long y4), .second, .val (.ref b6), .val (.int (1 : Int32))] []))
    refine ownEnds.law (fun t k => XS.iload X21.here hx rfl (hb hby at_331) rfl k) ?_
    show ownEnds _ _ _ _ (T21.setTop (mkF m 333 #[.val (.long qa), .second, .val (.long qb), .second, .val (.long qc), .second, .val (.long qd), .second, .val (.long qe), .second, .val (.int xk), .val (.int (2 : Int32)), .val (.long y0), .second, .val (.long y1), .second, .val (.long y2), .second, .val (.long y3), .second, .val (.long y4), .second, .val (.ref b6), .val (.int (1 : Int32))] [(.int (1 : Int32))]))
    refine ownRetN X21 hlk hx (t := .boolean) hret (by simp) (hb hby at_333) (by decide) (by decide) ?_
    exact ⟨rfl, N19⟩
  · show ownEnds _ _ _ _ (T15.setTop (mkF m 67 #[.val (.long qa), .second, .val (.long qb), .second, .val (.long qc), .second, .val (.long qd), .second, .val (.long qe), .second, .val (.int xk), .val (.int (3 : Int32)), .val (.long y0), .second, .val (.long y1), .second, .val (.long y2), .second, .val (.long y3), .second, .val (.long y4), .second, .val (.ref b6), .unset] []))
    refine ownEnds.law (fun t k => XS.iload X15.here hx rfl (hb hby at_67) rfl k) ?_
    show ownEnds _ _ _ _ (T15.setTop (mkF m 69 #[.val (.long qa), .second, .val (.long qb), .second, .val (.long qc), .second, .val (.long qd), .second, .val (.long qe), .second, .val (.int xk), .val (.int (3 : Int32)), .val (.long y0), .second, .val (.long y1), .second, .val (.long y2), .second, .val (.long y3), .second, .val (.long y4), .second, .val (.ref b6), .unset] [(.int (3 : Int32))]))
    refine ownEnds.law (fun t => XS.ifNo X15.here hx rfl (hb hby at_69) rfl ((if0 _ _).trans (tlt (by decide : (0 : Int32) < (3 : Int32))).2.2.2)) ?_
    show ownEnds _ _ _ _ (T15.setTop (mkF m 72 #[.val (.long qa), .second, .val (.long qb), .second, .val (.long qc), .second, .val (.long qd), .second, .val (.long qe), .second, .val (.int xk), .val (.int (3 : Int32)), .val (.long y0), .second, .val (.long y1), .second, .val (.long y2), .second, .val (.long y3), .second, .val (.long y4), .second, .val (.ref b6), .unset] []))
    refine ownEnds.law (fun t k => XS.aload X15.here hx rfl (hb hby at_72) rfl rfl (XS.iconst X15.here hx rfl (hb hby at_74) (XS.iconst X15.here hx rfl (hb hby at_75) (XS.lload X15.here hx rfl (hb hby at_76) rfl (X15.ldc2Long hx hown (mvT hZ (wd_27 hw)) (g := (mkF m 78 #[.val (.long qa), .second, .val (.long qb), .second, .val (.long qc), .second, .val (.long qd), .second, .val (.long qe), .second, .val (.int xk), .val (.int (3 : Int32)), .val (.long y0), .second, .val (.long y1), .second, .val (.long y2), .second, .val (.long y3), .second, .val (.long y4), .second, .val (.ref b6), .unset] [(.long y0), (.int (5 : Int32)), (.int (0 : Int32)), (.ref b6)])) rfl (hb hby at_78) _ (XS.lxor X15.here hx rfl (hb hby at_81) rfl (XS.lload X15.here hx rfl (hb hby at_82) rfl k))))))) ?_
    show ownEnds _ _ _ _ (T15.setTop (mkF m 84 #[.val (.long qa), .second, .val (.long qb), .second, .val (.long qc), .second, .val (.long qd), .second, .val (.long qe), .second, .val (.int xk), .val (.int (3 : Int32)), .val (.long y0), .second, .val (.long y1), .second, .val (.long y2), .second, .val (.long y3), .second, .val (.long y4), .second, .val (.ref b6), .unset] [(.long y0), (.long (y0 ^^^ (-1 : Int64))), (.int (5 : Int32)), (.int (0 : Int32)), (.ref b6)]))
    obtain ⟨v22, T22, L22, X22, hQ22, st22⟩ := ownCallV X15 hx hZ hown (y := (⟨"com/example/vestline/vestline/engine/PayrollRows", "add", "(IIJJ)V"⟩ : MethodName)) (z := (⟨"com/example/vestline/vestline/engine/PayrollRows", "add", "(IIJJ)V"⟩ : MethodName)) (a := b6) (as := [(.int (0 : Int32)), (.int (5 : Int32)), (.long (y0 ^^^ (-1 : Int64))), (.long y0)]) (wd_28 hw) (wd_29 hw) (notFace_of_selects (args := #[]) (mvT hZ (wd_31 hw))) (wd_31 hw) (wd_30 hw) (wd_6 hw) (wd_32 hw) (by decide) (rm4a l Z a0 hw b6 (0 : Int32) (5 : Int32) (y0 ^^^ (-1 : Int64)) y0 (0 : Int32) (-2147483648 : Int32) ([] : List Int64) T15.heap n0 Z15 R15 (by decide) ⟨by decide, by decide⟩) rfl E15 0 (by decide) (by decide) (by decide) (by decide) (g := (mkF m 84 #[.val (.long qa), .second, .val (.long qb), .second, .val (.long qc), .second, .val (.long qd), .second, .val (.long qe), .second, .val (.int xk), .val (.int (3 : Int32)), .val (.long y0), .second, .val (.long y1), .second, .val (.long y2), .second, .val (.long y3), .second, .val (.long y4), .second, .val (.ref b6), .unset] [(.long y0), (.long (y0 ^^^ (-1 : Int64))), (.int (5 : Int32)), (.int (0 : Int32)), (.ref b6)])) rfl (by rw [hml]; rfl) (rest := []) pd_6 rfl rfl (by show 2 * 0 + _ ≤ _; exact Nat.le_of_eq rfl) (hb hby at_84)
    obtain ⟨rfl, Nq22, zq22, Rq22⟩ := hQ22
    have R22 : Rows Z n0 T22.heap b6 (1 : Int32) (5 : Int32) (4 : Int32) [y0] := by
      have q2 : FMax (-2147483648 : Int32) (5 : Int32) = (5 : Int32) := by decide
      have q1 : (0 : Int32) + 1 = (1 : Int32) := by decide
      rw [q1, q2] at Rq22
      exact Rq22
    have N22 := Fr.app N15 Nq22
    have Z22 : n0 ≤ T22.heap.size := Nat.le_trans Z15 zq22
    have E22 := R22.exa
    refine ownEnds.law st22 ?_
    show ownEnds _ _ _ _ (T22.setTop (mkF m 87 #[.val (.long qa), .second, .val (.long qb), .second, .val (.long qc), .second, .val (.long qd), .second, .val (.long qe), .second, .val (.int xk), .val (.int (3 : Int32)), .val (.long y0), .second, .val (.long y1), .second, .val (.long y2), .second, .val (.long y3), .second, .val (.long y4), .second, .val (.ref b6), .unset] []))
    refine ownEnds.law (fun t k => XS.iload X22.here hx rfl (hb hby at_87) rfl (XS.iconst X22.here hx rfl (hb hby at_89) k)) ?_
    show ownEnds _ _ _ _ (T22.setTop (mkF m 90 #[.val (.long qa), .second, .val (.long qb), .second, .val (.long qc), .second, .val (.long qd), .second, .val (.long qe), .second, .val (.int xk), .val (.int (3 : Int32)), .val (.long y0), .second, .val (.long y1), .second, .val (.long y2), .second, .val (.long y3), .second, .val (.long y4), .second, .val (.ref b6), .unset] [(.int (1 : Int32)), (.int (3 : Int32))]))
    refine ownEnds.law (fun t => XS.icmpNo X22.here hx rfl (hb hby at_90) rfl (tlt (by decide : (1 : Int32) < (3 : Int32))).2.2.2) ?_
    show ownEnds _ _ _ _ (T22.setTop (mkF m 93 #[.val (.long qa), .second, .val (.long qb), .second, .val (.long qc), .second, .val (.long qd), .second, .val (.long qe), .second, .val (.int xk), .val (.int (3 : Int32)), .val (.long y0), .second, .val (.long y1), .second, .val (.long y2), .second, .val (.long y3), .second, .val (.long y4), .second, .val (.ref b6), .unset] []))
    refine ownEnds.law (fun t k => XS.aload X22.here hx rfl (hb hby at_93) rfl rfl (XS.bipush X22.here hx rfl (hb hby at_95) (XS.bipush X22.here hx rfl (hb hby at_97) (XS.lload X22.here hx rfl (hb hby at_99) rfl (X22.ldc2Long hx hown (mvT hZ (wd_27 hw)) (g := (mkF m 101 #[.val (.long qa), .second, .val (.long qb), .second, .val (.long qc), .second, .val (.long qd), .second, .val (.long qe), .second, .val (.int xk), .val (.int (3 : Int32)), .val (.long y0), .second, .val (.long y1), .second, .val (.long y2), .second, .val (.long y3), .second, .val (.long y4), .second, .val (.ref b6), .unset] [(.long y1), (.int (15 : Int32)), (.int (10 : Int32)), (.ref b6)])) rfl (hb hby at_101) _ (XS.lxor X22.here hx rfl (hb hby at_104) rfl (XS.lload X22.here hx rfl (hb hby at_105) rfl k))))))) ?_
    show ownEnds _ _ _ _ (T22.setTop (mkF m 107 #[.val (.long qa), .second, .val (.long qb), .second, .val (.long qc), .second, .val (.long qd), .second, .val (.long qe), .second, .val (.int xk), .val (.int (3 : Int32)), .val (.long y0), .second, .val (.long y1), .second, .val (.long y2), .second, .val (.long y3), .second, .val (.long y4), .second, .val (.ref b6), .unset] [(.long y1), (.long (y1 ^^^ (-1 : Int64))), (.int (15 : Int32)), (.int (10 : Int32)), (.ref b6)]))
    obtain ⟨v23, T23, L23, X23, hQ23, st23⟩ := ownCallV X22 hx hZ hown (y := (⟨"com/example/vestline/vestline/engine/PayrollRows", "add", "(IIJJ)V"⟩ : MethodName)) (z := (⟨"com/example/vestline/vestline/engine/PayrollRows", "add", "(IIJJ)V"⟩ : MethodName)) (a := b6) (as := [(.int (10 : Int32)), (.int (15 : Int32)), (.long (y1 ^^^ (-1 : Int64))), (.long y1)]) (wd_28 hw) (wd_29 hw) (notFace_of_selects (args := #[]) (mvT hZ (wd_31 hw))) (wd_31 hw) (wd_30 hw) (wd_6 hw) (wd_32 hw) (by decide) (rm4a l Z a0 hw b6 (10 : Int32) (15 : Int32) (y1 ^^^ (-1 : Int64)) y1 (1 : Int32) (5 : Int32) ([y0] : List Int64) T22.heap n0 Z22 R22 (by decide) ⟨by decide, by decide⟩) rfl E22 0 (by decide) (by decide) (by decide) (by decide) (g := (mkF m 107 #[.val (.long qa), .second, .val (.long qb), .second, .val (.long qc), .second, .val (.long qd), .second, .val (.long qe), .second, .val (.int xk), .val (.int (3 : Int32)), .val (.long y0), .second, .val (.long y1), .second, .val (.long y2), .second, .val (.long y3), .second, .val (.long y4), .second, .val (.ref b6), .unset] [(.long y1), (.long (y1 ^^^ (-1 : Int64))), (.int (15 : Int32)), (.int (10 : Int32)), (.ref b6)])) rfl (by rw [hml]; rfl) (rest := []) pd_6 rfl rfl (by show 2 * 0 + _ ≤ _; exact Nat.le_of_eq rfl) (hb hby at_107)
    obtain ⟨rfl, Nq23, zq23, Rq23⟩ := hQ23
    have R23 : Rows Z n0 T23.heap b6 (2 : Int32) (15 : Int32) (4 : Int32) [y0, y1] := by
      have q2 : FMax (5 : Int32) (15 : Int32) = (15 : Int32) := by decide
      have q1 : (1 : Int32) + 1 = (2 : Int32) := by decide
      rw [q1, q2] at Rq23
      exact Rq23
    have N23 := Fr.app N22 Nq23
    have Z23 : n0 ≤ T23.heap.size := Nat.le_trans Z22 zq23
    have E23 := R23.exa
    refine ownEnds.law st23 ?_
    show ownEnds _ _ _ _ (T23.setTop (mkF m 110 #[.val (.long qa), .second, .val (.long qb), .second, .val (.long qc), .second, .val (.long qd), .second, .val (.long qe), .second, .val (.int xk), .val (.int (3 : Int32)), .val (.long y0), .second, .val (.long y1), .second, .val (.long y2), .second, .val (.long y3), .second, .val (.long y4), .second, .val (.ref b6), .unset] []))
    refine ownEnds.law (fun t k => XS.iload X23.here hx rfl (hb hby at_110) rfl (XS.iconst X23.here hx rfl (hb hby at_112) k)) ?_
    show ownEnds _ _ _ _ (T23.setTop (mkF m 113 #[.val (.long qa), .second, .val (.long qb), .second, .val (.long qc), .second, .val (.long qd), .second, .val (.long qe), .second, .val (.int xk), .val (.int (3 : Int32)), .val (.long y0), .second, .val (.long y1), .second, .val (.long y2), .second, .val (.long y3), .second, .val (.long y4), .second, .val (.ref b6), .unset] [(.int (2 : Int32)), (.int (3 : Int32))]))
    refine ownEnds.law (fun t => XS.icmpNo X23.here hx rfl (hb hby at_113) rfl (tlt (by decide : (2 : Int32) < (3 : Int32))).2.2.2) ?_
    show ownEnds _ _ _ _ (T23.setTop (mkF m 116 #[.val (.long qa), .second, .val (.long qb), .second, .val (.long qc), .second, .val (.long qd), .second, .val (.long qe), .second, .val (.int xk), .val (.int (3 : Int32)), .val (.long y0), .second, .val (.long y1), .second, .val (.long y2), .second, .val (.long y3), .second, .val (.long y4), .second, .val (.ref b6), .unset] []))
    refine ownEnds.law (fun t k => XS.aload X23.here hx rfl (hb hby at_116) rfl rfl (XS.bipush X23.here hx rfl (hb hby at_118) (XS.bipush X23.here hx rfl (hb hby at_120) (XS.lload X23.here hx rfl (hb hby at_122) rfl (X23.ldc2Long hx hown (mvT hZ (wd_27 hw)) (g := (mkF m 124 #[.val (.long qa), .second, .val (.long qb), .second, .val (.long qc), .second, .val (.long qd), .second, .val (.long qe), .second, .val (.int xk), .val (.int (3 : Int32)), .val (.long y0), .second, .val (.long y1), .second, .val (.long y2), .second, .val (.long y3), .second, .val (.long y4), .second, .val (.ref b6), .unset] [(.long y2), (.int (25 : Int32)), (.int (20 : Int32)), (.ref b6)])) rfl (hb hby at_124) _ (XS.lxor X23.here hx rfl (hb hby at_127) rfl (XS.lload X23.here hx rfl (hb hby at_128) rfl k))))))) ?_
    show ownEnds _ _ _ _ (T23.setTop (mkF m 130 #[.val (.long qa), .second, .val (.long qb), .second, .val (.long qc), .second, .val (.long qd), .second, .val (.long qe), .second, .val (.int xk), .val (.int (3 : Int32)), .val (.long y0), .second, .val (.long y1), .second, .val (.long y2), .second, .val (.long y3), .second, .val (.long y4), .second, .val (.ref b6), .unset] [(.long y2), (.long (y2 ^^^ (-1 : Int64))), (.int (25 : Int32)), (.int (20 : Int32)), (.ref b6)]))
    obtain ⟨v24, T24, L24, X24, hQ24, st24⟩ := ownCallV X23 hx hZ hown (y := (⟨"com/example/vestline/vestline/engine/PayrollRows", "add", "(IIJJ)V"⟩ : MethodName)) (z := (⟨"com/example/vestline/vestline/engine/PayrollRows", "add", "(IIJJ)V"⟩ : MethodName)) (a := b6) (as := [(.int (20 : Int32)), (.int (25 : Int32)), (.long (y2 ^^^ (-1 : Int64))), (.long y2)]) (wd_28 hw) (wd_29 hw) (notFace_of_selects (args := #[]) (mvT hZ (wd_31 hw))) (wd_31 hw) (wd_30 hw) (wd_6 hw) (wd_32 hw) (by decide) (rm4a l Z a0 hw b6 (20 : Int32) (25 : Int32) (y2 ^^^ (-1 : Int64)) y2 (2 : Int32) (15 : Int32) ([y0, y1] : List Int64) T23.heap n0 Z23 R23 (by decide) ⟨by decide, by decide⟩) rfl E23 0 (by decide) (by decide) (by decide) (by decide) (g := (mkF m 130 #[.val (.long qa), .second, .val (.long qb), .second, .val (.long qc), .second, .val (.long qd), .second, .val (.long qe), .second, .val (.int xk), .val (.int (3 : Int32)), .val (.long y0), .second, .val (.long y1), .second, .val (.long y2), .second, .val (.long y3), .second, .val (.long y4), .second, .val (.ref b6), .unset] [(.long y2), (.long (y2 ^^^ (-1 : Int64))), (.int (25 : Int32)), (.int (20 : Int32)), (.ref b6)])) rfl (by rw [hml]; rfl) (rest := []) pd_6 rfl rfl (by show 2 * 0 + _ ≤ _; exact Nat.le_of_eq rfl) (hb hby at_130)
    obtain ⟨rfl, Nq24, zq24, Rq24⟩ := hQ24
    have R24 : Rows Z n0 T24.heap b6 (3 : Int32) (25 : Int32) (4 : Int32) [y0, y1, y2] := by
      have q2 : FMax (15 : Int32) (25 : Int32) = (25 : Int32) := by decide
      have q1 : (2 : Int32) + 1 = (3 : Int32) := by decide
      rw [q1, q2] at Rq24
      exact Rq24
    have N24 := Fr.app N23 Nq24
    have Z24 : n0 ≤ T24.heap.size := Nat.le_trans Z23 zq24
    have E24 := R24.exa
    refine ownEnds.law st24 ?_
    show ownEnds _ _ _ _ (T24.setTop (mkF m 133 #[.val (.long qa), .second, .val (.long qb), .second, .val (.long qc), .second, .val (.long qd), .second, .val (.long qe), .second, .val (.int xk), .val (.int (3 : Int32)), .val (.long y0), .second, .val (.long y1), .second, .val (.long y2), .second, .val (.long y3), .second, .val (.long y4), .second, .val (.ref b6), .unset] []))
    refine ownEnds.law (fun t k => XS.iload X24.here hx rfl (hb hby at_133) rfl (XS.iconst X24.here hx rfl (hb hby at_135) k)) ?_
    show ownEnds _ _ _ _ (T24.setTop (mkF m 136 #[.val (.long qa), .second, .val (.long qb), .second, .val (.long qc), .second, .val (.long qd), .second, .val (.long qe), .second, .val (.int xk), .val (.int (3 : Int32)), .val (.long y0), .second, .val (.long y1), .second, .val (.long y2), .second, .val (.long y3), .second, .val (.long y4), .second, .val (.ref b6), .unset] [(.int (3 : Int32)), (.int (3 : Int32))]))
    refine ownEnds.law (fun t => XS.icmpYes X24.here hx rfl (pc0 := 136) (pc' := 156) rfl (hb hby at_136) rfl (flt (Int32.lt_irrefl)).2.2.2 (by decide) (by decide)) ?_
    show ownEnds _ _ _ _ (T24.setTop (mkF m 156 #[.val (.long qa), .second, .val (.long qb), .second, .val (.long qc), .second, .val (.long qd), .second, .val (.long qe), .second, .val (.int xk), .val (.int (3 : Int32)), .val (.long y0), .second, .val (.long y1), .second, .val (.long y2), .second, .val (.long y3), .second, .val (.long y4), .second, .val (.ref b6), .unset] []))
    refine ownEnds.law (fun t k => XS.iload X24.here hx rfl (hb hby at_156) rfl (XS.iconst X24.here hx rfl (hb hby at_158) k)) ?_
    show ownEnds _ _ _ _ (T24.setTop (mkF m 159 #[.val (.long qa), .second, .val (.long qb), .second, .val (.long qc), .second, .val (.long qd), .second, .val (.long qe), .second, .val (.int xk), .val (.int (3 : Int32)), .val (.long y0), .second, .val (.long y1), .second, .val (.long y2), .second, .val (.long y3), .second, .val (.long y4), .second, .val (.ref b6), .unset] [(.int (4 : Int32)), (.int (3 : Int32))]))
    refine ownEnds.law (fun t => XS.icmpYes X24.here hx rfl (pc0 := 159) (pc' := 179) rfl (hb hby at_159) rfl (flt (by decide : ¬ ((4 : Int32) < (3 : Int32)))).2.2.2 (by decide) (by decide)) ?_
    show ownEnds _ _ _ _ (T24.setTop (mkF m 179 #[.val (.long qa), .second, .val (.long qb), .second, .val (.long qc), .second, .val (.long qd), .second, .val (.long qe), .second, .val (.int xk), .val (.int (3 : Int32)), .val (.long y0), .second, .val (.long y1), .second, .val (.long y2), .second, .val (.long y3), .second, .val (.long y4), .second, .val (.ref b6), .unset] []))
    refine ownEnds.law (fun t k => XS.iconst X24.here hx rfl (hb hby at_179) (XS.istore X24.here hx rfl (hb hby at_180) rfl (l' := #[.val (.long qa), .second, .val (.long qb), .second, .val (.long qc), .second, .val (.long qd), .second, .val (.long qe), .second, .val (.int xk), .val (.int (3 : Int32)), .val (.long y0), .second, .val (.long y1), .second, .val (.long y2), .second, .val (.long y3), .second, .val (.long y4), .second, .val (.ref b6), .val (.int (1 : Int32))]) rfl (XS.iload X24.here hx rfl (hb hby at_182) rfl k))) ?_
    show ownEnds _ _ _ _ (T24.setTop (mkF m 184 #[.val (.long qa), .second, .val (.long qb), .second, .val (.long qc), .second, .val (.long qd), .second, .val (.long qe), .second, .val (.int xk), .val (.int (3 : Int32)), .val (.long y0), .second, .val (.long y1), .second, .val (.long y2), .second, .val (.long y3), .second, .val (.long y4), .second, .val (.ref b6), .val (.int (1 : Int32))] [(.int (3 : Int32))]))
    refine ownEnds.law (fun t => XS.ifNo X24.here hx rfl (hb hby at_184) rfl ((if0 _ _).trans (tlt (by decide : (0 : Int32) < (3 : Int32))).2.2.2)) ?_
    show ownEnds _ _ _ _ (T24.setTop (mkF m 187 #[.val (.long qa), .second, .val (.long qb), .second, .val (.long qc), .second, .val (.long qd), .second, .val (.long qe), .second, .val (.int xk), .val (.int (3 : Int32)), .val (.long y0), .second, .val (.long y1), .second, .val (.long y2), .second, .val (.long y3), .second, .val (.long y4), .second, .val (.ref b6), .val (.int (1 : Int32))] []))
    refine ownEnds.law (fun t k => XS.iload X24.here hx rfl (hb hby at_187) rfl k) ?_
    show ownEnds _ _ _ _ (T24.setTop (mkF m 189 #[.val (.long qa), .second, .val (.long qb), .second, .val (.long qc), .second, .val (.long qd), .second, .val (.long qe), .second, .val (.int xk), .val (.int (3 : Int32)), .val (.long y0), .second, .val (.long y1), .second, .val (.long y2), .second, .val (.long y3), .second, .val (.long y4), .second, .val (.ref b6), .val (.int (1 : Int32))] [(.int (1 : Int32))]))
    refine ownEnds.law (fun t => XS.ifNo X24.here hx rfl (hb hby at_189) rfl ((if0 _ _).trans (feq (by decide : ¬ ((1 : Int32) = (0 : Int32)))).1)) ?_
    show ownEnds _ _ _ _ (T24.setTop (mkF m 192 #[.val (.long qa), .second, .val (.long qb), .second, .val (.long qc), .second, .val (.long qd), .second, .val (.long qe), .second, .val (.int xk), .val (.int (3 : Int32)), .val (.long y0), .second, .val (.long y1), .second, .val (.long y2), .second, .val (.long y3), .second, .val (.long y4), .second, .val (.ref b6), .val (.int (1 : Int32))] []))
    refine ownEnds.law (fun t k => XS.aload X24.here hx rfl (hb hby at_192) rfl rfl (XS.iconst X24.here hx rfl (hb hby at_194) k)) ?_
    show ownEnds _ _ _ _ (T24.setTop (mkF m 195 #[.val (.long qa), .second, .val (.long qb), .second, .val (.long qc), .second, .val (.long qd), .second, .val (.long qe), .second, .val (.int xk), .val (.int (3 : Int32)), .val (.long y0), .second, .val (.long y1), .second, .val (.long y2), .second, .val (.long y3), .second, .val (.long y4), .second, .val (.ref b6), .val (.int (1 : Int32))] [(.int (0 : Int32)), (.ref b6)]))
    obtain ⟨v25, T25, L25, X25, hQ25, st25⟩ := ownCallV X24 hx hZ hown (y := (⟨"com/example/vestline/vestline/engine/PayrollRows", "cents", "(I)J"⟩ : MethodName)) (z := (⟨"com/example/vestline/vestline/engine/PayrollRows", "cents", "(I)J"⟩ : MethodName)) (a := b6) (as := [(.int (0 : Int32))]) (wd_50 hw) (wd_51 hw) (notFace_of_selects (args := #[]) (mvT hZ (wd_53 hw))) (wd_53 hw) (wd_52 hw) (wd_6 hw) (wd_54 hw) (by decide) (rm8 l Z a0 hw b6 (0 : Int32) (3 : Int32) (25 : Int32) (4 : Int32) [y0, y1, y2] T24.heap n0 Z24 R24 ⟨by decide, by decide⟩ (show (0 : Int32).toNatClampNeg < 3 from by decide)) rfl E24 0 (by decide) (by decide) (by decide) (by decide) (g := (mkF m 195 #[.val (.long qa), .second, .val (.long qb), .second, .val (.long qc), .second, .val (.long qd), .second, .val (.long qe), .second, .val (.int xk), .val (.int (3 : Int32)), .val (.long y0), .second, .val (.long y1), .second, .val (.long y2), .second, .val (.long y3), .second, .val (.long y4), .second, .val (.ref b6), .val (.int (1 : Int32))] [(.int (0 : Int32)), (.ref b6)])) rfl (by rw [hml]; rfl) (rest := []) pd_7 rfl rfl (by show 2 * 0 + _ ≤ _; exact Nat.le_of_eq rfl) (hb hby at_195)
    obtain ⟨rfl, rfl, e25⟩ := hQ25
    rw [List.append_nil] at X25
    refine ownEnds.law st25 ?_
    show ownEnds _ _ _ _ (T25.setTop (mkF m 198 #[.val (.long qa), .second, .val (.long qb), .second, .val (.long qc), .second, .val (.long qd), .second, .val (.long qe), .second, .val (.int xk), .val (.int (3 : Int32)), .val (.long y0), .second, .val (.long y1), .second, .val (.long y2), .second, .val (.long y3), .second, .val (.long y4), .second, .val (.ref b6), .val (.int (1 : Int32))] [(.long y0)]))
    refine ownEnds.law (fun t k => XS.lload X25.here hx rfl (hb hby at_198) rfl (XS.lcmp X25.here hx rfl (hb hby at_200) rfl k)) ?_
    show ownEnds _ _ _ _ (T25.setTop (mkF m 201 #[.val (.long qa), .second, .val (.long qb), .second, .val (.long qc), .second, .val (.long qd), .second, .val (.long qe), .second, .val (.int xk), .val (.int (3 : Int32)), .val (.long y0), .second, .val (.long y1), .second, .val (.long y2), .second, .val (.long y3), .second, .val (.long y4), .second, .val (.ref b6), .val (.int (1 : Int32))] [(.int (lcmpW y0 y0))]))
    refine ownEnds.law (fun t => XS.ifNo X25.here hx rfl (hb hby at_201) rfl ((if0 _ _).trans (teq ((lw_eq _ _).mpr (rfl : y0 = y0))).2)) ?_
    show ownEnds _ _ _ _ (T25.setTop (mkF m 204 #[.val (.long qa), .second, .val (.long qb), .second, .val (.long qc), .second, .val (.long qd), .second, .val (.long qe), .second, .val (.int xk), .val (.int (3 : Int32)), .val (.long y0), .second, .val (.long y1), .second, .val (.long y2), .second, .val (.long y3), .second, .val (.long y4), .second, .val (.ref b6), .val (.int (1 : Int32))] []))
    refine ownEnds.law (fun t k => XS.iconst X25.here hx rfl (hb hby at_204) (XS.goto X25.here hx rfl (pc0 := 205) (pc' := 209) rfl (hb hby at_205) (by decide) (by decide) (XS.istore X25.here hx rfl (hb hby at_209) rfl (l' := #[.val (.long qa), .second, .val (.long qb), .second, .val (.long qc), .second, .val (.long qd), .second, .val (.long qe), .second, .val (.int xk), .val (.int (3 : Int32)), .val (.long y0), .second, .val (.long y1), .second, .val (.long y2), .second, .val (.long y3), .second, .val (.long y4), .second, .val (.ref b6), .val (.int (1 : Int32))]) rfl (XS.iload X25.here hx rfl (hb hby at_211) rfl (XS.iconst X25.here hx rfl (hb hby at_213) k))))) ?_
    show ownEnds _ _ _ _ (T25.setTop (mkF m 214 #[.val (.long qa), .second, .val (.long qb), .second, .val (.long qc), .second, .val (.long qd), .second, .val (.long qe), .second, .val (.int xk), .val (.int (3 : Int32)), .val (.long y0), .second, .val (.long y1), .second, .val (.long y2), .second, .val (.long y3), .second, .val (.long y4), .second, .val (.ref b6), .val (.int (1 : Int32))] [(.int (1 : Int32)), (.int (3 : Int32))]))
    refine ownEnds.law (fun t => XS.icmpNo X25.here hx rfl (hb hby at_214) rfl (tlt (by decide : (1 : Int32) < (3 : Int32))).2.2.2) ?_
    show ownEnds _ _ _ _ (T25.setTop (mkF m 217 #[.val (.long qa), .second, .val (.long qb), .second, .val (.long qc), .second, .val (.long qd), .second, .val (.long qe), .second, .val (.int xk), .val (.int (3 : Int32)), .val (.long y0), .second, .val (.long y1), .second, .val (.long y2), .second, .val (.long y3), .second, .val (.long y4), .second, .val (.ref b6), .val (.int (1 : Int32))] []))
    refine ownEnds.law (fun t k => XS.iload X25.here hx rfl (hb hby at_217) rfl k) ?_
    show ownEnds _ _ _ _ (T25.setTop (mkF m 219 #[.val (.long qa), .second, .val (.long qb), .second, .val (.long qc), .second, .val (.long qd), .second, .val (.long qe), .second, .val (.int xk), .val (.int (3 : Int32)), .val (.long y0), .second, .val (.long y1), .second, .val (.long y2), .second, .val (.long y3), .second, .val (.long y4), .second, .val (.ref b6), .val (.int (1 : Int32))] [(.int (1 : Int32))]))
    refine ownEnds.law (fun t => XS.ifNo X25.here hx rfl (hb hby at_219) rfl ((if0 _ _).trans (feq (by decide : ¬ ((1 : Int32) = (0 : Int32)))).1)) ?_
    show ownEnds _ _ _ _ (T25.setTop (mkF m 222 #[.val (.long qa), .second, .val (.long qb), .second, .val (.long qc), .second, .val (.long qd), .second, .val (.long qe), .second, .val (.int xk), .val (.int (3 : Int32)), .val (.long y0), .second, .val (.long y1), .second, .val (.long y2), .second, .val (.long y3), .second, .val (.long y4), .second, .val (.ref b6), .val (.int (1 : Int32))] []))
    refine ownEnds.law (fun t k => XS.aload X25.here hx rfl (hb hby at_222) rfl rfl (XS.iconst X25.here hx rfl (hb hby at_224) k)) ?_
    show ownEnds _ _ _ _ (T25.setTop (mkF m 225 #[.val (.long qa), .second, .val (.long qb), .second, .val (.long qc), .second, .val (.long qd), .second, .val (.long qe), .second, .val (.int xk), .val (.int (3 : Int32)), .val (.long y0), .second, .val (.long y1), .second, .val (.long y2), .second, .val (.long y3), .second, .val (.long y4), .second, .val (.ref b6), .val (.int (1 : Int32))] [(.int (1 : Int32)), (.ref b6)]))
    obtain ⟨v26, T26, L26, X26, hQ26, st26⟩ := ownCallV X25 hx hZ hown (y := (⟨"com/example/vestline/vestline/engine/PayrollRows", "cents", "(I)J"⟩ : MethodName)) (z := (⟨"com/example/vestline/vestline/engine/PayrollRows", "cents", "(I)J"⟩ : MethodName)) (a := b6) (as := [(.int (1 : Int32))]) (wd_50 hw) (wd_51 hw) (notFace_of_selects (args := #[]) (mvT hZ (wd_53 hw))) (wd_53 hw) (wd_52 hw) (wd_6 hw) (wd_54 hw) (by decide) (rm8 l Z a0 hw b6 (1 : Int32) (3 : Int32) (25 : Int32) (4 : Int32) [y0, y1, y2] T24.heap n0 Z24 R24 ⟨by decide, by decide⟩ (show (1 : Int32).toNatClampNeg < 3 from by decide)) e25 E24 0 (by decide) (by decide) (by decide) (by decide) (g := (mkF m 225 #[.val (.long qa), .second, .val (.long qb), .second, .val (.long qc), .second, .val (.long qd), .second, .val (.long qe), .second, .val (.int xk), .val (.int (3 : Int32)), .val (.long y0), .second, .val (.long y1), .second, .val (.long y2), .second, .val (.long y3), .second, .val (.long y4), .second, .val (.ref b6), .val (.int (1 : Int32))] [(.int (1 : Int32)), (.ref b6)])) rfl (by rw [hml]; rfl) (rest := []) pd_7 rfl rfl (by show 2 * 0 + _ ≤ _; exact Nat.le_of_eq rfl) (hb hby at_225)
    obtain ⟨rfl, rfl, e26⟩ := hQ26
    rw [List.append_nil] at X26
    refine ownEnds.law st26 ?_
    show ownEnds _ _ _ _ (T26.setTop (mkF m 228 #[.val (.long qa), .second, .val (.long qb), .second, .val (.long qc), .second, .val (.long qd), .second, .val (.long qe), .second, .val (.int xk), .val (.int (3 : Int32)), .val (.long y0), .second, .val (.long y1), .second, .val (.long y2), .second, .val (.long y3), .second, .val (.long y4), .second, .val (.ref b6), .val (.int (1 : Int32))] [(.long y1)]))
    refine ownEnds.law (fun t k => XS.lload X26.here hx rfl (hb hby at_228) rfl (XS.lcmp X26.here hx rfl (hb hby at_230) rfl k)) ?_
    show ownEnds _ _ _ _ (T26.setTop (mkF m 231 #[.val (.long qa), .second, .val (.long qb), .second, .val (.long qc), .second, .val (.long qd), .second, .val (.long qe), .second, .val (.int xk), .val (.int (3 : Int32)), .val (.long y0), .second, .val (.long y1), .second, .val (.long y2), .second, .val (.long y3), .second, .val (.long y4), .second, .val (.ref b6), .val (.int (1 : Int32))] [(.int (lcmpW y1 y1))]))
    refine ownEnds.law (fun t => XS.ifNo X26.here hx rfl (hb hby at_231) rfl ((if0 _ _).trans (teq ((lw_eq _ _).mpr (rfl : y1 = y1))).2)) ?_
    show ownEnds _ _ _ _ (T26.setTop (mkF m 234 #[.val (.long qa), .second, .val (.long qb), .second, .val (.long qc), .second, .val (.long qd), .second, .val (.long qe), .second, .val (.int xk), .val (.int (3 : Int32)), .val (.long y0), .second, .val (.long y1), .second, .val (.long y2), .second, .val (.long y3), .second, .val (.long y4), .second, .val (.ref b6), .val (.int (1 : Int32))] []))
    refine ownEnds.law (fun t k => XS.iconst X26.here hx rfl (hb hby at_234) (XS.goto X26.here hx rfl (pc0 := 235) (pc' := 239) rfl (hb hby at_235) (by decide) (by decide) (XS.istore X26.here hx rfl (hb hby at_239) rfl (l' := #[.val (.long qa), .second, .val (.long qb), .second, .val (.long qc), .second, .val (.long qd), .second, .val (.long qe), .second, .val (.int xk), .val (.int (3 : Int32)), .val (.long y0), .second, .val (.long y1), .second, .val (.long y2), .second, .val (.long y3), .second, .val (.long y4), .second, .val (.ref b6), .val (.int (1 : Int32))]) rfl (XS.iload X26.here hx rfl (hb hby at_241) rfl (XS.iconst X26.here hx rfl (hb hby at_243) k))))) ?_
    show ownEnds _ _ _ _ (T26.setTop (mkF m 244 #[.val (.long qa), .second, .val (.long qb), .second, .val (.long qc), .second, .val (.long qd), .second, .val (.long qe), .second, .val (.int xk), .val (.int (3 : Int32)), .val (.long y0), .second, .val (.long y1), .second, .val (.long y2), .second, .val (.long y3), .second, .val (.long y4), .second, .val (.ref b6), .val (.int (1 : Int32))] [(.int (2 : Int32)), (.int (3 : Int32))]))
    refine ownEnds.law (fun t => XS.icmpNo X26.here hx rfl (hb hby at_244) rfl (tlt (by decide : (2 : Int32) < (3 : Int32))).2.2.2) ?_
    show ownEnds _ _ _ _ (T26.setTop (mkF m 247 #[.val (.long qa), .second, .val (.long qb), .second, .val (.long qc), .second, .val (.long qd), .second, .val (.long qe), .second, .val (.int xk), .val (.int (3 : Int32)), .val (.long y0), .second, .val (.long y1), .second, .val (.long y2), .second, .val (.long y3), .second, .val (.long y4), .second, .val (.ref b6), .val (.int (1 : Int32))] []))
    refine ownEnds.law (fun t k => XS.iload X26.here hx rfl (hb hby at_247) rfl k) ?_
    show ownEnds _ _ _ _ (T26.setTop (mkF m 249 #[.val (.long qa), .second, .val (.long qb), .second, .val (.long qc), .second, .val (.long qd), .second, .val (.long qe), .second, .val (.int xk), .val (.int (3 : Int32)), .val (.long y0), .second, .val (.long y1), .second, .val (.long y2), .second, .val (.long y3), .second, .val (.long y4), .second, .val (.ref b6), .val (.int (1 : Int32))] [(.int (1 : Int32))]))
    refine ownEnds.law (fun t => XS.ifNo X26.here hx rfl (hb hby at_249) rfl ((if0 _ _).trans (feq (by decide : ¬ ((1 : Int32) = (0 : Int32)))).1)) ?_
    show ownEnds _ _ _ _ (T26.setTop (mkF m 252 #[.val (.long qa), .second, .val (.long qb), .second, .val (.long qc), .second, .val (.long qd), .second, .val (.long qe), .second, .val (.int xk), .val (.int (3 : Int32)), .val (.long y0), .second, .val (.long y1), .second, .val (.long y2), .second, .val (.long y3), .second, .val (.long y4), .second, .val (.ref b6), .val (.int (1 : Int32))] []))
    refine ownEnds.law (fun t k => XS.aload X26.here hx rfl (hb hby at_252) rfl rfl (XS.iconst X26.here hx rfl (hb hby at_254) k)) ?_
    show ownEnds _ _ _ _ (T26.setTop (mkF m 255 #[.val (.long qa), .second, .val (.long qb), .second, .val (.long qc), .second, .val (.long qd), .second, .val (.long qe), .second, .val (.int xk), .val (.int (3 : Int32)), .val (.long y0), .second, .val (.long y1), .second, .val (.long y2), .second, .val (.long y3), .second, .val (.long y4), .second, .val (.ref b6), .val (.int (1 : Int32))] [(.int (2 : Int32)), (.ref b6)]))
    obtain ⟨v27, T27, L27, X27, hQ27, st27⟩ := ownCallV X26 hx hZ hown (y := (⟨"com/example/vestline/vestline/engine/PayrollRows", "cents", "(I)J"⟩ : MethodName)) (z := (⟨"com/example/vestline/vestline/engine/PayrollRows", "cents", "(I)J"⟩ : MethodName)) (a := b6) (as := [(.int (2 : Int32))]) (wd_50 hw) (wd_51 hw) (notFace_of_selects (args := #[]) (mvT hZ (wd_53 hw))) (wd_53 hw) (wd_52 hw) (wd_6 hw) (wd_54 hw) (by decide) (rm8 l Z a0 hw b6 (2 : Int32) (3 : Int32) (25 : Int32) (4 : Int32) [y0, y1, y2] T24.heap n0 Z24 R24 ⟨by decide, by decide⟩ (show (2 : Int32).toNatClampNeg < 3 from by decide)) e26 E24 0 (by decide) (by decide) (by decide) (by decide) (g := (mkF m 255 #[.val (.long qa), .second, .val (.long qb), .second, .val (.long qc), .second, .val (.long qd), .second, .val (.long qe), .second, .val (.int xk), .val (.int (3 : Int32)), .val (.long y0), .second, .val (.long y1), .second, .val (.long y2), .second, .val (.long y3), .second, .val (.long y4), .second, .val (.ref b6), .val (.int (1 : Int32))] [(.int (2 : Int32)), (.ref b6)])) rfl (by rw [hml]; rfl) (rest := []) pd_7 rfl rfl (by show 2 * 0 + _ ≤ _; exact Nat.le_of_eq rfl) (hb hby at_255)
    obtain ⟨rfl, rfl, e27⟩ := hQ27
    rw [List.append_nil] at X27
    refine ownEnds.law st27 ?_
    show ownEnds _ _ _ _ (T27.setTop (mkF m 258 #[.val (.long qa), .second, .val (.long qb), .second, .val (.long qc), .second, .val (.long qd), .second, .val (.long qe), .second, .val (.int xk), .val (.int (3 : Int32)), .val (.long y0), .second, .val (.long y1), .second, .val (.long y2), .second, .val (.long y3), .second, .val (.long y4), .second, .val (.ref b6), .val (.int (1 : Int32))] [(.long y2)]))
    refine ownEnds.law (fun t k => XS.lload X27.here hx rfl (hb hby at_258) rfl (XS.lcmp X27.here hx rfl (hb hby at_260) rfl k)) ?_
    show ownEnds _ _ _ _ (T27.setTop (mkF m 261 #[.val (.long qa), .second, .val (.long qb), .second, .val (.long qc), .second, .val (.long qd), .second, .val (.long qe), .second, .val (.int xk), .val (.int (3 : Int32)), .val (.long y0), .second, .val (.long y1), .second, .val (.long y2), .second, .val (.long y3), .second, .val (.long y4), .second, .val (.ref b6), .val (.int (1 : Int32))] [(.int (lcmpW y2 y2))]))
    refine ownEnds.law (fun t => XS.ifNo X27.here hx rfl (hb hby at_261) rfl ((if0 _ _).trans (teq ((lw_eq _ _).mpr (rfl : y2 = y2))).2)) ?_
    show ownEnds _ _ _ _ (T27.setTop (mkF m 264 #[.val (.long qa), .second, .val (.long qb), .second, .val (.long qc), .second, .val (.long qd), .second, .val (.long qe), .second, .val (.int xk), .val (.int (3 : Int32)), .val (.long y0), .second, .val (.long y1), .second, .val (.long y2), .second, .val (.long y3), .second, .val (.long y4), .second, .val (.ref b6), .val (.int (1 : Int32))] []))
    refine ownEnds.law (fun t k => XS.iconst X27.here hx rfl (hb hby at_264) (XS.goto X27.here hx rfl (pc0 := 265) (pc' := 269) rfl (hb hby at_265) (by decide) (by decide) (XS.istore X27.here hx rfl (hb hby at_269) rfl (l' := #[.val (.long qa), .second, .val (.long qb), .second, .val (.long qc), .second, .val (.long qd), .second, .val (.long qe), .second, .val (.int xk), .val (.int (3 : Int32)), .val (.long y0), .second, .val (.long y1), .second, .val (.long y2), .second, .val (.long y3), .second, .val (.long y4), .second, .val (.ref b6), .val (.int (1 : Int32))]) rfl (XS.iload X27.here hx rfl (hb hby at_271) rfl (XS.iconst X27.here hx rfl (hb hby at_273) k))))) ?_
    show ownEnds _ _ _ _ (T27.setTop (mkF m 274 #[.val (.long qa), .second, .val (.long qb), .second, .val (.long qc), .second, .val (.long qd), .second, .val (.long qe), .second, .val (.int xk), .val (.int (3 : Int32)), .val (.long y0), .second, .val (.long y1), .second, .val (.long y2), .second, .val (.long y3), .second, .val (.long y4), .second, .val (.ref b6), .val (.int (1 : Int32))] [(.int (3 : Int32)), (.int (3 : Int32))]))
    refine ownEnds.law (fun t => XS.icmpYes X27.here hx rfl (pc0 := 274) (pc' := 301) rfl (hb hby at_274) rfl (flt (Int32.lt_irrefl)).2.2.2 (by decide) (by decide)) ?_
    show ownEnds _ _ _ _ (T27.setTop (mkF m 301 #[.val (.long qa), .second, .val (.long qb), .second, .val (.long qc), .second, .val (.long qd), .second, .val (.long qe), .second, .val (.int xk), .val (.int (3 : Int32)), .val (.long y0), .second, .val (.long y1), .second, .val (.long y2), .second, .val (.long y3), .second, .val (.long y4), .second, .val (.ref b6), .val (.int (1 : Int32))] []))
    refine ownEnds.law (fun t k => XS.iload X27.here hx rfl (hb hby at_301) rfl (XS.iconst X27.here hx rfl (hb hby at_303) k)) ?_
    show ownEnds _ _ _ _ (T27.setTop (mkF m 304 #[.val (.long qa), .second, .val (.long qb), .second, .val (.long qc), .second, .val (.long qd), .second, .val (.long qe), .second, .val (.int xk), .val (.int (3 : Int32)), .val (.long y0), .second, .val (.long y1), .second, .val (.long y2), .second, .val (.long y3), .second, .val (.long y4), .second, .val (.ref b6), .val (.int (1 : Int32))] [(.int (4 : Int32)), (.int (3 : Int32))]))
    refine ownEnds.law (fun t => XS.icmpYes X27.here hx rfl (pc0 := 304) (pc' := 331) rfl (hb hby at_304) rfl (flt (by decide : ¬ ((4 : Int32) < (3 : Int32)))).2.2.2 (by decide) (by decide)) ?_
    show ownEnds _ _ _ _ (T27.setTop (mkF m 331 #[.val (.long qa), .second, .val (.long qb), .second, .val (.long qc), .second, .val (.long qd), .second, .val (.long qe), .second, .val (.int xk), .val (.int (3 : Int32)), .val (.long y0), .second, .val (.long y1), .second, .val (.long y2), .second, .val (.long y3), .second, .val (.long y4), .second, .val (.ref b6), .val (.int (1 : Int32))] []))
    refine ownEnds.law (fun t k => XS.iload X27.here hx rfl (hb hby at_331) rfl k) ?_
    show ownEnds _ _ _ _ (T27.setTop (mkF m 333 #[.val (.long qa), .second, .val (.long qb), .second, .val (.long qc), .second, .val (.long qd), .second, .val (.long qe), .second, .val (.int xk), .val (.int (3 : Int32)), .val (.long y0), .second, .val (.long y1), .second, .val (.long y2), .second, .val (.long y3), .second, .val (.long y4), .second, .val (.ref b6), .val (.int (1 : Int32))] [(.int (1 : Int32))]))
    refine ownRetN X27 hlk hx (t := .boolean) hret (by simp) (hb hby at_333) (by decide) (by decide) ?_
    exact ⟨rfl, N24⟩
  · show ownEnds _ _ _ _ (T15.setTop (mkF m 67 #[.val (.long qa), .second, .val (.long qb), .second, .val (.long qc), .second, .val (.long qd), .second, .val (.long qe), .second, .val (.int xk), .val (.int (4 : Int32)), .val (.long y0), .second, .val (.long y1), .second, .val (.long y2), .second, .val (.long y3), .second, .val (.long y4), .second, .val (.ref b6), .unset] []))
    refine ownEnds.law (fun t k => XS.iload X15.here hx rfl (hb hby at_67) rfl k) ?_
    show ownEnds _ _ _ _ (T15.setTop (mkF m 69 #[.val (.long qa), .second, .val (.long qb), .second, .val (.long qc), .second, .val (.long qd), .second, .val (.long qe), .second, .val (.int xk), .val (.int (4 : Int32)), .val (.long y0), .second, .val (.long y1), .second, .val (.long y2), .second, .val (.long y3), .second, .val (.long y4), .second, .val (.ref b6), .unset] [(.int (4 : Int32))]))
    refine ownEnds.law (fun t => XS.ifNo X15.here hx rfl (hb hby at_69) rfl ((if0 _ _).trans (tlt (by decide : (0 : Int32) < (4 : Int32))).2.2.2)) ?_
    show ownEnds _ _ _ _ (T15.setTop (mkF m 72 #[.val (.long qa), .second, .val (.long qb), .second, .val (.long qc), .second, .val (.long qd), .second, .val (.long qe), .second, .val (.int xk), .val (.int (4 : Int32)), .val (.long y0), .second, .val (.long y1), .second, .val (.long y2), .second, .val (.long y3), .second, .val (.long y4), .second, .val (.ref b6), .unset] []))
    refine ownEnds.law (fun t k => XS.aload X15.here hx rfl (hb hby at_72) rfl rfl (XS.iconst X15.here hx rfl (hb hby at_74) (XS.iconst X15.here hx rfl (hb hby at_75) (XS.lload X15.here hx rfl (hb hby at_76) rfl (X15.ldc2Long hx hown (mvT hZ (wd_27 hw)) (g := (mkF m 78 #[.val (.long qa), .second, .val (.long qb), .second, .val (.long qc), .second, .val (.long qd), .second, .val (.long qe), .second, .val (.int xk), .val (.int (4 : Int32)), .val (.long y0), .second, .val (.long y1), .second, .val (.long y2), .second, .val (.long y3), .second, .val (.long y4), .second, .val (.ref b6), .unset] [(.long y0), (.int (5 : Int32)), (.int (0 : Int32)), (.ref b6)])) rfl (hb hby at_78) _ (XS.lxor X15.here hx rfl (hb hby at_81) rfl (XS.lload X15.here hx rfl (hb hby at_82) rfl k))))))) ?_
    show ownEnds _ _ _ _ (T15.setTop (mkF m 84 #[.val (.long qa), .second, .val (.long qb), .second, .val (.long qc), .second, .val (.long qd), .second, .val (.long qe), .second, .val (.int xk), .val (.int (4 : Int32)), .val (.long y0), .second, .val (.long y1), .second, .val (.long y2), .second, .val (.long y3), .second, .val (.long y4), .second, .val (.ref b6), .unset] [(.long y0), (.long (y0 ^^^ (-1 : Int64))), (.int (5 : Int32)), (.int (0 : Int32)), (.ref b6)]))
    obtain ⟨v28, T28, L28, X28, hQ28, st28⟩ := ownCallV X15 hx hZ hown (y := (⟨"com/example/vestline/vestline/engine/PayrollRows", "add", "(IIJJ)V"⟩ : MethodName)) (z := (⟨"com/example/vestline/vestline/engine/PayrollRows", "add", "(IIJJ)V"⟩ : MethodName)) (a := b6) (as := [(.int (0 : Int32)), (.int (5 : Int32)), (.long (y0 ^^^ (-1 : Int64))), (.long y0)]) (wd_28 hw) (wd_29 hw) (notFace_of_selects (args := #[]) (mvT hZ (wd_31 hw))) (wd_31 hw) (wd_30 hw) (wd_6 hw) (wd_32 hw) (by decide) (rm4a l Z a0 hw b6 (0 : Int32) (5 : Int32) (y0 ^^^ (-1 : Int64)) y0 (0 : Int32) (-2147483648 : Int32) ([] : List Int64) T15.heap n0 Z15 R15 (by decide) ⟨by decide, by decide⟩) rfl E15 0 (by decide) (by decide) (by decide) (by decide) (g := (mkF m 84 #[.val (.long qa), .second, .val (.long qb), .second, .val (.long qc), .second, .val (.long qd), .second, .val (.long qe), .second, .val (.int xk), .val (.int (4 : Int32)), .val (.long y0), .second, .val (.long y1), .second, .val (.long y2), .second, .val (.long y3), .second, .val (.long y4), .second, .val (.ref b6), .unset] [(.long y0), (.long (y0 ^^^ (-1 : Int64))), (.int (5 : Int32)), (.int (0 : Int32)), (.ref b6)])) rfl (by rw [hml]; rfl) (rest := []) pd_6 rfl rfl (by show 2 * 0 + _ ≤ _; exact Nat.le_of_eq rfl) (hb hby at_84)
    obtain ⟨rfl, Nq28, zq28, Rq28⟩ := hQ28
    have R28 : Rows Z n0 T28.heap b6 (1 : Int32) (5 : Int32) (4 : Int32) [y0] := by
      have q2 : FMax (-2147483648 : Int32) (5 : Int32) = (5 : Int32) := by decide
      have q1 : (0 : Int32) + 1 = (1 : Int32) := by decide
      rw [q1, q2] at Rq28
      exact Rq28
    have N28 := Fr.app N15 Nq28
    have Z28 : n0 ≤ T28.heap.size := Nat.le_trans Z15 zq28
    have E28 := R28.exa
    refine ownEnds.law st28 ?_
    show ownEnds _ _ _ _ (T28.setTop (mkF m 87 #[.val (.long qa), .second, .val (.long qb), .second, .val (.long qc), .second, .val (.long qd), .second, .val (.long qe), .second, .val (.int xk), .val (.int (4 : Int32)), .val (.long y0), .second, .val (.long y1), .second, .val (.long y2), .second, .val (.long y3), .second, .val (.long y4), .second, .val (.ref b6), .unset] []))
    refine ownEnds.law (fun t k => XS.iload X28.here hx rfl (hb hby at_87) rfl (XS.iconst X28.here hx rfl (hb hby at_89) k)) ?_
    show ownEnds _ _ _ _ (T28.setTop (mkF m 90 #[.val (.long qa), .second, .val (.long qb), .second, .val (.long qc), .second, .val (.long qd), .second, .val (.long qe), .second, .val (.int xk), .val (.int (4 : Int32)), .val (.long y0), .second, .val (.long y1), .second, .val (.long y2), .second, .val (.long y3), .second, .val (.long y4), .second, .val (.ref b6), .unset] [(.int (1 : Int32)), (.int (4 : Int32))]))
    refine ownEnds.law (fun t => XS.icmpNo X28.here hx rfl (hb hby at_90) rfl (tlt (by decide : (1 : Int32) < (4 : Int32))).2.2.2) ?_
    show ownEnds _ _ _ _ (T28.setTop (mkF m 93 #[.val (.long qa), .second, .val (.long qb), .second, .val (.long qc), .second, .val (.long qd), .second, .val (.long qe), .second, .val (.int xk), .val (.int (4 : Int32)), .val (.long y0), .second, .val (.long y1), .second, .val (.long y2), .second, .val (.long y3), .second, .val (.long y4), .second, .val (.ref b6), .unset] []))
    refine ownEnds.law (fun t k => XS.aload X28.here hx rfl (hb hby at_93) rfl rfl (XS.bipush X28.here hx rfl (hb hby at_95) (XS.bipush X28.here hx rfl (hb hby at_97) (XS.lload X28.here hx rfl (hb hby at_99) rfl (X28.ldc2Long hx hown (mvT hZ (wd_27 hw)) (g := (mkF m 101 #[.val (.long qa), .second, .val (.long qb), .second, .val (.long qc), .second, .val (.long qd), .second, .val (.long qe), .second, .val (.int xk), .val (.int (4 : Int32)), .val (.long y0), .second, .val (.long y1), .second, .val (.long y2), .second, .val (.long y3), .second, .val (.long y4), .second, .val (.ref b6), .unset] [(.long y1), (.int (15 : Int32)), (.int (10 : Int32)), (.ref b6)])) rfl (hb hby at_101) _ (XS.lxor X28.here hx rfl (hb hby at_104) rfl (XS.lload X28.here hx rfl (hb hby at_105) rfl k))))))) ?_
    show ownEnds _ _ _ _ (T28.setTop (mkF m 107 #[.val (.long qa), .second, .val (.long qb), .second, .val (.long qc), .second, .val (.long qd), .second, .val (.long qe), .second, .val (.int xk), .val (.int (4 : Int32)), .val (.long y0), .second, .val (.long y1), .second, .val (.long y2), .second, .val (.long y3), .second, .val (.long y4), .second, .val (.ref b6), .unset] [(.long y1), (.long (y1 ^^^ (-1 : Int64))), (.int (15 : Int32)), (.int (10 : Int32)), (.ref b6)]))
    obtain ⟨v29, T29, L29, X29, hQ29, st29⟩ := ownCallV X28 hx hZ hown (y := (⟨"com/example/vestline/vestline/engine/PayrollRows", "add", "(IIJJ)V"⟩ : MethodName)) (z := (⟨"com/example/vestline/vestline/engine/PayrollRows", "add", "(IIJJ)V"⟩ : MethodName)) (a := b6) (as := [(.int (10 : Int32)), (.int (15 : Int32)), (.long (y1 ^^^ (-1 : Int64))), (.long y1)]) (wd_28 hw) (wd_29 hw) (notFace_of_selects (args := #[]) (mvT hZ (wd_31 hw))) (wd_31 hw) (wd_30 hw) (wd_6 hw) (wd_32 hw) (by decide) (rm4a l Z a0 hw b6 (10 : Int32) (15 : Int32) (y1 ^^^ (-1 : Int64)) y1 (1 : Int32) (5 : Int32) ([y0] : List Int64) T28.heap n0 Z28 R28 (by decide) ⟨by decide, by decide⟩) rfl E28 0 (by decide) (by decide) (by decide) (by decide) (g := (mkF m 107 #[.val (.long qa), .second, .val (.long qb), .second, .val (.long qc), .second, .val (.long qd), .second, .val (.long qe), .second, .val (.int xk), .val (.int (4 : Int32)), .val (.long y0), .second, .val (.long y1), .second, .val (.long y2), .second, .val (.long y3), .second, .val (.long y4), .second, .val (.ref b6), .unset] [(.long y1), (.long (y1 ^^^ (-1 : Int64))), (.int (15 : Int32)), (.int (10 : Int32)), (.ref b6)])) rfl (by rw [hml]; rfl) (rest := []) pd_6 rfl rfl (by show 2 * 0 + _ ≤ _; exact Nat.le_of_eq rfl) (hb hby at_107)
    obtain ⟨rfl, Nq29, zq29, Rq29⟩ := hQ29
    have R29 : Rows Z n0 T29.heap b6 (2 : Int32) (15 : Int32) (4 : Int32) [y0, y1] := by
      have q2 : FMax (5 : Int32) (15 : Int32) = (15 : Int32) := by decide
      have q1 : (1 : Int32) + 1 = (2 : Int32) := by decide
      rw [q1, q2] at Rq29
      exact Rq29
    have N29 := Fr.app N28 Nq29
    have Z29 : n0 ≤ T29.heap.size := Nat.le_trans Z28 zq29
    have E29 := R29.exa
    refine ownEnds.law st29 ?_
    show ownEnds _ _ _ _ (T29.setTop (mkF m 110 #[.val (.long qa), .second, .val (.long qb), .second, .val (.long qc), .second, .val (.long qd), .second, .val (.long qe), .second, .val (.int xk), .val (.int (4 : Int32)), .val (.long y0), .second, .val (.long y1), .second, .val (.long y2), .second, .val (.long y3), .second, .val (.long y4), .second, .val (.ref b6), .unset] []))
    refine ownEnds.law (fun t k => XS.iload X29.here hx rfl (hb hby at_110) rfl (XS.iconst X29.here hx rfl (hb hby at_112) k)) ?_
    show ownEnds _ _ _ _ (T29.setTop (mkF m 113 #[.val (.long qa), .second, .val (.long qb), .second, .val (.long qc), .second, .val (.long qd), .second, .val (.long qe), .second, .val (.int xk), .val (.int (4 : Int32)), .val (.long y0), .second, .val (.long y1), .second, .val (.long y2), .second, .val (.long y3), .second, .val (.long y4), .second, .val (.ref b6), .unset] [(.int (2 : Int32)), (.int (4 : Int32))]))
    refine ownEnds.law (fun t => XS.icmpNo X29.here hx rfl (hb hby at_113) rfl (tlt (by decide : (2 : Int32) < (4 : Int32))).2.2.2) ?_
    show ownEnds _ _ _ _ (T29.setTop (mkF m 116 #[.val (.long qa), .second, .val (.long qb), .second, .val (.long qc), .second, .val (.long qd), .second, .val (.long qe), .second, .val (.int xk), .val (.int (4 : Int32)), .val (.long y0), .second, .val (.long y1), .second, .val (.long y2), .second, .val (.long y3), .second, .val (.long y4), .second, .val (.ref b6), .unset] []))
    refine ownEnds.law (fun t k => XS.aload X29.here hx rfl (hb hby at_116) rfl rfl (XS.bipush X29.here hx rfl (hb hby at_118) (XS.bipush X29.here hx rfl (hb hby at_120) (XS.lload X29.here hx rfl (hb hby at_122) rfl (X29.ldc2Long hx hown (mvT hZ (wd_27 hw)) (g := (mkF m 124 #[.val (.long qa), .second, .val (.long qb), .second, .val (.long qc), .second, .val (.long qd), .second, .val (.long qe), .second, .val (.int xk), .val (.int (4 : Int32)), .val (.long y0), .second, .val (.long y1), .second, .val (.long y2), .second, .val (.long y3), .second, .val (.long y4), .second, .val (.ref b6), .unset] [(.long y2), (.int (25 : Int32)), (.int (20 : Int32)), (.ref b6)])) rfl (hb hby at_124) _ (XS.lxor X29.here hx rfl (hb hby at_127) rfl (XS.lload X29.here hx rfl (hb hby at_128) rfl k))))))) ?_
    show ownEnds _ _ _ _ (T29.setTop (mkF m 130 #[.val (.long qa), .second, .val (.long qb), .second, .val (.long qc), .second, .val (.long qd), .second, .val (.long qe), .second, .val (.int xk), .val (.int (4 : Int32)), .val (.long y0), .second, .val (.long y1), .second, .val (.long y2), .second, .val (.long y3), .second, .val (.long y4), .second, .val (.ref b6), .unset] [(.long y2), (.long (y2 ^^^ (-1 : Int64))), (.int (25 : Int32)), (.int (20 : Int32)), (.ref b6)]))
    obtain ⟨v30, T30, L30, X30, hQ30, st30⟩ := ownCallV X29 hx hZ hown (y := (⟨"com/example/vestline/vestline/engine/PayrollRows", "add", "(IIJJ)V"⟩ : MethodName)) (z := (⟨"com/example/vestline/vestline/engine/PayrollRows", "add", "(IIJJ)V"⟩ : MethodName)) (a := b6) (as := [(.int (20 : Int32)), (.int (25 : Int32)), (.long (y2 ^^^ (-1 : Int64))), (.long y2)]) (wd_28 hw) (wd_29 hw) (notFace_of_selects (args := #[]) (mvT hZ (wd_31 hw))) (wd_31 hw) (wd_30 hw) (wd_6 hw) (wd_32 hw) (by decide) (rm4a l Z a0 hw b6 (20 : Int32) (25 : Int32) (y2 ^^^ (-1 : Int64)) y2 (2 : Int32) (15 : Int32) ([y0, y1] : List Int64) T29.heap n0 Z29 R29 (by decide) ⟨by decide, by decide⟩) rfl E29 0 (by decide) (by decide) (by decide) (by decide) (g := (mkF m 130 #[.val (.long qa), .second, .val (.long qb), .second, .val (.long qc), .second, .val (.long qd), .second, .val (.long qe), .second, .val (.int xk), .val (.int (4 : Int32)), .val (.long y0), .second, .val (.long y1), .second, .val (.long y2), .second, .val (.long y3), .second, .val (.long y4), .second, .val (.ref b6), .unset] [(.long y2), (.long (y2 ^^^ (-1 : Int64))), (.int (25 : Int32)), (.int (20 : Int32)), (.ref b6)])) rfl (by rw [hml]; rfl) (rest := []) pd_6 rfl rfl (by show 2 * 0 + _ ≤ _; exact Nat.le_of_eq rfl) (hb hby at_130)
    obtain ⟨rfl, Nq30, zq30, Rq30⟩ := hQ30
    have R30 : Rows Z n0 T30.heap b6 (3 : Int32) (25 : Int32) (4 : Int32) [y0, y1, y2] := by
      have q2 : FMax (15 : Int32) (25 : Int32) = (25 : Int32) := by decide
      have q1 : (2 : Int32) + 1 = (3 : Int32) := by decide
      rw [q1, q2] at Rq30
      exact Rq30
    have N30 := Fr.app N29 Nq30
    have Z30 : n0 ≤ T30.heap.size := Nat.le_trans Z29 zq30
    have E30 := R30.exa
    refine ownEnds.law st30 ?_
    show ownEnds _ _ _ _ (T30.setTop (mkF m 133 #[.val (.long qa), .second, .val (.long qb), .second, .val (.long qc), .second, .val (.long qd), .second, .val (.long qe), .second, .val (.int xk), .val (.int (4 : Int32)), .val (.long y0), .second, .val (.long y1), .second, .val (.long y2), .second, .val (.long y3), .second, .val (.long y4), .second, .val (.ref b6), .unset] []))
    refine ownEnds.law (fun t k => XS.iload X30.here hx rfl (hb hby at_133) rfl (XS.iconst X30.here hx rfl (hb hby at_135) k)) ?_
    show ownEnds _ _ _ _ (T30.setTop (mkF m 136 #[.val (.long qa), .second, .val (.long qb), .second, .val (.long qc), .second, .val (.long qd), .second, .val (.long qe), .second, .val (.int xk), .val (.int (4 : Int32)), .val (.long y0), .second, .val (.long y1), .second, .val (.long y2), .second, .val (.long y3), .second, .val (.long y4), .second, .val (.ref b6), .unset] [(.int (3 : Int32)), (.int (4 : Int32))]))
    refine ownEnds.law (fun t => XS.icmpNo X30.here hx rfl (hb hby at_136) rfl (tlt (by decide : (3 : Int32) < (4 : Int32))).2.2.2) ?_
    show ownEnds _ _ _ _ (T30.setTop (mkF m 139 #[.val (.long qa), .second, .val (.long qb), .second, .val (.long qc), .second, .val (.long qd), .second, .val (.long qe), .second, .val (.int xk), .val (.int (4 : Int32)), .val (.long y0), .second, .val (.long y1), .second, .val (.long y2), .second, .val (.long y3), .second, .val (.long y4), .second, .val (.ref b6), .unset] []))
    refine ownEnds.law (fun t k => XS.aload X30.here hx rfl (hb hby at_139) rfl rfl (XS.bipush X30.here hx rfl (hb hby at_141) (XS.bipush X30.here hx rfl (hb hby at_143) (XS.lload X30.here hx rfl (hb hby at_145) rfl (X30.ldc2Long hx hown (mvT hZ (wd_27 hw)) (g := (mkF m 147 #[.val (.long qa), .second, .val (.long qb), .second, .val (.long qc), .second, .val (.long qd), .second, .val (.long qe), .second, .val (.int xk), .val (.int (4 : Int32)), .val (.long y0), .second, .val (.long y1), .second, .val (.long y2), .second, .val (.long y3), .second, .val (.long y4), .second, .val (.ref b6), .unset] [(.long y3), (.int (35 : Int32)), (.int (30 : Int32)), (.ref b6)])) rfl (hb hby at_147) _ (XS.lxor X30.here hx rfl (hb hby at_150) rfl (XS.lload X30.here hx rfl (hb hby at_151) rfl k))))))) ?_
    show ownEnds _ _ _ _ (T30.setTop (mkF m 153 #[.val (.long qa), .second, .val (.long qb), .second, .val (.long qc), .second, .val (.long qd), .second, .val (.long qe), .second, .val (.int xk), .val (.int (4 : Int32)), .val (.long y0), .second, .val (.long y1), .second, .val (.long y2), .second, .val (.long y3), .second, .val (.long y4), .second, .val (.ref b6), .unset] [(.long y3), (.long (y3 ^^^ (-1 : Int64))), (.int (35 : Int32)), (.int (30 : Int32)), (.ref b6)]))
    obtain ⟨v31, T31, L31, X31, hQ31, st31⟩ := ownCallV X30 hx hZ hown (y := (⟨"com/example/vestline/vestline/engine/PayrollRows", "add", "(IIJJ)V"⟩ : MethodName)) (z := (⟨"com/example/vestline/vestline/engine/PayrollRows", "add", "(IIJJ)V"⟩ : MethodName)) (a := b6) (as := [(.int (30 : Int32)), (.int (35 : Int32)), (.long (y3 ^^^ (-1 : Int64))), (.long y3)]) (wd_28 hw) (wd_29 hw) (notFace_of_selects (args := #[]) (mvT hZ (wd_31 hw))) (wd_31 hw) (wd_30 hw) (wd_6 hw) (wd_32 hw) (by decide) (rm4a l Z a0 hw b6 (30 : Int32) (35 : Int32) (y3 ^^^ (-1 : Int64)) y3 (3 : Int32) (25 : Int32) ([y0, y1, y2] : List Int64) T30.heap n0 Z30 R30 (by decide) ⟨by decide, by decide⟩) rfl E30 0 (by decide) (by decide) (by decide) (by decide) (g := (mkF m 153 #[.val (.long qa), .second, .val (.long qb), .second, .val (.long qc), .second, .val (.long qd), .second, .val (.long qe), .second, .val (.int xk), .val (.int (4 : Int32)), .val (.long y0), .second, .val (.long y1), .second, .val (.long y2), .second, .val (.long y3), .second, .val (.long y4), .second, .val (.ref b6), .unset] [(.long y3), (.long (y3 ^^^ (-1 : Int64))), (.int (35 : Int32)), (.int (30 : Int32)), (.ref b6)])) rfl (by rw [hml]; rfl) (rest := []) pd_6 rfl rfl (by show 2 * 0 + _ ≤ _; exact Nat.le_of_eq rfl) (hb hby at_153)
    obtain ⟨rfl, Nq31, zq31, Rq31⟩ := hQ31
    have R31 : Rows Z n0 T31.heap b6 (4 : Int32) (35 : Int32) (4 : Int32) [y0, y1, y2, y3] := by
      have q2 : FMax (25 : Int32) (35 : Int32) = (35 : Int32) := by decide
      have q1 : (3 : Int32) + 1 = (4 : Int32) := by decide
      rw [q1, q2] at Rq31
      exact Rq31
    have N31 := Fr.app N30 Nq31
    have Z31 : n0 ≤ T31.heap.size := Nat.le_trans Z30 zq31
    have E31 := R31.exa
    refine ownEnds.law st31 ?_
    show ownEnds _ _ _ _ (T31.setTop (mkF m 156 #[.val (.long qa), .second, .val (.long qb), .second, .val (.long qc), .second, .val (.long qd), .second, .val (.long qe), .second, .val (.int xk), .val (.int (4 : Int32)), .val (.long y0), .second, .val (.long y1), .second, .val (.long y2), .second, .val (.long y3), .second, .val (.long y4), .second, .val (.ref b6), .unset] []))
    refine ownEnds.law (fun t k => XS.iload X31.here hx rfl (hb hby at_156) rfl (XS.iconst X31.here hx rfl (hb hby at_158) k)) ?_
    show ownEnds _ _ _ _ (T31.setTop (mkF m 159 #[.val (.long qa), .second, .val (.long qb), .second, .val (.long qc), .second, .val (.long qd), .second, .val (.long qe), .second, .val (.int xk), .val (.int (4 : Int32)), .val (.long y0), .second, .val (.long y1), .second, .val (.long y2), .second, .val (.long y3), .second, .val (.long y4), .second, .val (.ref b6), .unset] [(.int (4 : Int32)), (.int (4 : Int32))]))
    refine ownEnds.law (fun t => XS.icmpYes X31.here hx rfl (pc0 := 159) (pc' := 179) rfl (hb hby at_159) rfl (flt (Int32.lt_irrefl)).2.2.2 (by decide) (by decide)) ?_
    show ownEnds _ _ _ _ (T31.setTop (mkF m 179 #[.val (.long qa), .second, .val (.long qb), .second, .val (.long qc), .second, .val (.long qd), .second, .val (.long qe), .second, .val (.int xk), .val (.int (4 : Int32)), .val (.long y0), .second, .val (.long y1), .second, .val (.long y2), .second, .val (.long y3), .second, .val (.long y4), .second, .val (.ref b6), .unset] []))
    refine ownEnds.law (fun t k => XS.iconst X31.here hx rfl (hb hby at_179) (XS.istore X31.here hx rfl (hb hby at_180) rfl (l' := #[.val (.long qa), .second, .val (.long qb), .second, .val (.long qc), .second, .val (.long qd), .second, .val (.long qe), .second, .val (.int xk), .val (.int (4 : Int32)), .val (.long y0), .second, .val (.long y1), .second, .val (.long y2), .second, .val (.long y3), .second, .val (.long y4), .second, .val (.ref b6), .val (.int (1 : Int32))]) rfl (XS.iload X31.here hx rfl (hb hby at_182) rfl k))) ?_
    show ownEnds _ _ _ _ (T31.setTop (mkF m 184 #[.val (.long qa), .second, .val (.long qb), .second, .val (.long qc), .second, .val (.long qd), .second, .val (.long qe), .second, .val (.int xk), .val (.int (4 : Int32)), .val (.long y0), .second, .val (.long y1), .second, .val (.long y2), .second, .val (.long y3), .second, .val (.long y4), .second, .val (.ref b6), .val (.int (1 : Int32))] [(.int (4 : Int32))]))
    refine ownEnds.law (fun t => XS.ifNo X31.here hx rfl (hb hby at_184) rfl ((if0 _ _).trans (tlt (by decide : (0 : Int32) < (4 : Int32))).2.2.2)) ?_
    show ownEnds _ _ _ _ (T31.setTop (mkF m 187 #[.val (.long qa), .second, .val (.long qb), .second, .val (.long qc), .second, .val (.long qd), .second, .val (.long qe), .second, .val (.int xk), .val (.int (4 : Int32)), .val (.long y0), .second, .val (.long y1), .second, .val (.long y2), .second, .val (.long y3), .second, .val (.long y4), .second, .val (.ref b6), .val (.int (1 : Int32))] []))
    refine ownEnds.law (fun t k => XS.iload X31.here hx rfl (hb hby at_187) rfl k) ?_
    show ownEnds _ _ _ _ (T31.setTop (mkF m 189 #[.val (.long qa), .second, .val (.long qb), .second, .val (.long qc), .second, .val (.long qd), .second, .val (.long qe), .second, .val (.int xk), .val (.int (4 : Int32)), .val (.long y0), .second, .val (.long y1), .second, .val (.long y2), .second, .val (.long y3), .second, .val (.long y4), .second, .val (.ref b6), .val (.int (1 : Int32))] [(.int (1 : Int32))]))
    refine ownEnds.law (fun t => XS.ifNo X31.here hx rfl (hb hby at_189) rfl ((if0 _ _).trans (feq (by decide : ¬ ((1 : Int32) = (0 : Int32)))).1)) ?_
    show ownEnds _ _ _ _ (T31.setTop (mkF m 192 #[.val (.long qa), .second, .val (.long qb), .second, .val (.long qc), .second, .val (.long qd), .second, .val (.long qe), .second, .val (.int xk), .val (.int (4 : Int32)), .val (.long y0), .second, .val (.long y1), .second, .val (.long y2), .second, .val (.long y3), .second, .val (.long y4), .second, .val (.ref b6), .val (.int (1 : Int32))] []))
    refine ownEnds.law (fun t k => XS.aload X31.here hx rfl (hb hby at_192) rfl rfl (XS.iconst X31.here hx rfl (hb hby at_194) k)) ?_
    show ownEnds _ _ _ _ (T31.setTop (mkF m 195 #[.val (.long qa), .second, .val (.long qb), .second, .val (.long qc), .second, .val (.long qd), .second, .val (.long qe), .second, .val (.int xk), .val (.int (4 : Int32)), .val (.long y0), .second, .val (.long y1), .second, .val (.long y2), .second, .val (.long y3), .second, .val (.long y4), .second, .val (.ref b6), .val (.int (1 : Int32))] [(.int (0 : Int32)), (.ref b6)]))
    obtain ⟨v32, T32, L32, X32, hQ32, st32⟩ := ownCallV X31 hx hZ hown (y := (⟨"com/example/vestline/vestline/engine/PayrollRows", "cents", "(I)J"⟩ : MethodName)) (z := (⟨"com/example/vestline/vestline/engine/PayrollRows", "cents", "(I)J"⟩ : MethodName)) (a := b6) (as := [(.int (0 : Int32))]) (wd_50 hw) (wd_51 hw) (notFace_of_selects (args := #[]) (mvT hZ (wd_53 hw))) (wd_53 hw) (wd_52 hw) (wd_6 hw) (wd_54 hw) (by decide) (rm8 l Z a0 hw b6 (0 : Int32) (4 : Int32) (35 : Int32) (4 : Int32) [y0, y1, y2, y3] T31.heap n0 Z31 R31 ⟨by decide, by decide⟩ (show (0 : Int32).toNatClampNeg < 4 from by decide)) rfl E31 0 (by decide) (by decide) (by decide) (by decide) (g := (mkF m 195 #[.val (.long qa), .second, .val (.long qb), .second, .val (.long qc), .second, .val (.long qd), .second, .val (.long qe), .second, .val (.int xk), .val (.int (4 : Int32)), .val (.long y0), .second, .val (.long y1), .second, .val (.long y2), .second, .val (.long y3), .second, .val (.long y4), .second, .val (.ref b6), .val (.int (1 : Int32))] [(.int (0 : Int32)), (.ref b6)])) rfl (by rw [hml]; rfl) (rest := []) pd_7 rfl rfl (by show 2 * 0 + _ ≤ _; exact Nat.le_of_eq rfl) (hb hby at_195)
    obtain ⟨rfl, rfl, e32⟩ := hQ32
    rw [List.append_nil] at X32
    refine ownEnds.law st32 ?_
    show ownEnds _ _ _ _ (T32.setTop (mkF m 198 #[.val (.long qa), .second, .val (.long qb), .second, .val (.long qc), .second, .val (.long qd), .second, .val (.long qe), .second, .val (.int xk), .val (.int (4 : Int32)), .val (.long y0), .second, .val (.long y1), .second, .val (.long y2), .second, .val (.long y3), .second, .val (.long y4), .second, .val (.ref b6), .val (.int (1 : Int32))] [(.long y0)]))
    refine ownEnds.law (fun t k => XS.lload X32.here hx rfl (hb hby at_198) rfl (XS.lcmp X32.here hx rfl (hb hby at_200) rfl k)) ?_
    show ownEnds _ _ _ _ (T32.setTop (mkF m 201 #[.val (.long qa), .second, .val (.long qb), .second, .val (.long qc), .second, .val (.long qd), .second, .val (.long qe), .second, .val (.int xk), .val (.int (4 : Int32)), .val (.long y0), .second, .val (.long y1), .second, .val (.long y2), .second, .val (.long y3), .second, .val (.long y4), .second, .val (.ref b6), .val (.int (1 : Int32))] [(.int (lcmpW y0 y0))]))
    refine ownEnds.law (fun t => XS.ifNo X32.here hx rfl (hb hby at_201) rfl ((if0 _ _).trans (teq ((lw_eq _ _).mpr (rfl : y0 = y0))).2)) ?_
    show ownEnds _ _ _ _ (T32.setTop (mkF m 204 #[.val (.long qa), .second, .val (.long qb), .second, .val (.long qc), .second, .val (.long qd), .second, .val (.long qe), .second, .val (.int xk), .val (.int (4 : Int32)), .val (.long y0), .second, .val (.long y1), .second, .val (.long y2), .second, .val (.long y3), .second, .val (.long y4), .second, .val (.ref b6), .val (.int (1 : Int32))] []))
    refine ownEnds.law (fun t k => XS.iconst X32.here hx rfl (hb hby at_204) (XS.goto X32.here hx rfl (pc0 := 205) (pc' := 209) rfl (hb hby at_205) (by decide) (by decide) (XS.istore X32.here hx rfl (hb hby at_209) rfl (l' := #[.val (.long qa), .second, .val (.long qb), .second, .val (.long qc), .second, .val (.long qd), .second, .val (.long qe), .second, .val (.int xk), .val (.int (4 : Int32)), .val (.long y0), .second, .val (.long y1), .second, .val (.long y2), .second, .val (.long y3), .second, .val (.long y4), .second, .val (.ref b6), .val (.int (1 : Int32))]) rfl (XS.iload X32.here hx rfl (hb hby at_211) rfl (XS.iconst X32.here hx rfl (hb hby at_213) k))))) ?_
    show ownEnds _ _ _ _ (T32.setTop (mkF m 214 #[.val (.long qa), .second, .val (.long qb), .second, .val (.long qc), .second, .val (.long qd), .second, .val (.long qe), .second, .val (.int xk), .val (.int (4 : Int32)), .val (.long y0), .second, .val (.long y1), .second, .val (.long y2), .second, .val (.long y3), .second, .val (.long y4), .second, .val (.ref b6), .val (.int (1 : Int32))] [(.int (1 : Int32)), (.int (4 : Int32))]))
    refine ownEnds.law (fun t => XS.icmpNo X32.here hx rfl (hb hby at_214) rfl (tlt (by decide : (1 : Int32) < (4 : Int32))).2.2.2) ?_
    show ownEnds _ _ _ _ (T32.setTop (mkF m 217 #[.val (.long qa), .second, .val (.long qb), .second, .val (.long qc), .second, .val (.long qd), .second, .val (.long qe), .second, .val (.int xk), .val (.int (4 : Int32)), .val (.long y0), .second, .val (.long y1), .second, .val (.long y2), .second, .val (.long y3), .second, .val (.long y4), .second, .val (.ref b6), .val (.int (1 : Int32))] []))
    refine ownEnds.law (fun t k => XS.iload X32.here hx rfl (hb hby at_217) rfl k) ?_
    show ownEnds _ _ _ _ (T32.setTop (mkF m 219 #[.val (.long qa), .second, .val (.long qb), .second, .val (.long qc), .second, .val (.long qd), .second, .val (.long qe), .second, .val (.int xk), .val (.int (4 : Int32)), .val (.long y0), .second, .val (.long y1), .second, .val (.long y2), .second, .val (.long y3), .second, .val (.long y4), .second, .val (.ref b6), .val (.int (1 : Int32))] [(.int (1 : Int32))]))
    refine ownEnds.law (fun t => XS.ifNo X32.here hx rfl (hb hby at_219) rfl ((if0 _ _).trans (feq (by decide : ¬ ((1 : Int32) = (0 : Int32)))).1)) ?_
    show ownEnds _ _ _ _ (T32.setTop (mkF m 222 #[.val (.long qa), .second, .val (.long qb), .second, .val (.long qc), .second, .val (.long qd), .second, .val (.long qe), .second, .val (.int xk), .val (.int (4 : Int32)), .val (.long y0), .second, .val (.long y1), .second, .val (.long y2), .second, .val (.long y3), .second, .val (.long y4), .second, .val (.ref b6), .val (.int (1 : Int32))] []))
    refine ownEnds.law (fun t k => XS.aload X32.here hx rfl (hb hby at_222) rfl rfl (XS.iconst X32.here hx rfl (hb hby at_224) k)) ?_
    show ownEnds _ _ _ _ (T32.setTop (mkF m 225 #[.val (.long qa), .second, .val (.long qb), .second, .val (.long qc), .second, .val (.long qd), .second, .val (.long qe), .second, .val (.int xk), .val (.int (4 : Int32)), .val (.long y0), .second, .val (.long y1), .second, .val (.long y2), .second, .val (.long y3), .second, .val (.long y4), .second, .val (.ref b6), .val (.int (1 : Int32))] [(.int (1 : Int32)), (.ref b6)]))
    obtain ⟨v33, T33, L33, X33, hQ33, st33⟩ := ownCallV X32 hx hZ hown (y := (⟨"com/example/vestline/vestline/engine/PayrollRows", "cents", "(I)J"⟩ : MethodName)) (z := (⟨"com/example/vestline/vestline/engine/PayrollRows", "cents", "(I)J"⟩ : MethodName)) (a := b6) (as := [(.int (1 : Int32))]) (wd_50 hw) (wd_51 hw) (notFace_of_selects (args := #[]) (mvT hZ (wd_53 hw))) (wd_53 hw) (wd_52 hw) (wd_6 hw) (wd_54 hw) (by decide) (rm8 l Z a0 hw b6 (1 : Int32) (4 : Int32) (35 : Int32) (4 : Int32) [y0, y1, y2, y3] T31.heap n0 Z31 R31 ⟨by decide, by decide⟩ (show (1 : Int32).toNatClampNeg < 4 from by decide)) e32 E31 0 (by decide) (by decide) (by decide) (by decide) (g := (mkF m 225 #[.val (.long qa), .second, .val (.long qb), .second, .val (.long qc), .second, .val (.long qd), .second, .val (.long qe), .second, .val (.int xk), .val (.int (4 : Int32)), .val (.long y0), .second, .val (.long y1), .second, .val (.long y2), .second, .val (.long y3), .second, .val (.long y4), .second, .val (.ref b6), .val (.int (1 : Int32))] [(.int (1 : Int32)), (.ref b6)])) rfl (by rw [hml]; rfl) (rest := []) pd_7 rfl rfl (by show 2 * 0 + _ ≤ _; exact Nat.le_of_eq rfl) (hb hby at_225)
    obtain ⟨rfl, rfl, e33⟩ := hQ33
    rw [List.append_nil] at X33
    refine ownEnds.law st33 ?_
    show ownEnds _ _ _ _ (T33.setTop (mkF m 228 #[.val (.long qa), .second, .val (.long qb), .second, .val (.long qc), .second, .val (.long qd), .second, .val (.long qe), .second, .val (.int xk), .val (.int (4 : Int32)), .val (.long y0), .second, .val (.long y1), .second, .val (.long y2), .second, .val (.long y3), .second, .val (.long y4), .second, .val (.ref b6), .val (.int (1 : Int32))] [(.long y1)]))
    refine ownEnds.law (fun t k => XS.lload X33.here hx rfl (hb hby at_228) rfl (XS.lcmp X33.here hx rfl (hb hby at_230) rfl k)) ?_
    show ownEnds _ _ _ _ (T33.setTop (mkF m 231 #[.val (.long qa), .second, .val (.long qb), .second, .val (.long qc), .second, .val (.long qd), .second, .val (.long qe), .second, .val (.int xk), .val (.int (4 : Int32)), .val (.long y0), .second, .val (.long y1), .second, .val (.long y2), .second, .val (.long y3), .second, .val (.long y4), .second, .val (.ref b6), .val (.int (1 : Int32))] [(.int (lcmpW y1 y1))]))
    refine ownEnds.law (fun t => XS.ifNo X33.here hx rfl (hb hby at_231) rfl ((if0 _ _).trans (teq ((lw_eq _ _).mpr (rfl : y1 = y1))).2)) ?_
    show ownEnds _ _ _ _ (T33.setTop (mkF m 234 #[.val (.long qa), .second, .val (.long qb), .second, .val (.long qc), .second, .val (.long qd), .second, .val (.long qe), .second, .val (.int xk), .val (.int (4 : Int32)), .val (.long y0), .second, .val (.long y1), .second, .val (.long y2), .second, .val (.long y3), .second, .val (.long y4), .second, .val (.ref b6), .val (.int (1 : Int32))] []))
    refine ownEnds.law (fun t k => XS.iconst X33.here hx rfl (hb hby at_234) (XS.goto X33.here hx rfl (pc0 := 235) (pc' := 239) rfl (hb hby at_235) (by decide) (by decide) (XS.istore X33.here hx rfl (hb hby at_239) rfl (l' := #[.val (.long qa), .second, .val (.long qb), .second, .val (.long qc), .second, .val (.long qd), .second, .val (.long qe), .second, .val (.int xk), .val (.int (4 : Int32)), .val (.long y0), .second, .val (.long y1), .second, .val (.long y2), .second, .val (.long y3), .second, .val (.long y4), .second, .val (.ref b6), .val (.int (1 : Int32))]) rfl (XS.iload X33.here hx rfl (hb hby at_241) rfl (XS.iconst X33.here hx rfl (hb hby at_243) k))))) ?_
    show ownEnds _ _ _ _ (T33.setTop (mkF m 244 #[.val (.long qa), .second, .val (.long qb), .second, .val (.long qc), .second, .val (.long qd), .second, .val (.long qe), .second, .val (.int xk), .val (.int (4 : Int32)), .val (.long y0), .second, .val (.long y1), .second, .val (.long y2), .second, .val (.long y3), .second, .val (.long y4), .second, .val (.ref b6), .val (.int (1 : Int32))] [(.int (2 : Int32)), (.int (4 : Int32))]))
    refine ownEnds.law (fun t => XS.icmpNo X33.here hx rfl (hb hby at_244) rfl (tlt (by decide : (2 : Int32) < (4 : Int32))).2.2.2) ?_
    show ownEnds _ _ _ _ (T33.setTop (mkF m 247 #[.val (.long qa), .second, .val (.long qb), .second, .val (.long qc), .second, .val (.long qd), .second, .val (.long qe), .second, .val (.int xk), .val (.int (4 : Int32)), .val (.long y0), .second, .val (.long y1), .second, .val (.long y2), .second, .val (.long y3), .second, .val (.long y4), .second, .val (.ref b6), .val (.int (1 : Int32))] []))
    refine ownEnds.law (fun t k => XS.iload X33.here hx rfl (hb hby at_247) rfl k) ?_
    show ownEnds _ _ _ _ (T33.setTop (mkF m 249 #[.val (.long qa), .second, .val (.long qb), .second, .val (.long qc), .second, .val (.long qd), .second, .val (.long qe), .second, .val (.int xk), .val (.int (4 : Int32)), .val (.long y0), .second, .val (.long y1), .second, .val (.long y2), .second, .val (.long y3), .second, .val (.long y4), .second, .val (.ref b6), .val (.int (1 : Int32))] [(.int (1 : Int32))]))
    refine ownEnds.law (fun t => XS.ifNo X33.here hx rfl (hb hby at_249) rfl ((if0 _ _).trans (feq (by decide : ¬ ((1 : Int32) = (0 : Int32)))).1)) ?_
    show ownEnds _ _ _ _ (T33.setTop (mkF m 252 #[.val (.long qa), .second, .val (.long qb), .second, .val (.long qc), .second, .val (.long qd), .second, .val (.long qe), .second, .val (.int xk), .val (.int (4 : Int32)), .val (.long y0), .second, .val (.long y1), .second, .val (.long y2), .second, .val (.long y3), .second, .val (.long y4), .second, .val (.ref b6), .val (.int (1 : Int32))] []))
    refine ownEnds.law (fun t k => XS.aload X33.here hx rfl (hb hby at_252) rfl rfl (XS.iconst X33.here hx rfl (hb hby at_254) k)) ?_
    show ownEnds _ _ _ _ (T33.setTop (mkF m 255 #[.val (.long qa), .second, .val (.long qb), .second, .val (.long qc), .second, .val (.long qd), .second, .val (.long qe), .second, .val (.int xk), .val (.int (4 : Int32)), .val (.long y0), .second, .val (.long y1), .second, .val (.long y2), .second, .val (.long y3), .second, .val (.long y4), .second, .val (.ref b6), .val (.int (1 : Int32))] [(.int (2 : Int32)), (.ref b6)]))
    obtain ⟨v34, T34, L34, X34, hQ34, st34⟩ := ownCallV X33 hx hZ hown (y := (⟨"com/example/vestline/vestline/engine/PayrollRows", "cents", "(I)J"⟩ : MethodName)) (z := (⟨"com/example/vestline/vestline/engine/PayrollRows", "cents", "(I)J"⟩ : MethodName)) (a := b6) (as := [(.int (2 : Int32))]) (wd_50 hw) (wd_51 hw) (notFace_of_selects (args := #[]) (mvT hZ (wd_53 hw))) (wd_53 hw) (wd_52 hw) (wd_6 hw) (wd_54 hw) (by decide) (rm8 l Z a0 hw b6 (2 : Int32) (4 : Int32) (35 : Int32) (4 : Int32) [y0, y1, y2, y3] T31.heap n0 Z31 R31 ⟨by decide, by decide⟩ (show (2 : Int32).toNatClampNeg < 4 from by decide)) e33 E31 0 (by decide) (by decide) (by decide) (by decide) (g := (mkF m 255 #[.val (.long qa), .second, .val (.long qb), .second, .val (.long qc), .second, .val (.long qd), .second, .val (.long qe), .second, .val (.int xk), .val (.int (4 : Int32)), .val (.long y0), .second, .val (.long y1), .second, .val (.long y2), .second, .val (.long y3), .second, .val (.long y4), .second, .val (.ref b6), .val (.int (1 : Int32))] [(.int (2 : Int32)), (.ref b6)])) rfl (by rw [hml]; rfl) (rest := []) pd_7 rfl rfl (by show 2 * 0 + _ ≤ _; exact Nat.le_of_eq rfl) (hb hby at_255)
    obtain ⟨rfl, rfl, e34⟩ := hQ34
    rw [List.append_nil] at X34
    refine ownEnds.law st34 ?_
    show ownEnds _ _ _ _ (T34.setTop (mkF m 258 #[.val (.long qa), .second, .val (.long qb), .second, .val (.long qc), .second, .val (.long qd), .second, .val (.long qe), .second, .val (.int xk), .val (.int (4 : Int32)), .val (.long y0), .second, .val (.long y1), .second, .val (.long y2), .second, .val (.long y3), .second, .val (.long y4), .second, .val (.ref b6), .val (.int (1 : Int32))] [(.long y2)]))
    refine ownEnds.law (fun t k => XS.lload X34.here hx rfl (hb hby at_258) rfl (XS.lcmp X34.here hx rfl (hb hby at_260) rfl k)) ?_
    show ownEnds _ _ _ _ (T34.setTop (mkF m 261 #[.val (.long qa), .second, .val (.long qb), .second, .val (.long qc), .second, .val (.long qd), .second, .val (.long qe), .second, .val (.int xk), .val (.int (4 : Int32)), .val (.long y0), .second, .val (.long y1), .second, .val (.long y2), .second, .val (.long y3), .second, .val (.long y4), .second, .val (.ref b6), .val (.int (1 : Int32))] [(.int (lcmpW y2 y2))]))
    refine ownEnds.law (fun t => XS.ifNo X34.here hx rfl (hb hby at_261) rfl ((if0 _ _).trans (teq ((lw_eq _ _).mpr (rfl : y2 = y2))).2)) ?_
    show ownEnds _ _ _ _ (T34.setTop (mkF m 264 #[.val (.long qa), .second, .val (.long qb), .second, .val (.long qc), .second, .val (.long qd), .second, .val (.long qe), .second, .val (.int xk), .val (.int (4 : Int32)), .val (.long y0), .second, .val (.long y1), .second, .val (.long y2), .second, .val (.long y3), .second, .val (.long y4), .second, .val (.ref b6), .val (.int (1 : Int32))] []))
    refine ownEnds.law (fun t k => XS.iconst X34.here hx rfl (hb hby at_264) (XS.goto X34.here hx rfl (pc0 := 265) (pc' := 269) rfl (hb hby at_265) (by decide) (by decide) (XS.istore X34.here hx rfl (hb hby at_269) rfl (l' := #[.val (.long qa), .second, .val (.long qb), .second, .val (.long qc), .second, .val (.long qd), .second, .val (.long qe), .second, .val (.int xk), .val (.int (4 : Int32)), .val (.long y0), .second, .val (.long y1), .second, .val (.long y2), .second, .val (.long y3), .second, .val (.long y4), .second, .val (.ref b6), .val (.int (1 : Int32))]) rfl (XS.iload X34.here hx rfl (hb hby at_271) rfl (XS.iconst X34.here hx rfl (hb hby at_273) k))))) ?_
    show ownEnds _ _ _ _ (T34.setTop (mkF m 274 #[.val (.long qa), .second, .val (.long qb), .second, .val (.long qc), .second, .val (.long qd), .second, .val (.long qe), .second, .val (.int xk), .val (.int (4 : Int32)), .val (.long y0), .second, .val (.long y1), .second, .val (.long y2), .second, .val (.long y3), .second, .val (.long y4), .second, .val (.ref b6), .val (.int (1 : Int32))] [(.int (3 : Int32)), (.int (4 : Int32))]))
    refine ownEnds.law (fun t => XS.icmpNo X34.here hx rfl (hb hby at_274) rfl (tlt (by decide : (3 : Int32) < (4 : Int32))).2.2.2) ?_
    show ownEnds _ _ _ _ (T34.setTop (mkF m 277 #[.val (.long qa), .second, .val (.long qb), .second, .val (.long qc), .second, .val (.long qd), .second, .val (.long qe), .second, .val (.int xk), .val (.int (4 : Int32)), .val (.long y0), .second, .val (.long y1), .second, .val (.long y2), .second, .val (.long y3), .second, .val (.long y4), .second, .val (.ref b6), .val (.int (1 : Int32))] []))
    refine ownEnds.law (fun t k => XS.iload X34.here hx rfl (hb hby at_277) rfl k) ?_
    show ownEnds _ _ _ _ (T34.setTop (mkF m 279 #[.val (.long qa), .second, .val (.long qb), .second, .val (.long qc), .second, .val (.long qd), .second, .val (.long qe), .second, .val (.int xk), .val (.int (4 : Int32)), .val (.long y0), .second, .val (.long y1), .second, .val (.long y2), .second, .val (.long y3), .second, .val (.long y4), .second, .val (.ref b6), .val (.int (1 : Int32))] [(.int (1 : Int32))]))
    refine ownEnds.law (fun t => XS.ifNo X34.here hx rfl (hb hby at_279) rfl ((if0 _ _).trans (feq (by decide : ¬ ((1 : Int32) = (0 : Int32)))).1)) ?_
    show ownEnds _ _ _ _ (T34.setTop (mkF m 282 #[.val (.long qa), .second, .val (.long qb), .second, .val (.long qc), .second, .val (.long qd), .second, .val (.long qe), .second, .val (.int xk), .val (.int (4 : Int32)), .val (.long y0), .second, .val (.long y1), .second, .val (.long y2), .second, .val (.long y3), .second, .val (.long y4), .second, .val (.ref b6), .val (.int (1 : Int32))] []))
    refine ownEnds.law (fun t k => XS.aload X34.here hx rfl (hb hby at_282) rfl rfl (XS.iconst X34.here hx rfl (hb hby at_284) k)) ?_
    show ownEnds _ _ _ _ (T34.setTop (mkF m 285 #[.val (.long qa), .second, .val (.long qb), .second, .val (.long qc), .second, .val (.long qd), .second, .val (.long qe), .second, .val (.int xk), .val (.int (4 : Int32)), .val (.long y0), .second, .val (.long y1), .second, .val (.long y2), .second, .val (.long y3), .second, .val (.long y4), .second, .val (.ref b6), .val (.int (1 : Int32))] [(.int (3 : Int32)), (.ref b6)]))
    obtain ⟨v35, T35, L35, X35, hQ35, st35⟩ := ownCallV X34 hx hZ hown (y := (⟨"com/example/vestline/vestline/engine/PayrollRows", "cents", "(I)J"⟩ : MethodName)) (z := (⟨"com/example/vestline/vestline/engine/PayrollRows", "cents", "(I)J"⟩ : MethodName)) (a := b6) (as := [(.int (3 : Int32))]) (wd_50 hw) (wd_51 hw) (notFace_of_selects (args := #[]) (mvT hZ (wd_53 hw))) (wd_53 hw) (wd_52 hw) (wd_6 hw) (wd_54 hw) (by decide) (rm8 l Z a0 hw b6 (3 : Int32) (4 : Int32) (35 : Int32) (4 : Int32) [y0, y1, y2, y3] T31.heap n0 Z31 R31 ⟨by decide, by decide⟩ (show (3 : Int32).toNatClampNeg < 4 from by decide)) e34 E31 0 (by decide) (by decide) (by decide) (by decide) (g := (mkF m 285 #[.val (.long qa), .second, .val (.long qb), .second, .val (.long qc), .second, .val (.long qd), .second, .val (.long qe), .second, .val (.int xk), .val (.int (4 : Int32)), .val (.long y0), .second, .val (.long y1), .second, .val (.long y2), .second, .val (.long y3), .second, .val (.long y4), .second, .val (.ref b6), .val (.int (1 : Int32))] [(.int (3 : Int32)), (.ref b6)])) rfl (by rw [hml]; rfl) (rest := []) pd_7 rfl rfl (by show 2 * 0 + _ ≤ _; exact Nat.le_of_eq rfl) (hb hby at_285)
    obtain ⟨rfl, rfl, e35⟩ := hQ35
    rw [List.append_nil] at X35
    refine ownEnds.law st35 ?_
    show ownEnds _ _ _ _ (T35.setTop (mkF m 288 #[.val (.long qa), .second, .val (.long qb), .second, .val (.long qc), .second, .val (.long qd), .second, .val (.long qe), .second, .val (.int xk), .val (.int (4 : Int32)), .val (.long y0), .second, .val (.long y1), .second, .val (.long y2), .second, .val (.long y3), .second, .val (.long y4), .second, .val (.ref b6), .val (.int (1 : Int32))] [(.long y3)]))
    refine ownEnds.law (fun t k => XS.lload X35.here hx rfl (hb hby at_288) rfl (XS.lcmp X35.here hx rfl (hb hby at_290) rfl k)) ?_
    show ownEnds _ _ _ _ (T35.setTop (mkF m 291 #[.val (.long qa), .second, .val (.long qb), .second, .val (.long qc), .second, .val (.long qd), .second, .val (.long qe), .second, .val (.int xk), .val (.int (4 : Int32)), .val (.long y0), .second, .val (.long y1), .second, .val (.long y2), .second, .val (.long y3), .second, .val (.long y4), .second, .val (.ref b6), .val (.int (1 : Int32))] [(.int (lcmpW y3 y3))]))
    refine ownEnds.law (fun t => XS.ifNo X35.here hx rfl (hb hby at_291) rfl ((if0 _ _).trans (teq ((lw_eq _ _).mpr (rfl : y3 = y3))).2)) ?_
    show ownEnds _ _ _ _ (T35.setTop (mkF m 294 #[.val (.long qa), .second, .val (.long qb), .second, .val (.long qc), .second, .val (.long qd), .second, .val (.long qe), .second, .val (.int xk), .val (.int (4 : Int32)), .val (.long y0), .second, .val (.long y1), .second, .val (.long y2), .second, .val (.long y3), .second, .val (.long y4), .second, .val (.ref b6), .val (.int (1 : Int32))] []))
    refine ownEnds.law (fun t k => XS.iconst X35.here hx rfl (hb hby at_294) (XS.goto X35.here hx rfl (pc0 := 295) (pc' := 299) rfl (hb hby at_295) (by decide) (by decide) (XS.istore X35.here hx rfl (hb hby at_299) rfl (l' := #[.val (.long qa), .second, .val (.long qb), .second, .val (.long qc), .second, .val (.long qd), .second, .val (.long qe), .second, .val (.int xk), .val (.int (4 : Int32)), .val (.long y0), .second, .val (.long y1), .second, .val (.long y2), .second, .val (.long y3), .second, .val (.long y4), .second, .val (.ref b6), .val (.int (1 : Int32))]) rfl (XS.iload X35.here hx rfl (hb hby at_301) rfl (XS.iconst X35.here hx rfl (hb hby at_303) k))))) ?_
    show ownEnds _ _ _ _ (T35.setTop (mkF m 304 #[.val (.long qa), .second, .val (.long qb), .second, .val (.long qc), .second, .val (.long qd), .second, .val (.long qe), .second, .val (.int xk), .val (.int (4 : Int32)), .val (.long y0), .second, .val (.long y1), .second, .val (.long y2), .second, .val (.long y3), .second, .val (.long y4), .second, .val (.ref b6), .val (.int (1 : Int32))] [(.int (4 : Int32)), (.int (4 : Int32))]))
    refine ownEnds.law (fun t => XS.icmpYes X35.here hx rfl (pc0 := 304) (pc' := 331) rfl (hb hby at_304) rfl (flt (Int32.lt_irrefl)).2.2.2 (by decide) (by decide)) ?_
    show ownEnds _ _ _ _ (T35.setTop (mkF m 331 #[.val (.long qa), .second, .val (.long qb), .second, .val (.long qc), .second, .val (.long qd), .second, .val (.long qe), .second, .val (.int xk), .val (.int (4 : Int32)), .val (.long y0), .second, .val (.long y1), .second, .val (.long y2), .second, .val (.long y3), .second, .val (.long y4), .second, .val (.ref b6), .val (.int (1 : Int32))] []))
    refine ownEnds.law (fun t k => XS.iload X35.here hx rfl (hb hby at_331) rfl k) ?_
    show ownEnds _ _ _ _ (T35.setTop (mkF m 333 #[.val (.long qa), .second, .val (.long qb), .second, .val (.long qc), .second, .val (.long qd), .second, .val (.long qe), .second, .val (.int xk), .val (.int (4 : Int32)), .val (.long y0), .second, .val (.long y1), .second, .val (.long y2), .second, .val (.long y3), .second, .val (.long y4), .second, .val (.ref b6), .val (.int (1 : Int32))] [(.int (1 : Int32))]))
    refine ownRetN X35 hlk hx (t := .boolean) hret (by simp) (hb hby at_333) (by decide) (by decide) ?_
    exact ⟨rfl, N31⟩
  · show ownEnds _ _ _ _ (T15.setTop (mkF m 67 #[.val (.long qa), .second, .val (.long qb), .second, .val (.long qc), .second, .val (.long qd), .second, .val (.long qe), .second, .val (.int xk), .val (.int (5 : Int32)), .val (.long y0), .second, .val (.long y1), .second, .val (.long y2), .second, .val (.long y3), .second, .val (.long y4), .second, .val (.ref b6), .unset] []))
    refine ownEnds.law (fun t k => XS.iload X15.here hx rfl (hb hby at_67) rfl k) ?_
    show ownEnds _ _ _ _ (T15.setTop (mkF m 69 #[.val (.long qa), .second, .val (.long qb), .second, .val (.long qc), .second, .val (.long qd), .second, .val (.long qe), .second, .val (.int xk), .val (.int (5 : Int32)), .val (.long y0), .second, .val (.long y1), .second, .val (.long y2), .second, .val (.long y3), .second, .val (.long y4), .second, .val (.ref b6), .unset] [(.int (5 : Int32))]))
    refine ownEnds.law (fun t => XS.ifNo X15.here hx rfl (hb hby at_69) rfl ((if0 _ _).trans (tlt (by decide : (0 : Int32) < (5 : Int32))).2.2.2)) ?_
    show ownEnds _ _ _ _ (T15.setTop (mkF m 72 #[.val (.long qa), .second, .val (.long qb), .second, .val (.long qc), .second, .val (.long qd), .second, .val (.long qe), .second, .val (.int xk), .val (.int (5 : Int32)), .val (.long y0), .second, .val (.long y1), .second, .val (.long y2), .second, .val (.long y3), .second, .val (.long y4), .second, .val (.ref b6), .unset] []))
    refine ownEnds.law (fun t k => XS.aload X15.here hx rfl (hb hby at_72) rfl rfl (XS.iconst X15.here hx rfl (hb hby at_74) (XS.iconst X15.here hx rfl (hb hby at_75) (XS.lload X15.here hx rfl (hb hby at_76) rfl (X15.ldc2Long hx hown (mvT hZ (wd_27 hw)) (g := (mkF m 78 #[.val (.long qa), .second, .val (.long qb), .second, .val (.long qc), .second, .val (.long qd), .second, .val (.long qe), .second, .val (.int xk), .val (.int (5 : Int32)), .val (.long y0), .second, .val (.long y1), .second, .val (.long y2), .second, .val (.long y3), .second, .val (.long y4), .second, .val (.ref b6), .unset] [(.long y0), (.int (5 : Int32)), (.int (0 : Int32)), (.ref b6)])) rfl (hb hby at_78) _ (XS.lxor X15.here hx rfl (hb hby at_81) rfl (XS.lload X15.here hx rfl (hb hby at_82) rfl k))))))) ?_
    show ownEnds _ _ _ _ (T15.setTop (mkF m 84 #[.val (.long qa), .second, .val (.long qb), .second, .val (.long qc), .second, .val (.long qd), .second, .val (.long qe), .second, .val (.int xk), .val (.int (5 : Int32)), .val (.long y0), .second, .val (.long y1), .second, .val (.long y2), .second, .val (.long y3), .second, .val (.long y4), .second, .val (.ref b6), .unset] [(.long y0), (.long (y0 ^^^ (-1 : Int64))), (.int (5 : Int32)), (.int (0 : Int32)), (.ref b6)]))
    obtain ⟨v36, T36, L36, X36, hQ36, st36⟩ := ownCallV X15 hx hZ hown (y := (⟨"com/example/vestline/vestline/engine/PayrollRows", "add", "(IIJJ)V"⟩ : MethodName)) (z := (⟨"com/example/vestline/vestline/engine/PayrollRows", "add", "(IIJJ)V"⟩ : MethodName)) (a := b6) (as := [(.int (0 : Int32)), (.int (5 : Int32)), (.long (y0 ^^^ (-1 : Int64))), (.long y0)]) (wd_28 hw) (wd_29 hw) (notFace_of_selects (args := #[]) (mvT hZ (wd_31 hw))) (wd_31 hw) (wd_30 hw) (wd_6 hw) (wd_32 hw) (by decide) (rm4a l Z a0 hw b6 (0 : Int32) (5 : Int32) (y0 ^^^ (-1 : Int64)) y0 (0 : Int32) (-2147483648 : Int32) ([] : List Int64) T15.heap n0 Z15 R15 (by decide) ⟨by decide, by decide⟩) rfl E15 0 (by decide) (by decide) (by decide) (by decide) (g := (mkF m 84 #[.val (.long qa), .second, .val (.long qb), .second, .val (.long qc), .second, .val (.long qd), .second, .val (.long qe), .second, .val (.int xk), .val (.int (5 : Int32)), .val (.long y0), .second, .val (.long y1), .second, .val (.long y2), .second, .val (.long y3), .second, .val (.long y4), .second, .val (.ref b6), .unset] [(.long y0), (.long (y0 ^^^ (-1 : Int64))), (.int (5 : Int32)), (.int (0 : Int32)), (.ref b6)])) rfl (by rw [hml]; rfl) (rest := []) pd_6 rfl rfl (by show 2 * 0 + _ ≤ _; exact Nat.le_of_eq rfl) (hb hby at_84)
    obtain ⟨rfl, Nq36, zq36, Rq36⟩ := hQ36
    have R36 : Rows Z n0 T36.heap b6 (1 : Int32) (5 : Int32) (4 : Int32) [y0] := by
      have q2 : FMax (-2147483648 : Int32) (5 : Int32) = (5 : Int32) := by decide
      have q1 : (0 : Int32) + 1 = (1 : Int32) := by decide
      rw [q1, q2] at Rq36
      exact Rq36
    have N36 := Fr.app N15 Nq36
    have Z36 : n0 ≤ T36.heap.size := Nat.le_trans Z15 zq36
    have E36 := R36.exa
    refine ownEnds.law st36 ?_
    show ownEnds _ _ _ _ (T36.setTop (mkF m 87 #[.val (.long qa), .second, .val (.long qb), .second, .val (.long qc), .second, .val (.long qd), .second, .val (.long qe), .second, .val (.int xk), .val (.int (5 : Int32)), .val (.long y0), .second, .val (.long y1), .second, .val (.long y2), .second, .val (.long y3), .second, .val (.long y4), .second, .val (.ref b6), .unset] []))
    refine ownEnds.law (fun t k => XS.iload X36.here hx rfl (hb hby at_87) rfl (XS.iconst X36.here hx rfl (hb hby at_89) k)) ?_
    show ownEnds _ _ _ _ (T36.setTop (mkF m 90 #[.val (.long qa), .second, .val (.long qb), .second, .val (.long qc), .second, .val (.long qd), .second, .val (.long qe), .second, .val (.int xk), .val (.int (5 : Int32)), .val (.long y0), .second, .val (.long y1), .second, .val (.long y2), .second, .val (.long y3), .second, .val (.long y4), .second, .val (.ref b6), .unset] [(.int (1 : Int32)), (.int (5 : Int32))]))
    refine ownEnds.law (fun t => XS.icmpNo X36.here hx rfl (hb hby at_90) rfl (tlt (by decide : (1 : Int32) < (5 : Int32))).2.2.2) ?_
    show ownEnds _ _ _ _ (T36.setTop (mkF m 93 #[.val (.long qa), .second, .val (.long qb), .second, .val (.long qc), .second, .val (.long qd), .second, .val (.long qe), .second, .val (.int xk), .val (.int (5 : Int32)), .val (.long y0), .second, .val (.long y1), .second, .val (.long y2), .second, .val (.long y3), .second, .val (.long y4), .second, .val (.ref b6), .unset] []))
    refine ownEnds.law (fun t k => XS.aload X36.here hx rfl (hb hby at_93) rfl rfl (XS.bipush X36.here hx rfl (hb hby at_95) (XS.bipush X36.here hx rfl (hb hby at_97) (XS.lload X36.here hx rfl (hb hby at_99) rfl (X36.ldc2Long hx hown (mvT hZ (wd_27 hw)) (g := (mkF m 101 #[.val (.long qa), .second, .val (.long qb), .second, .val (.long qc), .second, .val (.long qd), .second, .val (.long qe), .second, .val (.int xk), .val (.int (5 : Int32)), .val (.long y0), .second, .val (.long y1), .second, .val (.long y2), .second, .val (.long y3), .second, .val (.long y4), .second, .val (.ref b6), .unset] [(.long y1), (.int (15 : Int32)), (.int (10 : Int32)), (.ref b6)])) rfl (hb hby at_101) _ (XS.lxor X36.here hx rfl (hb hby at_104) rfl (XS.lload X36.here hx rfl (hb hby at_105) rfl k))))))) ?_
    show ownEnds _ _ _ _ (T36.setTop (mkF m 107 #[.val (.long qa), .second, .val (.long qb), .second, .val (.long qc), .second, .val (.long qd), .second, .val (.long qe), .second, .val (.int xk), .val (.int (5 : Int32)), .val (.long y0), .second, .val (.long y1), .second, .val (.long y2), .second, .val (.long y3), .second, .val (.long y4), .second, .val (.ref b6), .unset] [(.long y1), (.long (y1 ^^^ (-1 : Int64))), (.int (15 : Int32)), (.int (10 : Int32)), (.ref b6)]))
    obtain ⟨v37, T37, L37, X37, hQ37, st37⟩ := ownCallV X36 hx hZ hown (y := (⟨"com/example/vestline/vestline/engine/PayrollRows", "add", "(IIJJ)V"⟩ : MethodName)) (z := (⟨"com/example/vestline/vestline/engine/PayrollRows", "add", "(IIJJ)V"⟩ : MethodName)) (a := b6) (as := [(.int (10 : Int32)), (.int (15 : Int32)), (.long (y1 ^^^ (-1 : Int64))), (.long y1)]) (wd_28 hw) (wd_29 hw) (notFace_of_selects (args := #[]) (mvT hZ (wd_31 hw))) (wd_31 hw) (wd_30 hw) (wd_6 hw) (wd_32 hw) (by decide) (rm4a l Z a0 hw b6 (10 : Int32) (15 : Int32) (y1 ^^^ (-1 : Int64)) y1 (1 : Int32) (5 : Int32) ([y0] : List Int64) T36.heap n0 Z36 R36 (by decide) ⟨by decide, by decide⟩) rfl E36 0 (by decide) (by decide) (by decide) (by decide) (g := (mkF m 107 #[.val (.long qa), .second, .val (.long qb), .second, .val (.long qc), .second, .val (.long qd), .second, .val (.long qe), .second, .val (.int xk), .val (.int (5 : Int32)), .val (.long y0), .second, .val (.long y1), .second, .val (.long y2), .second, .val (.long y3), .second, .val (.long y4), .second, .val (.ref b6), .unset] [(.long y1), (.long (y1 ^^^ (-1 : Int64))), (.int (15 : Int32)), (.int (10 : Int32)), (.ref b6)])) rfl (by rw [hml]; rfl) (rest := []) pd_6 rfl rfl (by show 2 * 0 + _ ≤ _; exact Nat.le_of_eq rfl) (hb hby at_107)
    obtain ⟨rfl, Nq37, zq37, Rq37⟩ := hQ37
    have R37 : Rows Z n0 T37.heap b6 (2 : Int32) (15 : Int32) (4 : Int32) [y0, y1] := by
      have q2 : FMax (5 : Int32) (15 : Int32) = (15 : Int32) := by decide
      have q1 : (1 : Int32) + 1 = (2 : Int32) := by decide
      rw [q1, q2] at Rq37
      exact Rq37
    have N37 := Fr.app N36 Nq37
    have Z37 : n0 ≤ T37.heap.size := Nat.le_trans Z36 zq37
    have E37 := R37.exa
    refine ownEnds.law st37 ?_
    show ownEnds _ _ _ _ (T37.setTop (mkF m 110 #[.val (.long qa), .second, .val (.long qb), .second, .val (.long qc), .second, .val (.long qd), .second, .val (.long qe), .second, .val (.int xk), .val (.int (5 : Int32)), .val (.long y0), .second, .val (.long y1), .second, .val (.long y2), .second, .val (.long y3), .second, .val (.long y4), .second, .val (.ref b6), .unset] []))
    refine ownEnds.law (fun t k => XS.iload X37.here hx rfl (hb hby at_110) rfl (XS.iconst X37.here hx rfl (hb hby at_112) k)) ?_
    show ownEnds _ _ _ _ (T37.setTop (mkF m 113 #[.val (.long qa), .second, .val (.long qb), .second, .val (.long qc), .second, .val (.long qd), .second, .val (.long qe), .second, .val (.int xk), .val (.int (5 : Int32)), .val (.long y0), .second, .val (.long y1), .second, .val (.long y2), .second, .val (.long y3), .second, .val (.long y4), .second, .val (.ref b6), .unset] [(.int (2 : Int32)), (.int (5 : Int32))]))
    refine ownEnds.law (fun t => XS.icmpNo X37.here hx rfl (hb hby at_113) rfl (tlt (by decide : (2 : Int32) < (5 : Int32))).2.2.2) ?_
    show ownEnds _ _ _ _ (T37.setTop (mkF m 116 #[.val (.long qa), .second, .val (.long qb), .second, .val (.long qc), .second, .val (.long qd), .second, .val (.long qe), .second, .val (.int xk), .val (.int (5 : Int32)), .val (.long y0), .second, .val (.long y1), .second, .val (.long y2), .second, .val (.long y3), .second, .val (.long y4), .second, .val (.ref b6), .unset] []))
    refine ownEnds.law (fun t k => XS.aload X37.here hx rfl (hb hby at_116) rfl rfl (XS.bipush X37.here hx rfl (hb hby at_118) (XS.bipush X37.here hx rfl (hb hby at_120) (XS.lload X37.here hx rfl (hb hby at_122) rfl (X37.ldc2Long hx hown (mvT hZ (wd_27 hw)) (g := (mkF m 124 #[.val (.long qa), .second, .val (.long qb), .second, .val (.long qc), .second, .val (.long qd), .second, .val (.long qe), .second, .val (.int xk), .val (.int (5 : Int32)), .val (.long y0), .second, .val (.long y1), .second, .val (.long y2), .second, .val (.long y3), .second, .val (.long y4), .second, .val (.ref b6), .unset] [(.long y2), (.int (25 : Int32)), (.int (20 : Int32)), (.ref b6)])) rfl (hb hby at_124) _ (XS.lxor X37.here hx rfl (hb hby at_127) rfl (XS.lload X37.here hx rfl (hb hby at_128) rfl k))))))) ?_
    show ownEnds _ _ _ _ (T37.setTop (mkF m 130 #[.val (.long qa), .second, .val (.long qb), .second, .val (.long qc), .second, .val (.long qd), .second, .val (.long qe), .second, .val (.int xk), .val (.int (5 : Int32)), .val (.long y0), .second, .val (.long y1), .second, .val (.long y2), .second, .val (.long y3), .second, .val (.long y4), .second, .val (.ref b6), .unset] [(.long y2), (.long (y2 ^^^ (-1 : Int64))), (.int (25 : Int32)), (.int (20 : Int32)), (.ref b6)]))
    obtain ⟨v38, T38, L38, X38, hQ38, st38⟩ := ownCallV X37 hx hZ hown (y := (⟨"com/example/vestline/vestline/engine/PayrollRows", "add", "(IIJJ)V"⟩ : MethodName)) (z := (⟨"com/example/vestline/vestline/engine/PayrollRows", "add", "(IIJJ)V"⟩ : MethodName)) (a := b6) (as := [(.int (20 : Int32)), (.int (25 : Int32)), (.long (y2 ^^^ (-1 : Int64))), (.long y2)]) (wd_28 hw) (wd_29 hw) (notFace_of_selects (args := #[]) (mvT hZ (wd_31 hw))) (wd_31 hw) (wd_30 hw) (wd_6 hw) (wd_32 hw) (by decide) (rm4a l Z a0 hw b6 (20 : Int32) (25 : Int32) (y2 ^^^ (-1 : Int64)) y2 (2 : Int32) (15 : Int32) ([y0, y1] : List Int64) T37.heap n0 Z37 R37 (by decide) ⟨by decide, by decide⟩) rfl E37 0 (by decide) (by decide) (by decide) (by decide) (g := (mkF m 130 #[.val (.long qa), .second, .val (.long qb), .second, .val (.long qc), .second, .val (.long qd), .second, .val (.long qe), .second, .val (.int xk), .val (.int (5 : Int32)), .val (.long y0), .second, .val (.long y1), .second, .val (.long y2), .second, .val (.long y3), .second, .val (.long y4), .second, .val (.ref b6), .unset] [(.long y2), (.long (y2 ^^^ (-1 : Int64))), (.int (25 : Int32)), (.int (20 : Int32)), (.ref b6)])) rfl (by rw [hml]; rfl) (rest := []) pd_6 rfl rfl (by show 2 * 0 + _ ≤ _; exact Nat.le_of_eq rfl) (hb hby at_130)
    obtain ⟨rfl, Nq38, zq38, Rq38⟩ := hQ38
    have R38 : Rows Z n0 T38.heap b6 (3 : Int32) (25 : Int32) (4 : Int32) [y0, y1, y2] := by
      have q2 : FMax (15 : Int32) (25 : Int32) = (25 : Int32) := by decide
      have q1 : (2 : Int32) + 1 = (3 : Int32) := by decide
      rw [q1, q2] at Rq38
      exact Rq38
    have N38 := Fr.app N37 Nq38
    have Z38 : n0 ≤ T38.heap.size := Nat.le_trans Z37 zq38
    have E38 := R38.exa
    refine ownEnds.law st38 ?_
    show ownEnds _ _ _ _ (T38.setTop (mkF m 133 #[.val (.long qa), .second, .val (.long qb), .second, .val (.long qc), .second, .val (.long qd), .second, .val (.long qe), .second, .val (.int xk), .val (.int (5 : Int32)), .val (.long y0), .second, .val (.long y1), .second, .val (.long y2), .second, .val (.long y3), .second, .val (.long y4), .second, .val (.ref b6), .unset] []))
    refine ownEnds.law (fun t k => XS.iload X38.here hx rfl (hb hby at_133) rfl (XS.iconst X38.here hx rfl (hb hby at_135) k)) ?_
    show ownEnds _ _ _ _ (T38.setTop (mkF m 136 #[.val (.long qa), .second, .val (.long qb), .second, .val (.long qc), .second, .val (.long qd), .second, .val (.long qe), .second, .val (.int xk), .val (.int (5 : Int32)), .val (.long y0), .second, .val (.long y1), .second, .val (.long y2), .second, .val (.long y3), .second, .val (.long y4), .second, .val (.ref b6), .unset] [(.int (3 : Int32)), (.int (5 : Int32))]))
    refine ownEnds.law (fun t => XS.icmpNo X38.here hx rfl (hb hby at_136) rfl (tlt (by decide : (3 : Int32) < (5 : Int32))).2.2.2) ?_
    show ownEnds _ _ _ _ (T38.setTop (mkF m 139 #[.val (.long qa), .second, .val (.long qb), .second, .val (.long qc), .second, .val (.long qd), .second, .val (.long qe), .second, .val (.int xk), .val (.int (5 : Int32)), .val (.long y0), .second, .val (.long y1), .second, .val (.long y2), .second, .val (.long y3), .second, .val (.long y4), .second, .val (.ref b6), .unset] []))
    refine ownEnds.law (fun t k => XS.aload X38.here hx rfl (hb hby at_139) rfl rfl (XS.bipush X38.here hx rfl (hb hby at_141) (XS.bipush X38.here hx rfl (hb hby at_143) (XS.lload X38.here hx rfl (hb hby at_145) rfl (X38.ldc2Long hx hown (mvT hZ (wd_27 hw)) (g := (mkF m 147 #[.val (.long qa), .second, .val (.long qb), .second, .val (.long qc), .second, .val (.long qd), .second, .val (.long qe), .second, .val (.int xk), .val (.int (5 : Int32)), .val (.long y0), .second, .val (.long y1), .second, .val (.long y2), .second, .val (.long y3), .second, .val (.long y4), .second, .val (.ref b6), .unset] [(.long y3), (.int (35 : Int32)), (.int (30 : Int32)), (.ref b6)])) rfl (hb hby at_147) _ (XS.lxor X38.here hx rfl (hb hby at_150) rfl (XS.lload X38.here hx rfl (hb hby at_151) rfl k))))))) ?_
    show ownEnds _ _ _ _ (T38.setTop (mkF m 153 #[.val (.long qa), .second, .val (.long qb), .second, .val (.long qc), .second, .val (.long qd), .second, .val (.long qe), .second, .val (.int xk), .val (.int (5 : Int32)), .val (.long y0), .second, .val (.long y1), .second, .val (.long y2), .second, .val (.long y3), .second, .val (.long y4), .second, .val (.ref b6), .unset] [(.long y3), (.long (y3 ^^^ (-1 : Int64))), (.int (35 : Int32)), (.int (30 : Int32)), (.ref b6)]))
    obtain ⟨v39, T39, L39, X39, hQ39, st39⟩ := ownCallV X38 hx hZ hown (y := (⟨"com/example/vestline/vestline/engine/PayrollRows", "add", "(IIJJ)V"⟩ : MethodName)) (z := (⟨"com/example/vestline/vestline/engine/PayrollRows", "add", "(IIJJ)V"⟩ : MethodName)) (a := b6) (as := [(.int (30 : Int32)), (.int (35 : Int32)), (.long (y3 ^^^ (-1 : Int64))), (.long y3)]) (wd_28 hw) (wd_29 hw) (notFace_of_selects (args := #[]) (mvT hZ (wd_31 hw))) (wd_31 hw) (wd_30 hw) (wd_6 hw) (wd_32 hw) (by decide) (rm4a l Z a0 hw b6 (30 : Int32) (35 : Int32) (y3 ^^^ (-1 : Int64)) y3 (3 : Int32) (25 : Int32) ([y0, y1, y2] : List Int64) T38.heap n0 Z38 R38 (by decide) ⟨by decide, by decide⟩) rfl E38 0 (by decide) (by decide) (by decide) (by decide) (g := (mkF m 153 #[.val (.long qa), .second, .val (.long qb), .second, .val (.long qc), .second, .val (.long qd), .second, .val (.long qe), .second, .val (.int xk), .val (.int (5 : Int32)), .val (.long y0), .second, .val (.long y1), .second, .val (.long y2), .second, .val (.long y3), .second, .val (.long y4), .second, .val (.ref b6), .unset] [(.long y3), (.long (y3 ^^^ (-1 : Int64))), (.int (35 : Int32)), (.int (30 : Int32)), (.ref b6)])) rfl (by rw [hml]; rfl) (rest := []) pd_6 rfl rfl (by show 2 * 0 + _ ≤ _; exact Nat.le_of_eq rfl) (hb hby at_153)
    obtain ⟨rfl, Nq39, zq39, Rq39⟩ := hQ39
    have R39 : Rows Z n0 T39.heap b6 (4 : Int32) (35 : Int32) (4 : Int32) [y0, y1, y2, y3] := by
      have q2 : FMax (25 : Int32) (35 : Int32) = (35 : Int32) := by decide
      have q1 : (3 : Int32) + 1 = (4 : Int32) := by decide
      rw [q1, q2] at Rq39
      exact Rq39
    have N39 := Fr.app N38 Nq39
    have Z39 : n0 ≤ T39.heap.size := Nat.le_trans Z38 zq39
    have E39 := R39.exa
    refine ownEnds.law st39 ?_
    show ownEnds _ _ _ _ (T39.setTop (mkF m 156 #[.val (.long qa), .second, .val (.long qb), .second, .val (.long qc), .second, .val (.long qd), .second, .val (.long qe), .second, .val (.int xk), .val (.int (5 : Int32)), .val (.long y0), .second, .val (.long y1), .second, .val (.long y2), .second, .val (.long y3), .second, .val (.long y4), .second, .val (.ref b6), .unset] []))
    refine ownEnds.law (fun t k => XS.iload X39.here hx rfl (hb hby at_156) rfl (XS.iconst X39.here hx rfl (hb hby at_158) k)) ?_
    show ownEnds _ _ _ _ (T39.setTop (mkF m 159 #[.val (.long qa), .second, .val (.long qb), .second, .val (.long qc), .second, .val (.long qd), .second, .val (.long qe), .second, .val (.int xk), .val (.int (5 : Int32)), .val (.long y0), .second, .val (.long y1), .second, .val (.long y2), .second, .val (.long y3), .second, .val (.long y4), .second, .val (.ref b6), .unset] [(.int (4 : Int32)), (.int (5 : Int32))]))
    refine ownEnds.law (fun t => XS.icmpNo X39.here hx rfl (hb hby at_159) rfl (tlt (by decide : (4 : Int32) < (5 : Int32))).2.2.2) ?_
    show ownEnds _ _ _ _ (T39.setTop (mkF m 162 #[.val (.long qa), .second, .val (.long qb), .second, .val (.long qc), .second, .val (.long qd), .second, .val (.long qe), .second, .val (.int xk), .val (.int (5 : Int32)), .val (.long y0), .second, .val (.long y1), .second, .val (.long y2), .second, .val (.long y3), .second, .val (.long y4), .second, .val (.ref b6), .unset] []))
    refine ownEnds.law (fun t k => XS.aload X39.here hx rfl (hb hby at_162) rfl rfl (XS.bipush X39.here hx rfl (hb hby at_164) (XS.bipush X39.here hx rfl (hb hby at_166) (XS.lload X39.here hx rfl (hb hby at_168) rfl (X39.ldc2Long hx hown (mvT hZ (wd_27 hw)) (g := (mkF m 170 #[.val (.long qa), .second, .val (.long qb), .second, .val (.long qc), .second, .val (.long qd), .second, .val (.long qe), .second, .val (.int xk), .val (.int (5 : Int32)), .val (.long y0), .second, .val (.long y1), .second, .val (.long y2), .second, .val (.long y3), .second, .val (.long y4), .second, .val (.ref b6), .unset] [(.long y4), (.int (45 : Int32)), (.int (40 : Int32)), (.ref b6)])) rfl (hb hby at_170) _ (XS.lxor X39.here hx rfl (hb hby at_173) rfl (XS.lload X39.here hx rfl (hb hby at_174) rfl k))))))) ?_
    show ownEnds _ _ _ _ (T39.setTop (mkF m 176 #[.val (.long qa), .second, .val (.long qb), .second, .val (.long qc), .second, .val (.long qd), .second, .val (.long qe), .second, .val (.int xk), .val (.int (5 : Int32)), .val (.long y0), .second, .val (.long y1), .second, .val (.long y2), .second, .val (.long y3), .second, .val (.long y4), .second, .val (.ref b6), .unset] [(.long y4), (.long (y4 ^^^ (-1 : Int64))), (.int (45 : Int32)), (.int (40 : Int32)), (.ref b6)]))
    obtain ⟨v40, T40, L40, X40, hQ40, st40⟩ := ownCallV X39 hx hZ hown (y := (⟨"com/example/vestline/vestline/engine/PayrollRows", "add", "(IIJJ)V"⟩ : MethodName)) (z := (⟨"com/example/vestline/vestline/engine/PayrollRows", "add", "(IIJJ)V"⟩ : MethodName)) (a := b6) (as := [(.int (40 : Int32)), (.int (45 : Int32)), (.long (y4 ^^^ (-1 : Int64))), (.long y4)]) (wd_28 hw) (wd_29 hw) (notFace_of_selects (args := #[]) (mvT hZ (wd_31 hw))) (wd_31 hw) (wd_30 hw) (wd_6 hw) (wd_32 hw) (by decide) (rm4b l Z a0 hw b6 (40 : Int32) (45 : Int32) (y4 ^^^ (-1 : Int64)) y4 (35 : Int32) ([y0, y1, y2, y3] : List Int64) T39.heap n0 Z39 R39 (by decide)) rfl E39 0 (by decide) (by decide) (by decide) (by decide) (g := (mkF m 176 #[.val (.long qa), .second, .val (.long qb), .second, .val (.long qc), .second, .val (.long qd), .second, .val (.long qe), .second, .val (.int xk), .val (.int (5 : Int32)), .val (.long y0), .second, .val (.long y1), .second, .val (.long y2), .second, .val (.long y3), .second, .val (.long y4), .second, .val (.ref b6), .unset] [(.long y4), (.long (y4 ^^^ (-1 : Int64))), (.int (45 : Int32)), (.int (40 : Int32)), (.ref b6)])) rfl (by rw [hml]; rfl) (rest := []) pd_6 rfl rfl (by show 2 * 0 + _ ≤ _; exact Nat.le_of_eq rfl) (hb hby at_176)
    obtain ⟨rfl, Nq40, zq40, Rq40⟩ := hQ40
    have R40 : Rows Z n0 T40.heap b6 (5 : Int32) (45 : Int32) (8 : Int32) [y0, y1, y2, y3, y4] := by
      have q2 : FMax (35 : Int32) (45 : Int32) = (45 : Int32) := by decide
      rw [q2] at Rq40
      exact Rq40
    have N40 := Fr.app N39 Nq40
    have Z40 : n0 ≤ T40.heap.size := Nat.le_trans Z39 zq40
    have E40 := R40.exa
    refine ownEnds.law st40 ?_
    show ownEnds _ _ _ _ (T40.setTop (mkF m 179 #[.val (.long qa), .second, .val (.long qb), .second, .val (.long qc), .second, .val (.long qd), .second, .val (.long qe), .second, .val (.int xk), .val (.int (5 : Int32)), .val (.long y0), .second, .val (.long y1), .second, .val (.long y2), .second, .val (.long y3), .second, .val (.long y4), .second, .val (.ref b6), .unset] []))
    refine ownEnds.law (fun t k => XS.iconst X40.here hx rfl (hb hby at_179) (XS.istore X40.here hx rfl (hb hby at_180) rfl (l' := #[.val (.long qa), .second, .val (.long qb), .second, .val (.long qc), .second, .val (.long qd), .second, .val (.long qe), .second, .val (.int xk), .val (.int (5 : Int32)), .val (.long y0), .second, .val (.long y1), .second, .val (.long y2), .second, .val (.long y3), .second, .val (.long y4), .second, .val (.ref b6), .val (.int (1 : Int32))]) rfl (XS.iload X40.here hx rfl (hb hby at_182) rfl k))) ?_
    show ownEnds _ _ _ _ (T40.setTop (mkF m 184 #[.val (.long qa), .second, .val (.long qb), .second, .val (.long qc), .second, .val (.long qd), .second, .val (.long qe), .second, .val (.int xk), .val (.int (5 : Int32)), .val (.long y0), .second, .val (.long y1), .second, .val (.long y2), .second, .val (.long y3), .second, .val (.long y4), .second, .val (.ref b6), .val (.int (1 : Int32))] [(.int (5 : Int32))]))
    refine ownEnds.law (fun t => XS.ifNo X40.here hx rfl (hb hby at_184) rfl ((if0 _ _).trans (tlt (by decide : (0 : Int32) < (5 : Int32))).2.2.2)) ?_
    show ownEnds _ _ _ _ (T40.setTop (mkF m 187 #[.val (.long qa), .second, .val (.long qb), .second, .val (.long qc), .second, .val (.long qd), .second, .val (.long qe), .second, .val (.int xk), .val (.int (5 : Int32)), .val (.long y0), .second, .val (.long y1), .second, .val (.long y2), .second, .val (.long y3), .second, .val (.long y4), .second, .val (.ref b6), .val (.int (1 : Int32))] []))
    refine ownEnds.law (fun t k => XS.iload X40.here hx rfl (hb hby at_187) rfl k) ?_
    show ownEnds _ _ _ _ (T40.setTop (mkF m 189 #[.val (.long qa), .second, .val (.long qb), .second, .val (.long qc), .second, .val (.long qd), .second, .val (.long qe), .second, .val (.int xk), .val (.int (5 : Int32)), .val (.long y0), .second, .val (.long y1), .second, .val (.long y2), .second, .val (.long y3), .second, .val (.long y4), .second, .val (.ref b6), .val (.int (1 : Int32))] [(.int (1 : Int32))]))
    refine ownEnds.law (fun t => XS.ifNo X40.here hx rfl (hb hby at_189) rfl ((if0 _ _).trans (feq (by decide : ¬ ((1 : Int32) = (0 : Int32)))).1)) ?_
    show ownEnds _ _ _ _ (T40.setTop (mkF m 192 #[.val (.long qa), .second, .val (.long qb), .second, .val (.long qc), .second, .val (.long qd), .second, .val (.long qe), .second, .val (.int xk), .val (.int (5 : Int32)), .val (.long y0), .second, .val (.long y1), .second, .val (.long y2), .second, .val (.long y3), .second, .val (.long y4), .second, .val (.ref b6), .val (.int (1 : Int32))] []))
    refine ownEnds.law (fun t k => XS.aload X40.here hx rfl (hb hby at_192) rfl rfl (XS.iconst X40.here hx rfl (hb hby at_194) k)) ?_
    show ownEnds _ _ _ _ (T40.setTop (mkF m 195 #[.val (.long qa), .second, .val (.long qb), .second, .val (.long qc), .second, .val (.long qd), .second, .val (.long qe), .second, .val (.int xk), .val (.int (5 : Int32)), .val (.long y0), .second, .val (.long y1), .second, .val (.long y2), .second, .val (.long y3), .second, .val (.long y4), .second, .val (.ref b6), .val (.int (1 : Int32))] [(.int (0 : Int32)), (.ref b6)]))
    obtain ⟨v41, T41, L41, X41, hQ41, st41⟩ := ownCallV X40 hx hZ hown (y := (⟨"com/example/vestline/vestline/engine/PayrollRows", "cents", "(I)J"⟩ : MethodName)) (z := (⟨"com/example/vestline/vestline/engine/PayrollRows", "cents", "(I)J"⟩ : MethodName)) (a := b6) (as := [(.int (0 : Int32))]) (wd_50 hw) (wd_51 hw) (notFace_of_selects (args := #[]) (mvT hZ (wd_53 hw))) (wd_53 hw) (wd_52 hw) (wd_6 hw) (wd_54 hw) (by decide) (rm8 l Z a0 hw b6 (0 : Int32) (5 : Int32) (45 : Int32) (8 : Int32) [y0, y1, y2, y3, y4] T40.heap n0 Z40 R40 ⟨by decide, by decide⟩ (show (0 : Int32).toNatClampNeg < 5 from by decide)) rfl E40 0 (by decide) (by decide) (by decide) (by decide) (g := (mkF m 195 #[.val (.long qa), .second, .val (.long qb), .second, .val (.long qc), .second, .val (.long qd), .second, .val (.long qe), .second, .val (.int xk), .val (.int (5 : Int32)), .val (.long y0), .second, .val (.long y1), .second, .val (.long y2), .second, .val (.long y3), .second, .val (.long y4), .second, .val (.ref b6), .val (.int (1 : Int32))] [(.int (0 : Int32)), (.ref b6)])) rfl (by rw [hml]; rfl) (rest := []) pd_7 rfl rfl (by show 2 * 0 + _ ≤ _; exact Nat.le_of_eq rfl) (hb hby at_195)
    obtain ⟨rfl, rfl, e41⟩ := hQ41
    rw [List.append_nil] at X41
    refine ownEnds.law st41 ?_
    show ownEnds _ _ _ _ (T41.setTop (mkF m 198 #[.val (.long qa), .second, .val (.long qb), .second, .val (.long qc), .second, .val (.long qd), .second, .val (.long qe), .second, .val (.int xk), .val (.int (5 : Int32)), .val (.long y0), .second, .val (.long y1), .second, .val (.long y2), .second, .val (.long y3), .second, .val (.long y4), .second, .val (.ref b6), .val (.int (1 : Int32))] [(.long y0)]))
    refine ownEnds.law (fun t k => XS.lload X41.here hx rfl (hb hby at_198) rfl (XS.lcmp X41.here hx rfl (hb hby at_200) rfl k)) ?_
    show ownEnds _ _ _ _ (T41.setTop (mkF m 201 #[.val (.long qa), .second, .val (.long qb), .second, .val (.long qc), .second, .val (.long qd), .second, .val (.long qe), .second, .val (.int xk), .val (.int (5 : Int32)), .val (.long y0), .second, .val (.long y1), .second, .val (.long y2), .second, .val (.long y3), .second, .val (.long y4), .second, .val (.ref b6), .val (.int (1 : Int32))] [(.int (lcmpW y0 y0))]))
    refine ownEnds.law (fun t => XS.ifNo X41.here hx rfl (hb hby at_201) rfl ((if0 _ _).trans (teq ((lw_eq _ _).mpr (rfl : y0 = y0))).2)) ?_
    show ownEnds _ _ _ _ (T41.setTop (mkF m 204 #[.val (.long qa), .second, .val (.long qb), .second, .val (.long qc), .second, .val (.long qd), .second, .val (.long qe), .second, .val (.int xk), .val (.int (5 : Int32)), .val (.long y0), .second, .val (.long y1), .second, .val (.long y2), .second, .val (.long y3), .second, .val (.long y4), .second, .val (.ref b6), .val (.int (1 : Int32))] []))
    refine ownEnds.law (fun t k => XS.iconst X41.here hx rfl (hb hby at_204) (XS.goto X41.here hx rfl (pc0 := 205) (pc' := 209) rfl (hb hby at_205) (by decide) (by decide) (XS.istore X41.here hx rfl (hb hby at_209) rfl (l' := #[.val (.long qa), .second, .val (.long qb), .second, .val (.long qc), .second, .val (.long qd), .second, .val (.long qe), .second, .val (.int xk), .val (.int (5 : Int32)), .val (.long y0), .second, .val (.long y1), .second, .val (.long y2), .second, .val (.long y3), .second, .val (.long y4), .second, .val (.ref b6), .val (.int (1 : Int32))]) rfl (XS.iload X41.here hx rfl (hb hby at_211) rfl (XS.iconst X41.here hx rfl (hb hby at_213) k))))) ?_
    show ownEnds _ _ _ _ (T41.setTop (mkF m 214 #[.val (.long qa), .second, .val (.long qb), .second, .val (.long qc), .second, .val (.long qd), .second, .val (.long qe), .second, .val (.int xk), .val (.int (5 : Int32)), .val (.long y0), .second, .val (.long y1), .second, .val (.long y2), .second, .val (.long y3), .second, .val (.long y4), .second, .val (.ref b6), .val (.int (1 : Int32))] [(.int (1 : Int32)), (.int (5 : Int32))]))
    refine ownEnds.law (fun t => XS.icmpNo X41.here hx rfl (hb hby at_214) rfl (tlt (by decide : (1 : Int32) < (5 : Int32))).2.2.2) ?_
    show ownEnds _ _ _ _ (T41.setTop (mkF m 217 #[.val (.long qa), .second, .val (.long qb), .second, .val (.long qc), .second, .val (.long qd), .second, .val (.long qe), .second, .val (.int xk), .val (.int (5 : Int32)), .val (.long y0), .second, .val (.long y1), .second, .val (.long y2), .second, .val (.long y3), .second, .val (.long y4), .second, .val (.ref b6), .val (.int (1 : Int32))] []))
    refine ownEnds.law (fun t k => XS.iload X41.here hx rfl (hb hby at_217) rfl k) ?_
    show ownEnds _ _ _ _ (T41.setTop (mkF m 219 #[.val (.long qa), .second, .val (.long qb), .second, .val (.long qc), .second, .val (.long qd), .second, .val (.long qe), .second, .val (.int xk), .val (.int (5 : Int32)), .val (.long y0), .second, .val (.long y1), .second, .val (.long y2), .second, .val (.long y3), .second, .val (.long y4), .second, .val (.ref b6), .val (.int (1 : Int32))] [(.int (1 : Int32))]))
    refine ownEnds.law (fun t => XS.ifNo X41.here hx rfl (hb hby at_219) rfl ((if0 _ _).trans (feq (by decide : ¬ ((1 : Int32) = (0 : Int32)))).1)) ?_
    show ownEnds _ _ _ _ (T41.setTop (mkF m 222 #[.val (.long qa), .second, .val (.long qb), .second, .val (.long qc), .second, .val (.long qd), .second, .val (.long qe), .second, .val (.int xk), .val (.int (5 : Int32)), .val (.long y0), .second, .val (.long y1), .second, .val (.long y2), .second, .val (.long y3), .second, .val (.long y4), .second, .val (.ref b6), .val (.int (1 : Int32))] []))
    refine ownEnds.law (fun t k => XS.aload X41.here hx rfl (hb hby at_222) rfl rfl (XS.iconst X41.here hx rfl (hb hby at_224) k)) ?_
    show ownEnds _ _ _ _ (T41.setTop (mkF m 225 #[.val (.long qa), .second, .val (.long qb), .second, .val (.long qc), .second, .val (.long qd), .second, .val (.long qe), .second, .val (.int xk), .val (.int (5 : Int32)), .val (.long y0), .second, .val (.long y1), .second, .val (.long y2), .second, .val (.long y3), .second, .val (.long y4), .second, .val (.ref b6), .val (.int (1 : Int32))] [(.int (1 : Int32)), (.ref b6)]))
    obtain ⟨v42, T42, L42, X42, hQ42, st42⟩ := ownCallV X41 hx hZ hown (y := (⟨"com/example/vestline/vestline/engine/PayrollRows", "cents", "(I)J"⟩ : MethodName)) (z := (⟨"com/example/vestline/vestline/engine/PayrollRows", "cents", "(I)J"⟩ : MethodName)) (a := b6) (as := [(.int (1 : Int32))]) (wd_50 hw) (wd_51 hw) (notFace_of_selects (args := #[]) (mvT hZ (wd_53 hw))) (wd_53 hw) (wd_52 hw) (wd_6 hw) (wd_54 hw) (by decide) (rm8 l Z a0 hw b6 (1 : Int32) (5 : Int32) (45 : Int32) (8 : Int32) [y0, y1, y2, y3, y4] T40.heap n0 Z40 R40 ⟨by decide, by decide⟩ (show (1 : Int32).toNatClampNeg < 5 from by decide)) e41 E40 0 (by decide) (by decide) (by decide) (by decide) (g := (mkF m 225 #[.val (.long qa), .second, .val (.long qb), .second, .val (.long qc), .second, .val (.long qd), .second, .val (.long qe), .second, .val (.int xk), .val (.int (5 : Int32)), .val (.long y0), .second, .val (.long y1), .second, .val (.long y2), .second, .val (.long y3), .second, .val (.long y4), .second, .val (.ref b6), .val (.int (1 : Int32))] [(.int (1 : Int32)), (.ref b6)])) rfl (by rw [hml]; rfl) (rest := []) pd_7 rfl rfl (by show 2 * 0 + _ ≤ _; exact Nat.le_of_eq rfl) (hb hby at_225)
    obtain ⟨rfl, rfl, e42⟩ := hQ42
    rw [List.append_nil] at X42
    refine ownEnds.law st42 ?_
    show ownEnds _ _ _ _ (T42.setTop (mkF m 228 #[.val (.long qa), .second, .val (.long qb), .second, .val (.long qc), .second, .val (.long qd), .second, .val (.long qe), .second, .val (.int xk), .val (.int (5 : Int32)), .val (.long y0), .second, .val (.long y1), .second, .val (.long y2), .second, .val (.long y3), .second, .val (.long y4), .second, .val (.ref b6), .val (.int (1 : Int32))] [(.long y1)]))
    refine ownEnds.law (fun t k => XS.lload X42.here hx rfl (hb hby at_228) rfl (XS.lcmp X42.here hx rfl (hb hby at_230) rfl k)) ?_
    show ownEnds _ _ _ _ (T42.setTop (mkF m 231 #[.val (.long qa), .second, .val (.long qb), .second, .val (.long qc), .second, .val (.long qd), .second, .val (.long qe), .second, .val (.int xk), .val (.int (5 : Int32)), .val (.long y0), .second, .val (.long y1), .second, .val (.long y2), .second, .val (.long y3), .second, .val (.long y4), .second, .val (.ref b6), .val (.int (1 : Int32))] [(.int (lcmpW y1 y1))]))
    refine ownEnds.law (fun t => XS.ifNo X42.here hx rfl (hb hby at_231) rfl ((if0 _ _).trans (teq ((lw_eq _ _).mpr (rfl : y1 = y1))).2)) ?_
    show ownEnds _ _ _ _ (T42.setTop (mkF m 234 #[.val (.long qa), .second, .val (.long qb), .second, .val (.long qc), .second, .val (.long qd), .second, .val (.long qe), .second, .val (.int xk), .val (.int (5 : Int32)), .val (.long y0), .second, .val (.long y1), .second, .val (.long y2), .second, .val (.long y3), .second, .val (.long y4), .second, .val (.ref b6), .val (.int (1 : Int32))] []))
    refine ownEnds.law (fun t k => XS.iconst X42.here hx rfl (hb hby at_234) (XS.goto X42.here hx rfl (pc0 := 235) (pc' := 239) rfl (hb hby at_235) (by decide) (by decide) (XS.istore X42.here hx rfl (hb hby at_239) rfl (l' := #[.val (.long qa), .second, .val (.long qb), .second, .val (.long qc), .second, .val (.long qd), .second, .val (.long qe), .second, .val (.int xk), .val (.int (5 : Int32)), .val (.long y0), .second, .val (.long y1), .second, .val (.long y2), .second, .val (.long y3), .second, .val (.long y4), .second, .val (.ref b6), .val (.int (1 : Int32))]) rfl (XS.iload X42.here hx rfl (hb hby at_241) rfl (XS.iconst X42.here hx rfl (hb hby at_243) k))))) ?_
    show ownEnds _ _ _ _ (T42.setTop (mkF m 244 #[.val (.long qa), .second, .val (.long qb), .second, .val (.long qc), .second, .val (.long qd), .second, .val (.long qe), .second, .val (.int xk), .val (.int (5 : Int32)), .val (.long y0), .second, .val (.long y1), .second, .val (.long y2), .second, .val (.long y3), .second, .val (.long y4), .second, .val (.ref b6), .val (.int (1 : Int32))] [(.int (2 : Int32)), (.int (5 : Int32))]))
    refine ownEnds.law (fun t => XS.icmpNo X42.here hx rfl (hb hby at_244) rfl (tlt (by decide : (2 : Int32) < (5 : Int32))).2.2.2) ?_
    show ownEnds _ _ _ _ (T42.setTop (mkF m 247 #[.val (.long qa), .second, .val (.long qb), .second, .val (.long qc), .second, .val (.long qd), .second, .val (.long qe), .second, .val (.int xk), .val (.int (5 : Int32)), .val (.long y0), .second, .val (.long y1), .second, .val (.long y2), .second, .val (.long y3), .second, .val (.long y4), .second, .val (.ref b6), .val (.int (1 : Int32))] []))
    refine ownEnds.law (fun t k => XS.iload X42.here hx rfl (hb hby at_247) rfl k) ?_
    show ownEnds _ _ _ _ (T42.setTop (mkF m 249 #[.val (.long qa), .second, .val (.long qb), .second, .val (.long qc), .second, .val (.long qd), .second, .val (.long qe), .second, .val (.int xk), .val (.int (5 : Int32)), .val (.long y0), .second, .val (.long y1), .second, .val (.long y2), .second, .val (.long y3), .second, .val (.long y4), .second, .val (.ref b6), .val (.int (1 : Int32))] [(.int (1 : Int32))]))
    refine ownEnds.law (fun t => XS.ifNo X42.here hx rfl (hb hby at_249) rfl ((if0 _ _).trans (feq (by decide : ¬ ((1 : Int32) = (0 : Int32)))).1)) ?_
    show ownEnds _ _ _ _ (T42.setTop (mkF m 252 #[.val (.long qa), .second, .val (.long qb), .second, .val (.long qc), .second, .val (.long qd), .second, .val (.long qe), .second, .val (.int xk), .val (.int (5 : Int32)), .val (.long y0), .second, .val (.long y1), .second, .val (.long y2), .second, .val (.long y3), .second, .val (.long y4), .second, .val (.ref b6), .val (.int (1 : Int32))] []))
    refine ownEnds.law (fun t k => XS.aload X42.here hx rfl (hb hby at_252) rfl rfl (XS.iconst X42.here hx rfl (hb hby at_254) k)) ?_
    show ownEnds _ _ _ _ (T42.setTop (mkF m 255 #[.val (.long qa), .second, .val (.long qb), .second, .val (.long qc), .second, .val (.long qd), .second, .val (.long qe), .second, .val (.int xk), .val (.int (5 : Int32)), .val (.long y0), .second, .val (.long y1), .second, .val (.long y2), .second, .val (.long y3), .second, .val (.long y4), .second, .val (.ref b6), .val (.int (1 : Int32))] [(.int (2 : Int32)), (.ref b6)]))
    obtain ⟨v43, T43, L43, X43, hQ43, st43⟩ := ownCallV X42 hx hZ hown (y := (⟨"com/example/vestline/vestline/engine/PayrollRows", "cents", "(I)J"⟩ : MethodName)) (z := (⟨"com/example/vestline/vestline/engine/PayrollRows", "cents", "(I)J"⟩ : MethodName)) (a := b6) (as := [(.int (2 : Int32))]) (wd_50 hw) (wd_51 hw) (notFace_of_selects (args := #[]) (mvT hZ (wd_53 hw))) (wd_53 hw) (wd_52 hw) (wd_6 hw) (wd_54 hw) (by decide) (rm8 l Z a0 hw b6 (2 : Int32) (5 : Int32) (45 : Int32) (8 : Int32) [y0, y1, y2, y3, y4] T40.heap n0 Z40 R40 ⟨by decide, by decide⟩ (show (2 : Int32).toNatClampNeg < 5 from by decide)) e42 E40 0 (by decide) (by decide) (by decide) (by decide) (g := (mkF m 255 #[.val (.long qa), .second, .val (.long qb), .second, .val (.long qc), .second, .val (.long qd), .second, .val (.long qe), .second, .val (.int xk), .val (.int (5 : Int32)), .val (.long y0), .second, .val (.long y1), .second, .val (.long y2), .second, .val (.long y3), .second, .val (.long y4), .second, .val (.ref b6), .val (.int (1 : Int32))] [(.int (2 : Int32)), (.ref b6)])) rfl (by rw [hml]; rfl) (rest := []) pd_7 rfl rfl (by show 2 * 0 + _ ≤ _; exact Nat.le_of_eq rfl) (hb hby at_255)
    obtain ⟨rfl, rfl, e43⟩ := hQ43
    rw [List.append_nil] at X43
    refine ownEnds.law st43 ?_
    show ownEnds _ _ _ _ (T43.setTop (mkF m 258 #[.val (.long qa), .second, .val (.long qb), .second, .val (.long qc), .second, .val (.long qd), .second, .val (.long qe), .second, .val (.int xk), .val (.int (5 : Int32)), .val (.long y0), .second, .val (.long y1), .second, .val (.long y2), .second, .val (.long y3), .second, .val (.long y4), .second, .val (.ref b6), .val (.int (1 : Int32))] [(.long y2)]))
    refine ownEnds.law (fun t k => XS.lload X43.here hx rfl (hb hby at_258) rfl (XS.lcmp X43.here hx rfl (hb hby at_260) rfl k)) ?_
    show ownEnds _ _ _ _ (T43.setTop (mkF m 261 #[.val (.long qa), .second, .val (.long qb), .second, .val (.long qc), .second, .val (.long qd), .second, .val (.long qe), .second, .val (.int xk), .val (.int (5 : Int32)), .val (.long y0), .second, .val (.long y1), .second, .val (.long y2), .second, .val (.long y3), .second, .val (.long y4), .second, .val (.ref b6), .val (.int (1 : Int32))] [(.int (lcmpW y2 y2))]))
    refine ownEnds.law (fun t => XS.ifNo X43.here hx rfl (hb hby at_261) rfl ((if0 _ _).trans (teq ((lw_eq _ _).mpr (rfl : y2 = y2))).2)) ?_
    show ownEnds _ _ _ _ (T43.setTop (mkF m 264 #[.val (.long qa), .second, .val (.long qb), .second, .val (.long qc), .second, .val (.long qd), .second, .val (.long qe), .second, .val (.int xk), .val (.int (5 : Int32)), .val (.long y0), .second, .val (.long y1), .second, .val (.long y2), .second, .val (.long y3), .second, .val (.long y4), .second, .val (.ref b6), .val (.int (1 : Int32))] []))
    refine ownEnds.law (fun t k => XS.iconst X43.here hx rfl (hb hby at_264) (XS.goto X43.here hx rfl (pc0 := 265) (pc' := 269) rfl (hb hby at_265) (by decide) (by decide) (XS.istore X43.here hx rfl (hb hby at_269) rfl (l' := #[.val (.long qa), .second, .val (.long qb), .second, .val (.long qc), .second, .val (.long qd), .second, .val (.long qe), .second, .val (.int xk), .val (.int (5 : Int32)), .val (.long y0), .second, .val (.long y1), .second, .val (.long y2), .second, .val (.long y3), .second, .val (.long y4), .second, .val (.ref b6), .val (.int (1 : Int32))]) rfl (XS.iload X43.here hx rfl (hb hby at_271) rfl (XS.iconst X43.here hx rfl (hb hby at_273) k))))) ?_
    show ownEnds _ _ _ _ (T43.setTop (mkF m 274 #[.val (.long qa), .second, .val (.long qb), .second, .val (.long qc), .second, .val (.long qd), .second, .val (.long qe), .second, .val (.int xk), .val (.int (5 : Int32)), .val (.long y0), .second, .val (.long y1), .second, .val (.long y2), .second, .val (.long y3), .second, .val (.long y4), .second, .val (.ref b6), .val (.int (1 : Int32))] [(.int (3 : Int32)), (.int (5 : Int32))]))
    refine ownEnds.law (fun t => XS.icmpNo X43.here hx rfl (hb hby at_274) rfl (tlt (by decide : (3 : Int32) < (5 : Int32))).2.2.2) ?_
    show ownEnds _ _ _ _ (T43.setTop (mkF m 277 #[.val (.long qa), .second, .val (.long qb), .second, .val (.long qc), .second, .val (.long qd), .second, .val (.long qe), .second, .val (.int xk), .val (.int (5 : Int32)), .val (.long y0), .second, .val (.long y1), .second, .val (.long y2), .second, .val (.long y3), .second, .val (.long y4), .second, .val (.ref b6), .val (.int (1 : Int32))] []))
    refine ownEnds.law (fun t k => XS.iload X43.here hx rfl (hb hby at_277) rfl k) ?_
    show ownEnds _ _ _ _ (T43.setTop (mkF m 279 #[.val (.long qa), .second, .val (.long qb), .second, .val (.long qc), .second, .val (.long qd), .second, .val (.long qe), .second, .val (.int xk), .val (.int (5 : Int32)), .val (.long y0), .second, .val (.long y1), .second, .val (.long y2), .second, .val (.long y3), .second, .val (.long y4), .second, .val (.ref b6), .val (.int (1 : Int32))] [(.int (1 : Int32))]))
    refine ownEnds.law (fun t => XS.ifNo X43.here hx rfl (hb hby at_279) rfl ((if0 _ _).trans (feq (by decide : ¬ ((1 : Int32) = (0 : Int32)))).1)) ?_
    show ownEnds _ _ _ _ (T43.setTop (mkF m 282 #[.val (.long qa), .second, .val (.long qb), .second, .val (.long qc), .second, .val (.long qd), .second, .val (.long qe), .second, .val (.int xk), .val (.int (5 : Int32)), .val (.long y0), .second, .val (.long y1), .second, .val (.long y2), .second, .val (.long y3), .second, .val (.long y4), .second, .val (.ref b6), .val (.int (1 : Int32))] []))
    refine ownEnds.law (fun t k => XS.aload X43.here hx rfl (hb hby at_282) rfl rfl (XS.iconst X43.here hx rfl (hb hby at_284) k)) ?_
    show ownEnds _ _ _ _ (T43.setTop (mkF m 285 #[.val (.long qa), .second, .val (.long qb), .second, .val (.long qc), .second, .val (.long qd), .second, .val (.long qe), .second, .val (.int xk), .val (.int (5 : Int32)), .val (.long y0), .second, .val (.long y1), .second, .val (.long y2), .second, .val (.long y3), .second, .val (.long y4), .second, .val (.ref b6), .val (.int (1 : Int32))] [(.int (3 : Int32)), (.ref b6)]))
    obtain ⟨v44, T44, L44, X44, hQ44, st44⟩ := ownCallV X43 hx hZ hown (y := (⟨"com/example/vestline/vestline/engine/PayrollRows", "cents", "(I)J"⟩ : MethodName)) (z := (⟨"com/example/vestline/vestline/engine/PayrollRows", "cents", "(I)J"⟩ : MethodName)) (a := b6) (as := [(.int (3 : Int32))]) (wd_50 hw) (wd_51 hw) (notFace_of_selects (args := #[]) (mvT hZ (wd_53 hw))) (wd_53 hw) (wd_52 hw) (wd_6 hw) (wd_54 hw) (by decide) (rm8 l Z a0 hw b6 (3 : Int32) (5 : Int32) (45 : Int32) (8 : Int32) [y0, y1, y2, y3, y4] T40.heap n0 Z40 R40 ⟨by decide, by decide⟩ (show (3 : Int32).toNatClampNeg < 5 from by decide)) e43 E40 0 (by decide) (by decide) (by decide) (by decide) (g := (mkF m 285 #[.val (.long qa), .second, .val (.long qb), .second, .val (.long qc), .second, .val (.long qd), .second, .val (.long qe), .second, .val (.int xk), .val (.int (5 : Int32)), .val (.long y0), .second, .val (.long y1), .second, .val (.long y2), .second, .val (.long y3), .second, .val (.long y4), .second, .val (.ref b6), .val (.int (1 : Int32))] [(.int (3 : Int32)), (.ref b6)])) rfl (by rw [hml]; rfl) (rest := []) pd_7 rfl rfl (by show 2 * 0 + _ ≤ _; exact Nat.le_of_eq rfl) (hb hby at_285)
    obtain ⟨rfl, rfl, e44⟩ := hQ44
    rw [List.append_nil] at X44
    refine ownEnds.law st44 ?_
    show ownEnds _ _ _ _ (T44.setTop (mkF m 288 #[.val (.long qa), .second, .val (.long qb), .second, .val (.long qc), .second, .val (.long qd), .second, .val (.long qe), .second, .val (.int xk), .val (.int (5 : Int32)), .val (.long y0), .second, .val (.long y1), .second, .val (.long y2), .second, .val (.long y3), .second, .val (.long y4), .second, .val (.ref b6), .val (.int (1 : Int32))] [(.long y3)]))
    refine ownEnds.law (fun t k => XS.lload X44.here hx rfl (hb hby at_288) rfl (XS.lcmp X44.here hx rfl (hb hby at_290) rfl k)) ?_
    show ownEnds _ _ _ _ (T44.setTop (mkF m 291 #[.val (.long qa), .second, .val (.long qb), .second, .val (.long qc), .second, .val (.long qd), .second, .val (.long qe), .second, .val (.int xk), .val (.int (5 : Int32)), .val (.long y0), .second, .val (.long y1), .second, .val (.long y2), .second, .val (.long y3), .second, .val (.long y4), .second, .val (.ref b6), .val (.int (1 : Int32))] [(.int (lcmpW y3 y3))]))
    refine ownEnds.law (fun t => XS.ifNo X44.here hx rfl (hb hby at_291) rfl ((if0 _ _).trans (teq ((lw_eq _ _).mpr (rfl : y3 = y3))).2)) ?_
    show ownEnds _ _ _ _ (T44.setTop (mkF m 294 #[.val (.long qa), .second, .val (.long qb), .second, .val (.long qc), .second, .val (.long qd), .second, .val (.long qe), .second, .val (.int xk), .val (.int (5 : Int32)), .val (.long y0), .second, .val (.long y1), .second, .val (.long y2), .second, .val (.long y3), .second, .val (.long y4), .second, .val (.ref b6), .val (.int (1 : Int32))] []))
    refine ownEnds.law (fun t k => XS.iconst X44.here hx rfl (hb hby at_294) (XS.goto X44.here hx rfl (pc0 := 295) (pc' := 299) rfl (hb hby at_295) (by decide) (by decide) (XS.istore X44.here hx rfl (hb hby at_299) rfl (l' := #[.val (.long qa), .second, .val (.long qb), .second, .val (.long qc), .second, .val (.long qd), .second, .val (.long qe), .second, .val (.int xk), .val (.int (5 : Int32)), .val (.long y0), .second, .val (.long y1), .second, .val (.long y2), .second, .val (.long y3), .second, .val (.long y4), .second, .val (.ref b6), .val (.int (1 : Int32))]) rfl (XS.iload X44.here hx rfl (hb hby at_301) rfl (XS.iconst X44.here hx rfl (hb hby at_303) k))))) ?_
    show ownEnds _ _ _ _ (T44.setTop (mkF m 304 #[.val (.long qa), .second, .val (.long qb), .second, .val (.long qc), .second, .val (.long qd), .second, .val (.long qe), .second, .val (.int xk), .val (.int (5 : Int32)), .val (.long y0), .second, .val (.long y1), .second, .val (.long y2), .second, .val (.long y3), .second, .val (.long y4), .second, .val (.ref b6), .val (.int (1 : Int32))] [(.int (4 : Int32)), (.int (5 : Int32))]))
    refine ownEnds.law (fun t => XS.icmpNo X44.here hx rfl (hb hby at_304) rfl (tlt (by decide : (4 : Int32) < (5 : Int32))).2.2.2) ?_
    show ownEnds _ _ _ _ (T44.setTop (mkF m 307 #[.val (.long qa), .second, .val (.long qb), .second, .val (.long qc), .second, .val (.long qd), .second, .val (.long qe), .second, .val (.int xk), .val (.int (5 : Int32)), .val (.long y0), .second, .val (.long y1), .second, .val (.long y2), .second, .val (.long y3), .second, .val (.long y4), .second, .val (.ref b6), .val (.int (1 : Int32))] []))
    refine ownEnds.law (fun t k => XS.iload X44.here hx rfl (hb hby at_307) rfl k) ?_
    show ownEnds _ _ _ _ (T44.setTop (mkF m 309 #[.val (.long qa), .second, .val (.long qb), .second, .val (.long qc), .second, .val (.long qd), .second, .val (.long qe), .second, .val (.int xk), .val (.int (5 : Int32)), .val (.long y0), .second, .val (.long y1), .second, .val (.long y2), .second, .val (.long y3), .second, .val (.long y4), .second, .val (.ref b6), .val (.int (1 : Int32))] [(.int (1 : Int32))]))
    refine ownEnds.law (fun t => XS.ifNo X44.here hx rfl (hb hby at_309) rfl ((if0 _ _).trans (feq (by decide : ¬ ((1 : Int32) = (0 : Int32)))).1)) ?_
    show ownEnds _ _ _ _ (T44.setTop (mkF m 312 #[.val (.long qa), .second, .val (.long qb), .second, .val (.long qc), .second, .val (.long qd), .second, .val (.long qe), .second, .val (.int xk), .val (.int (5 : Int32)), .val (.long y0), .second, .val (.long y1), .second, .val (.long y2), .second, .val (.long y3), .second, .val (.long y4), .second, .val (.ref b6), .val (.int (1 : Int32))] []))
    refine ownEnds.law (fun t k => XS.aload X44.here hx rfl (hb hby at_312) rfl rfl (XS.iconst X44.here hx rfl (hb hby at_314) k)) ?_
    show ownEnds _ _ _ _ (T44.setTop (mkF m 315 #[.val (.long qa), .second, .val (.long qb), .second, .val (.long qc), .second, .val (.long qd), .second, .val (.long qe), .second, .val (.int xk), .val (.int (5 : Int32)), .val (.long y0), .second, .val (.long y1), .second, .val (.long y2), .second, .val (.long y3), .second, .val (.long y4), .second, .val (.ref b6), .val (.int (1 : Int32))] [(.int (4 : Int32)), (.ref b6)]))
    obtain ⟨v45, T45, L45, X45, hQ45, st45⟩ := ownCallV X44 hx hZ hown (y := (⟨"com/example/vestline/vestline/engine/PayrollRows", "cents", "(I)J"⟩ : MethodName)) (z := (⟨"com/example/vestline/vestline/engine/PayrollRows", "cents", "(I)J"⟩ : MethodName)) (a := b6) (as := [(.int (4 : Int32))]) (wd_50 hw) (wd_51 hw) (notFace_of_selects (args := #[]) (mvT hZ (wd_53 hw))) (wd_53 hw) (wd_52 hw) (wd_6 hw) (wd_54 hw) (by decide) (rm8 l Z a0 hw b6 (4 : Int32) (5 : Int32) (45 : Int32) (8 : Int32) [y0, y1, y2, y3, y4] T40.heap n0 Z40 R40 ⟨by decide, by decide⟩ (show (4 : Int32).toNatClampNeg < 5 from by decide)) e44 E40 0 (by decide) (by decide) (by decide) (by decide) (g := (mkF m 315 #[.val (.long qa), .second, .val (.long qb), .second, .val (.long qc), .second, .val (.long qd), .second, .val (.long qe), .second, .val (.int xk), .val (.int (5 : Int32)), .val (.long y0), .second, .val (.long y1), .second, .val (.long y2), .second, .val (.long y3), .second, .val (.long y4), .second, .val (.ref b6), .val (.int (1 : Int32))] [(.int (4 : Int32)), (.ref b6)])) rfl (by rw [hml]; rfl) (rest := []) pd_7 rfl rfl (by show 2 * 0 + _ ≤ _; exact Nat.le_of_eq rfl) (hb hby at_315)
    obtain ⟨rfl, rfl, e45⟩ := hQ45
    rw [List.append_nil] at X45
    refine ownEnds.law st45 ?_
    show ownEnds _ _ _ _ (T45.setTop (mkF m 318 #[.val (.long qa), .second, .val (.long qb), .second, .val (.long qc), .second, .val (.long qd), .second, .val (.long qe), .second, .val (.int xk), .val (.int (5 : Int32)), .val (.long y0), .second, .val (.long y1), .second, .val (.long y2), .second, .val (.long y3), .second, .val (.long y4), .second, .val (.ref b6), .val (.int (1 : Int32))] [(.long y4)]))
    refine ownEnds.law (fun t k => XS.lload X45.here hx rfl (hb hby at_318) rfl (XS.lcmp X45.here hx rfl (hb hby at_320) rfl k)) ?_
    show ownEnds _ _ _ _ (T45.setTop (mkF m 321 #[.val (.long qa), .second, .val (.long qb), .second, .val (.long qc), .second, .val (.long qd), .second, .val (.long qe), .second, .val (.int xk), .val (.int (5 : Int32)), .val (.long y0), .second, .val (.long y1), .second, .val (.long y2), .second, .val (.long y3), .second, .val (.long y4), .second, .val (.ref b6), .val (.int (1 : Int32))] [(.int (lcmpW y4 y4))]))
    refine ownEnds.law (fun t => XS.ifNo X45.here hx rfl (hb hby at_321) rfl ((if0 _ _).trans (teq ((lw_eq _ _).mpr (rfl : y4 = y4))).2)) ?_
    show ownEnds _ _ _ _ (T45.setTop (mkF m 324 #[.val (.long qa), .second, .val (.long qb), .second, .val (.long qc), .second, .val (.long qd), .second, .val (.long qe), .second, .val (.int xk), .val (.int (5 : Int32)), .val (.long y0), .second, .val (.long y1), .second, .val (.long y2), .second, .val (.long y3), .second, .val (.long y4), .second, .val (.ref b6), .val (.int (1 : Int32))] []))
    refine ownEnds.law (fun t k => XS.iconst X45.here hx rfl (hb hby at_324) (XS.goto X45.here hx rfl (pc0 := 325) (pc' := 329) rfl (hb hby at_325) (by decide) (by decide) (XS.istore X45.here hx rfl (hb hby at_329) rfl (l' := #[.val (.long qa), .second, .val (.long qb), .second, .val (.long qc), .second, .val (.long qd), .second, .val (.long qe), .second, .val (.int xk), .val (.int (5 : Int32)), .val (.long y0), .second, .val (.long y1), .second, .val (.long y2), .second, .val (.long y3), .second, .val (.long y4), .second, .val (.ref b6), .val (.int (1 : Int32))]) rfl (XS.iload X45.here hx rfl (hb hby at_331) rfl k)))) ?_
    show ownEnds _ _ _ _ (T45.setTop (mkF m 333 #[.val (.long qa), .second, .val (.long qb), .second, .val (.long qc), .second, .val (.long qd), .second, .val (.long qe), .second, .val (.int xk), .val (.int (5 : Int32)), .val (.long y0), .second, .val (.long y1), .second, .val (.long y2), .second, .val (.long y3), .second, .val (.long y4), .second, .val (.ref b6), .val (.int (1 : Int32))] [(.int (1 : Int32))]))
    refine ownRetN X45 hlk hx (t := .boolean) hret (by simp) (hb hby at_333) (by decide) (by decide) ?_
    exact ⟨rfl, N40⟩
set_option maxRecDepth 65536 in
set_option maxHeartbeats 40000000 in
theorem comes_1 {Post : Tables → Env → Array Value → State → Outcome → State → Prop} (hpost : ∀ tb e args s v u, (limb_1_1.after args s (.returned v) u = true ∧ limb_1_2.after args s (.returned v) u = true ∧ True) → FrameEnd s (.returned v) u (Jvm.fieldLocs frame_1_writes args s ++ Jvm.arrayLocs frame_1_arrays args s ++ Jvm.staticLocs frame_1_statics s) 32 192 → Post tb e args s (.returned v) u) :
    ArmFor flags0 classFile x code maxLocals ret World_1 tables_1 room_1 Calls_1 rest_1 Pre_1 Post := by
  intro l hfl _ _ p e ha hc hk s m args below hf hA hF happ hP
  obtain ⟨hcalls, hrest, hpre⟩ := hP
  obtain ⟨-, -, -, hnamed, -, -, -, hat⟩ := (Spec.applies_iff hf).mp happ
  obtain ⟨hg, hn⟩ := and_e (Cond.before_iff.mp (show (Jvm.Cond.and given_1 narrow_1).before args s = true from hpre))
  obtain ⟨gg1, gg2⟩ := and_e hg
  obtain ⟨gg3, gg4⟩ := and_e gg2
  obtain ⟨gg5, gg6⟩ := and_e gg4
  obtain ⟨gg7, gg8⟩ := and_e gg6
  obtain ⟨gg9, gg10⟩ := and_e gg8
  obtain ⟨gg11, gg12⟩ := and_e gg10
  obtain ⟨w0, w1, w2, w3, w4, w5, rfl⟩ : ∃ w0 w1 w2 w3 w4 w5 : Value, args = #[w0, w1, w2, w3, w4, w5] := by
    have hs : args.size = 6 := by simpa [Cond.value, given_1] using gg1
    obtain ⟨L⟩ := args
    match L, hs with
    | [w0, w1, w2, w3, w4, w5], _ => exact ⟨w0, w1, w2, w3, w4, w5, rfl⟩
  have hw := fun d (hd : d ∈ tables_1) => atoms_spec (ws := Jvm.Cond.code x code maxLocals ret :: tables_1) hat d (List.mem_cons_of_mem _ hd)
  have hfit : Fit s := fun {y c} hc i hi => by
    obtain ⟨ha, rfl⟩ := Array.getElem?_eq_some_iff.mp hc
    have q := List.all_eq_true.mp ((Array.all_eq_true_iff_forall_mem.mp hF) _ (Array.getElem_mem ha)) i (List.mem_range.mpr hi)
    simpa [Array.getElem?_eq_getElem hi] using q
  obtain ⟨i0, ei0⟩ := isL_v gg3
  obtain rfl : w0 = (.long i0) := Option.some.inj ei0
  obtain ⟨i1, ei1⟩ := isL_v gg5
  obtain rfl : w1 = (.long i1) := Option.some.inj ei1
  obtain ⟨i2, ei2⟩ := isL_v gg7
  obtain rfl : w2 = (.long i2) := Option.some.inj ei2
  obtain ⟨i3, ei3⟩ := isL_v gg9
  obtain rfl : w3 = (.long i3) := Option.some.inj ei3
  obtain ⟨i4, ei4⟩ := isL_v gg11
  obtain rfl : w4 = (.long i4) := Option.some.inj ei4
  obtain ⟨i5, ei5⟩ := is_v gg12
  obtain rfl : w5 = (.int i5) := Option.some.inj ei5
  obtain ⟨n, o, h1, h2, h3, _, L, rfl, ⟨rfl, N⟩, hq⟩ := rm0 l s _ hw i0 i1 i2 i3 i4 i5  s.heap s.heap.size (Nat.le_refl _)  p e ha hc hk s m _ below hf ((Spec.applies_iff_loose hf).mp happ).1 ⟨rfl, State.Warmed39.refl s, rfl⟩ trivial
  refine ⟨n, _, h1, h2, h3, hpost _ _ _ _ _ _ ⟨Cond.after_iff.mpr rfl, Cond.after_iff.mpr (eq_i res_at (Term.int_eval (1)) rfl), trivial⟩ ⟨hq.1, hq.2.1, (hq.2.2.sift fun y hy => Or.inr (N y hy)).mono (by decide) (by decide)⟩⟩
theorem main_1_1 : Claimed_1_1 := comes_1 fun _ _ _ _ _ _ h hF => ⟨h.1, hF⟩
theorem main_1_2 : Claimed_1_2 := comes_1 fun _ _ _ _ _ _ h hF => ⟨h.2.1, hF⟩
end Jvm.Pilot.@@N@@
namespace Jvm.Pilot.@@N@@
open Jvm Jvm.ClassFile Sem Op Lib Jvm.Free Jvm.Stand Jvm.Pilot.@@N@@.Jvm.D
/-! MADE BY PROGRAM (witnessworld.py) out of the Statement's table words and the real class files: 14 classes; the members and pool entries that the words name. The judged class is class 1, her method 2. -/
namespace start1
open Jvm.ClassFile
def u (s : String) : CpInfo := .utf8 (stringToUtf16 s)
/-- a pool by its gaps: so many unusable entries, then the entry; so many at the end -/
def gap : Nat → List CpInfo → List CpInfo
  | 0, r => r
  | n + 1, r => .unusable :: gap n r
def poolList (es : List (Nat × CpInfo)) (last : Nat) : List CpInfo := es.foldr (fun e r => gap e.1 (e.2 :: r)) (gap last [])
def pool (es : List (Nat × CpInfo)) (last : Nat) : Array CpInfo := ⟨poolList es last⟩
def fileOf (pool : Array CpInfo) (this : Nat) (attrs : Array Attribute := #[]) (ms : Array MethodInfo := #[]) (fl : Nat := 33) (sup : Nat := 0) (ifs : Array Nat := #[]) (fds : Array FieldInfo := #[]) : ClassFile where
  minorVersion := 0
  majorVersion := 65
  constantPool := pool
  accessFlags := fl
  thisClass := this
  superClass := sup
  interfaces := ifs
  fields := fds
  methods := ms
  attributes := attrs
def plain (name : String) (sup : Option ClassId) : Class where
  name := name
  kind := .ordinary
  loader := none
  accessFlags := 33
  super := sup
  interfaces := #[]
  cf := none
  fields := #[]
  methods := #[]
  instanceTypes := #[]
  staticTypes := #[]
  resolved := #[]
  callSites := []
  init := .initialized
  statics := none
  mirror := none

def pool0 : Array CpInfo := pool [(5, u "<init>"), (0, u "()V"), (1, .class_ 10), (1, u "java/lang/Object")] 113

def k0c0 : Code := { maxStack := 0, maxLocals := 1, code := object_method_1_code, exceptionTable := #[], attributes := #[] }
def k0m0 : Method := { name := "<init>", desc := "()V", sig := { parameters := [], returnType := none }, accessFlags := 1, code := some k0c0 }
/-- java/lang/Object -/
def k0 : Class := { plain "java/lang/Object" none with
  accessFlags := 33
  interfaces := #[]
  cf := some (fileOf pool0 8 #[] #[{ accessFlags := 1, nameIndex := 5, descriptorIndex := 6, attributes := #[] }] 33 0 #[] #[])
  fields := #[]
  methods := #[k0m0]
  instanceTypes := #[]
  staticTypes := #[]
  resolved := Array.replicate 124 none
  statics := none }

def pool1 : Array CpInfo := pool [(2, .class_ 4), (0, .nameAndType 5 6), (0, u "java/lang/Object"), (0, u "<init>"), (0, u "()V"), (0, .methodref 8 9), (0, .class_ 10), (0, .nameAndType 11 12), (0, u "com/example/vestline/vestline/engine/PayrollRowsCentsPinLaw"), (0, u "eff"), (0, u "(JII)J"), (0, .class_ 14), (0, u "com/example/vestline/vestline/engine/PayrollRows"), (0, .methodref 13 3), (0, .long 18446744073709551615), (1, .methodref 13 19), (0, .nameAndType 20 21), (0, u "add"), (0, u "(IIJJ)V"), (0, .methodref 13 23), (0, .nameAndType 24 25), (0, u "cents"), (0, u "(I)J"), (3, u "law"), (0, u "(JJJJJI)Z")] 2

def k1m0 : Method := { name := "<init>", desc := "()V", sig := { parameters := [], returnType := none }, accessFlags := 1, code := none }
def k1c1 : Code := { maxStack := 3, maxLocals := 4, code := method_2_code, exceptionTable := #[], attributes := #[] }
def k1m1 : Method := { name := "eff", desc := "(JII)J", sig := { parameters := [.long, .int, .int], returnType := some .long }, accessFlags := 10, code := some k1c1 }
def k1c2 : Code := { maxStack := 7, maxLocals := 24, code := code, exceptionTable := #[], attributes := #[] }
def k1m2 : Method := { name := "law", desc := "(JJJJJI)Z", sig := { parameters := [.long, .long, .long, .long, .long, .int], returnType := some .boolean }, accessFlags := 9, code := some k1c2 }
/-- com/example/vestline/vestline/engine/PayrollRowsCentsPinLaw -/
def k1 : Class := { plain "com/example/vestline/vestline/engine/PayrollRowsCentsPinLaw" (some 0) with
  accessFlags := 49
  interfaces := #[]
  cf := some (fileOf pool1 8 #[] #[{ accessFlags := 1, nameIndex := 5, descriptorIndex := 6, attributes := #[] }, { accessFlags := 10, nameIndex := 11, descriptorIndex := 12, attributes := #[] }, { accessFlags := 9, nameIndex := 29, descriptorIndex := 30, attributes := #[] }] 49 2 #[] #[])
  fields := #[]
  methods := #[k1m0, k1m1, k1m2]
  instanceTypes := #[]
  staticTypes := #[]
  resolved := Array.replicate 33 none
  statics := none }

def pool2 : Array CpInfo := pool [(1, .methodref 2 3), (0, .class_ 4), (0, .nameAndType 5 6), (0, u "java/lang/Object"), (0, u "<init>"), (0, u "()V"), (2, .integer 2147483647), (0, .fieldref 11 12), (0, .class_ 13), (0, .nameAndType 14 15), (0, u "com/example/vestline/vestline/engine/PayrollRows"), (0, u "firstPeriodStart"), (0, u "I"), (0, .integer 2147483648), (0, .fieldref 11 18), (0, .nameAndType 19 15), (0, u "lastPeriodEnd"), (0, .fieldref 11 21), (0, .nameAndType 22 23), (0, u "periodStarts"), (0, u "[I"), (0, .fieldref 11 25), (0, .nameAndType 26 23), (0, u "periodEnds"), (0, .fieldref 11 28), (0, .nameAndType 29 30), (0, u "hundredths"), (0, u "[J"), (0, .fieldref 11 32), (0, .nameAndType 33 34), (0, u "byPeriodStart"), (0, u "Ljava/util/NavigableMap;"), (0, .methodref 11 36), (0, .nameAndType 37 38), (0, u "isAmongRows"), (0, u "(II)Z"), (7, .fieldref 11 47), (0, .nameAndType 48 15), (0, u "size"), (6, .methodref 56 57), (0, .class_ 58), (0, .nameAndType 59 60), (0, u "java/lang/Math"), (0, u "min"), (0, u "(II)I"), (0, .methodref 56 62), (0, .nameAndType 63 60), (0, u "max"), (0, .methodref 65 66), (0, .class_ 67), (0, .nameAndType 68 69), (0, u "java/util/Arrays"), (0, u "copyOf"), (0, u "([II)[I"), (0, .methodref 65 71), (0, .nameAndType 68 72), (0, u "([JI)[J"), (0, .fieldref 11 74), (0, .nameAndType 75 30), (0, u "cents"), (21, u "add"), (0, u "(IIJJ)V"), (6, u "(I)J")] 6

def k2c0 : Code := { maxStack := 2, maxLocals := 1, code := prog_50_method_1_code, exceptionTable := #[], attributes := #[] }
def k2m0 : Method := { name := "<init>", desc := "()V", sig := { parameters := [], returnType := none }, accessFlags := 0, code := some k2c0 }
def k2c1 : Code := { maxStack := 4, maxLocals := 7, code := prog_50_method_2_code, exceptionTable := #[], attributes := #[] }
def k2m1 : Method := { name := "add", desc := "(IIJJ)V", sig := { parameters := [.int, .int, .long, .long], returnType := none }, accessFlags := 0, code := some k2c1 }
def k2c2 : Code := { maxStack := 2, maxLocals := 3, code := prog_50_method_4_code, exceptionTable := #[], attributes := #[] }
def k2m2 : Method := { name := "isAmongRows", desc := "(II)Z", sig := { parameters := [.int, .int], returnType := some .boolean }, accessFlags := 2, code := some k2c2 }
def k2c3 : Code := { maxStack := 2, maxLocals := 2, code := prog_50_method_11_code, exceptionTable := #[], attributes := #[] }
def k2m3 : Method := { name := "cents", desc := "(I)J", sig := { parameters := [.int], returnType := some .long }, accessFlags := 0, code := some k2c3 }
/-- com/example/vestline/vestline/engine/PayrollRows -/
def k2 : Class := { plain "com/example/vestline/vestline/engine/PayrollRows" (some 0) with
  accessFlags := 32
  interfaces := #[]
  cf := some (fileOf pool2 11 #[] #[{ accessFlags := 0, nameIndex := 5, descriptorIndex := 6, attributes := #[] }, { accessFlags := 0, nameIndex := 97, descriptorIndex := 98, attributes := #[] }, { accessFlags := 2, nameIndex := 37, descriptorIndex := 38, attributes := #[] }, { accessFlags := 0, nameIndex := 75, descriptorIndex := 105, attributes := #[] }] 32 2 #[] #[{ accessFlags := 2, nameIndex := 48, descriptorIndex := 15, attributes := #[] }, { accessFlags := 2, nameIndex := 14, descriptorIndex := 15, attributes := #[] }, { accessFlags := 2, nameIndex := 19, descriptorIndex := 15, attributes := #[] }, { accessFlags := 2, nameIndex := 22, descriptorIndex := 23, attributes := #[] }, { accessFlags := 2, nameIndex := 26, descriptorIndex := 23, attributes := #[] }, { accessFlags := 2, nameIndex := 29, descriptorIndex := 30, attributes := #[] }, { accessFlags := 2, nameIndex := 75, descriptorIndex := 30, attributes := #[] }, { accessFlags := 2, nameIndex := 33, descriptorIndex := 34, attributes := #[] }])
  fields := #[{ name := "size", type := .int, accessFlags := 2, slot := 0, constantValue := 0 }, { name := "firstPeriodStart", type := .int, accessFlags := 2, slot := 1, constantValue := 0 }, { name := "lastPeriodEnd", type := .int, accessFlags := 2, slot := 2, constantValue := 0 }, { name := "periodStarts", type := (.array .int), accessFlags := 2, slot := 3, constantValue := 0 }, { name := "periodEnds", type := (.array .int), accessFlags := 2, slot := 4, constantValue := 0 }, { name := "hundredths", type := (.array .long), accessFlags := 2, slot := 5, constantValue := 0 }, { name := "cents", type := (.array .long), accessFlags := 2, slot := 6, constantValue := 0 }, { name := "byPeriodStart", type := (.object "java/util/NavigableMap"), accessFlags := 2, slot := 7, constantValue := 0 }]
  methods := #[k2m0, k2m1, k2m2, k2m3]
  instanceTypes := #[.int, .int, .int, (.array .int), (.array .int), (.array .long), (.array .long), (.object "java/util/NavigableMap")]
  staticTypes := #[]
  resolved := Array.replicate 112 none
  statics := none }

def pool3 : Array CpInfo := pool [(1, .class_ 2), (0, u "java/lang/Math"), (1, .class_ 6), (1, u "java/lang/Object"), (0, u "<init>"), (0, u "()V"), (89, .class_ 100), (1, u "java/lang/Math$RandomNumberGeneratorHolder"), (71, u "negativeZeroFloatBits"), (0, u "J"), (2, u "negativeZeroDoubleBits"), (21, u "max"), (2, u "min"), (43, u "$assertionsDisabled"), (0, u "Z"), (88, u "(II)I"), (2, u "twoToTheDoubleScaleDown"), (0, u "D"), (4, u "twoToTheDoubleScaleUp"), (9, u "E"), (3, u "PI"), (2, u "TAU"), (2, u "DEGREES_TO_RADIANS"), (0, u "RADIANS_TO_DEGREES")] 94

def k3m0 : Method := { name := "<init>", desc := "()V", sig := { parameters := [], returnType := none }, accessFlags := 2, code := none }
def k3c1 : Code := { maxStack := 2, maxLocals := 2, code := jdk_29_method_65_code, exceptionTable := #[], attributes := #[] }
def k3m1 : Method := { name := "max", desc := "(II)I", sig := { parameters := [.int, .int], returnType := some .int }, accessFlags := 9, code := some k3c1 }
def k3c2 : Code := { maxStack := 2, maxLocals := 2, code := jdk_29_method_69_code, exceptionTable := #[], attributes := #[] }
def k3m2 : Method := { name := "min", desc := "(II)I", sig := { parameters := [.int, .int], returnType := some .int }, accessFlags := 9, code := some k3c2 }
/-- java/lang/Math -/
def k3 : Class := { plain "java/lang/Math" (some 0) with
  accessFlags := 49
  interfaces := #[]
  cf := some (fileOf pool3 1 #[.nestMembers #[98]] #[{ accessFlags := 2, nameIndex := 7, descriptorIndex := 8, attributes := #[] }, { accessFlags := 9, nameIndex := 198, descriptorIndex := 335, attributes := #[] }, { accessFlags := 9, nameIndex := 201, descriptorIndex := 335, attributes := #[] }] 49 4 #[] #[{ accessFlags := 25, nameIndex := 354, descriptorIndex := 339, attributes := #[] }, { accessFlags := 25, nameIndex := 358, descriptorIndex := 339, attributes := #[] }, { accessFlags := 25, nameIndex := 361, descriptorIndex := 339, attributes := #[] }, { accessFlags := 26, nameIndex := 364, descriptorIndex := 339, attributes := #[] }, { accessFlags := 26, nameIndex := 365, descriptorIndex := 339, attributes := #[] }, { accessFlags := 26, nameIndex := 172, descriptorIndex := 173, attributes := #[] }, { accessFlags := 26, nameIndex := 176, descriptorIndex := 173, attributes := #[] }, { accessFlags := 8, nameIndex := 344, descriptorIndex := 339, attributes := #[] }, { accessFlags := 8, nameIndex := 338, descriptorIndex := 339, attributes := #[] }, { accessFlags := 4120, nameIndex := 245, descriptorIndex := 246, attributes := #[] }])
  fields := #[{ name := "E", type := .double, accessFlags := 25, slot := 0, constantValue := 0 }, { name := "PI", type := .double, accessFlags := 25, slot := 1, constantValue := 0 }, { name := "TAU", type := .double, accessFlags := 25, slot := 2, constantValue := 0 }, { name := "DEGREES_TO_RADIANS", type := .double, accessFlags := 26, slot := 3, constantValue := 0 }, { name := "RADIANS_TO_DEGREES", type := .double, accessFlags := 26, slot := 4, constantValue := 0 }, { name := "negativeZeroFloatBits", type := .long, accessFlags := 26, slot := 5, constantValue := 0 }, { name := "negativeZeroDoubleBits", type := .long, accessFlags := 26, slot := 6, constantValue := 0 }, { name := "twoToTheDoubleScaleUp", type := .double, accessFlags := 8, slot := 7, constantValue := 0 }, { name := "twoToTheDoubleScaleDown", type := .double, accessFlags := 8, slot := 8, constantValue := 0 }, { name := "$assertionsDisabled", type := .boolean, accessFlags := 4120, slot := 9, constantValue := 0 }]
  methods := #[k3m0, k3m1, k3m2]
  instanceTypes := #[]
  staticTypes := #[.double, .double, .double, .double, .double, .long, .long, .double, .double, .boolean]
  resolved := Array.replicate 460 none
  statics := none }

def pool4 : Array CpInfo := pool [(2, .class_ 4), (1, u "java/lang/Object"), (0, u "<init>"), (0, u "()V"), (7, .class_ 16), (1, u "java/util/Arrays"), (57, .class_ 76), (1, u "java/util/Arrays$NaturalOrder"), (36, .class_ 115), (1, u "java/util/Arrays$LegacyMergeSort"), (1, u "Z"), (32, .methodref 151 152), (0, .class_ 153), (0, .nameAndType 154 155), (0, u "java/lang/System"), (0, u "arraycopy"), (0, u "(Ljava/lang/Object;ILjava/lang/Object;II)V"), (146, u "copyOf"), (1, .methodref 305 306), (0, .class_ 307), (0, .nameAndType 308 309), (0, u "java/lang/Math"), (0, u "min"), (0, u "(II)I"), (65, .class_ 376), (0, u "java/util/Arrays$ArrayList"), (68, u "$assertionsDisabled"), (269, u "MIN_ARRAY_SORT_GRAN"), (0, u "I"), (2, u "INSERTIONSORT_THRESHOLD"), (151, u "([II)[I"), (0, u "([JI)[J"), (102, .class_ 976), (0, u "java/util/Arrays$ArrayItr")] 52

def k4m0 : Method := { name := "<init>", desc := "()V", sig := { parameters := [], returnType := none }, accessFlags := 2, code := none }
def k4c1 : Code := { maxStack := 6, maxLocals := 3, code := jdk_65_method_123_code, exceptionTable := #[], attributes := #[] }
def k4m1 : Method := { name := "copyOf", desc := "([II)[I", sig := { parameters := [(.array .int), .int], returnType := some (.array .int) }, accessFlags := 9, code := some k4c1 }
def k4c2 : Code := { maxStack := 6, maxLocals := 3, code := jdk_65_method_124_code, exceptionTable := #[], attributes := #[] }
def k4m2 : Method := { name := "copyOf", desc := "([JI)[J", sig := { parameters := [(.array .long), .int], returnType := some (.array .long) }, accessFlags := 9, code := some k4c2 }
/-- java/util/Arrays -/
def k4 : Class := { plain "java/util/Arrays" (some 0) with
  accessFlags := 49
  interfaces := #[]
  cf := some (fileOf pool4 14 #[.nestMembers #[975, 375, 113, 74]] #[{ accessFlags := 2, nameIndex := 5, descriptorIndex := 6, attributes := #[] }, { accessFlags := 9, nameIndex := 302, descriptorIndex := 871, attributes := #[] }, { accessFlags := 9, nameIndex := 302, descriptorIndex := 872, attributes := #[] }] 49 2 #[] #[{ accessFlags := 26, nameIndex := 715, descriptorIndex := 716, attributes := #[] }, { accessFlags := 26, nameIndex := 719, descriptorIndex := 716, attributes := #[] }, { accessFlags := 4120, nameIndex := 445, descriptorIndex := 117, attributes := #[] }])
  fields := #[{ name := "MIN_ARRAY_SORT_GRAN", type := .int, accessFlags := 26, slot := 0, constantValue := 0 }, { name := "INSERTIONSORT_THRESHOLD", type := .int, accessFlags := 26, slot := 1, constantValue := 0 }, { name := "$assertionsDisabled", type := .boolean, accessFlags := 4120, slot := 2, constantValue := 0 }]
  methods := #[k4m0, k4m1, k4m2]
  instanceTypes := #[]
  staticTypes := #[.int, .int, .boolean]
  resolved := Array.replicate 1029 none
  statics := none }

def pool5 : Array CpInfo := pool [(2, .class_ 4), (1, u "java/lang/Object"), (0, u "<init>"), (0, u "()V"), (1, .class_ 10), (1, u "java/lang/System"), (0, u "allowSecurityManager"), (0, u "I"), (16, u "cons"), (0, u "Ljava/io/Console;"), (77, .class_ 110), (1, u "java/lang/System$CallersHolder"), (43, u "initialErrStream"), (0, u "Ljava/io/PrintStream;"), (19, u "security"), (0, u "Ljava/lang/SecurityManager;"), (31, .class_ 209), (0, u "java/lang/System$1"), (7, u "props"), (0, u "Ljava/util/Properties;"), (2, u "lineSeparator"), (0, u "Ljava/lang/String;"), (96, .class_ 321), (1, u "java/lang/System$LoggerFinder"), (5, .class_ 328), (0, u "java/lang/System$Logger"), (67, u "err"), (2, u "out"), (91, u "notSupportedJnuEncoding"), (15, u "in"), (17, u "initialIn"), (0, u "Ljava/io/InputStream;"), (35, u "bootLayer"), (0, u "Ljava/lang/ModuleLayer;"), (99, .class_ 664), (0, u "java/lang/System$2"), (9, u "NEVER"), (2, u "MAYBE"), (49, u "arraycopy"), (0, u "(Ljava/lang/Object;ILjava/lang/Object;II)V"), (72, .class_ 802), (0, u "java/lang/System$Logger$Level")] 31

def k5m0 : Method := { name := "<init>", desc := "()V", sig := { parameters := [], returnType := none }, accessFlags := 2, code := none }
def k5m1 : Method := { name := "arraycopy", desc := "(Ljava/lang/Object;ILjava/lang/Object;II)V", sig := { parameters := [(.object "java/lang/Object"), .int, (.object "java/lang/Object"), .int, .int], returnType := none }, accessFlags := 265, code := none }
/-- java/lang/System -/
def k5 : Class := { plain "java/lang/System" (some 0) with
  accessFlags := 49
  interfaces := #[]
  cf := some (fileOf pool5 8 #[.nestMembers #[319, 327, 801, 108, 663, 208]] #[{ accessFlags := 2, nameIndex := 5, descriptorIndex := 6, attributes := #[] }, { accessFlags := 265, nameIndex := 727, descriptorIndex := 728, attributes := #[] }] 49 2 #[] #[{ accessFlags := 25, nameIndex := 507, descriptorIndex := 526, attributes := #[] }, { accessFlags := 25, nameIndex := 399, descriptorIndex := 155, attributes := #[] }, { accessFlags := 25, nameIndex := 396, descriptorIndex := 155, attributes := #[] }, { accessFlags := 10, nameIndex := 525, descriptorIndex := 526, attributes := #[] }, { accessFlags := 26, nameIndex := 674, descriptorIndex := 12, attributes := #[] }, { accessFlags := 26, nameIndex := 677, descriptorIndex := 12, attributes := #[] }, { accessFlags := 10, nameIndex := 11, descriptorIndex := 12, attributes := #[] }, { accessFlags := 74, nameIndex := 175, descriptorIndex := 176, attributes := #[] }, { accessFlags := 10, nameIndex := 491, descriptorIndex := 222, attributes := #[] }, { accessFlags := 74, nameIndex := 29, descriptorIndex := 30, attributes := #[] }, { accessFlags := 74, nameIndex := 154, descriptorIndex := 155, attributes := #[] }, { accessFlags := 10, nameIndex := 217, descriptorIndex := 218, attributes := #[] }, { accessFlags := 10, nameIndex := 221, descriptorIndex := 222, attributes := #[] }, { accessFlags := 8, nameIndex := 562, descriptorIndex := 563, attributes := #[] }])
  fields := #[{ name := "in", type := (.object "java/io/InputStream"), accessFlags := 25, slot := 0, constantValue := 0 }, { name := "out", type := (.object "java/io/PrintStream"), accessFlags := 25, slot := 1, constantValue := 0 }, { name := "err", type := (.object "java/io/PrintStream"), accessFlags := 25, slot := 2, constantValue := 0 }, { name := "initialIn", type := (.object "java/io/InputStream"), accessFlags := 10, slot := 3, constantValue := 0 }, { name := "NEVER", type := .int, accessFlags := 26, slot := 4, constantValue := 0 }, { name := "MAYBE", type := .int, accessFlags := 26, slot := 5, constantValue := 0 }, { name := "allowSecurityManager", type := .int, accessFlags := 10, slot := 6, constantValue := 0 }, { name := "security", type := (.object "java/lang/SecurityManager"), accessFlags := 74, slot := 7, constantValue := 0 }, { name := "notSupportedJnuEncoding", type := (.object "java/lang/String"), accessFlags := 10, slot := 8, constantValue := 0 }, { name := "cons", type := (.object "java/io/Console"), accessFlags := 74, slot := 9, constantValue := 0 }, { name := "initialErrStream", type := (.object "java/io/PrintStream"), accessFlags := 74, slot := 10, constantValue := 0 }, { name := "props", type := (.object "java/util/Properties"), accessFlags := 10, slot := 11, constantValue := 0 }, { name := "lineSeparator", type := (.object "java/lang/String"), accessFlags := 10, slot := 12, constantValue := 0 }, { name := "bootLayer", type := (.object "java/lang/ModuleLayer"), accessFlags := 8, slot := 13, constantValue := 0 }]
  methods := #[k5m0, k5m1]
  instanceTypes := #[]
  staticTypes := #[(.object "java/io/InputStream"), (.object "java/io/PrintStream"), (.object "java/io/PrintStream"), (.object "java/io/InputStream"), .int, .int, .int, (.object "java/lang/SecurityManager"), (.object "java/lang/String"), (.object "java/io/Console"), (.object "java/io/PrintStream"), (.object "java/util/Properties"), (.object "java/lang/String"), (.object "java/lang/ModuleLayer")]
  resolved := Array.replicate 834 none
  statics := none }

def pool6 : Array CpInfo := pool [(1, u "java/lang/Cloneable"), (0, .class_ 1), (0, u "java/lang/Object"), (0, .class_ 3)] 3

/-- java/lang/Cloneable -/
def k6 : Class := { plain "java/lang/Cloneable" (some 0) with
  accessFlags := 1537
  interfaces := #[]
  cf := some (fileOf pool6 2 #[] #[] 1537 4 #[] #[])
  fields := #[]
  methods := #[]
  instanceTypes := #[]
  staticTypes := #[]
  resolved := Array.replicate 8 none
  statics := none }

def pool7 : Array CpInfo := pool [(1, u "java/io/Serializable"), (0, .class_ 1), (0, u "java/lang/Object"), (0, .class_ 3)] 3

/-- java/io/Serializable -/
def k7 : Class := { plain "java/io/Serializable" (some 0) with
  accessFlags := 1537
  interfaces := #[]
  cf := some (fileOf pool7 2 #[] #[] 1537 4 #[] #[])
  fields := #[]
  methods := #[]
  instanceTypes := #[]
  staticTypes := #[]
  resolved := Array.replicate 8 none
  statics := none }

/-- the primitive byte -/
def k8 : Class := { plain "byte" none with kind := .primitive 'B', accessFlags := 0x411 }
/-- [B -/
def k9 : Class := { plain "[B" (some 0) with kind := .array 8 .byte, interfaces := #[6, 7], accessFlags := 1041 }

/-- the primitive int -/
def k10 : Class := { plain "int" none with kind := .primitive 'I', accessFlags := 0x411 }
/-- [I -/
def k11 : Class := { plain "[I" (some 0) with kind := .array 10 .int, interfaces := #[6, 7], accessFlags := 1041 }

/-- the primitive long -/
def k12 : Class := { plain "long" none with kind := .primitive 'J', accessFlags := 0x411 }
/-- [J -/
def k13 : Class := { plain "[J" (some 0) with kind := .array 12 .long, interfaces := #[6, 7], accessFlags := 1041 }

def heap : Heap := #[]
def classes : Array Class := #[k0, k1, k2, k3, k4, k5, k6, k7, k8, k9, k10, k11, k12, k13]
def interned : List (Array UInt16 × Addr) := []
def slotsUsed : Nat := 0
def theMethod : MethodId := ⟨1, 2⟩
def args0 : Array Value := #[.long 1, .long 2, .long 3, .long 4, .long 5, .int 5]
def aboutOver (below : List Frame) : State where
  vm := { classes := classes, interned := interned.toArray }
  heap := heap
  slotsUsed := slotsUsed
  threads := #[{ frames := .invoking theMethod args0 :: below }]
def below0 : List Frame := [.native { method := ⟨0, 0⟩, args := #[] }]
def about1 : State := aboutOver below0
def p0 : Program := .bare "" "" ""
def e0 : Env := launch0.env 0 0 0
theorem w_frames : about1.frames = Frame.invoking theMethod args0 :: below0 := rfl
set_option maxRecDepth 65536 in
theorem w_args : argsFit about1.vm theMethod args0 = true := by decide +kernel
set_option maxRecDepth 65536 in
theorem w_heap : heapFits about1 = true := by decide +kernel
set_option maxRecDepth 65536 in
theorem w_runnable : about1.curStatus? = some .runnable := by decide +kernel
set_option maxRecDepth 65536 in
theorem w_alone : about1.alone = true := by decide +kernel
set_option maxRecDepth 65536 in
theorem w_named : about1.methodNamed? x = some theMethod := by decide +kernel
set_option maxRecDepth 65536 in
theorem w_hears : about1.hears theMethod below0 = true := by decide +kernel
set_option maxRecDepth 65536 in
theorem w_ripe : about1.ripe theMethod args0 below0 = true := by decide +kernel
theorem w_running : about1.status = .running := rfl
set_option maxRecDepth 65536 in
theorem w_room : about1.hasRoom e0.platform room_1 = true :=
  launch0.hasRoom_least _ room_1 (by decide +kernel) (by decide +kernel) (by decide +kernel) (by decide +kernel) (by decide +kernel) (by decide +kernel)
theorem allAtoms_all (ts : List Jvm.Cond) (a : Array Jvm.Value) (st : Jvm.State) : (allAtoms ts).before a st = ts.all (fun c => c.before a st) := by
  induction ts with
  | nil => rfl
  | cons c t ih =>
    show (Jvm.Cond.and c (allAtoms t)).before a st = _
    rw [Jvm.Cond.before_and, ih, List.all_cons]
def words1 : List Jvm.Cond := Jvm.Cond.code x code maxLocals ret :: tables_1
/-- a 'code' word, met by the world's own term for the bytes: nothing is compared byte by byte -/
theorem code_word {y : MethodName} {bytes : ByteArray} {mx : Nat} {rt : Option FieldType} {a : Array Value} {s : State} {m : MethodId} {meth : Method} {c : Code} (h1 : s.methodNamed? y = some m) (h2 : s.vm.method? m = some meth) (h3 : meth.code = some c) (h4 : c.code = bytes)
    (h5 : (c.maxLocals == mx && c.exceptionTable.isEmpty && decide (c.maxStack ≤ mostOperands) && decide (meth.sig.returnType = rt) && !meth.locks && decide (parseMethodDescriptor y.desc = some meth.sig)) = true) : (Jvm.Cond.code y bytes mx rt).before a s = true := by
  simp only [Bool.and_eq_true, beq_iff_eq, Bool.not_eq_true', decide_eq_true_eq] at h5
  obtain ⟨⟨⟨⟨⟨g1, g2⟩, g3⟩, g4⟩, g5⟩, g6⟩ := h5
  simp [Cond.before, Cond.holds, Cond.value, h1, h2, h3, h4, g1, g2, g3, g4, g5, g6]
def isCode : Jvm.Cond → Bool
  | .code _ _ _ _ => true
  | _ => false
theorem all_split {L : List Jvm.Cond} {P : Jvm.Cond → Bool} (h1 : L.all (fun c => isCode c || P c) = true) (h2 : ∀ c ∈ L.filter isCode, P c = true) : L.all P = true := by
  refine List.all_eq_true.mpr fun c hc => ?_
  have h := List.all_eq_true.mp h1 c hc
  rcases Bool.eq_false_or_eq_true (isCode c) with hi | hi
  · exact h2 c (List.mem_filter.mpr ⟨hc, hi⟩)
  · simpa [hi] using h
set_option maxRecDepth 65536 in
theorem w_c0 : (Jvm.Cond.code x code maxLocals ret).before args0 about1 = true := code_word (m := ⟨1, 2⟩) (meth := k1m2) (c := k1c2) (by decide +kernel) rfl rfl rfl (by decide +kernel)
set_option maxRecDepth 65536 in
theorem w_c1 : (Jvm.Cond.code ({ cls := "com/example/vestline/vestline/engine/PayrollRowsCentsPinLaw", name := "eff", desc := "(JII)J" } : Jvm.MethodName) method_2_code (4 : Nat) (Option.some Jvm.ClassFile.FieldType.long)).before args0 about1 = true := code_word (m := ⟨1, 1⟩) (meth := k1m1) (c := k1c1) (by decide +kernel) rfl rfl rfl (by decide +kernel)
set_option maxRecDepth 65536 in
theorem w_c2 : (Jvm.Cond.code ({ cls := "com/example/vestline/vestline/engine/PayrollRows", name := "<init>", desc := "()V" } : Jvm.MethodName) prog_50_method_1_code (1 : Nat) (Option.none : Option Jvm.ClassFile.FieldType)).before args0 about1 = true := code_word (m := ⟨2, 0⟩) (meth := k2m0) (c := k2c0) (by decide +kernel) rfl rfl rfl (by decide +kernel)
set_option maxRecDepth 65536 in
theorem w_c3 : (Jvm.Cond.code ({ cls := "java/lang/Object", name := "<init>", desc := "()V" } : Jvm.MethodName) object_method_1_code (1 : Nat) (Option.none : Option Jvm.ClassFile.FieldType)).before args0 about1 = true := code_word (m := ⟨0, 0⟩) (meth := k0m0) (c := k0c0) (by decide +kernel) rfl rfl rfl (by decide +kernel)
set_option maxRecDepth 65536 in
theorem w_c4 : (Jvm.Cond.code ({ cls := "com/example/vestline/vestline/engine/PayrollRows", name := "add", desc := "(IIJJ)V" } : Jvm.MethodName) prog_50_method_2_code (7 : Nat) (Option.none : Option Jvm.ClassFile.FieldType)).before args0 about1 = true := code_word (m := ⟨2, 1⟩) (meth := k2m1) (c := k2c1) (by decide +kernel) rfl rfl rfl (by decide +kernel)
set_option maxRecDepth 65536 in
theorem w_c5 : (Jvm.Cond.code ({ cls := "com/example/vestline/vestline/engine/PayrollRows", name := "isAmongRows", desc := "(II)Z" } : Jvm.MethodName) prog_50_method_4_code (3 : Nat) (Option.some Jvm.ClassFile.FieldType.boolean)).before args0 about1 = true := code_word (m := ⟨2, 2⟩) (meth := k2m2) (c := k2c2) (by decide +kernel) rfl rfl rfl (by decide +kernel)
set_option maxRecDepth 65536 in
theorem w_c6 : (Jvm.Cond.code ({ cls := "java/lang/Math", name := "min", desc := "(II)I" } : Jvm.MethodName) jdk_29_method_69_code (2 : Nat) (Option.some Jvm.ClassFile.FieldType.int)).before args0 about1 = true := code_word (m := ⟨3, 2⟩) (meth := k3m2) (c := k3c2) (by decide +kernel) rfl rfl rfl (by decide +kernel)
set_option maxRecDepth 65536 in
theorem w_c7 : (Jvm.Cond.code ({ cls := "java/lang/Math", name := "max", desc := "(II)I" } : Jvm.MethodName) jdk_29_method_65_code (2 : Nat) (Option.some Jvm.ClassFile.FieldType.int)).before args0 about1 = true := code_word (m := ⟨3, 1⟩) (meth := k3m1) (c := k3c1) (by decide +kernel) rfl rfl rfl (by decide +kernel)
set_option maxRecDepth 65536 in
theorem w_c8 : (Jvm.Cond.code ({ cls := "com/example/vestline/vestline/engine/PayrollRows", name := "cents", desc := "(I)J" } : Jvm.MethodName) prog_50_method_11_code (2 : Nat) (Option.some Jvm.ClassFile.FieldType.long)).before args0 about1 = true := code_word (m := ⟨2, 3⟩) (meth := k2m3) (c := k2c3) (by decide +kernel) rfl rfl rfl (by decide +kernel)
set_option maxRecDepth 65536 in
theorem w_c9 : (Jvm.Cond.code ({ cls := "java/util/Arrays", name := "copyOf", desc := "([II)[I" } : Jvm.MethodName) jdk_65_method_123_code (3 : Nat) (Option.some (Jvm.ClassFile.FieldType.array Jvm.ClassFile.FieldType.int))).before args0 about1 = true := code_word (m := ⟨4, 1⟩) (meth := k4m1) (c := k4c1) (by decide +kernel) rfl rfl rfl (by decide +kernel)
set_option maxRecDepth 65536 in
theorem w_c10 : (Jvm.Cond.code ({ cls := "java/util/Arrays", name := "copyOf", desc := "([JI)[J" } : Jvm.MethodName) jdk_65_method_124_code (3 : Nat) (Option.some (Jvm.ClassFile.FieldType.array Jvm.ClassFile.FieldType.long))).before args0 about1 = true := code_word (m := ⟨4, 2⟩) (meth := k4m2) (c := k4c2) (by decide +kernel) rfl rfl rfl (by decide +kernel)
def codes1 : List Jvm.Cond := [Jvm.Cond.code x code maxLocals ret, Jvm.Cond.code ({ cls := "com/example/vestline/vestline/engine/PayrollRowsCentsPinLaw", name := "eff", desc := "(JII)J" } : Jvm.MethodName) method_2_code (4 : Nat) (Option.some Jvm.ClassFile.FieldType.long), Jvm.Cond.code ({ cls := "com/example/vestline/vestline/engine/PayrollRows", name := "<init>", desc := "()V" } : Jvm.MethodName) prog_50_method_1_code (1 : Nat) (Option.none : Option Jvm.ClassFile.FieldType), Jvm.Cond.code ({ cls := "java/lang/Object", name := "<init>", desc := "()V" } : Jvm.MethodName) object_method_1_code (1 : Nat) (Option.none : Option Jvm.ClassFile.FieldType), Jvm.Cond.code ({ cls := "com/example/vestline/vestline/engine/PayrollRows", name := "add", desc := "(IIJJ)V" } : Jvm.MethodName) prog_50_method_2_code (7 : Nat) (Option.none : Option Jvm.ClassFile.FieldType), Jvm.Cond.code ({ cls := "com/example/vestline/vestline/engine/PayrollRows", name := "isAmongRows", desc := "(II)Z" } : Jvm.MethodName) prog_50_method_4_code (3 : Nat) (Option.some Jvm.ClassFile.FieldType.boolean), Jvm.Cond.code ({ cls := "java/lang/Math", name := "min", desc := "(II)I" } : Jvm.MethodName) jdk_29_method_69_code (2 : Nat) (Option.some Jvm.ClassFile.FieldType.int), Jvm.Cond.code ({ cls := "java/lang/Math", name := "max", desc := "(II)I" } : Jvm.MethodName) jdk_29_method_65_code (2 : Nat) (Option.some Jvm.ClassFile.FieldType.int), Jvm.Cond.code ({ cls := "com/example/vestline/vestline/engine/PayrollRows", name := "cents", desc := "(I)J" } : Jvm.MethodName) prog_50_method_11_code (2 : Nat) (Option.some Jvm.ClassFile.FieldType.long), Jvm.Cond.code ({ cls := "java/util/Arrays", name := "copyOf", desc := "([II)[I" } : Jvm.MethodName) jdk_65_method_123_code (3 : Nat) (Option.some (Jvm.ClassFile.FieldType.array Jvm.ClassFile.FieldType.int)), Jvm.Cond.code ({ cls := "java/util/Arrays", name := "copyOf", desc := "([JI)[J" } : Jvm.MethodName) jdk_65_method_124_code (3 : Nat) (Option.some (Jvm.ClassFile.FieldType.array Jvm.ClassFile.FieldType.long))]
set_option maxRecDepth 65536 in
theorem codes_eq : words1.filter isCode = codes1 := rfl
theorem w_codes : ∀ c ∈ words1.filter isCode, c.before args0 about1 = true := by
  rw [codes_eq]
  intro c hc
  simp only [codes1, List.mem_cons, List.not_mem_nil, or_false] at hc
  rcases hc with rfl | rfl | rfl | rfl | rfl | rfl | rfl | rfl | rfl | rfl | rfl
  · exact w_c0
  · exact w_c1
  · exact w_c2
  · exact w_c3
  · exact w_c4
  · exact w_c5
  · exact w_c6
  · exact w_c7
  · exact w_c8
  · exact w_c9
  · exact w_c10
set_option maxRecDepth 65536 in
theorem w_t1 : (words1.take 24).all (fun c => isCode c || c.before args0 about1) = true := by decide +kernel
set_option maxRecDepth 65536 in
theorem w_t2 : ((words1.drop 24).take 24).all (fun c => isCode c || c.before args0 about1) = true := by decide +kernel
set_option maxRecDepth 65536 in
theorem w_t3 : ((words1.drop 24).drop 24).all (fun c => isCode c || c.before args0 about1) = true := by decide +kernel
theorem w_tables : (allAtoms (Jvm.Cond.code x code maxLocals ret :: tables_1)).before args0 about1 = true := by
  rw [allAtoms_all]
  show words1.all (fun c => c.before args0 about1) = true
  refine all_split ?_ w_codes
  rw [← List.take_append_drop 24 words1, List.all_append, w_t1, ← List.take_append_drop 24 (words1.drop 24), List.all_append, w_t2, w_t3]
  rfl
set_option maxRecDepth 65536 in
theorem w_case : (Jvm.Cond.and given_1 narrow_1).before args0 about1 = true := by decide +kernel
theorem w_applies : (headSpec (Jvm.Cond.code x code maxLocals ret :: tables_1) room_1).applies x e0.platform about1 = true :=
  (Spec.applies_iff w_frames).mpr ⟨w_running, w_runnable, w_alone, w_named, w_hears, w_ripe, w_room, w_tables⟩
theorem atStart : AtStart classFile x code maxLocals ret World_1 tables_1 room_1 Calls_1 rest_1 Pre_1 launch0 p0 e0 about1 theMethod args0 below0 :=
  ⟨lists_1, trivial, launch0.admits_env _ _ _, launch0.least_env, fairChoices_fair.cas, fairChoices_fair.clock, w_frames, w_args, w_heap, w_applies, trivial, trivial, w_case⟩
end start1
theorem witness_1 : WitnessClaimed_1 := ⟨start1.p0, start1.e0, start1.about1, start1.theMethod, start1.args0, start1.below0, start1.atStart⟩
end Jvm.Pilot.@@N@@
