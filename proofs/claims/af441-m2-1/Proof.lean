import JvmDerived
import JvmDerived.Pilot.@@N@@Statement
import JvmDerived.Pilot.@@N@@Code
set_option linter.unusedVariables false
set_option linter.unusedSimpArgs false
namespace Jvm.Pilot.@@N@@
open Jvm Jvm.ClassFile Sem Op Lib Jvm.Free Jvm.Stand Jvm.LawKit Jvm.RoadKit Bundle Jvm.Pilot.@@N@@.Jvm.D
def ownEnds (tb : Tables) (e : Env) (below : List Frame) (Φ : State → Outcome → Prop) (A : State) : Prop :=
  ∃ s₂ o, Steps tb e below A s₂ ∧ s₂.status = .running ∧ Ended s₂ below o ∧ Φ s₂ o
theorem ownEnds.law {tb : Tables} {e : Env} {below : List Frame} {Φ : State → Outcome → Prop} {A B : State} (k : ∀ t, Steps tb e below B t → Steps tb e below A t) (h : ownEnds tb e below Φ B) : ownEnds tb e below Φ A := by
  obtain ⟨s2, o, h1, h2⟩ := h
  exact ⟨s2, o, k _ h1, h2⟩
theorem ownEnds.tr {tb : Tables} {e : Env} {below : List Frame} {Φ : State → Outcome → Prop} {A B : State} (k : Steps tb e below A B) (h : ownEnds tb e below Φ B) : ownEnds tb e below Φ A := by
  obtain ⟨s2, o, h1, h2⟩ := h
  exact ⟨s2, o, k.trans h1, h2⟩
theorem ownEnds.cast {tb : Tables} {e : Env} {below : List Frame} {Φ : State → Outcome → Prop} {T : State} {g g' : JFrame} (q : g = g') (h : ownEnds tb e below Φ (T.setTop g')) : ownEnds tb e below Φ (T.setTop g) := q ▸ h
def ownPost (s : State) (Q : Option Value → Heap → List Loc → Prop) (C S : Nat) : State → Outcome → Prop := fun U o => ∃ v L, o = .returned v ∧ Q v U.heap L ∧ FrameEnd s o U L C S
abbrev ownMet (l : Launch) (Z : State) (y : MethodName) (bytes : ByteArray) (maxL : Nat) (rt : Option FieldType) (ws : List Jvm.Cond) (rm : Room) (as : Array Value) (h0 : Heap) (Q : Option Value → Heap → List Loc → Prop) : Prop :=
  MetFree l y (head1 (Jvm.Cond.code y bytes maxL rt :: ws) rm) (fun a U => a = as ∧ Z.Warmed39 U.vm ∧ U.heap = h0) (fun _ _ _ _ _ => True) (fun _ U o U' => ∃ v L, o = .returned v ∧ Q v U'.heap L ∧ FrameEnd U o U' L rm.cells rm.slots)
theorem ownMet.of {l : Launch} {Z : State} {y : MethodName} {bytes : ByteArray} {maxL : Nat} {rt : Option FieldType} {ws : List Jvm.Cond} {rm : Room} {as : Array Value} {h0 : Heap} {Q : Option Value → Heap → List Loc → Prop} (hpl : plainFor y = true)
    (body : ∀ (p : Program) (e : Env) (s : State) (m : MethodId) (below : List Frame) (meth : Method) (c : Code) (T0 : State), p.tables.exec = Jvm.exec → c.code = bytes → c.maxLocals = maxL → Z.Warmed39 s.vm → s.vm.findClass y.cls = some m.cls → meth.name = y.name → meth.sig.returnType = rt → meth.locks = false →
      Stand p l e rm s m as below meth c T0 [] 0 0 → T0.heap = h0 → ownEnds p.tables e below (ownPost s Q rm.cells rm.slots) (T0.setTop (entryFrame m as maxL))) : ownMet l Z y bytes maxL rt ws rm as h0 Q := by
  refine MetFree.of_bodySF hpl hisR ?_
  intro p e s m args below meth c s₁ Bd hml0 hP hK
  obtain ⟨rfl, hZ, hh⟩ := hP
  exact body p e s m below meth c s₁ Bd.exec Bd.bytes hml0 hZ (findClass_of_methodNamed Bd.named) (name_of_methodNamed Bd.named Bd.method).1 Bd.returns Bd.notSynchronized (Stand.of_body Bd) (by rw [← hh, Bd.state]; rfl)
theorem ownEqV {args : Array Value} {first s : State} {o : Option Outcome} {idx : List Nat} {a b : Term} {v : Value} (h : (Cond.eq a b).value args first o s idx = some true) (hb : b.eval args first o idx s = some v) : a.eval args first o idx s = some v := by
  simp only [Cond.value, hb] at h
  cases ha : a.eval args first o idx s with
  | none => simp [ha] at h
  | some x => cases x <;> cases v <;> simp_all
theorem ownFieldAt {args : Array Value} {first s : State} {o : Option Outcome} {idx : List Nat} {t : Term} {a : Addr} {C n d : String} (ev : t.eval args first o idx s = some (.ref a)) : (Term.field t C n d).eval args first o idx s = s.fieldOf? a C n d := by
  simp [Term.eval, ev]
theorem ownLen {s : State} {args : Array Value} {t : Term} {a : Addr} {cl : Cell} {ty : FieldType} {z : Int32} (ev : t.eval args s none [] s = some (.ref a)) (A : Arr s s.heap a cl ty) (h : (Term.length t).eval args s none [] s = some (.int z)) : cl.slots.size < 2 ^ 31 ∧ cl.slots.size.toInt32 = z := by
  have q := A.fin (Vm.Alike.refl _)
  simp only [Term.eval, ev, q, Option.bind_eq_bind, Option.bind_some, Option.pure_def] at h
  split at h
  · rename_i hs
    exact ⟨hs, by simpa using h⟩
  · cases h
theorem ownEl {s : State} {args : Array Value} {t i : Term} {a : Addr} {cl : Cell} {ty : FieldType} {j : Int32} {v : Value} (ev : t.eval args s none [] s = some (.ref a)) (A : Arr s s.heap a cl ty) (ej : i.eval args s none [] s = some (.int j)) (h : (Term.elem t i).eval args s none [] s = some v) : cl.slots[j.toNatClampNeg]? = some v := by
  have q := A.fin (Vm.Alike.refl _)
  simp only [Term.eval, ev, ej, q, Option.bind_eq_bind, Option.bind_some] at h
  split at h
  · cases h
  · exact h
section OwnKit
variable {p : Program} {l : Launch} {e : Env} {R : Room} {s : State} {m : MethodId} {args : Array Value} {below : List Frame} {meth : Method} {c : Code} {T : State} {locs : List Loc} {cells slots : Nat} {Z : State} {a0 : Array Value} {h : Heap}
theorem ownRet (X : Stand p l e R s m args below meth c T locs cells slots) (hlk : meth.locks = false) {v : Option Value} (hv : meth.sig.returnType = none → v = none) {g : JFrame} {Q : Option Value → Heap → List Loc → Prop} {C S : Nat}
    (hst : ∀ fs, (∀ (f : JFrame) (acts : List Action), f.method = m → f.locked = none → f.entered = [] → (doReturn e (T.setTop f) acts v).1 = T.setFrames fs) → Steps p.tables e below (T.setTop g) (T.setFrames fs))
    (hc : cells ≤ C) (hs : slots ≤ S) (hQ : Q v T.heap locs) : ownEnds p.tables e below (ownPost s Q C S) (T.setTop g) := by
  obtain ⟨fs, hr, hrun, hended, hW, hsame⟩ := X.leave (v := v) hv hlk
  exact ⟨_, _, hst fs hr, hrun, hended, v, locs, rfl, hQ, ⟨_, rfl⟩, hW, hsame.mono hc hs⟩
theorem ownRetN (X : Stand p l e R s m args below meth c T locs cells slots) (hlk : meth.locks = false) (hx : p.tables.exec = Jvm.exec) {pc : Nat} {Ls : Array Slot} {z : Int32} {t : FieldType} {rest : List Value} (hret : meth.sig.returnType = some t) (ht : t = .boolean ∨ t = .byte ∨ t = .char ∨ t = .short)
    (hd : decode c.code pc = .ok (.ireturn, 1)) {Q : Option Value → Heap → List Loc → Prop} {C S : Nat} (hc : cells ≤ C) (hs : slots ≤ S) (hQ : Q (some (.int (nar t z))) T.heap locs) : ownEnds p.tables e below (ownPost s Q C S) (T.setTop (mkF m pc Ls (.int z :: rest))) :=
  ownRet X hlk (fun h => by rw [hret] at h; cases h) (fun fs hr => retN X hx hret ht hd hr) hc hs hQ
theorem ownRetI (X : Stand p l e R s m args below meth c T locs cells slots) (hlk : meth.locks = false) (hx : p.tables.exec = Jvm.exec) {pc : Nat} {Ls : Array Slot} {z : Int32} {rest : List Value} (hret : meth.sig.returnType = some .int)
    (hd : decode c.code pc = .ok (.ireturn, 1)) {Q : Option Value → Heap → List Loc → Prop} {C S : Nat} (hc : cells ≤ C) (hs : slots ≤ S) (hQ : Q (some (.int z)) T.heap locs) : ownEnds p.tables e below (ownPost s Q C S) (T.setTop (mkF m pc Ls (.int z :: rest))) :=
  ownRet X hlk (fun h => by rw [hret] at h; cases h) (fun fs hr => retOut X hx hret rfl (Or.inl ⟨rfl, Or.inl rfl, z, rfl⟩) hd hr) hc hs hQ
theorem ownRetL (X : Stand p l e R s m args below meth c T locs cells slots) (hlk : meth.locks = false) (hx : p.tables.exec = Jvm.exec) {pc : Nat} {Ls : Array Slot} {z : Int64} {rest : List Value} (hret : meth.sig.returnType = some .long)
    (hd : decode c.code pc = .ok (.lreturn, 1)) {Q : Option Value → Heap → List Loc → Prop} {C S : Nat} (hc : cells ≤ C) (hs : slots ≤ S) (hQ : Q (some (.long z)) T.heap locs) : ownEnds p.tables e below (ownPost s Q C S) (T.setTop (mkF m pc Ls (.long z :: rest))) :=
  ownRet X hlk (fun h => by rw [hret] at h; cases h) (fun fs hr => retOut X hx hret rfl (Or.inr (Or.inl ⟨rfl, rfl, z, rfl⟩)) hd hr) hc hs hQ
theorem ownRetA (X : Stand p l e R s m args below meth c T locs cells slots) (hlk : meth.locks = false) (hx : p.tables.exec = Jvm.exec) {pc : Nat} {Ls : Array Slot} {w : Value} {t : FieldType} {rest : List Value} (hret : meth.sig.returnType = some t) (ht : t.isReference = true) (hw : w.isRef = true)
    (hd : decode c.code pc = .ok (.areturn, 1)) {Q : Option Value → Heap → List Loc → Prop} {C S : Nat} (hc : cells ≤ C) (hs : slots ≤ S) (hQ : Q (some w) T.heap locs) : ownEnds p.tables e below (ownPost s Q C S) (T.setTop (mkF m pc Ls (w :: rest))) :=
  ownRet X hlk (fun h => by rw [hret] at h; cases h) (fun fs hr => retOut X hx hret (by rcases ref_cases hw with rfl | ⟨a, rfl⟩ <;> cases t <;> first | rfl | (simp [FieldType.isReference] at ht)) (Or.inr (Or.inr (Or.inr (Or.inr ⟨rfl, ht, hw⟩)))) hd hr) hc hs hQ
theorem ownRetV (X : Stand p l e R s m args below meth c T locs cells slots) (hlk : meth.locks = false) (hx : p.tables.exec = Jvm.exec) {pc : Nat} {Ls : Array Slot} (hret : meth.sig.returnType = none)
    (hd : decode c.code pc = .ok (.return_, 1)) {Q : Option Value → Heap → List Loc → Prop} {C S : Nat} (hc : cells ≤ C) (hs : slots ≤ S) (hQ : Q none T.heap locs) : ownEnds p.tables e below (ownPost s Q C S) (T.setTop (mkF m pc Ls [])) :=
  ownRet X hlk (fun _ => rfl) (fun fs hr => X.returnOut hx hret hd hr) hc hs hQ
theorem ownCallS (X : Stand p l e R s m args below meth c T locs cells slots) (hx : p.tables.exec = Jvm.exec) (hZ : Z.Warmed39 s.vm) {own : String} {index : Nat} (hown : s.vm.findClass own = some m.cls) {y : MethodName} {bytes : ByteArray} {maxL : Nat} {rt : Option FieldType} {rm : Room} {as : List Value} {Q : Option Value → Heap → List Loc → Prop}
    (w1 : (Cond.methodLink own index y).before a0 Z = true) (w2 : (Cond.static y).before a0 Z = true) (w3 : (Cond.initialized y.cls).before a0 Z = true) (w4 : (Cond.code y bytes maxL rt).before a0 Z = true) (hy : y.cls ≠ "java/lang/invoke/MethodHandle" ∧ y.cls ≠ "java/lang/invoke/VarHandle")
    (hM : ownMet l Z y bytes maxL rt [] rm as.toArray h Q) (eT : T.heap = h) (W : Nat) (hf : rm.frames + 1 ≤ R.frames) (hl : W + (maxL + 11) + rm.locals ≤ R.locals) (hc : cells + rm.cells ≤ R.cells) (hs : slots + rm.slots ≤ R.slots)
    {g : JFrame} (hg : g.method = m) (hsize : g.locals.size = c.maxLocals) {rest : List Value} {ps : List FieldType} {r : Option FieldType} (hd : parseMethodDescriptor y.desc = some ⟨ps, r⟩) (hlen : as.length = ps.length) (hstack : g.stack = as.reverse ++ rest) (hW : 2 * g.monitorRoom + (rest.map fun v => v.category).sum ≤ W)
    (hdg : decode c.code g.pc = .ok (.invokestatic index, 3)) :
    ∃ v T' L, Stand p l e R s m args below meth c T' (locs ++ L) (cells + rm.cells) (slots + rm.slots) ∧ Q v T'.heap L ∧ ∀ t, Steps p.tables e below (T'.setTop { g with pc := g.pc + 3, stack := v.toList ++ rest }) t → Steps p.tables e below (T.setTop g) t := by
  obtain ⟨v, _, ⟨T1, L1, k1, n1⟩, -, X1, ⟨Lc, hQ, l1, y1, z1⟩, st⟩ := Jvm.LawKit.callS X hx (y := y) hown (mvT hZ w1) (mvT hZ w2) (mvT hZ w3) (mvT hZ w4) hy (backOf (W := W) hM hZ w4 w3 hf hl) hg hsize (argsL := as) (rest := rest) (lenOf hd hlen) hstack hW hdg (fun _ _ => ⟨rfl, eT, hc, hs⟩)
  dsimp only [Pt.U, Pt.locs, Pt.cells, Pt.slots] at X1 l1 y1 z1 st hQ
  subst l1 y1 z1
  exact ⟨v, T1, Lc, X1, hQ, st⟩
theorem ownCallC (X : Stand p l e R s m args below meth c T locs cells slots) (hx : p.tables.exec = Jvm.exec) (hZ : Z.Warmed39 s.vm) {own : String} {index : Nat} (hown : s.vm.findClass own = some m.cls) {y : MethodName} (hy1 : y.name = "<init>") {bytes : ByteArray} {maxL : Nat} {rm : Room} {a : Addr} {as : List Value} {Q : Option Value → Heap → List Loc → Prop}
    (w1 : (Cond.methodLink own index y).before a0 Z = true) (w2 : (Cond.instanceMethod y).before a0 Z = true) (w3 : (Cond.initialized y.cls).before a0 Z = true) (w4 : (Cond.code y bytes maxL none).before a0 Z = true) (hy : y.cls ≠ "java/lang/invoke/MethodHandle" ∧ y.cls ≠ "java/lang/invoke/VarHandle")
    (hM : ownMet l Z y bytes maxL none [] rm (.ref a :: as).toArray h Q) (eT : T.heap = h) (W : Nat) (hf : rm.frames + 1 ≤ R.frames) (hl : W + (maxL + 11) + rm.locals ≤ R.locals) (hc : cells + rm.cells ≤ R.cells) (hs : slots + rm.slots ≤ R.slots)
    {g : JFrame} (hg : g.method = m) (hsize : g.locals.size = c.maxLocals) {rest : List Value} {ps : List FieldType} {r : Option FieldType} (hd : parseMethodDescriptor y.desc = some ⟨ps, r⟩) (hlen : as.length = ps.length) (hstack : g.stack = as.reverse ++ .ref a :: rest) (hW : 2 * g.monitorRoom + (rest.map fun v => v.category).sum ≤ W)
    (hdg : decode c.code g.pc = .ok (.invokespecial index, 3)) :
    ∃ v T' L, Stand p l e R s m args below meth c T' (locs ++ L) (cells + rm.cells) (slots + rm.slots) ∧ Q v T'.heap L ∧ ∀ t, Steps p.tables e below (T'.setTop { g with pc := g.pc + 3, stack := v.toList ++ rest }) t → Steps p.tables e below (T.setTop g) t := by
  obtain ⟨v, _, ⟨T1, L1, k1, n1⟩, -, X1, ⟨Lc, hQ, l1, y1, z1⟩, st⟩ := X.specialBack hx (y := y) hy1 hown (mvT hZ w1) (mvT hZ w2) (mvT hZ w4) hy (backOf (W := W) hM hZ w4 w3 hf hl) hg hsize (Steps.refl _) (a := a) (argsL := as) (rest := rest) (lenOf hd hlen) hstack hW hdg (fun _ _ => ⟨rfl, eT, hc, hs⟩)
  dsimp only [Pt.U, Pt.locs, Pt.cells, Pt.slots] at X1 l1 y1 z1 st hQ
  subst l1 y1 z1
  exact ⟨v, T1, Lc, X1, hQ, fun t k => st.trans k⟩
theorem ownCallV (X : Stand p l e R s m args below meth c T locs cells slots) (hx : p.tables.exec = Jvm.exec) (hZ : Z.Warmed39 s.vm) {own C : String} {index : Nat} (hown : s.vm.findClass own = some m.cls) {y z : MethodName} {bytes : ByteArray} {maxL : Nat} {rt : Option FieldType} {rm : Room} {a : Addr} {as : List Value} {Q : Option Value → Heap → List Loc → Prop}
    (w1 : (Cond.methodLink own index y).before a0 Z = true) (w2 : (Cond.declares y).before a0 Z = true) (hnf : NotFace s y) (w5 : (Cond.selects C y z).before a0 Z = true) (w6 : (Cond.instanceMethod z).before a0 Z = true) (w3 : (Cond.initialized z.cls).before a0 Z = true) (w4 : (Cond.code z bytes maxL rt).before a0 Z = true) (hy : y.cls ≠ "java/lang/invoke/MethodHandle" ∧ y.cls ≠ "java/lang/invoke/VarHandle")
    (hM : ownMet l Z z bytes maxL rt [] rm (.ref a :: as).toArray h Q) (eT : T.heap = h) (E : Exa Z h a C) (W : Nat) (hf : rm.frames + 1 ≤ R.frames) (hl : W + (maxL + 11) + rm.locals ≤ R.locals) (hc : cells + rm.cells ≤ R.cells) (hs : slots + rm.slots ≤ R.slots)
    {g : JFrame} (hg : g.method = m) (hsize : g.locals.size = c.maxLocals) {rest : List Value} {ps : List FieldType} {r : Option FieldType} (hd : parseMethodDescriptor y.desc = some ⟨ps, r⟩) (hlen : as.length = ps.length) (hstack : g.stack = as.reverse ++ .ref a :: rest) (hW : 2 * g.monitorRoom + (rest.map fun v => v.category).sum ≤ W)
    (hdg : decode c.code g.pc = .ok (.invokevirtual index, 3)) :
    ∃ v T' L, Stand p l e R s m args below meth c T' (locs ++ L) (cells + rm.cells) (slots + rm.slots) ∧ Q v T'.heap L ∧ ∀ t, Steps p.tables e below (T'.setTop { g with pc := g.pc + 3, stack := v.toList ++ rest }) t → Steps p.tables e below (T.setTop g) t := by
  obtain ⟨cq, kq, qa, qb, qc⟩ := isOf hZ eT E
  obtain ⟨v, _, ⟨T1, L1, k1, n1⟩, -, X1, ⟨Lc, hQ, l1, y1, z1⟩, st⟩ := X.virtualBack hx (y := y) (z := z) hown (mvT hZ w1) (mvT hZ w2) hnf (mvT hZ w5) (mvT hZ w6) hy (backOf (W := W) hM hZ w4 w3 hf hl) qa qc hg hsize (Steps.refl _) (argsL := as) (rest := rest) (lenOf hd hlen) hstack hW hdg (fun _ _ => ⟨rfl, eT, hc, hs⟩)
  dsimp only [Pt.U, Pt.locs, Pt.cells, Pt.slots] at X1 l1 y1 z1 st hQ
  subst l1 y1 z1
  exact ⟨v, T1, Lc, X1, hQ, fun t k => st.trans k⟩
theorem ownSelfSel {y z : MethodName} {C : String} (hz : z.cls = y.cls) (wz : (Cond.selects C z z).before args s = true) (hinst : (Cond.instanceMethod y).before args s = true) (hpriv : s.PrivateAt y) (hy : y.cls ≠ "java/lang/invoke/MethodHandle" ∧ y.cls ≠ "java/lang/invoke/VarHandle") : (Cond.selects y.cls y y).before args s = true := by
  obtain ⟨c2, r2, m2, q1, q2, q3, q4, kP, hkP, hkPi⟩ := Cond.selects_spec wz
  exact selects_self_of_private (by rw [← hz]; exact findClass_of_methodNamed q3) hkP hkPi hpriv hinst hy
theorem ownCallP (X : Stand p l e R s m args below meth c T locs cells slots) (hx : p.tables.exec = Jvm.exec) (hZ : Z.Warmed39 s.vm) {own C D : String} {index : Nat} (hown : s.vm.findClass own = some m.cls) {y z : MethodName} {bytes : ByteArray} {maxL : Nat} {rt : Option FieldType} {rm : Room} {a : Addr} {as : List Value} {Q : Option Value → Heap → List Loc → Prop}
    (w1 : (Cond.methodLink own index y).before a0 Z = true) (hz : z.cls = y.cls) (w5 : (Cond.selects C z z).before a0 Z = true) (w6 : (Cond.instanceMethod y).before a0 Z = true) (w7 : (Cond.privateMethod y).before a0 Z = true) (w3 : (Cond.initialized y.cls).before a0 Z = true) (w4 : (Cond.code y bytes maxL rt).before a0 Z = true) (hy : y.cls ≠ "java/lang/invoke/MethodHandle" ∧ y.cls ≠ "java/lang/invoke/VarHandle")
    (hM : ownMet l Z y bytes maxL rt [] rm (.ref a :: as).toArray h Q) (eT : T.heap = h) (E : Exa Z h a D) (W : Nat) (hf : rm.frames + 1 ≤ R.frames) (hl : W + (maxL + 11) + rm.locals ≤ R.locals) (hc : cells + rm.cells ≤ R.cells) (hs : slots + rm.slots ≤ R.slots)
    {g : JFrame} (hg : g.method = m) (hsize : g.locals.size = c.maxLocals) {rest : List Value} {ps : List FieldType} {r : Option FieldType} (hd : parseMethodDescriptor y.desc = some ⟨ps, r⟩) (hlen : as.length = ps.length) (hstack : g.stack = as.reverse ++ .ref a :: rest) (hW : 2 * g.monitorRoom + (rest.map fun v => v.category).sum ≤ W)
    (hdg : decode c.code g.pc = .ok (.invokevirtual index, 3)) :
    ∃ v T' L, Stand p l e R s m args below meth c T' (locs ++ L) (cells + rm.cells) (slots + rm.slots) ∧ Q v T'.heap L ∧ ∀ t, Steps p.tables e below (T'.setTop { g with pc := g.pc + 3, stack := v.toList ++ rest }) t → Steps p.tables e below (T.setTop g) t := by
  obtain ⟨cq, q1, q2⟩ := E.cell
  have hpv : s.PrivateAt y := Cond.privateMethod_at (mvP hZ w7 (args := #[]))
  obtain ⟨v, _, ⟨T1, L1, k1, n1⟩, -, X1, ⟨Lc, hQ, l1, y1, z1⟩, st⟩ := X.privateBack hx (y := y) hown (mvT hZ w1) (mvT hZ w6) (ownSelfSel hz (mvT hZ w5) (mvT hZ w6) hpv hy) hpv (mvT hZ w4) hy (backOf (W := W) hM hZ w4 w3 hf hl) hg hsize (Steps.refl _) (a := a) (by rw [eT]; exact q1) q2 (argsL := as) (rest := rest) (lenOf hd hlen) hstack hW hdg (fun _ _ => ⟨rfl, eT, hc, hs⟩)
  dsimp only [Pt.U, Pt.locs, Pt.cells, Pt.slots] at X1 l1 y1 z1 st hQ
  subst l1 y1 z1
  exact ⟨v, T1, Lc, X1, hQ, fun t k => st.trans k⟩
end OwnKit
theorem wd_0 {Z : State} {a0 : Array Value} (hw : ∀ d ∈ tables_1, d.before a0 Z = true) : (Jvm.Cond.constantLong "com/example/vestline/vestline/formats/JsonPlaceHasValuePinLaw" (9 : Nat) (9223372036854775807 : Int64)).before a0 Z = true := hw _ (List.mem_of_getElem? (i := 0) rfl)
theorem wd_1 {Z : State} {a0 : Array Value} (hw : ∀ d ∈ tables_1, d.before a0 Z = true) : (Jvm.Cond.classLink "com/example/vestline/vestline/formats/JsonPlaceHasValuePinLaw" (11 : Nat) "com/example/vestline/vestline/formats/JsonPlace").before a0 Z = true := hw _ (List.mem_of_getElem? (i := 1) rfl)
theorem wd_2 {Z : State} {a0 : Array Value} (hw : ∀ d ∈ tables_1, d.before a0 Z = true) : (Jvm.Cond.instantiable "com/example/vestline/vestline/formats/JsonPlace" (4 : Nat)).before a0 Z = true := hw _ (List.mem_of_getElem? (i := 2) rfl)
theorem wd_3 {Z : State} {a0 : Array Value} (hw : ∀ d ∈ tables_1, d.before a0 Z = true) : (Jvm.Cond.initialized "com/example/vestline/vestline/formats/JsonPlace").before a0 Z = true := hw _ (List.mem_of_getElem? (i := 3) rfl)
theorem wd_4 {Z : State} {a0 : Array Value} (hw : ∀ d ∈ tables_1, d.before a0 Z = true) : (Jvm.Cond.methodLink "com/example/vestline/vestline/formats/JsonPlaceHasValuePinLaw" (13 : Nat) ({ cls := "com/example/vestline/vestline/formats/JsonPlace", name := "<init>", desc := "(JJJJ)V" } : Jvm.MethodName)).before a0 Z = true := hw _ (List.mem_of_getElem? (i := 4) rfl)
theorem wd_5 {Z : State} {a0 : Array Value} (hw : ∀ d ∈ tables_1, d.before a0 Z = true) : (Jvm.Cond.instanceMethod ({ cls := "com/example/vestline/vestline/formats/JsonPlace", name := "<init>", desc := "(JJJJ)V" } : Jvm.MethodName)).before a0 Z = true := hw _ (List.mem_of_getElem? (i := 5) rfl)
theorem wd_6 {Z : State} {a0 : Array Value} (hw : ∀ d ∈ tables_1, d.before a0 Z = true) : (Jvm.Cond.code ({ cls := "com/example/vestline/vestline/formats/JsonPlace", name := "<init>", desc := "(JJJJ)V" } : Jvm.MethodName) prog_112_method_1_code (9 : Nat) (Option.none : Option Jvm.ClassFile.FieldType)).before a0 Z = true := hw _ (List.mem_of_getElem? (i := 6) rfl)
theorem wd_7 {Z : State} {a0 : Array Value} (hw : ∀ d ∈ tables_1, d.before a0 Z = true) : (Jvm.Cond.methodLink "com/example/vestline/vestline/formats/JsonPlace" (1 : Nat) ({ cls := "java/lang/Object", name := "<init>", desc := "()V" } : Jvm.MethodName)).before a0 Z = true := hw _ (List.mem_of_getElem? (i := 7) rfl)
theorem wd_8 {Z : State} {a0 : Array Value} (hw : ∀ d ∈ tables_1, d.before a0 Z = true) : (Jvm.Cond.instanceMethod ({ cls := "java/lang/Object", name := "<init>", desc := "()V" } : Jvm.MethodName)).before a0 Z = true := hw _ (List.mem_of_getElem? (i := 8) rfl)
theorem wd_9 {Z : State} {a0 : Array Value} (hw : ∀ d ∈ tables_1, d.before a0 Z = true) : (Jvm.Cond.code ({ cls := "java/lang/Object", name := "<init>", desc := "()V" } : Jvm.MethodName) object_method_1_code (1 : Nat) (Option.none : Option Jvm.ClassFile.FieldType)).before a0 Z = true := hw _ (List.mem_of_getElem? (i := 9) rfl)
theorem wd_10 {Z : State} {a0 : Array Value} (hw : ∀ d ∈ tables_1, d.before a0 Z = true) : (Jvm.Cond.fieldLink "com/example/vestline/vestline/formats/JsonPlace" (7 : Nat) "com/example/vestline/vestline/formats/JsonPlace" "opening" "J").before a0 Z = true := hw _ (List.mem_of_getElem? (i := 10) rfl)
theorem wd_11 {Z : State} {a0 : Array Value} (hw : ∀ d ∈ tables_1, d.before a0 Z = true) : (Jvm.Cond.laysFinal "com/example/vestline/vestline/formats/JsonPlace" "com/example/vestline/vestline/formats/JsonPlace" "opening" "J").before a0 Z = true := hw _ (List.mem_of_getElem? (i := 11) rfl)
theorem wd_12 {Z : State} {a0 : Array Value} (hw : ∀ d ∈ tables_1, d.before a0 Z = true) : (Jvm.Cond.fieldLink "com/example/vestline/vestline/formats/JsonPlace" (13 : Nat) "com/example/vestline/vestline/formats/JsonPlace" "closing" "J").before a0 Z = true := hw _ (List.mem_of_getElem? (i := 12) rfl)
theorem wd_13 {Z : State} {a0 : Array Value} (hw : ∀ d ∈ tables_1, d.before a0 Z = true) : (Jvm.Cond.laysFinal "com/example/vestline/vestline/formats/JsonPlace" "com/example/vestline/vestline/formats/JsonPlace" "closing" "J").before a0 Z = true := hw _ (List.mem_of_getElem? (i := 13) rfl)
theorem wd_14 {Z : State} {a0 : Array Value} (hw : ∀ d ∈ tables_1, d.before a0 Z = true) : (Jvm.Cond.fieldLink "com/example/vestline/vestline/formats/JsonPlace" (16 : Nat) "com/example/vestline/vestline/formats/JsonPlace" "valueAt" "J").before a0 Z = true := hw _ (List.mem_of_getElem? (i := 14) rfl)
theorem wd_15 {Z : State} {a0 : Array Value} (hw : ∀ d ∈ tables_1, d.before a0 Z = true) : (Jvm.Cond.laysFinal "com/example/vestline/vestline/formats/JsonPlace" "com/example/vestline/vestline/formats/JsonPlace" "valueAt" "J").before a0 Z = true := hw _ (List.mem_of_getElem? (i := 15) rfl)
theorem wd_16 {Z : State} {a0 : Array Value} (hw : ∀ d ∈ tables_1, d.before a0 Z = true) : (Jvm.Cond.fieldLink "com/example/vestline/vestline/formats/JsonPlace" (19 : Nat) "com/example/vestline/vestline/formats/JsonPlace" "valueEnd" "J").before a0 Z = true := hw _ (List.mem_of_getElem? (i := 16) rfl)
theorem wd_17 {Z : State} {a0 : Array Value} (hw : ∀ d ∈ tables_1, d.before a0 Z = true) : (Jvm.Cond.laysFinal "com/example/vestline/vestline/formats/JsonPlace" "com/example/vestline/vestline/formats/JsonPlace" "valueEnd" "J").before a0 Z = true := hw _ (List.mem_of_getElem? (i := 17) rfl)
theorem wd_18 {Z : State} {a0 : Array Value} (hw : ∀ d ∈ tables_1, d.before a0 Z = true) : (Jvm.Cond.methodLink "com/example/vestline/vestline/formats/JsonPlaceHasValuePinLaw" (16 : Nat) ({ cls := "com/example/vestline/vestline/formats/JsonPlace", name := "<init>", desc := "(JJ)V" } : Jvm.MethodName)).before a0 Z = true := hw _ (List.mem_of_getElem? (i := 18) rfl)
theorem wd_19 {Z : State} {a0 : Array Value} (hw : ∀ d ∈ tables_1, d.before a0 Z = true) : (Jvm.Cond.instanceMethod ({ cls := "com/example/vestline/vestline/formats/JsonPlace", name := "<init>", desc := "(JJ)V" } : Jvm.MethodName)).before a0 Z = true := hw _ (List.mem_of_getElem? (i := 19) rfl)
theorem wd_20 {Z : State} {a0 : Array Value} (hw : ∀ d ∈ tables_1, d.before a0 Z = true) : (Jvm.Cond.code ({ cls := "com/example/vestline/vestline/formats/JsonPlace", name := "<init>", desc := "(JJ)V" } : Jvm.MethodName) prog_112_method_2_code (5 : Nat) (Option.none : Option Jvm.ClassFile.FieldType)).before a0 Z = true := hw _ (List.mem_of_getElem? (i := 20) rfl)
theorem wd_21 {Z : State} {a0 : Array Value} (hw : ∀ d ∈ tables_1, d.before a0 Z = true) : (Jvm.Cond.constantLong "com/example/vestline/vestline/formats/JsonPlace" (22 : Nat) (-1 : Int64)).before a0 Z = true := hw _ (List.mem_of_getElem? (i := 21) rfl)
theorem wd_22 {Z : State} {a0 : Array Value} (hw : ∀ d ∈ tables_1, d.before a0 Z = true) : (Jvm.Cond.methodLink "com/example/vestline/vestline/formats/JsonPlace" (24 : Nat) ({ cls := "com/example/vestline/vestline/formats/JsonPlace", name := "<init>", desc := "(JJJJ)V" } : Jvm.MethodName)).before a0 Z = true := hw _ (List.mem_of_getElem? (i := 22) rfl)
theorem wd_23 {Z : State} {a0 : Array Value} (hw : ∀ d ∈ tables_1, d.before a0 Z = true) : (Jvm.Cond.methodLink "com/example/vestline/vestline/formats/JsonPlaceHasValuePinLaw" (19 : Nat) ({ cls := "com/example/vestline/vestline/formats/JsonPlace", name := "hasValue", desc := "()Z" } : Jvm.MethodName)).before a0 Z = true := hw _ (List.mem_of_getElem? (i := 23) rfl)
theorem wd_24 {Z : State} {a0 : Array Value} (hw : ∀ d ∈ tables_1, d.before a0 Z = true) : (Jvm.Cond.declares ({ cls := "com/example/vestline/vestline/formats/JsonPlace", name := "hasValue", desc := "()Z" } : Jvm.MethodName)).before a0 Z = true := hw _ (List.mem_of_getElem? (i := 24) rfl)
theorem wd_25 {Z : State} {a0 : Array Value} (hw : ∀ d ∈ tables_1, d.before a0 Z = true) : (Jvm.Cond.instanceMethod ({ cls := "com/example/vestline/vestline/formats/JsonPlace", name := "hasValue", desc := "()Z" } : Jvm.MethodName)).before a0 Z = true := hw _ (List.mem_of_getElem? (i := 25) rfl)
theorem wd_26 {Z : State} {a0 : Array Value} (hw : ∀ d ∈ tables_1, d.before a0 Z = true) : (Jvm.Cond.selects "com/example/vestline/vestline/formats/JsonPlace" ({ cls := "com/example/vestline/vestline/formats/JsonPlace", name := "hasValue", desc := "()Z" } : Jvm.MethodName) ({ cls := "com/example/vestline/vestline/formats/JsonPlace", name := "hasValue", desc := "()Z" } : Jvm.MethodName)).before a0 Z = true := hw _ (List.mem_of_getElem? (i := 26) rfl)
theorem wd_27 {Z : State} {a0 : Array Value} (hw : ∀ d ∈ tables_1, d.before a0 Z = true) : (Jvm.Cond.code ({ cls := "com/example/vestline/vestline/formats/JsonPlace", name := "hasValue", desc := "()Z" } : Jvm.MethodName) prog_112_method_5_code (1 : Nat) (Option.some Jvm.ClassFile.FieldType.boolean)).before a0 Z = true := hw _ (List.mem_of_getElem? (i := 27) rfl)
theorem ef_rm1 : ∀ (m : MethodId) (oa : Addr) (qa : Int64) (qb : Int64) (qc : Int64) (qd : Int64), entryFrame m #[(.ref oa), (.long qa), (.long qb), (.long qc), (.long qd)] 9 = mkF m 0 #[.val (.ref oa), .val (.long qa), .second, .val (.long qb), .second, .val (.long qc), .second, .val (.long qd), .second] [] := by intros; first | (simp [entryFrame, mkF, argsToLocals, Value.category]; done) | rfl
theorem d1_0 : decode prog_112_method_1_code 0 = .ok (.aload_n 0, 1) := by decide +kernel
theorem d1_1 : decode prog_112_method_1_code 1 = .ok (.invokespecial 1, 3) := by decide +kernel
theorem d1_4 : decode prog_112_method_1_code 4 = .ok (.aload_n 0, 1) := by decide +kernel
theorem d1_5 : decode prog_112_method_1_code 5 = .ok (.lload_n 1, 1) := by decide +kernel
theorem d1_6 : decode prog_112_method_1_code 6 = .ok (.putfield 7, 3) := by decide +kernel
theorem d1_9 : decode prog_112_method_1_code 9 = .ok (.aload_n 0, 1) := by decide +kernel
theorem d1_10 : decode prog_112_method_1_code 10 = .ok (.lload_n 3, 1) := by decide +kernel
theorem d1_11 : decode prog_112_method_1_code 11 = .ok (.putfield 13, 3) := by decide +kernel
theorem d1_14 : decode prog_112_method_1_code 14 = .ok (.aload_n 0, 1) := by decide +kernel
theorem d1_15 : decode prog_112_method_1_code 15 = .ok (.lload 5, 2) := by decide +kernel
theorem d1_17 : decode prog_112_method_1_code 17 = .ok (.putfield 16, 3) := by decide +kernel
theorem d1_20 : decode prog_112_method_1_code 20 = .ok (.aload_n 0, 1) := by decide +kernel
theorem d1_21 : decode prog_112_method_1_code 21 = .ok (.lload 7, 2) := by decide +kernel
theorem d1_23 : decode prog_112_method_1_code 23 = .ok (.putfield 19, 3) := by decide +kernel
theorem d1_26 : decode prog_112_method_1_code 26 = .ok (.return_, 1) := by decide +kernel
theorem pn_1 : plainName "com/example/vestline/vestline/formats/JsonPlace" = true := by first | (simp [plainName, overriddenIn]; done) | decide +kernel
theorem ef_rm3 : ∀ (m : MethodId) (oa : Addr) (qa : Int64) (qb : Int64), entryFrame m #[(.ref oa), (.long qa), (.long qb)] 5 = mkF m 0 #[.val (.ref oa), .val (.long qa), .second, .val (.long qb), .second] [] := by intros; first | (simp [entryFrame, mkF, argsToLocals, Value.category]; done) | rfl
theorem d3_0 : decode prog_112_method_2_code 0 = .ok (.aload_n 0, 1) := by decide +kernel
theorem d3_1 : decode prog_112_method_2_code 1 = .ok (.lload_n 1, 1) := by decide +kernel
theorem d3_2 : decode prog_112_method_2_code 2 = .ok (.lload_n 3, 1) := by decide +kernel
theorem d3_3 : decode prog_112_method_2_code 3 = .ok (.ldc2_w 22, 3) := by decide +kernel
theorem d3_6 : decode prog_112_method_2_code 6 = .ok (.ldc2_w 22, 3) := by decide +kernel
theorem pd_0 : parseMethodDescriptor "(JJJJ)V" = some ⟨[.long, .long, .long, .long], none⟩ := by decide +kernel
theorem d3_9 : decode prog_112_method_2_code 9 = .ok (.invokespecial 24, 3) := by decide +kernel
theorem d3_12 : decode prog_112_method_2_code 12 = .ok (.return_, 1) := by decide +kernel
theorem pn_3 : plainName "com/example/vestline/vestline/formats/JsonPlace" = true := by first | (simp [plainName, overriddenIn]; done) | decide +kernel
theorem ef_rm4 : ∀ (m : MethodId) (oa : Addr), entryFrame m #[(.ref oa)] 1 = mkF m 0 #[.val (.ref oa)] [] := by intros; first | (simp [entryFrame, mkF, argsToLocals, Value.category]; done) | rfl
theorem d4_0 : decode prog_112_method_5_code 0 = .ok (.aload_n 0, 1) := by decide +kernel
theorem d4_1 : decode prog_112_method_5_code 1 = .ok (.getfield 16, 3) := by decide +kernel
theorem d4_4 : decode prog_112_method_5_code 4 = .ok (.lconst 0, 1) := by decide +kernel
theorem d4_5 : decode prog_112_method_5_code 5 = .ok (.lcmp, 1) := by decide +kernel
theorem d4_6 : decode prog_112_method_5_code 6 = .ok (.ifCond .lt 7, 3) := by decide +kernel
theorem d4_13 : decode prog_112_method_5_code 13 = .ok (.iconst 0, 1) := by decide +kernel
theorem d4_14 : decode prog_112_method_5_code 14 = .ok (.ireturn, 1) := by decide +kernel
theorem d4_9 : decode prog_112_method_5_code 9 = .ok (.iconst 1, 1) := by decide +kernel
theorem d4_10 : decode prog_112_method_5_code 10 = .ok (.goto 4, 3) := by decide +kernel
theorem pn_4 : plainName "com/example/vestline/vestline/formats/JsonPlace" = true := by first | (simp [plainName, overriddenIn]; done) | decide +kernel
theorem ef_rm0 : ∀ (m : MethodId) (qa : Int64) (qb : Int64) (qc : Int64) (qd : Int64), entryFrame m #[(.long qa), (.long qb), (.long qc), (.long qd)] maxLocals = mkF m 0 #[.val (.long qa), .second, .val (.long qb), .second, .val (.long qc), .second, .val (.long qd), .second, .unset, .unset, .unset, .unset, .unset, .unset, .unset, .unset, .unset, .unset] [] := by intros; first | (simp [entryFrame, mkF, argsToLocals, Value.category, maxLocals]; done) | rfl
theorem pd_1 : parseMethodDescriptor "(JJ)V" = some ⟨[.long, .long], none⟩ := by decide +kernel
theorem pd_2 : parseMethodDescriptor "()Z" = some ⟨[], some .boolean⟩ := by decide +kernel
theorem pn_0 : plainName "com/example/vestline/vestline/formats/JsonPlaceHasValuePinLaw" = true := by first | (simp [plainName, overriddenIn]; done) | decide +kernel
def FH (v : Int64) : Int32 := if v < 0 then 0 else 1
theorem own_nn (c : Int64) : ¬ FH (c &&& 9223372036854775807) = 0 := by
  have e : (c &&& 9223372036854775807).toInt = c.toInt % (2 ^ 63 : Nat) := c_maskL c 9223372036854775807 63 (by decide) (by decide)
  have h : ¬ (c &&& 9223372036854775807) < 0 := by
    rw [Int64.lt_iff_toInt_lt, e]
    have e0 : (0 : Int64).toInt = 0 := rfl
    rw [e0]; omega
  simp [FH, h]
set_option maxRecDepth 65536 in
set_option maxHeartbeats 40000000 in
theorem rm1 (l : Launch) (Z : State) (a0 : Array Value) (hw : ∀ d ∈ tables_1, d.before a0 Z = true) (oa : Addr) (qa : Int64) (qb : Int64) (qc : Int64) (qd : Int64)  (h0 : Heap) (n0 : Nat) (Z0 : n0 ≤ h0.size) (E_oa : Exa Z h0 oa "com/example/vestline/vestline/formats/JsonPlace") (g_oa : n0 ≤ oa) (F_oa_opening : Fld Z h0 oa "com/example/vestline/vestline/formats/JsonPlace" "opening" "J" (.long (0 : Int64))) (F_oa_closing : Fld Z h0 oa "com/example/vestline/vestline/formats/JsonPlace" "closing" "J" (.long (0 : Int64))) (F_oa_valueAt : Fld Z h0 oa "com/example/vestline/vestline/formats/JsonPlace" "valueAt" "J" (.long (0 : Int64))) (F_oa_valueEnd : Fld Z h0 oa "com/example/vestline/vestline/formats/JsonPlace" "valueEnd" "J" (.long (0 : Int64))) :
    ownMet l Z (⟨"com/example/vestline/vestline/formats/JsonPlace", "<init>", "(JJJJ)V"⟩ : MethodName) prog_112_method_1_code 9 none [] ({ frames := 1, cells := 0, slots := 0, locals := 12 } : Room) #[(.ref oa), (.long qa), (.long qb), (.long qc), (.long qd)] h0 (fun v h L => v = none ∧ Fr n0 L ∧ Keep h0 h [oa] ∧ Exa Z h oa "com/example/vestline/vestline/formats/JsonPlace" ∧ Fld Z h oa "com/example/vestline/vestline/formats/JsonPlace" "opening" "J" (.long qa) ∧ Fld Z h oa "com/example/vestline/vestline/formats/JsonPlace" "closing" "J" (.long qb) ∧ Fld Z h oa "com/example/vestline/vestline/formats/JsonPlace" "valueAt" "J" (.long qc) ∧ Fld Z h oa "com/example/vestline/vestline/formats/JsonPlace" "valueEnd" "J" (.long qd)) := by
  refine ownMet.of (plainFor_of_name pn_1) ?_
  intro p e s m below meth c T0 hx hby hml hZ hown hnm hret hlk X0 e0
  refine ownEnds.cast (ef_rm1 m oa qa qb qc qd) ?_
  show ownEnds _ _ _ _ (T0.setTop (mkF m 0 #[.val (.ref oa), .val (.long qa), .second, .val (.long qb), .second, .val (.long qc), .second, .val (.long qd), .second] []))
  refine ownEnds.law (fun t k => XS.aloadN X0.here hx rfl (hb hby d1_0) rfl rfl k) ?_
  show ownEnds _ _ _ _ (T0.setTop (mkF m 1 #[.val (.ref oa), .val (.long qa), .second, .val (.long qb), .second, .val (.long qc), .second, .val (.long qd), .second] [(.ref oa)]))
  obtain ⟨T1, X1, e1, st1⟩ := initO X0 hx hZ hown (wd_7 hw) (wd_8 hw) (wd_9 hw) e0 (g := (mkF m 1 #[.val (.ref oa), .val (.long qa), .second, .val (.long qb), .second, .val (.long qc), .second, .val (.long qd), .second] [(.ref oa)])) rfl (by rw [hml]; rfl) rfl (hb hby d1_1) (by decide) (W := 0) (by show 2 * 0 + _ ≤ _; exact Nat.le_of_eq rfl) (by decide)
  refine ownEnds.law st1 ?_
  show ownEnds _ _ _ _ (T1.setTop (mkF m 4 #[.val (.ref oa), .val (.long qa), .second, .val (.long qb), .second, .val (.long qc), .second, .val (.long qd), .second] []))
  refine ownEnds.law (fun t k => XS.aloadN X1.here hx rfl (hb hby d1_4) rfl rfl (XS.lloadN X1.here hx rfl (hb hby d1_5) rfl k)) ?_
  show ownEnds _ _ _ _ (T1.setTop (mkF m 6 #[.val (.ref oa), .val (.long qa), .second, .val (.long qb), .second, .val (.long qc), .second, .val (.long qd), .second] [(.long qa), (.ref oa)]))
  obtain ⟨T2, h2, X2, e2, W2, st2⟩ := putF X1 hx hZ hown (host := "") (Or.inl (wd_10 hw)) Via.refl e1 F_oa_opening E_oa (Or.inr ⟨(wd_11 hw), rfl, hnm⟩) (wd_2 hw) (ty := .long) (by decide) rfl rfl (g := (mkF m 6 #[.val (.ref oa), .val (.long qa), .second, .val (.long qb), .second, .val (.long qc), .second, .val (.long qd), .second] [(.long qa), (.ref oa)])) rfl rfl (hb hby d1_6)
  refine ownEnds.law st2 ?_
  have N2 := Fr.snoc X2 (Fr.nil n0) g_oa
  have KK2 : Keep h0 h2 [oa] := (Keep.refl h0 [oa]).wr W2 (Or.inl (List.mem_of_getElem? (i := 0) rfl))
  have Z2 : n0 ≤ h2.size := by rw [W2.size]; exact Z0
  have Fw2 : Fld Z h2 oa "com/example/vestline/vestline/formats/JsonPlace" "opening" "J" (.long qa) := Fld.same W2 F_oa_opening
  show ownEnds _ _ _ _ (T2.setTop (mkF m 9 #[.val (.ref oa), .val (.long qa), .second, .val (.long qb), .second, .val (.long qc), .second, .val (.long qd), .second] []))
  refine ownEnds.law (fun t k => XS.aloadN X2.here hx rfl (hb hby d1_9) rfl rfl (XS.lloadN X2.here hx rfl (hb hby d1_10) rfl k)) ?_
  show ownEnds _ _ _ _ (T2.setTop (mkF m 11 #[.val (.ref oa), .val (.long qa), .second, .val (.long qb), .second, .val (.long qc), .second, .val (.long qd), .second] [(.long qb), (.ref oa)]))
  have f3 := (Exa.wr W2 E_oa)
  have f4 := (Fld.other W2 F_oa_closing (Or.inr (slot_ne (Or.inr (wd_13 hw)) (Or.inr (wd_11 hw)) (by decide) (t := .long) (t' := .long) (by decide) (by decide))))
  obtain ⟨T5, h5, X5, e5, W5, st5⟩ := putF X2 hx hZ hown (host := "") (Or.inl (wd_12 hw)) Via.refl e2 f4 f3 (Or.inr ⟨(wd_13 hw), rfl, hnm⟩) (wd_2 hw) (ty := .long) (by decide) rfl rfl (g := (mkF m 11 #[.val (.ref oa), .val (.long qa), .second, .val (.long qb), .second, .val (.long qc), .second, .val (.long qd), .second] [(.long qb), (.ref oa)])) rfl rfl (hb hby d1_11)
  refine ownEnds.law st5 ?_
  have N5 := Fr.snoc X5 N2 g_oa
  have KK5 : Keep h0 h5 [oa] := (KK2).wr W5 (Or.inl (List.mem_of_getElem? (i := 0) rfl))
  have Z5 : n0 ≤ h5.size := by rw [W5.size]; exact Z2
  have Fw5 : Fld Z h5 oa "com/example/vestline/vestline/formats/JsonPlace" "closing" "J" (.long qb) := Fld.same W5 f4
  show ownEnds _ _ _ _ (T5.setTop (mkF m 14 #[.val (.ref oa), .val (.long qa), .second, .val (.long qb), .second, .val (.long qc), .second, .val (.long qd), .second] []))
  refine ownEnds.law (fun t k => XS.aloadN X5.here hx rfl (hb hby d1_14) rfl rfl (XS.lload X5.here hx rfl (hb hby d1_15) rfl k)) ?_
  show ownEnds _ _ _ _ (T5.setTop (mkF m 17 #[.val (.ref oa), .val (.long qa), .second, .val (.long qb), .second, .val (.long qc), .second, .val (.long qd), .second] [(.long qc), (.ref oa)]))
  have f6 := (Exa.wr W5 f3)
  have f7 := (Fld.other W5 (Fld.other W2 F_oa_valueAt (Or.inr (slot_ne (Or.inr (wd_15 hw)) (Or.inr (wd_11 hw)) (by decide) (t := .long) (t' := .long) (by decide) (by decide)))) (Or.inr (slot_ne (Or.inr (wd_15 hw)) (Or.inr (wd_13 hw)) (by decide) (t := .long) (t' := .long) (by decide) (by decide))))
  obtain ⟨T8, h8, X8, e8, W8, st8⟩ := putF X5 hx hZ hown (host := "") (Or.inl (wd_14 hw)) Via.refl e5 f7 f6 (Or.inr ⟨(wd_15 hw), rfl, hnm⟩) (wd_2 hw) (ty := .long) (by decide) rfl rfl (g := (mkF m 17 #[.val (.ref oa), .val (.long qa), .second, .val (.long qb), .second, .val (.long qc), .second, .val (.long qd), .second] [(.long qc), (.ref oa)])) rfl rfl (hb hby d1_17)
  refine ownEnds.law st8 ?_
  have N8 := Fr.snoc X8 N5 g_oa
  have KK8 : Keep h0 h8 [oa] := (KK5).wr W8 (Or.inl (List.mem_of_getElem? (i := 0) rfl))
  have Z8 : n0 ≤ h8.size := by rw [W8.size]; exact Z5
  have Fw8 : Fld Z h8 oa "com/example/vestline/vestline/formats/JsonPlace" "valueAt" "J" (.long qc) := Fld.same W8 f7
  show ownEnds _ _ _ _ (T8.setTop (mkF m 20 #[.val (.ref oa), .val (.long qa), .second, .val (.long qb), .second, .val (.long qc), .second, .val (.long qd), .second] []))
  refine ownEnds.law (fun t k => XS.aloadN X8.here hx rfl (hb hby d1_20) rfl rfl (XS.lload X8.here hx rfl (hb hby d1_21) rfl k)) ?_
  show ownEnds _ _ _ _ (T8.setTop (mkF m 23 #[.val (.ref oa), .val (.long qa), .second, .val (.long qb), .second, .val (.long qc), .second, .val (.long qd), .second] [(.long qd), (.ref oa)]))
  have f9 := (Exa.wr W8 f6)
  have f10 := (Fld.other W8 (Fld.other W5 (Fld.other W2 F_oa_valueEnd (Or.inr (slot_ne (Or.inr (wd_17 hw)) (Or.inr (wd_11 hw)) (by decide) (t := .long) (t' := .long) (by decide) (by decide)))) (Or.inr (slot_ne (Or.inr (wd_17 hw)) (Or.inr (wd_13 hw)) (by decide) (t := .long) (t' := .long) (by decide) (by decide)))) (Or.inr (slot_ne (Or.inr (wd_17 hw)) (Or.inr (wd_15 hw)) (by decide) (t := .long) (t' := .long) (by decide) (by decide))))
  obtain ⟨T11, h11, X11, e11, W11, st11⟩ := putF X8 hx hZ hown (host := "") (Or.inl (wd_16 hw)) Via.refl e8 f10 f9 (Or.inr ⟨(wd_17 hw), rfl, hnm⟩) (wd_2 hw) (ty := .long) (by decide) rfl rfl (g := (mkF m 23 #[.val (.ref oa), .val (.long qa), .second, .val (.long qb), .second, .val (.long qc), .second, .val (.long qd), .second] [(.long qd), (.ref oa)])) rfl rfl (hb hby d1_23)
  refine ownEnds.law st11 ?_
  have N11 := Fr.snoc X11 N8 g_oa
  have KK11 : Keep h0 h11 [oa] := (KK8).wr W11 (Or.inl (List.mem_of_getElem? (i := 0) rfl))
  have Z11 : n0 ≤ h11.size := by rw [W11.size]; exact Z8
  have Fw11 : Fld Z h11 oa "com/example/vestline/vestline/formats/JsonPlace" "valueEnd" "J" (.long qd) := Fld.same W11 f10
  show ownEnds _ _ _ _ (T11.setTop (mkF m 26 #[.val (.ref oa), .val (.long qa), .second, .val (.long qb), .second, .val (.long qc), .second, .val (.long qd), .second] []))
  refine ownRetV X11 hlk hx hret (hb hby d1_26) (by decide) (by decide) ?_
  have f12 := (Exa.wr W11 f9)
  have f13 := (Fld.other W11 (Fld.other W8 (Fld.other W5 Fw2 (Or.inr (slot_ne (Or.inr (wd_11 hw)) (Or.inr (wd_13 hw)) (by decide) (t := .long) (t' := .long) (by decide) (by decide)))) (Or.inr (slot_ne (Or.inr (wd_11 hw)) (Or.inr (wd_15 hw)) (by decide) (t := .long) (t' := .long) (by decide) (by decide)))) (Or.inr (slot_ne (Or.inr (wd_11 hw)) (Or.inr (wd_17 hw)) (by decide) (t := .long) (t' := .long) (by decide) (by decide))))
  have f14 := (Fld.other W11 (Fld.other W8 Fw5 (Or.inr (slot_ne (Or.inr (wd_13 hw)) (Or.inr (wd_15 hw)) (by decide) (t := .long) (t' := .long) (by decide) (by decide)))) (Or.inr (slot_ne (Or.inr (wd_13 hw)) (Or.inr (wd_17 hw)) (by decide) (t := .long) (t' := .long) (by decide) (by decide))))
  have f15 := (Fld.other W11 Fw8 (Or.inr (slot_ne (Or.inr (wd_15 hw)) (Or.inr (wd_17 hw)) (by decide) (t := .long) (t' := .long) (by decide) (by decide))))
  rw [e11]
  exact ⟨rfl, N11, KK11, f12, f13, f14, f15, Fw11⟩
set_option maxRecDepth 65536 in
set_option maxHeartbeats 40000000 in
theorem rm3 (l : Launch) (Z : State) (a0 : Array Value) (hw : ∀ d ∈ tables_1, d.before a0 Z = true) (oa : Addr) (qa : Int64) (qb : Int64)  (h0 : Heap) (n0 : Nat) (Z0 : n0 ≤ h0.size) (E_oa : Exa Z h0 oa "com/example/vestline/vestline/formats/JsonPlace") (g_oa : n0 ≤ oa) (F_oa_opening : Fld Z h0 oa "com/example/vestline/vestline/formats/JsonPlace" "opening" "J" (.long (0 : Int64))) (F_oa_closing : Fld Z h0 oa "com/example/vestline/vestline/formats/JsonPlace" "closing" "J" (.long (0 : Int64))) (F_oa_valueAt : Fld Z h0 oa "com/example/vestline/vestline/formats/JsonPlace" "valueAt" "J" (.long (0 : Int64))) (F_oa_valueEnd : Fld Z h0 oa "com/example/vestline/vestline/formats/JsonPlace" "valueEnd" "J" (.long (0 : Int64))) :
    ownMet l Z (⟨"com/example/vestline/vestline/formats/JsonPlace", "<init>", "(JJ)V"⟩ : MethodName) prog_112_method_2_code 5 none [] ({ frames := 2, cells := 0, slots := 0, locals := 32 } : Room) #[(.ref oa), (.long qa), (.long qb)] h0 (fun v h L => v = none ∧ Fr n0 L ∧ Keep h0 h [oa] ∧ Exa Z h oa "com/example/vestline/vestline/formats/JsonPlace" ∧ Fld Z h oa "com/example/vestline/vestline/formats/JsonPlace" "opening" "J" (.long qa) ∧ Fld Z h oa "com/example/vestline/vestline/formats/JsonPlace" "closing" "J" (.long qb) ∧ Fld Z h oa "com/example/vestline/vestline/formats/JsonPlace" "valueAt" "J" (.long (-1 : Int64)) ∧ Fld Z h oa "com/example/vestline/vestline/formats/JsonPlace" "valueEnd" "J" (.long (-1 : Int64))) := by
  refine ownMet.of (plainFor_of_name pn_3) ?_
  intro p e s m below meth c T0 hx hby hml hZ hown hnm hret hlk X0 e0
  refine ownEnds.cast (ef_rm3 m oa qa qb) ?_
  show ownEnds _ _ _ _ (T0.setTop (mkF m 0 #[.val (.ref oa), .val (.long qa), .second, .val (.long qb), .second] []))
  refine ownEnds.law (fun t k => XS.aloadN X0.here hx rfl (hb hby d3_0) rfl rfl (XS.lloadN X0.here hx rfl (hb hby d3_1) rfl (XS.lloadN X0.here hx rfl (hb hby d3_2) rfl (X0.ldc2Long hx hown (mvT hZ (wd_21 hw)) (g := (mkF m 3 #[.val (.ref oa), .val (.long qa), .second, .val (.long qb), .second] [(.long qb), (.long qa), (.ref oa)])) rfl (hb hby d3_3) _ (X0.ldc2Long hx hown (mvT hZ (wd_21 hw)) (g := (mkF m 6 #[.val (.ref oa), .val (.long qa), .second, .val (.long qb), .second] [(.long (-1 : Int64)), (.long qb), (.long qa), (.ref oa)])) rfl (hb hby d3_6) _ k))))) ?_
  show ownEnds _ _ _ _ (T0.setTop (mkF m 9 #[.val (.ref oa), .val (.long qa), .second, .val (.long qb), .second] [(.long (-1 : Int64)), (.long (-1 : Int64)), (.long qb), (.long qa), (.ref oa)]))
  obtain ⟨v1, T1, L1, X1, hQ1, st1⟩ := ownCallC X0 hx hZ hown (y := (⟨"com/example/vestline/vestline/formats/JsonPlace", "<init>", "(JJJJ)V"⟩ : MethodName)) rfl (a := oa) (as := [(.long qa), (.long qb), (.long (-1 : Int64)), (.long (-1 : Int64))]) (wd_22 hw) (wd_5 hw) (wd_3 hw) (wd_6 hw) (by decide) (rm1 l Z a0 hw oa qa qb (-1 : Int64) (-1 : Int64)  h0 n0 Z0 E_oa g_oa F_oa_opening F_oa_closing F_oa_valueAt F_oa_valueEnd) e0 0 (by decide) (by decide) (by decide) (by decide) (g := (mkF m 9 #[.val (.ref oa), .val (.long qa), .second, .val (.long qb), .second] [(.long (-1 : Int64)), (.long (-1 : Int64)), (.long qb), (.long qa), (.ref oa)])) rfl (by rw [hml]; rfl) (rest := []) pd_0 rfl rfl (by show 2 * 0 + _ ≤ _; exact Nat.le_of_eq rfl) (hb hby d3_9)
  obtain ⟨rfl, Nq1, Kq1, Eq1, Fc1_0, Fc1_1, Fc1_2, Fc1_3⟩ := hQ1
  have N1 := Fr.app (Fr.nil n0) Nq1
  have KK1 : Keep h0 T1.heap [oa] := Keep.trans (Keep.refl h0 [oa]) Kq1 (allS (Or.inl (List.mem_of_getElem? (i := 0) rfl)) all0)
  have Z1 : n0 ≤ T1.heap.size := Nat.le_trans Z0 Kq1.1
  refine ownEnds.law st1 ?_
  show ownEnds _ _ _ _ (T1.setTop (mkF m 12 #[.val (.ref oa), .val (.long qa), .second, .val (.long qb), .second] []))
  refine ownRetV X1 hlk hx hret (hb hby d3_12) (by decide) (by decide) ?_
  exact ⟨rfl, N1, KK1, Eq1, Fc1_0, Fc1_1, Fc1_2, Fc1_3⟩
set_option maxRecDepth 65536 in
set_option maxHeartbeats 40000000 in
theorem rm4 (l : Launch) (Z : State) (a0 : Array Value) (hw : ∀ d ∈ tables_1, d.before a0 Z = true) (oa : Addr) (va : Int64) (h0 : Heap) (n0 : Nat) (Z0 : n0 ≤ h0.size)  (F_valueAt : Fld Z h0 oa "com/example/vestline/vestline/formats/JsonPlace" "valueAt" "J" (.long va)) :
    ownMet l Z (⟨"com/example/vestline/vestline/formats/JsonPlace", "hasValue", "()Z"⟩ : MethodName) prog_112_method_5_code 1 (some .boolean) [] ({ frames := 0, cells := 0, slots := 0, locals := 0 } : Room) #[(.ref oa)] h0 (fun v h L => v = some (.int (FH va)) ∧ L = [] ∧ h = h0) := by
  refine ownMet.of (plainFor_of_name pn_4) ?_
  intro p e s m below meth c T0 hx hby hml hZ hown hnm hret hlk X0 e0
  refine ownEnds.cast (ef_rm4 m oa) ?_
  show ownEnds _ _ _ _ (T0.setTop (mkF m 0 #[.val (.ref oa)] []))
  refine ownEnds.law (fun t k => XS.aloadN X0.here hx rfl (hb hby d4_0) rfl rfl k) ?_
  show ownEnds _ _ _ _ (T0.setTop (mkF m 1 #[.val (.ref oa)] [(.ref oa)]))
  obtain ⟨T1, X1, e1, st1⟩ := getF X0 hx hZ hown (host := "") (Or.inl (wd_14 hw)) Via.refl e0 F_valueAt (g := (mkF m 1 #[.val (.ref oa)] [(.ref oa)])) rfl rfl (hb hby d4_1)
  refine ownEnds.law st1 ?_
  show ownEnds _ _ _ _ (T1.setTop (mkF m 4 #[.val (.ref oa)] [(.long va)]))
  refine ownEnds.law (fun t k => XS.lconst X1.here hx rfl (hb hby d4_4) (XS.lcmp X1.here hx rfl (hb hby d4_5) rfl k)) ?_
  show ownEnds _ _ _ _ (T1.setTop (mkF m 6 #[.val (.ref oa)] [(.int (lcmpW va (0 : Int64)))]))
  by_cases hc6 : va < (0 : Int64)
  · refine ownEnds.law (fun t => XS.ifYes X1.here hx rfl (pc0 := 6) (pc' := 13) rfl (hb hby d4_6) rfl ((if0 _ _).trans (tlt ((lw_lt _ _).mpr hc6)).1) (by decide) (by decide)) ?_
    show ownEnds _ _ _ _ (T1.setTop (mkF m 13 #[.val (.ref oa)] []))
    refine ownEnds.law (fun t k => XS.iconst X1.here hx rfl (hb hby d4_13) k) ?_
    show ownEnds _ _ _ _ (T1.setTop (mkF m 14 #[.val (.ref oa)] [(.int (0 : Int32))]))
    refine ownRetN X1 hlk hx (t := .boolean) hret (by simp) (hb hby d4_14) (by decide) (by decide) ?_
    exact ⟨by simp_all [FH, nar], rfl, e1⟩
  · refine ownEnds.law (fun t => XS.ifNo X1.here hx rfl (hb hby d4_6) rfl ((if0 _ _).trans (flt (fun q => hc6 ((lw_lt _ _).mp q))).1)) ?_
    show ownEnds _ _ _ _ (T1.setTop (mkF m 9 #[.val (.ref oa)] []))
    refine ownEnds.law (fun t k => XS.iconst X1.here hx rfl (hb hby d4_9) (XS.goto X1.here hx rfl (pc0 := 10) (pc' := 14) rfl (hb hby d4_10) (by decide) (by decide) k)) ?_
    show ownEnds _ _ _ _ (T1.setTop (mkF m 14 #[.val (.ref oa)] [(.int (1 : Int32))]))
    refine ownRetN X1 hlk hx (t := .boolean) hret (by simp) (hb hby d4_14) (by decide) (by decide) ?_
    exact ⟨by simp_all [FH, nar], rfl, e1⟩
set_option maxRecDepth 65536 in
set_option maxHeartbeats 40000000 in
theorem rm0 (l : Launch) (Z : State) (a0 : Array Value) (hw : ∀ d ∈ tables_1, d.before a0 Z = true) (qa : Int64) (qb : Int64) (qc : Int64) (qd : Int64)  (h0 : Heap) (n0 : Nat) (Z0 : n0 ≤ h0.size)  :
    ownMet l Z x code maxLocals ret tables_1 room_1 #[(.long qa), (.long qb), (.long qc), (.long qd)] h0 (fun v h L => v = some (.int 1) ∧ Fr n0 L) := by
  refine ownMet.of (plainFor_of_name pn_0) ?_
  intro p e s m below meth c T0 hx hby hml hZ hown hnm hret hlk X0 e0
  have hown : s.vm.findClass "com/example/vestline/vestline/formats/JsonPlaceHasValuePinLaw" = some m.cls := hown
  have hml : c.maxLocals = 18 := hml
  have hret : meth.sig.returnType = some .boolean := hret
  refine ownEnds.cast (ef_rm0 m qa qb qc qd) ?_
  show ownEnds _ _ _ _ (T0.setTop (mkF m 0 #[.val (.long qa), .second, .val (.long qb), .second, .val (.long qc), .second, .val (.long qd), .second, .unset, .unset, .unset, .unset, .unset, .unset, .unset, .unset, .unset, .unset] []))
  refine ownEnds.law (fun t k => XS.lloadN X0.here hx rfl (hb hby at_0) rfl (X0.ldc2Long hx hown (mvT hZ (wd_0 hw)) (g := (mkF m 1 #[.val (.long qa), .second, .val (.long qb), .second, .val (.long qc), .second, .val (.long qd), .second, .unset, .unset, .unset, .unset, .unset, .unset, .unset, .unset, .unset, .unset] [(.long qa)])) rfl (hb hby at_1) _ (XS.land X0.here hx rfl (hb hby at_4) rfl (XS.lstore X0.here hx rfl (hb hby at_5) rfl (l' := #[.val (.long qa), .second, .val (.long qb), .second, .val (.long qc), .second, .val (.long qd), .second, .val (.long (qa &&& (9223372036854775807 : Int64))), .second, .unset, .unset, .unset, .unset, .unset, .unset, .unset, .unset]) rfl (XS.lloadN X0.here hx rfl (hb hby at_7) rfl (X0.ldc2Long hx hown (mvT hZ (wd_0 hw)) (g := (mkF m 8 #[.val (.long qa), .second, .val (.long qb), .second, .val (.long qc), .second, .val (.long qd), .second, .val (.long (qa &&& (9223372036854775807 : Int64))), .second, .unset, .unset, .unset, .unset, .unset, .unset, .unset, .unset] [(.long qb)])) rfl (hb hby at_8) _ (XS.land X0.here hx rfl (hb hby at_11) rfl (XS.lstore X0.here hx rfl (hb hby at_12) rfl (l' := #[.val (.long qa), .second, .val (.long qb), .second, .val (.long qc), .second, .val (.long qd), .second, .val (.long (qa &&& (9223372036854775807 : Int64))), .second, .val (.long (qb &&& (9223372036854775807 : Int64))), .second, .unset, .unset, .unset, .unset, .unset, .unset]) rfl (XS.lload X0.here hx rfl (hb hby at_14) rfl (X0.ldc2Long hx hown (mvT hZ (wd_0 hw)) (g := (mkF m 16 #[.val (.long qa), .second, .val (.long qb), .second, .val (.long qc), .second, .val (.long qd), .second, .val (.long (qa &&& (9223372036854775807 : Int64))), .second, .val (.long (qb &&& (9223372036854775807 : Int64))), .second, .unset, .unset, .unset, .unset, .unset, .unset] [(.long qc)])) rfl (hb hby at_16) _ k)))))))))) ?_
  show ownEnds _ _ _ _ (T0.setTop (mkF m 19 #[.val (.long qa), .second, .val (.long qb), .second, .val (.long qc), .second, .val (.long qd), .second, .val (.long (qa &&& (9223372036854775807 : Int64))), .second, .val (.long (qb &&& (9223372036854775807 : Int64))), .second, .unset, .unset, .unset, .unset, .unset, .unset] [(.long (9223372036854775807 : Int64)), (.long qc)]))
  refine ownEnds.law (fun t k => XS.land X0.here hx rfl (hb hby at_19) rfl (XS.lstore X0.here hx rfl (hb hby at_20) rfl (l' := #[.val (.long qa), .second, .val (.long qb), .second, .val (.long qc), .second, .val (.long qd), .second, .val (.long (qa &&& (9223372036854775807 : Int64))), .second, .val (.long (qb &&& (9223372036854775807 : Int64))), .second, .val (.long (qc &&& (9223372036854775807 : Int64))), .second, .unset, .unset, .unset, .unset]) rfl (XS.lload X0.here hx rfl (hb hby at_22) rfl (X0.ldc2Long hx hown (mvT hZ (wd_0 hw)) (g := (mkF m 24 #[.val (.long qa), .second, .val (.long qb), .second, .val (.long qc), .second, .val (.long qd), .second, .val (.long (qa &&& (9223372036854775807 : Int64))), .second, .val (.long (qb &&& (9223372036854775807 : Int64))), .second, .val (.long (qc &&& (9223372036854775807 : Int64))), .second, .unset, .unset, .unset, .unset] [(.long qd)])) rfl (hb hby at_24) _ (XS.land X0.here hx rfl (hb hby at_27) rfl (XS.lstore X0.here hx rfl (hb hby at_28) rfl (l' := #[.val (.long qa), .second, .val (.long qb), .second, .val (.long qc), .second, .val (.long qd), .second, .val (.long (qa &&& (9223372036854775807 : Int64))), .second, .val (.long (qb &&& (9223372036854775807 : Int64))), .second, .val (.long (qc &&& (9223372036854775807 : Int64))), .second, .val (.long (qd &&& (9223372036854775807 : Int64))), .second, .unset, .unset]) rfl k)))))) ?_
  show ownEnds _ _ _ _ (T0.setTop (mkF m 30 #[.val (.long qa), .second, .val (.long qb), .second, .val (.long qc), .second, .val (.long qd), .second, .val (.long (qa &&& (9223372036854775807 : Int64))), .second, .val (.long (qb &&& (9223372036854775807 : Int64))), .second, .val (.long (qc &&& (9223372036854775807 : Int64))), .second, .val (.long (qd &&& (9223372036854775807 : Int64))), .second, .unset, .unset] []))
  obtain ⟨T1, h1, X1, e1, E1, A1, D1, -, st1⟩ := newO X0 hx hZ hown (wd_1 hw) (wd_2 hw) (wd_3 hw) e0 (g := (mkF m 30 #[.val (.long qa), .second, .val (.long qb), .second, .val (.long qc), .second, .val (.long qd), .second, .val (.long (qa &&& (9223372036854775807 : Int64))), .second, .val (.long (qb &&& (9223372036854775807 : Int64))), .second, .val (.long (qc &&& (9223372036854775807 : Int64))), .second, .val (.long (qd &&& (9223372036854775807 : Int64))), .second, .unset, .unset] [])) rfl (hb hby at_30) (by decide) (by decide)
  obtain ⟨b1, g1⟩ : ∃ z, z = h0.size := ⟨_, rfl⟩
  rw [← g1] at A1 D1 st1
  refine ownEnds.law st1 ?_
  have g_b1 : n0 ≤ b1 := Nat.le_trans Z0 (Nat.le_of_eq g1.symm)
  have Z1 : n0 ≤ h1.size := Nat.le_trans Z0 E1.1
  have F2 : Fld Z h1 b1 "com/example/vestline/vestline/formats/JsonPlace" "opening" "J" (.long (0 : Int64)) := D1 (Or.inr (wd_11 hw)) (ty := .long) (by decide)
  have F3 : Fld Z h1 b1 "com/example/vestline/vestline/formats/JsonPlace" "closing" "J" (.long (0 : Int64)) := D1 (Or.inr (wd_13 hw)) (ty := .long) (by decide)
  have F4 : Fld Z h1 b1 "com/example/vestline/vestline/formats/JsonPlace" "valueAt" "J" (.long (0 : Int64)) := D1 (Or.inr (wd_15 hw)) (ty := .long) (by decide)
  have F5 : Fld Z h1 b1 "com/example/vestline/vestline/formats/JsonPlace" "valueEnd" "J" (.long (0 : Int64)) := D1 (Or.inr (wd_17 hw)) (ty := .long) (by decide)
  show ownEnds _ _ _ _ (T1.setTop (mkF m 33 #[.val (.long qa), .second, .val (.long qb), .second, .val (.long qc), .second, .val (.long qd), .second, .val (.long (qa &&& (9223372036854775807 : Int64))), .second, .val (.long (qb &&& (9223372036854775807 : Int64))), .second, .val (.long (qc &&& (9223372036854775807 : Int64))), .second, .val (.long (qd &&& (9223372036854775807 : Int64))), .second, .unset, .unset] [(.ref b1)]))
  refine ownEnds.law (fun t k => XS.dup X1.here hx rfl (hb hby at_33) rfl rfl (XS.lload X1.here hx rfl (hb hby at_34) rfl (XS.lload X1.here hx rfl (hb hby at_36) rfl (XS.lload X1.here hx rfl (hb hby at_38) rfl (XS.lload X1.here hx rfl (hb hby at_40) rfl k))))) ?_
  show ownEnds _ _ _ _ (T1.setTop (mkF m 42 #[.val (.long qa), .second, .val (.long qb), .second, .val (.long qc), .second, .val (.long qd), .second, .val (.long (qa &&& (9223372036854775807 : Int64))), .second, .val (.long (qb &&& (9223372036854775807 : Int64))), .second, .val (.long (qc &&& (9223372036854775807 : Int64))), .second, .val (.long (qd &&& (9223372036854775807 : Int64))), .second, .unset, .unset] [(.long (qd &&& (9223372036854775807 : Int64))), (.long (qc &&& (9223372036854775807 : Int64))), (.long (qb &&& (9223372036854775807 : Int64))), (.long (qa &&& (9223372036854775807 : Int64))), (.ref b1), (.ref b1)]))
  obtain ⟨v6, T6, L6, X6, hQ6, st6⟩ := ownCallC X1 hx hZ hown (y := (⟨"com/example/vestline/vestline/formats/JsonPlace", "<init>", "(JJJJ)V"⟩ : MethodName)) rfl (a := b1) (as := [(.long (qa &&& (9223372036854775807 : Int64))), (.long (qb &&& (9223372036854775807 : Int64))), (.long (qc &&& (9223372036854775807 : Int64))), (.long (qd &&& (9223372036854775807 : Int64)))]) (wd_4 hw) (wd_5 hw) (wd_3 hw) (wd_6 hw) (by decide) (rm1 l Z a0 hw b1 (qa &&& (9223372036854775807 : Int64)) (qb &&& (9223372036854775807 : Int64)) (qc &&& (9223372036854775807 : Int64)) (qd &&& (9223372036854775807 : Int64))  h1 n0 Z1 A1 g_b1 F2 F3 F4 F5) e1 1 (by decide) (by decide) (by decide) (by decide) (g := (mkF m 42 #[.val (.long qa), .second, .val (.long qb), .second, .val (.long qc), .second, .val (.long qd), .second, .val (.long (qa &&& (9223372036854775807 : Int64))), .second, .val (.long (qb &&& (9223372036854775807 : Int64))), .second, .val (.long (qc &&& (9223372036854775807 : Int64))), .second, .val (.long (qd &&& (9223372036854775807 : Int64))), .second, .unset, .unset] [(.long (qd &&& (9223372036854775807 : Int64))), (.long (qc &&& (9223372036854775807 : Int64))), (.long (qb &&& (9223372036854775807 : Int64))), (.long (qa &&& (9223372036854775807 : Int64))), (.ref b1), (.ref b1)])) rfl (by rw [hml]; rfl) (rest := [(.ref b1)]) pd_0 rfl rfl (by show 2 * 0 + _ ≤ _; exact Nat.le_of_eq rfl) (hb hby at_42)
  obtain ⟨rfl, Nq6, Kq6, Eq6, Fc6_0, Fc6_1, Fc6_2, Fc6_3⟩ := hQ6
  have N6 := Fr.app (Fr.nil n0) Nq6
  have Z6 : n0 ≤ T6.heap.size := Nat.le_trans Z1 Kq6.1
  refine ownEnds.law st6 ?_
  show ownEnds _ _ _ _ (T6.setTop (mkF m 45 #[.val (.long qa), .second, .val (.long qb), .second, .val (.long qc), .second, .val (.long qd), .second, .val (.long (qa &&& (9223372036854775807 : Int64))), .second, .val (.long (qb &&& (9223372036854775807 : Int64))), .second, .val (.long (qc &&& (9223372036854775807 : Int64))), .second, .val (.long (qd &&& (9223372036854775807 : Int64))), .second, .unset, .unset] [(.ref b1)]))
  refine ownEnds.law (fun t k => XS.astore X6.here hx rfl (hb hby at_45) rfl rfl (l' := #[.val (.long qa), .second, .val (.long qb), .second, .val (.long qc), .second, .val (.long qd), .second, .val (.long (qa &&& (9223372036854775807 : Int64))), .second, .val (.long (qb &&& (9223372036854775807 : Int64))), .second, .val (.long (qc &&& (9223372036854775807 : Int64))), .second, .val (.long (qd &&& (9223372036854775807 : Int64))), .second, .val (.ref b1), .unset]) rfl k) ?_
  show ownEnds _ _ _ _ (T6.setTop (mkF m 47 #[.val (.long qa), .second, .val (.long qb), .second, .val (.long qc), .second, .val (.long qd), .second, .val (.long (qa &&& (9223372036854775807 : Int64))), .second, .val (.long (qb &&& (9223372036854775807 : Int64))), .second, .val (.long (qc &&& (9223372036854775807 : Int64))), .second, .val (.long (qd &&& (9223372036854775807 : Int64))), .second, .val (.ref b1), .unset] []))
  obtain ⟨T7, h7, X7, e7, E7, A7, D7, -, st7⟩ := newO X6 hx hZ hown (wd_1 hw) (wd_2 hw) (wd_3 hw) rfl (g := (mkF m 47 #[.val (.long qa), .second, .val (.long qb), .second, .val (.long qc), .second, .val (.long qd), .second, .val (.long (qa &&& (9223372036854775807 : Int64))), .second, .val (.long (qb &&& (9223372036854775807 : Int64))), .second, .val (.long (qc &&& (9223372036854775807 : Int64))), .second, .val (.long (qd &&& (9223372036854775807 : Int64))), .second, .val (.ref b1), .unset] [])) rfl (hb hby at_47) (by decide) (by decide)
  obtain ⟨b7, g7⟩ : ∃ z, z = T6.heap.size := ⟨_, rfl⟩
  rw [← g7] at A7 D7 st7
  refine ownEnds.law st7 ?_
  have ne_b1_b7 : b1 ≠ b7 := Nat.ne_of_lt (Nat.lt_of_lt_of_eq Eq6.lt g7.symm)
  have g_b7 : n0 ≤ b7 := Nat.le_trans Z6 (Nat.le_of_eq g7.symm)
  have Z7 : n0 ≤ h7.size := Nat.le_trans Z6 E7.1
  have F8 : Fld Z h7 b7 "com/example/vestline/vestline/formats/JsonPlace" "opening" "J" (.long (0 : Int64)) := D7 (Or.inr (wd_11 hw)) (ty := .long) (by decide)
  have F9 : Fld Z h7 b7 "com/example/vestline/vestline/formats/JsonPlace" "closing" "J" (.long (0 : Int64)) := D7 (Or.inr (wd_13 hw)) (ty := .long) (by decide)
  have F10 : Fld Z h7 b7 "com/example/vestline/vestline/formats/JsonPlace" "valueAt" "J" (.long (0 : Int64)) := D7 (Or.inr (wd_15 hw)) (ty := .long) (by decide)
  have F11 : Fld Z h7 b7 "com/example/vestline/vestline/formats/JsonPlace" "valueEnd" "J" (.long (0 : Int64)) := D7 (Or.inr (wd_17 hw)) (ty := .long) (by decide)
  show ownEnds _ _ _ _ (T7.setTop (mkF m 50 #[.val (.long qa), .second, .val (.long qb), .second, .val (.long qc), .second, .val (.long qd), .second, .val (.long (qa &&& (9223372036854775807 : Int64))), .second, .val (.long (qb &&& (9223372036854775807 : Int64))), .second, .val (.long (qc &&& (9223372036854775807 : Int64))), .second, .val (.long (qd &&& (9223372036854775807 : Int64))), .second, .val (.ref b1), .unset] [(.ref b7)]))
  refine ownEnds.law (fun t k => XS.dup X7.here hx rfl (hb hby at_50) rfl rfl (XS.lload X7.here hx rfl (hb hby at_51) rfl (XS.lload X7.here hx rfl (hb hby at_53) rfl k))) ?_
  show ownEnds _ _ _ _ (T7.setTop (mkF m 55 #[.val (.long qa), .second, .val (.long qb), .second, .val (.long qc), .second, .val (.long qd), .second, .val (.long (qa &&& (9223372036854775807 : Int64))), .second, .val (.long (qb &&& (9223372036854775807 : Int64))), .second, .val (.long (qc &&& (9223372036854775807 : Int64))), .second, .val (.long (qd &&& (9223372036854775807 : Int64))), .second, .val (.ref b1), .unset] [(.long (qb &&& (9223372036854775807 : Int64))), (.long (qa &&& (9223372036854775807 : Int64))), (.ref b7), (.ref b7)]))
  obtain ⟨v12, T12, L12, X12, hQ12, st12⟩ := ownCallC X7 hx hZ hown (y := (⟨"com/example/vestline/vestline/formats/JsonPlace", "<init>", "(JJ)V"⟩ : MethodName)) rfl (a := b7) (as := [(.long (qa &&& (9223372036854775807 : Int64))), (.long (qb &&& (9223372036854775807 : Int64)))]) (wd_18 hw) (wd_19 hw) (wd_3 hw) (wd_20 hw) (by decide) (rm3 l Z a0 hw b7 (qa &&& (9223372036854775807 : Int64)) (qb &&& (9223372036854775807 : Int64))  h7 n0 Z7 A7 g_b7 F8 F9 F10 F11) e7 1 (by decide) (by decide) (by decide) (by decide) (g := (mkF m 55 #[.val (.long qa), .second, .val (.long qb), .second, .val (.long qc), .second, .val (.long qd), .second, .val (.long (qa &&& (9223372036854775807 : Int64))), .second, .val (.long (qb &&& (9223372036854775807 : Int64))), .second, .val (.long (qc &&& (9223372036854775807 : Int64))), .second, .val (.long (qd &&& (9223372036854775807 : Int64))), .second, .val (.ref b1), .unset] [(.long (qb &&& (9223372036854775807 : Int64))), (.long (qa &&& (9223372036854775807 : Int64))), (.ref b7), (.ref b7)])) rfl (by rw [hml]; rfl) (rest := [(.ref b7)]) pd_1 rfl rfl (by show 2 * 0 + _ ≤ _; exact Nat.le_of_eq rfl) (hb hby at_55)
  obtain ⟨rfl, Nq12, Kq12, Eq12, Fc12_0, Fc12_1, Fc12_2, Fc12_3⟩ := hQ12
  have N12 := Fr.app N6 Nq12
  have Z12 : n0 ≤ T12.heap.size := Nat.le_trans Z7 Kq12.1
  refine ownEnds.law st12 ?_
  show ownEnds _ _ _ _ (T12.setTop (mkF m 58 #[.val (.long qa), .second, .val (.long qb), .second, .val (.long qc), .second, .val (.long qd), .second, .val (.long (qa &&& (9223372036854775807 : Int64))), .second, .val (.long (qb &&& (9223372036854775807 : Int64))), .second, .val (.long (qc &&& (9223372036854775807 : Int64))), .second, .val (.long (qd &&& (9223372036854775807 : Int64))), .second, .val (.ref b1), .unset] [(.ref b7)]))
  refine ownEnds.law (fun t k => XS.astore X12.here hx rfl (hb hby at_58) rfl rfl (l' := #[.val (.long qa), .second, .val (.long qb), .second, .val (.long qc), .second, .val (.long qd), .second, .val (.long (qa &&& (9223372036854775807 : Int64))), .second, .val (.long (qb &&& (9223372036854775807 : Int64))), .second, .val (.long (qc &&& (9223372036854775807 : Int64))), .second, .val (.long (qd &&& (9223372036854775807 : Int64))), .second, .val (.ref b1), .val (.ref b7)]) rfl (XS.aload X12.here hx rfl (hb hby at_60) rfl rfl k)) ?_
  show ownEnds _ _ _ _ (T12.setTop (mkF m 62 #[.val (.long qa), .second, .val (.long qb), .second, .val (.long qc), .second, .val (.long qd), .second, .val (.long (qa &&& (9223372036854775807 : Int64))), .second, .val (.long (qb &&& (9223372036854775807 : Int64))), .second, .val (.long (qc &&& (9223372036854775807 : Int64))), .second, .val (.long (qd &&& (9223372036854775807 : Int64))), .second, .val (.ref b1), .val (.ref b7)] [(.ref b1)]))
  have f14 := (Fld.keep (Fld.ext E7 Fc6_2) Kq12 (ninS ne_b1_b7 nin0))
  have f15 := (Exa.keep (Exa.ext E7 Eq6) Kq12)
  obtain ⟨v13, T13, L13, X13, hQ13, st13⟩ := ownCallV X12 hx hZ hown (y := (⟨"com/example/vestline/vestline/formats/JsonPlace", "hasValue", "()Z"⟩ : MethodName)) (z := (⟨"com/example/vestline/vestline/formats/JsonPlace", "hasValue", "()Z"⟩ : MethodName)) (a := b1) (as := []) (wd_23 hw) (wd_24 hw) (notFace_of_selects (args := #[]) (mvT hZ (wd_26 hw))) (wd_26 hw) (wd_25 hw) (wd_3 hw) (wd_27 hw) (by decide) (rm4 l Z a0 hw b1 (qc &&& (9223372036854775807 : Int64)) T12.heap n0 Z12 f14) rfl f15 0 (by decide) (by decide) (by decide) (by decide) (g := (mkF m 62 #[.val (.long qa), .second, .val (.long qb), .second, .val (.long qc), .second, .val (.long qd), .second, .val (.long (qa &&& (9223372036854775807 : Int64))), .second, .val (.long (qb &&& (9223372036854775807 : Int64))), .second, .val (.long (qc &&& (9223372036854775807 : Int64))), .second, .val (.long (qd &&& (9223372036854775807 : Int64))), .second, .val (.ref b1), .val (.ref b7)] [(.ref b1)])) rfl (by rw [hml]; rfl) (rest := []) pd_2 rfl rfl (by show 2 * 0 + _ ≤ _; exact Nat.le_of_eq rfl) (hb hby at_62)
  obtain ⟨rfl, rfl, e13⟩ := hQ13
  rw [List.append_nil] at X13
  refine ownEnds.law st13 ?_
  show ownEnds _ _ _ _ (T13.setTop (mkF m 65 #[.val (.long qa), .second, .val (.long qb), .second, .val (.long qc), .second, .val (.long qd), .second, .val (.long (qa &&& (9223372036854775807 : Int64))), .second, .val (.long (qb &&& (9223372036854775807 : Int64))), .second, .val (.long (qc &&& (9223372036854775807 : Int64))), .second, .val (.long (qd &&& (9223372036854775807 : Int64))), .second, .val (.ref b1), .val (.ref b7)] [(.int (FH (qc &&& (9223372036854775807 : Int64))))]))
  have hc65 : ¬ ((FH (qc &&& (9223372036854775807 : Int64))) = (0 : Int32)) := own_nn _
  refine ownEnds.law (fun t => XS.ifNo X13.here hx rfl (hb hby at_65) rfl ((if0 _ _).trans (feq hc65).1)) ?_
  show ownEnds _ _ _ _ (T13.setTop (mkF m 68 #[.val (.long qa), .second, .val (.long qb), .second, .val (.long qc), .second, .val (.long qd), .second, .val (.long (qa &&& (9223372036854775807 : Int64))), .second, .val (.long (qb &&& (9223372036854775807 : Int64))), .second, .val (.long (qc &&& (9223372036854775807 : Int64))), .second, .val (.long (qd &&& (9223372036854775807 : Int64))), .second, .val (.ref b1), .val (.ref b7)] []))
  refine ownEnds.law (fun t k => XS.aload X13.here hx rfl (hb hby at_68) rfl rfl k) ?_
  show ownEnds _ _ _ _ (T13.setTop (mkF m 70 #[.val (.long qa), .second, .val (.long qb), .second, .val (.long qc), .second, .val (.long qd), .second, .val (.long (qa &&& (9223372036854775807 : Int64))), .second, .val (.long (qb &&& (9223372036854775807 : Int64))), .second, .val (.long (qc &&& (9223372036854775807 : Int64))), .second, .val (.long (qd &&& (9223372036854775807 : Int64))), .second, .val (.ref b1), .val (.ref b7)] [(.ref b7)]))
  obtain ⟨v16, T16, L16, X16, hQ16, st16⟩ := ownCallV X13 hx hZ hown (y := (⟨"com/example/vestline/vestline/formats/JsonPlace", "hasValue", "()Z"⟩ : MethodName)) (z := (⟨"com/example/vestline/vestline/formats/JsonPlace", "hasValue", "()Z"⟩ : MethodName)) (a := b7) (as := []) (wd_23 hw) (wd_24 hw) (notFace_of_selects (args := #[]) (mvT hZ (wd_26 hw))) (wd_26 hw) (wd_25 hw) (wd_3 hw) (wd_27 hw) (by decide) (rm4 l Z a0 hw b7 (-1 : Int64) T12.heap n0 Z12 Fc12_2) e13 Eq12 0 (by decide) (by decide) (by decide) (by decide) (g := (mkF m 70 #[.val (.long qa), .second, .val (.long qb), .second, .val (.long qc), .second, .val (.long qd), .second, .val (.long (qa &&& (9223372036854775807 : Int64))), .second, .val (.long (qb &&& (9223372036854775807 : Int64))), .second, .val (.long (qc &&& (9223372036854775807 : Int64))), .second, .val (.long (qd &&& (9223372036854775807 : Int64))), .second, .val (.ref b1), .val (.ref b7)] [(.ref b7)])) rfl (by rw [hml]; rfl) (rest := []) pd_2 rfl rfl (by show 2 * 0 + _ ≤ _; exact Nat.le_of_eq rfl) (hb hby at_70)
  obtain ⟨rfl, rfl, e16⟩ := hQ16
  rw [List.append_nil] at X16
  refine ownEnds.law st16 ?_
  show ownEnds _ _ _ _ (T16.setTop (mkF m 73 #[.val (.long qa), .second, .val (.long qb), .second, .val (.long qc), .second, .val (.long qd), .second, .val (.long (qa &&& (9223372036854775807 : Int64))), .second, .val (.long (qb &&& (9223372036854775807 : Int64))), .second, .val (.long (qc &&& (9223372036854775807 : Int64))), .second, .val (.long (qd &&& (9223372036854775807 : Int64))), .second, .val (.ref b1), .val (.ref b7)] [(.int (FH (-1 : Int64)))]))
  have hc73 : (FH (-1 : Int64)) = (0 : Int32) := by decide
  refine ownEnds.law (fun t => XS.ifNo X16.here hx rfl (hb hby at_73) rfl ((if0 _ _).trans (teq hc73).2)) ?_
  show ownEnds _ _ _ _ (T16.setTop (mkF m 76 #[.val (.long qa), .second, .val (.long qb), .second, .val (.long qc), .second, .val (.long qd), .second, .val (.long (qa &&& (9223372036854775807 : Int64))), .second, .val (.long (qb &&& (9223372036854775807 : Int64))), .second, .val (.long (qc &&& (9223372036854775807 : Int64))), .second, .val (.long (qd &&& (9223372036854775807 : Int64))), .second, .val (.ref b1), .val (.ref b7)] []))
  refine ownEnds.law (fun t k => XS.iconst X16.here hx rfl (hb hby at_76) (XS.goto X16.here hx rfl (pc0 := 77) (pc' := 81) rfl (hb hby at_77) (by decide) (by decide) k)) ?_
  show ownEnds _ _ _ _ (T16.setTop (mkF m 81 #[.val (.long qa), .second, .val (.long qb), .second, .val (.long qc), .second, .val (.long qd), .second, .val (.long (qa &&& (9223372036854775807 : Int64))), .second, .val (.long (qb &&& (9223372036854775807 : Int64))), .second, .val (.long (qc &&& (9223372036854775807 : Int64))), .second, .val (.long (qd &&& (9223372036854775807 : Int64))), .second, .val (.ref b1), .val (.ref b7)] [(.int (1 : Int32))]))
  refine ownRetN X16 hlk hx (t := .boolean) hret (by simp) (hb hby at_81) (by decide) (by decide) ?_
  exact ⟨rfl, N12⟩
set_option maxRecDepth 65536 in
set_option maxHeartbeats 40000000 in
theorem comes_1 {Post : Tables → Env → Array Value → State → Outcome → State → Prop} (hpost : ∀ tb e args s v u, (limb_1_1.after args s (.returned v) u = true ∧ limb_1_2.after args s (.returned v) u = true ∧ True) → FrameEnd s (.returned v) u (Jvm.fieldLocs frame_1_writes args s ++ Jvm.arrayLocs frame_1_arrays args s ++ Jvm.staticLocs frame_1_statics s) 16 128 → Post tb e args s (.returned v) u) :
    ArmFor flags0 classFile x code maxLocals ret World_1 tables_1 room_1 Calls_1 rest_1 Pre_1 Post := by
  intro l hfl _ _ p e ha hc hk s m args below hf hA hF happ hP
  obtain ⟨hcalls, hrest, hpre⟩ := hP
  obtain ⟨-, -, -, hnamed, -, -, -, hat⟩ := (Spec.applies_iff hf).mp happ
  obtain ⟨hg, hn⟩ := and_e (Cond.before_iff.mp (show (Jvm.Cond.and given_1 narrow_1).before args s = true from hpre))
  obtain ⟨gg1, gg2⟩ := and_e hg
  obtain ⟨gg3, gg4⟩ := and_e gg2
  obtain ⟨gg5, gg6⟩ := and_e gg4
  obtain ⟨gg7, gg8⟩ := and_e gg6
  obtain ⟨w0, w1, w2, w3, rfl⟩ : ∃ w0 w1 w2 w3 : Value, args = #[w0, w1, w2, w3] := by
    have hs : args.size = 4 := by simpa [Cond.value, given_1] using gg1
    obtain ⟨L⟩ := args
    match L, hs with
    | [w0, w1, w2, w3], _ => exact ⟨w0, w1, w2, w3, rfl⟩
  have hw := fun d (hd : d ∈ tables_1) => atoms_spec (ws := Jvm.Cond.code x code maxLocals ret :: tables_1) hat d (List.mem_cons_of_mem _ hd)
  have hfit : Fit s := fun {y c} hc i hi => by
    obtain ⟨ha, rfl⟩ := Array.getElem?_eq_some_iff.mp hc
    have q := List.all_eq_true.mp ((Array.all_eq_true_iff_forall_mem.mp hF) _ (Array.getElem_mem ha)) i (List.mem_range.mpr hi)
    simpa [Array.getElem?_eq_getElem hi] using q
  obtain ⟨i0, ei0⟩ := isL_v gg3
  obtain rfl : w0 = (.long i0) := Option.some.inj ei0
  obtain ⟨i1, ei1⟩ := isL_v gg5
  obtain rfl : w1 = (.long i1) := Option.some.inj ei1
  obtain ⟨i2, ei2⟩ := isL_v gg7
  obtain rfl : w2 = (.long i2) := Option.some.inj ei2
  obtain ⟨i3, ei3⟩ := isL_v gg8
  obtain rfl : w3 = (.long i3) := Option.some.inj ei3
  obtain ⟨n, o, h1, h2, h3, _, L, rfl, ⟨rfl, N⟩, hq⟩ := rm0 l s _ hw i0 i1 i2 i3  s.heap s.heap.size (Nat.le_refl _)  p e ha hc hk s m _ below hf ((Spec.applies_iff_loose hf).mp happ).1 ⟨rfl, State.Warmed39.refl s, rfl⟩ trivial
  refine ⟨n, _, h1, h2, h3, hpost _ _ _ _ _ _ ⟨Cond.after_iff.mpr rfl, Cond.after_iff.mpr (eq_i res_at (Term.int_eval (1)) rfl), trivial⟩ ⟨hq.1, hq.2.1, (hq.2.2.sift fun y hy => Or.inr (N y hy)).mono (by decide) (by decide)⟩⟩
theorem main_1_1 : Claimed_1_1 := comes_1 fun _ _ _ _ _ _ h hF => ⟨h.1, hF⟩
theorem main_1_2 : Claimed_1_2 := comes_1 fun _ _ _ _ _ _ h hF => ⟨h.2.1, hF⟩
end Jvm.Pilot.@@N@@
namespace Jvm.Pilot.@@N@@
open Jvm Jvm.ClassFile Sem Op Lib Jvm.Free Jvm.Stand Jvm.Pilot.@@N@@.Jvm.D
/-! MADE BY PROGRAM (witnessworld.py) out of the Statement's table words and the real class files: 9 classes; the members and pool entries that the words name. The judged class is class 1, her method 1. -/
namespace start1
open Jvm.ClassFile
def u (s : String) : CpInfo := .utf8 (stringToUtf16 s)
/-- a pool by its gaps: so many unusable entries, then the entry; so many at the end -/
def gap : Nat → List CpInfo → List CpInfo
  | 0, r => r
  | n + 1, r => .unusable :: gap n r
def poolList (es : List (Nat × CpInfo)) (last : Nat) : List CpInfo := es.foldr (fun e r => gap e.1 (e.2 :: r)) (gap last [])
def pool (es : List (Nat × CpInfo)) (last : Nat) : Array CpInfo := ⟨poolList es last⟩
def fileOf (pool : Array CpInfo) (this : Nat) (attrs : Array Attribute := #[]) (ms : Array MethodInfo := #[]) (fl : Nat := 33) (sup : Nat := 0) (ifs : Array Nat := #[]) (fds : Array FieldInfo := #[]) : ClassFile where
  minorVersion := 0
  majorVersion := 65
  constantPool := pool
  accessFlags := fl
  thisClass := this
  superClass := sup
  interfaces := ifs
  fields := fds
  methods := ms
  attributes := attrs
def plain (name : String) (sup : Option ClassId) : Class where
  name := name
  kind := .ordinary
  loader := none
  accessFlags := 33
  super := sup
  interfaces := #[]
  cf := none
  fields := #[]
  methods := #[]
  instanceTypes := #[]
  staticTypes := #[]
  resolved := #[]
  callSites := []
  init := .initialized
  statics := none
  mirror := none

def pool0 : Array CpInfo := pool [(5, u "<init>"), (0, u "()V"), (1, .class_ 10), (1, u "java/lang/Object")] 113

def k0c0 : Code := { maxStack := 0, maxLocals := 1, code := object_method_1_code, exceptionTable := #[], attributes := #[] }
def k0m0 : Method := { name := "<init>", desc := "()V", sig := { parameters := [], returnType := none }, accessFlags := 1, code := some k0c0 }
/-- java/lang/Object -/
def k0 : Class := { plain "java/lang/Object" none with
  accessFlags := 33
  interfaces := #[]
  cf := some (fileOf pool0 8 #[] #[{ accessFlags := 1, nameIndex := 5, descriptorIndex := 6, attributes := #[] }] 33 0 #[] #[])
  fields := #[]
  methods := #[k0m0]
  instanceTypes := #[]
  staticTypes := #[]
  resolved := Array.replicate 124 none
  statics := none }

def pool1 : Array CpInfo := pool [(2, .class_ 4), (1, u "java/lang/Object"), (0, u "<init>"), (0, u "()V"), (2, .long 9223372036854775807), (1, .class_ 12), (0, u "com/example/vestline/vestline/formats/JsonPlace"), (0, .methodref 11 14), (0, .nameAndType 5 15), (0, u "(JJJJ)V"), (0, .methodref 11 17), (0, .nameAndType 5 18), (0, u "(JJ)V"), (0, .methodref 11 20), (0, .nameAndType 21 22), (0, u "hasValue"), (0, u "()Z"), (0, .class_ 24), (0, u "com/example/vestline/vestline/formats/JsonPlaceHasValuePinLaw"), (2, u "law"), (0, u "(JJJJ)Z")] 3

def k1m0 : Method := { name := "<init>", desc := "()V", sig := { parameters := [], returnType := none }, accessFlags := 1, code := none }
def k1c1 : Code := { maxStack := 10, maxLocals := 18, code := code, exceptionTable := #[], attributes := #[] }
def k1m1 : Method := { name := "law", desc := "(JJJJ)Z", sig := { parameters := [.long, .long, .long, .long], returnType := some .boolean }, accessFlags := 9, code := some k1c1 }
/-- com/example/vestline/vestline/formats/JsonPlaceHasValuePinLaw -/
def k1 : Class := { plain "com/example/vestline/vestline/formats/JsonPlaceHasValuePinLaw" (some 0) with
  accessFlags := 49
  interfaces := #[]
  cf := some (fileOf pool1 23 #[] #[{ accessFlags := 1, nameIndex := 5, descriptorIndex := 6, attributes := #[] }, { accessFlags := 9, nameIndex := 27, descriptorIndex := 28, attributes := #[] }] 49 2 #[] #[])
  fields := #[]
  methods := #[k1m0, k1m1]
  instanceTypes := #[]
  staticTypes := #[]
  resolved := Array.replicate 32 none
  statics := none }

def pool2 : Array CpInfo := pool [(1, .methodref 2 3), (0, .class_ 4), (0, .nameAndType 5 6), (0, u "java/lang/Object"), (0, u "<init>"), (0, u "()V"), (0, .fieldref 8 9), (0, .class_ 10), (0, .nameAndType 11 12), (0, u "com/example/vestline/vestline/formats/JsonPlace"), (0, u "opening"), (0, u "J"), (0, .fieldref 8 14), (0, .nameAndType 15 12), (0, u "closing"), (0, .fieldref 8 17), (0, .nameAndType 18 12), (0, u "valueAt"), (0, .fieldref 8 20), (0, .nameAndType 21 12), (0, u "valueEnd"), (0, .long 18446744073709551615), (1, .methodref 8 25), (0, .nameAndType 5 26), (0, u "(JJJJ)V"), (2, u "(JJ)V"), (3, u "hasValue"), (0, u "()Z")] 5

def k2c0 : Code := { maxStack := 3, maxLocals := 9, code := prog_112_method_1_code, exceptionTable := #[], attributes := #[] }
def k2m0 : Method := { name := "<init>", desc := "(JJJJ)V", sig := { parameters := [.long, .long, .long, .long], returnType := none }, accessFlags := 0, code := some k2c0 }
def k2c1 : Code := { maxStack := 9, maxLocals := 5, code := prog_112_method_2_code, exceptionTable := #[], attributes := #[] }
def k2m1 : Method := { name := "<init>", desc := "(JJ)V", sig := { parameters := [.long, .long], returnType := none }, accessFlags := 0, code := some k2c1 }
def k2c2 : Code := { maxStack := 4, maxLocals := 1, code := prog_112_method_5_code, exceptionTable := #[], attributes := #[] }
def k2m2 : Method := { name := "hasValue", desc := "()Z", sig := { parameters := [], returnType := some .boolean }, accessFlags := 0, code := some k2c2 }
/-- com/example/vestline/vestline/formats/JsonPlace -/
def k2 : Class := { plain "com/example/vestline/vestline/formats/JsonPlace" (some 0) with
  accessFlags := 32
  interfaces := #[]
  cf := some (fileOf pool2 8 #[] #[{ accessFlags := 0, nameIndex := 5, descriptorIndex := 26, attributes := #[] }, { accessFlags := 0, nameIndex := 5, descriptorIndex := 29, attributes := #[] }, { accessFlags := 0, nameIndex := 33, descriptorIndex := 34, attributes := #[] }] 32 2 #[] #[{ accessFlags := 18, nameIndex := 11, descriptorIndex := 12, attributes := #[] }, { accessFlags := 18, nameIndex := 15, descriptorIndex := 12, attributes := #[] }, { accessFlags := 18, nameIndex := 18, descriptorIndex := 12, attributes := #[] }, { accessFlags := 18, nameIndex := 21, descriptorIndex := 12, attributes := #[] }])
  fields := #[{ name := "opening", type := .long, accessFlags := 18, slot := 0, constantValue := 0 }, { name := "closing", type := .long, accessFlags := 18, slot := 1, constantValue := 0 }, { name := "valueAt", type := .long, accessFlags := 18, slot := 2, constantValue := 0 }, { name := "valueEnd", type := .long, accessFlags := 18, slot := 3, constantValue := 0 }]
  methods := #[k2m0, k2m1, k2m2]
  instanceTypes := #[.long, .long, .long, .long]
  staticTypes := #[]
  resolved := Array.replicate 40 none
  statics := none }

def pool3 : Array CpInfo := pool [(1, u "java/lang/Cloneable"), (0, .class_ 1), (0, u "java/lang/Object"), (0, .class_ 3)] 3

/-- java/lang/Cloneable -/
def k3 : Class := { plain "java/lang/Cloneable" (some 0) with
  accessFlags := 1537
  interfaces := #[]
  cf := some (fileOf pool3 2 #[] #[] 1537 4 #[] #[])
  fields := #[]
  methods := #[]
  instanceTypes := #[]
  staticTypes := #[]
  resolved := Array.replicate 8 none
  statics := none }

def pool4 : Array CpInfo := pool [(1, u "java/io/Serializable"), (0, .class_ 1), (0, u "java/lang/Object"), (0, .class_ 3)] 3

/-- java/io/Serializable -/
def k4 : Class := { plain "java/io/Serializable" (some 0) with
  accessFlags := 1537
  interfaces := #[]
  cf := some (fileOf pool4 2 #[] #[] 1537 4 #[] #[])
  fields := #[]
  methods := #[]
  instanceTypes := #[]
  staticTypes := #[]
  resolved := Array.replicate 8 none
  statics := none }

/-- the primitive byte -/
def k5 : Class := { plain "byte" none with kind := .primitive 'B', accessFlags := 0x411 }
/-- [B -/
def k6 : Class := { plain "[B" (some 0) with kind := .array 5 .byte, interfaces := #[3, 4], accessFlags := 1041 }

/-- the primitive int -/
def k7 : Class := { plain "int" none with kind := .primitive 'I', accessFlags := 0x411 }
/-- [I -/
def k8 : Class := { plain "[I" (some 0) with kind := .array 7 .int, interfaces := #[3, 4], accessFlags := 1041 }

def heap : Heap := #[]
def classes : Array Class := #[k0, k1, k2, k3, k4, k5, k6, k7, k8]
def interned : List (Array UInt16 × Addr) := []
def slotsUsed : Nat := 0
def theMethod : MethodId := ⟨1, 1⟩
def args0 : Array Value := #[.long 3, .long 9, .long 4, .long 8]
def aboutOver (below : List Frame) : State where
  vm := { classes := classes, interned := interned.toArray }
  heap := heap
  slotsUsed := slotsUsed
  threads := #[{ frames := .invoking theMethod args0 :: below }]
def below0 : List Frame := [.native { method := ⟨0, 0⟩, args := #[] }]
def about1 : State := aboutOver below0
def p0 : Program := .bare "" "" ""
def e0 : Env := launch0.env 0 0 0
theorem w_frames : about1.frames = Frame.invoking theMethod args0 :: below0 := rfl
set_option maxRecDepth 65536 in
theorem w_args : argsFit about1.vm theMethod args0 = true := by decide +kernel
set_option maxRecDepth 65536 in
theorem w_heap : heapFits about1 = true := by decide +kernel
set_option maxRecDepth 65536 in
theorem w_runnable : about1.curStatus? = some .runnable := by decide +kernel
set_option maxRecDepth 65536 in
theorem w_alone : about1.alone = true := by decide +kernel
set_option maxRecDepth 65536 in
theorem w_named : about1.methodNamed? x = some theMethod := by decide +kernel
set_option maxRecDepth 65536 in
theorem w_hears : about1.hears theMethod below0 = true := by decide +kernel
set_option maxRecDepth 65536 in
theorem w_ripe : about1.ripe theMethod args0 below0 = true := by decide +kernel
theorem w_running : about1.status = .running := rfl
set_option maxRecDepth 65536 in
theorem w_room : about1.hasRoom e0.platform room_1 = true :=
  launch0.hasRoom_least _ room_1 (by decide +kernel) (by decide +kernel) (by decide +kernel) (by decide +kernel) (by decide +kernel) (by decide +kernel)
theorem allAtoms_all (ts : List Jvm.Cond) (a : Array Jvm.Value) (st : Jvm.State) : (allAtoms ts).before a st = ts.all (fun c => c.before a st) := by
  induction ts with
  | nil => rfl
  | cons c t ih =>
    show (Jvm.Cond.and c (allAtoms t)).before a st = _
    rw [Jvm.Cond.before_and, ih, List.all_cons]
def words1 : List Jvm.Cond := Jvm.Cond.code x code maxLocals ret :: tables_1
/-- a 'code' word, met by the world's own term for the bytes: nothing is compared byte by byte -/
theorem code_word {y : MethodName} {bytes : ByteArray} {mx : Nat} {rt : Option FieldType} {a : Array Value} {s : State} {m : MethodId} {meth : Method} {c : Code} (h1 : s.methodNamed? y = some m) (h2 : s.vm.method? m = some meth) (h3 : meth.code = some c) (h4 : c.code = bytes)
    (h5 : (c.maxLocals == mx && c.exceptionTable.isEmpty && decide (c.maxStack ≤ mostOperands) && decide (meth.sig.returnType = rt) && !meth.locks && decide (parseMethodDescriptor y.desc = some meth.sig)) = true) : (Jvm.Cond.code y bytes mx rt).before a s = true := by
  simp only [Bool.and_eq_true, beq_iff_eq, Bool.not_eq_true', decide_eq_true_eq] at h5
  obtain ⟨⟨⟨⟨⟨g1, g2⟩, g3⟩, g4⟩, g5⟩, g6⟩ := h5
  simp [Cond.before, Cond.holds, Cond.value, h1, h2, h3, h4, g1, g2, g3, g4, g5, g6]
def isCode : Jvm.Cond → Bool
  | .code _ _ _ _ => true
  | _ => false
theorem all_split {L : List Jvm.Cond} {P : Jvm.Cond → Bool} (h1 : L.all (fun c => isCode c || P c) = true) (h2 : ∀ c ∈ L.filter isCode, P c = true) : L.all P = true := by
  refine List.all_eq_true.mpr fun c hc => ?_
  have h := List.all_eq_true.mp h1 c hc
  rcases Bool.eq_false_or_eq_true (isCode c) with hi | hi
  · exact h2 c (List.mem_filter.mpr ⟨hc, hi⟩)
  · simpa [hi] using h
set_option maxRecDepth 65536 in
theorem w_c0 : (Jvm.Cond.code x code maxLocals ret).before args0 about1 = true := code_word (m := ⟨1, 1⟩) (meth := k1m1) (c := k1c1) (by decide +kernel) rfl rfl rfl (by decide +kernel)
set_option maxRecDepth 65536 in
theorem w_c1 : (Jvm.Cond.code ({ cls := "com/example/vestline/vestline/formats/JsonPlace", name := "<init>", desc := "(JJJJ)V" } : Jvm.MethodName) prog_112_method_1_code (9 : Nat) (Option.none : Option Jvm.ClassFile.FieldType)).before args0 about1 = true := code_word (m := ⟨2, 0⟩) (meth := k2m0) (c := k2c0) (by decide +kernel) rfl rfl rfl (by decide +kernel)
set_option maxRecDepth 65536 in
theorem w_c2 : (Jvm.Cond.code ({ cls := "java/lang/Object", name := "<init>", desc := "()V" } : Jvm.MethodName) object_method_1_code (1 : Nat) (Option.none : Option Jvm.ClassFile.FieldType)).before args0 about1 = true := code_word (m := ⟨0, 0⟩) (meth := k0m0) (c := k0c0) (by decide +kernel) rfl rfl rfl (by decide +kernel)
set_option maxRecDepth 65536 in
theorem w_c3 : (Jvm.Cond.code ({ cls := "com/example/vestline/vestline/formats/JsonPlace", name := "<init>", desc := "(JJ)V" } : Jvm.MethodName) prog_112_method_2_code (5 : Nat) (Option.none : Option Jvm.ClassFile.FieldType)).before args0 about1 = true := code_word (m := ⟨2, 1⟩) (meth := k2m1) (c := k2c1) (by decide +kernel) rfl rfl rfl (by decide +kernel)
set_option maxRecDepth 65536 in
theorem w_c4 : (Jvm.Cond.code ({ cls := "com/example/vestline/vestline/formats/JsonPlace", name := "hasValue", desc := "()Z" } : Jvm.MethodName) prog_112_method_5_code (1 : Nat) (Option.some Jvm.ClassFile.FieldType.boolean)).before args0 about1 = true := code_word (m := ⟨2, 2⟩) (meth := k2m2) (c := k2c2) (by decide +kernel) rfl rfl rfl (by decide +kernel)
def codes1 : List Jvm.Cond := [Jvm.Cond.code x code maxLocals ret, Jvm.Cond.code ({ cls := "com/example/vestline/vestline/formats/JsonPlace", name := "<init>", desc := "(JJJJ)V" } : Jvm.MethodName) prog_112_method_1_code (9 : Nat) (Option.none : Option Jvm.ClassFile.FieldType), Jvm.Cond.code ({ cls := "java/lang/Object", name := "<init>", desc := "()V" } : Jvm.MethodName) object_method_1_code (1 : Nat) (Option.none : Option Jvm.ClassFile.FieldType), Jvm.Cond.code ({ cls := "com/example/vestline/vestline/formats/JsonPlace", name := "<init>", desc := "(JJ)V" } : Jvm.MethodName) prog_112_method_2_code (5 : Nat) (Option.none : Option Jvm.ClassFile.FieldType), Jvm.Cond.code ({ cls := "com/example/vestline/vestline/formats/JsonPlace", name := "hasValue", desc := "()Z" } : Jvm.MethodName) prog_112_method_5_code (1 : Nat) (Option.some Jvm.ClassFile.FieldType.boolean)]
set_option maxRecDepth 65536 in
theorem codes_eq : words1.filter isCode = codes1 := rfl
theorem w_codes : ∀ c ∈ words1.filter isCode, c.before args0 about1 = true := by
  rw [codes_eq]
  intro c hc
  simp only [codes1, List.mem_cons, List.not_mem_nil, or_false] at hc
  rcases hc with rfl | rfl | rfl | rfl | rfl
  · exact w_c0
  · exact w_c1
  · exact w_c2
  · exact w_c3
  · exact w_c4
set_option maxRecDepth 65536 in
theorem w_t1 : (words1.take 24).all (fun c => isCode c || c.before args0 about1) = true := by decide +kernel
set_option maxRecDepth 65536 in
theorem w_t2 : (words1.drop 24).all (fun c => isCode c || c.before args0 about1) = true := by decide +kernel
theorem w_tables : (allAtoms (Jvm.Cond.code x code maxLocals ret :: tables_1)).before args0 about1 = true := by
  rw [allAtoms_all]
  show words1.all (fun c => c.before args0 about1) = true
  refine all_split ?_ w_codes
  rw [← List.take_append_drop 24 words1, List.all_append, w_t1, w_t2]
  rfl
set_option maxRecDepth 65536 in
theorem w_case : (Jvm.Cond.and given_1 narrow_1).before args0 about1 = true := by decide +kernel
theorem w_applies : (headSpec (Jvm.Cond.code x code maxLocals ret :: tables_1) room_1).applies x e0.platform about1 = true :=
  (Spec.applies_iff w_frames).mpr ⟨w_running, w_runnable, w_alone, w_named, w_hears, w_ripe, w_room, w_tables⟩
theorem atStart : AtStart classFile x code maxLocals ret World_1 tables_1 room_1 Calls_1 rest_1 Pre_1 launch0 p0 e0 about1 theMethod args0 below0 :=
  ⟨lists_1, trivial, launch0.admits_env _ _ _, launch0.least_env, fairChoices_fair.cas, fairChoices_fair.clock, w_frames, w_args, w_heap, w_applies, trivial, trivial, w_case⟩
end start1
theorem witness_1 : WitnessClaimed_1 := ⟨start1.p0, start1.e0, start1.about1, start1.theMethod, start1.args0, start1.below0, start1.atStart⟩
end Jvm.Pilot.@@N@@
