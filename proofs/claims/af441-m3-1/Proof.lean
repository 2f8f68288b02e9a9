import JvmDerived
import JvmDerived.Pilot.@@N@@Statement
import JvmDerived.Pilot.@@N@@Code
set_option linter.unusedVariables false
set_option linter.unusedSimpArgs false
namespace Jvm.Pilot.@@N@@
open Jvm Jvm.ClassFile Sem Op Lib Jvm.Free Jvm.Stand Jvm.LawKit Jvm.RoadKit Bundle Jvm.Pilot.@@N@@.Jvm.D
def ownEnds (tb : Tables) (e : Env) (below : List Frame) (Φ : State → Outcome → Prop) (A : State) : Prop :=
  ∃ s₂ o, Steps tb e below A s₂ ∧ s₂.status = .running ∧ Ended s₂ below o ∧ Φ s₂ o
theorem ownEnds.law {tb : Tables} {e : Env} {below : List Frame} {Φ : State → Outcome → Prop} {A B : State} (k : ∀ t, Steps tb e below B t → Steps tb e below A t) (h : ownEnds tb e below Φ B) : ownEnds tb e below Φ A := by
  obtain ⟨s2, o, h1, h2⟩ := h
  exact ⟨s2, o, k _ h1, h2⟩
theorem ownEnds.tr {tb : Tables} {e : Env} {below : List Frame} {Φ : State → Outcome → Prop} {A B : State} (k : Steps tb e below A B) (h : ownEnds tb e below Φ B) : ownEnds tb e below Φ A := by
  obtain ⟨s2, o, h1, h2⟩ := h
  exact ⟨s2, o, k.trans h1, h2⟩
theorem ownEnds.cast {tb : Tables} {e : Env} {below : List Frame} {Φ : State → Outcome → Prop} {T : State} {g g' : JFrame} (q : g = g') (h : ownEnds tb e below Φ (T.setTop g')) : ownEnds tb e below Φ (T.setTop g) := q ▸ h
def ownPost (s : State) (Q : Option Value → Heap → List Loc → Prop) (C S : Nat) : State → Outcome → Prop := fun U o => ∃ v L, o = .returned v ∧ Q v U.heap L ∧ FrameEnd s o U L C S
abbrev ownMet (l : Launch) (Z : State) (y : MethodName) (bytes : ByteArray) (maxL : Nat) (rt : Option FieldType) (ws : List Jvm.Cond) (rm : Room) (as : Array Value) (h0 : Heap) (Q : Option Value → Heap → List Loc → Prop) : Prop :=
  MetFree l y (head1 (Jvm.Cond.code y bytes maxL rt :: ws) rm) (fun a U => a = as ∧ Z.Warmed39 U.vm ∧ U.heap = h0) (fun _ _ _ _ _ => True) (fun _ U o U' => ∃ v L, o = .returned v ∧ Q v U'.heap L ∧ FrameEnd U o U' L rm.cells rm.slots)
theorem ownMet.of {l : Launch} {Z : State} {y : MethodName} {bytes : ByteArray} {maxL : Nat} {rt : Option FieldType} {ws : List Jvm.Cond} {rm : Room} {as : Array Value} {h0 : Heap} {Q : Option Value → Heap → List Loc → Prop} (hpl : plainFor y = true)
    (body : ∀ (p : Program) (e : Env) (s : State) (m : MethodId) (below : List Frame) (meth : Method) (c : Code) (T0 : State), p.tables.exec = Jvm.exec → c.code = bytes → c.maxLocals = maxL → Z.Warmed39 s.vm → s.vm.findClass y.cls = some m.cls → meth.name = y.name → meth.sig.returnType = rt → meth.locks = false →
      Stand p l e rm s m as below meth c T0 [] 0 0 → T0.heap = h0 → ownEnds p.tables e below (ownPost s Q rm.cells rm.slots) (T0.setTop (entryFrame m as maxL))) : ownMet l Z y bytes maxL rt ws rm as h0 Q := by
  refine MetFree.of_bodySF hpl hisR ?_
  intro p e s m args below meth c s₁ Bd hml0 hP hK
  obtain ⟨rfl, hZ, hh⟩ := hP
  exact body p e s m below meth c s₁ Bd.exec Bd.bytes hml0 hZ (findClass_of_methodNamed Bd.named) (name_of_methodNamed Bd.named Bd.method).1 Bd.returns Bd.notSynchronized (Stand.of_body Bd) (by rw [← hh, Bd.state]; rfl)
theorem ownEqV {args : Array Value} {first s : State} {o : Option Outcome} {idx : List Nat} {a b : Term} {v : Value} (h : (Cond.eq a b).value args first o s idx = some true) (hb : b.eval args first o idx s = some v) : a.eval args first o idx s = some v := by
  simp only [Cond.value, hb] at h
  cases ha : a.eval args first o idx s with
  | none => simp [ha] at h
  | some x => cases x <;> cases v <;> simp_all
theorem ownFieldAt {args : Array Value} {first s : State} {o : Option Outcome} {idx : List Nat} {t : Term} {a : Addr} {C n d : String} (ev : t.eval args first o idx s = some (.ref a)) : (Term.field t C n d).eval args first o idx s = s.fieldOf? a C n d := by
  simp [Term.eval, ev]
theorem ownLen {s : State} {args : Array Value} {t : Term} {a : Addr} {cl : Cell} {ty : FieldType} {z : Int32} (ev : t.eval args s none [] s = some (.ref a)) (A : Arr s s.heap a cl ty) (h : (Term.length t).eval args s none [] s = some (.int z)) : cl.slots.size < 2 ^ 31 ∧ cl.slots.size.toInt32 = z := by
  have q := A.fin (Vm.Alike.refl _)
  simp only [Term.eval, ev, q, Option.bind_eq_bind, Option.bind_some, Option.pure_def] at h
  split at h
  · rename_i hs
    exact ⟨hs, by simpa using h⟩
  · cases h
theorem ownEl {s : State} {args : Array Value} {t i : Term} {a : Addr} {cl : Cell} {ty : FieldType} {j : Int32} {v : Value} (ev : t.eval args s none [] s = some (.ref a)) (A : Arr s s.heap a cl ty) (ej : i.eval args s none [] s = some (.int j)) (h : (Term.elem t i).eval args s none [] s = some v) : cl.slots[j.toNatClampNeg]? = some v := by
  have q := A.fin (Vm.Alike.refl _)
  simp only [Term.eval, ev, ej, q, Option.bind_eq_bind, Option.bind_some] at h
  split at h
  · cases h
  · exact h
section OwnKit
variable {p : Program} {l : Launch} {e : Env} {R : Room} {s : State} {m : MethodId} {args : Array Value} {below : List Frame} {meth : Method} {c : Code} {T : State} {locs : List Loc} {cells slots : Nat} {Z : State} {a0 : Array Value} {h : Heap}
theorem ownRet (X : Stand p l e R s m args below meth c T locs cells slots) (hlk : meth.locks = false) {v : Option Value} (hv : meth.sig.returnType = none → v = none) {g : JFrame} {Q : Option Value → Heap → List Loc → Prop} {C S : Nat}
    (hst : ∀ fs, (∀ (f : JFrame) (acts : List Action), f.method = m → f.locked = none → f.entered = [] → (doReturn e (T.setTop f) acts v).1 = T.setFrames fs) → Steps p.tables e below (T.setTop g) (T.setFrames fs))
    (hc : cells ≤ C) (hs : slots ≤ S) (hQ : Q v T.heap locs) : ownEnds p.tables e below (ownPost s Q C S) (T.setTop g) := by
  obtain ⟨fs, hr, hrun, hended, hW, hsame⟩ := X.leave (v := v) hv hlk
  exact ⟨_, _, hst fs hr, hrun, hended, v, locs, rfl, hQ, ⟨_, rfl⟩, hW, hsame.mono hc hs⟩
theorem ownRetN (X : Stand p l e R s m args below meth c T locs cells slots) (hlk : meth.locks = false) (hx : p.tables.exec = Jvm.exec) {pc : Nat} {Ls : Array Slot} {z : Int32} {t : FieldType} {rest : List Value} (hret : meth.sig.returnType = some t) (ht : t = .boolean ∨ t = .byte ∨ t = .char ∨ t = .short)
    (hd : decode c.code pc = .ok (.ireturn, 1)) {Q : Option Value → Heap → List Loc → Prop} {C S : Nat} (hc : cells ≤ C) (hs : slots ≤ S) (hQ : Q (some (.int (nar t z))) T.heap locs) : ownEnds p.tables e below (ownPost s Q C S) (T.setTop (mkF m pc Ls (.int z :: rest))) :=
  ownRet X hlk (fun h => by rw [hret] at h; cases h) (fun fs hr => retN X hx hret ht hd hr) hc hs hQ
theorem ownRetI (X : Stand p l e R s m args below meth c T locs cells slots) (hlk : meth.locks = false) (hx : p.tables.exec = Jvm.exec) {pc : Nat} {Ls : Array Slot} {z : Int32} {rest : List Value} (hret : meth.sig.returnType = some .int)
    (hd : decode c.code pc = .ok (.ireturn, 1)) {Q : Option Value → Heap → List Loc → Prop} {C S : Nat} (hc : cells ≤ C) (hs : slots ≤ S) (hQ : Q (some (.int z)) T.heap locs) : ownEnds p.tables e below (ownPost s Q C S) (T.setTop (mkF m pc Ls (.int z :: rest))) :=
  ownRet X hlk (fun h => by rw [hret] at h; cases h) (fun fs hr => retOut X hx hret rfl (Or.inl ⟨rfl, Or.inl rfl, z, rfl⟩) hd hr) hc hs hQ
theorem ownRetL (X : Stand p l e R s m args below meth c T locs cells slots) (hlk : meth.locks = false) (hx : p.tables.exec = Jvm.exec) {pc : Nat} {Ls : Array Slot} {z : Int64} {rest : List Value} (hret : meth.sig.returnType = some .long)
    (hd : decode c.code pc = .ok (.lreturn, 1)) {Q : Option Value → Heap → List Loc → Prop} {C S : Nat} (hc : cells ≤ C) (hs : slots ≤ S) (hQ : Q (some (.long z)) T.heap locs) : ownEnds p.tables e below (ownPost s Q C S) (T.setTop (mkF m pc Ls (.long z :: rest))) :=
  ownRet X hlk (fun h => by rw [hret] at h; cases h) (fun fs hr => retOut X hx hret rfl (Or.inr (Or.inl ⟨rfl, rfl, z, rfl⟩)) hd hr) hc hs hQ
theorem ownRetA (X : Stand p l e R s m args below meth c T locs cells slots) (hlk : meth.locks = false) (hx : p.tables.exec = Jvm.exec) {pc : Nat} {Ls : Array Slot} {w : Value} {t : FieldType} {rest : List Value} (hret : meth.sig.returnType = some t) (ht : t.isReference = true) (hw : w.isRef = true)
    (hd : decode c.code pc = .ok (.areturn, 1)) {Q : Option Value → Heap → List Loc → Prop} {C S : Nat} (hc : cells ≤ C) (hs : slots ≤ S) (hQ : Q (some w) T.heap locs) : ownEnds p.tables e below (ownPost s Q C S) (T.setTop (mkF m pc Ls (w :: rest))) :=
  ownRet X hlk (fun h => by rw [hret] at h; cases h) (fun fs hr => retOut X hx hret (by rcases ref_cases hw with rfl | ⟨a, rfl⟩ <;> cases t <;> first | rfl | (simp [FieldType.isReference] at ht)) (Or.inr (Or.inr (Or.inr (Or.inr ⟨rfl, ht, hw⟩)))) hd hr) hc hs hQ
theorem ownRetV (X : Stand p l e R s m args below meth c T locs cells slots) (hlk : meth.locks = false) (hx : p.tables.exec = Jvm.exec) {pc : Nat} {Ls : Array Slot} (hret : meth.sig.returnType = none)
    (hd : decode c.code pc = .ok (.return_, 1)) {Q : Option Value → Heap → List Loc → Prop} {C S : Nat} (hc : cells ≤ C) (hs : slots ≤ S) (hQ : Q none T.heap locs) : ownEnds p.tables e below (ownPost s Q C S) (T.setTop (mkF m pc Ls [])) :=
  ownRet X hlk (fun _ => rfl) (fun fs hr => X.returnOut hx hret hd hr) hc hs hQ
theorem ownCallS (X : Stand p l e R s m args below meth c T locs cells slots) (hx : p.tables.exec = Jvm.exec) (hZ : Z.Warmed39 s.vm) {own : String} {index : Nat} (hown : s.vm.findClass own = some m.cls) {y : MethodName} {bytes : ByteArray} {maxL : Nat} {rt : Option FieldType} {rm : Room} {as : List Value} {Q : Option Value → Heap → List Loc → Prop}
    (w1 : (Cond.methodLink own index y).before a0 Z = true) (w2 : (Cond.static y).before a0 Z = true) (w3 : (Cond.initialized y.cls).before a0 Z = true) (w4 : (Cond.code y bytes maxL rt).before a0 Z = true) (hy : y.cls ≠ "java/lang/invoke/MethodHandle" ∧ y.cls ≠ "java/lang/invoke/VarHandle")
    (hM : ownMet l Z y bytes maxL rt [] rm as.toArray h Q) (eT : T.heap = h) (W : Nat) (hf : rm.frames + 1 ≤ R.frames) (hl : W + (maxL + 11) + rm.locals ≤ R.locals) (hc : cells + rm.cells ≤ R.cells) (hs : slots + rm.slots ≤ R.slots)
    {g : JFrame} (hg : g.method = m) (hsize : g.locals.size = c.maxLocals) {rest : List Value} {ps : List FieldType} {r : Option FieldType} (hd : parseMethodDescriptor y.desc = some ⟨ps, r⟩) (hlen : as.length = ps.length) (hstack : g.stack = as.reverse ++ rest) (hW : 2 * g.monitorRoom + (rest.map fun v => v.category).sum ≤ W)
    (hdg : decode c.code g.pc = .ok (.invokestatic index, 3)) :
    ∃ v T' L, Stand p l e R s m args below meth c T' (locs ++ L) (cells + rm.cells) (slots + rm.slots) ∧ Q v T'.heap L ∧ ∀ t, Steps p.tables e below (T'.setTop { g with pc := g.pc + 3, stack := v.toList ++ rest }) t → Steps p.tables e below (T.setTop g) t := by
  obtain ⟨v, _, ⟨T1, L1, k1, n1⟩, -, X1, ⟨Lc, hQ, l1, y1, z1⟩, st⟩ := Jvm.LawKit.callS X hx (y := y) hown (mvT hZ w1) (mvT hZ w2) (mvT hZ w3) (mvT hZ w4) hy (backOf (W := W) hM hZ w4 w3 hf hl) hg hsize (argsL := as) (rest := rest) (lenOf hd hlen) hstack hW hdg (fun _ _ => ⟨rfl, eT, hc, hs⟩)
  dsimp only [Pt.U, Pt.locs, Pt.cells, Pt.slots] at X1 l1 y1 z1 st hQ
  subst l1 y1 z1
  exact ⟨v, T1, Lc, X1, hQ, st⟩
theorem ownCallC (X : Stand p l e R s m args below meth c T locs cells slots) (hx : p.tables.exec = Jvm.exec) (hZ : Z.Warmed39 s.vm) {own : String} {index : Nat} (hown : s.vm.findClass own = some m.cls) {y : MethodName} (hy1 : y.name = "<init>") {bytes : ByteArray} {maxL : Nat} {rm : Room} {a : Addr} {as : List Value} {Q : Option Value → Heap → List Loc → Prop}
    (w1 : (Cond.methodLink own index y).before a0 Z = true) (w2 : (Cond.instanceMethod y).before a0 Z = true) (w3 : (Cond.initialized y.cls).before a0 Z = true) (w4 : (Cond.code y bytes maxL none).before a0 Z = true) (hy : y.cls ≠ "java/lang/invoke/MethodHandle" ∧ y.cls ≠ "java/lang/invoke/VarHandle")
    (hM : ownMet l Z y bytes maxL none [] rm (.ref a :: as).toArray h Q) (eT : T.heap = h) (W : Nat) (hf : rm.frames + 1 ≤ R.frames) (hl : W + (maxL + 11) + rm.locals ≤ R.locals) (hc : cells + rm.cells ≤ R.cells) (hs : slots + rm.slots ≤ R.slots)
    {g : JFrame} (hg : g.method = m) (hsize : g.locals.size = c.maxLocals) {rest : List Value} {ps : List FieldType} {r : Option FieldType} (hd : parseMethodDescriptor y.desc = some ⟨ps, r⟩) (hlen : as.length = ps.length) (hstack : g.stack = as.reverse ++ .ref a :: rest) (hW : 2 * g.monitorRoom + (rest.map fun v => v.category).sum ≤ W)
    (hdg : decode c.code g.pc = .ok (.invokespecial index, 3)) :
    ∃ v T' L, Stand p l e R s m args below meth c T' (locs ++ L) (cells + rm.cells) (slots + rm.slots) ∧ Q v T'.heap L ∧ ∀ t, Steps p.tables e below (T'.setTop { g with pc := g.pc + 3, stack := v.toList ++ rest }) t → Steps p.tables e below (T.setTop g) t := by
  obtain ⟨v, _, ⟨T1, L1, k1, n1⟩, -, X1, ⟨Lc, hQ, l1, y1, z1⟩, st⟩ := X.specialBack hx (y := y) hy1 hown (mvT hZ w1) (mvT hZ w2) (mvT hZ w4) hy (backOf (W := W) hM hZ w4 w3 hf hl) hg hsize (Steps.refl _) (a := a) (argsL := as) (rest := rest) (lenOf hd hlen) hstack hW hdg (fun _ _ => ⟨rfl, eT, hc, hs⟩)
  dsimp only [Pt.U, Pt.locs, Pt.cells, Pt.slots] at X1 l1 y1 z1 st hQ
  subst l1 y1 z1
  exact ⟨v, T1, Lc, X1, hQ, fun t k => st.trans k⟩
theorem ownCallV (X : Stand p l e R s m args below meth c T locs cells slots) (hx : p.tables.exec = Jvm.exec) (hZ : Z.Warmed39 s.vm) {own C : String} {index : Nat} (hown : s.vm.findClass own = some m.cls) {y z : MethodName} {bytes : ByteArray} {maxL : Nat} {rt : Option FieldType} {rm : Room} {a : Addr} {as : List Value} {Q : Option Value → Heap → List Loc → Prop}
    (w1 : (Cond.methodLink own index y).before a0 Z = true) (w2 : (Cond.declares y).before a0 Z = true) (hnf : NotFace s y) (w5 : (Cond.selects C y z).before a0 Z = true) (w6 : (Cond.instanceMethod z).before a0 Z = true) (w3 : (Cond.initialized z.cls).before a0 Z = true) (w4 : (Cond.code z bytes maxL rt).before a0 Z = true) (hy : y.cls ≠ "java/lang/invoke/MethodHandle" ∧ y.cls ≠ "java/lang/invoke/VarHandle")
    (hM : ownMet l Z z bytes maxL rt [] rm (.ref a :: as).toArray h Q) (eT : T.heap = h) (E : Exa Z h a C) (W : Nat) (hf : rm.frames + 1 ≤ R.frames) (hl : W + (maxL + 11) + rm.locals ≤ R.locals) (hc : cells + rm.cells ≤ R.cells) (hs : slots + rm.slots ≤ R.slots)
    {g : JFrame} (hg : g.method = m) (hsize : g.locals.size = c.maxLocals) {rest : List Value} {ps : List FieldType} {r : Option FieldType} (hd : parseMethodDescriptor y.desc = some ⟨ps, r⟩) (hlen : as.length = ps.length) (hstack : g.stack = as.reverse ++ .ref a :: rest) (hW : 2 * g.monitorRoom + (rest.map fun v => v.category).sum ≤ W)
    (hdg : decode c.code g.pc = .ok (.invokevirtual index, 3)) :
    ∃ v T' L, Stand p l e R s m args below meth c T' (locs ++ L) (cells + rm.cells) (slots + rm.slots) ∧ Q v T'.heap L ∧ ∀ t, Steps p.tables e below (T'.setTop { g with pc := g.pc + 3, stack := v.toList ++ rest }) t → Steps p.tables e below (T.setTop g) t := by
  obtain ⟨cq, kq, qa, qb, qc⟩ := isOf hZ eT E
  obtain ⟨v, _, ⟨T1, L1, k1, n1⟩, -, X1, ⟨Lc, hQ, l1, y1, z1⟩, st⟩ := X.virtualBack hx (y := y) (z := z) hown (mvT hZ w1) (mvT hZ w2) hnf (mvT hZ w5) (mvT hZ w6) hy (backOf (W := W) hM hZ w4 w3 hf hl) qa qc hg hsize (Steps.refl _) (argsL := as) (rest := rest) (lenOf hd hlen) hstack hW hdg (fun _ _ => ⟨rfl, eT, hc, hs⟩)
  dsimp only [Pt.U, Pt.locs, Pt.cells, Pt.slots] at X1 l1 y1 z1 st hQ
  subst l1 y1 z1
  exact ⟨v, T1, Lc, X1, hQ, fun t k => st.trans k⟩
theorem ownSelfSel {y z : MethodName} {C : String} (hz : z.cls = y.cls) (wz : (Cond.selects C z z).before args s = true) (hinst : (Cond.instanceMethod y).before args s = true) (hpriv : s.PrivateAt y) (hy : y.cls ≠ "java/lang/invoke/MethodHandle" ∧ y.cls ≠ "java/lang/invoke/VarHandle") : (Cond.selects y.cls y y).before args s = true := by
  obtain ⟨c2, r2, m2, q1, q2, q3, q4, kP, hkP, hkPi⟩ := Cond.selects_spec wz
  exact selects_self_of_private (by rw [← hz]; exact findClass_of_methodNamed q3) hkP hkPi hpriv hinst hy
theorem ownCallP (X : Stand p l e R s m args below meth c T locs cells slots) (hx : p.tables.exec = Jvm.exec) (hZ : Z.Warmed39 s.vm) {own C D : String} {index : Nat} (hown : s.vm.findClass own = some m.cls) {y z : MethodName} {bytes : ByteArray} {maxL : Nat} {rt : Option FieldType} {rm : Room} {a : Addr} {as : List Value} {Q : Option Value → Heap → List Loc → Prop}
    (w1 : (Cond.methodLink own index y).before a0 Z = true) (hz : z.cls = y.cls) (w5 : (Cond.selects C z z).before a0 Z = true) (w6 : (Cond.instanceMethod y).before a0 Z = true) (w7 : (Cond.privateMethod y).before a0 Z = true) (w3 : (Cond.initialized y.cls).before a0 Z = true) (w4 : (Cond.code y bytes maxL rt).before a0 Z = true) (hy : y.cls ≠ "java/lang/invoke/MethodHandle" ∧ y.cls ≠ "java/lang/invoke/VarHandle")
    (hM : ownMet l Z y bytes maxL rt [] rm (.ref a :: as).toArray h Q) (eT : T.heap = h) (E : Exa Z h a D) (W : Nat) (hf : rm.frames + 1 ≤ R.frames) (hl : W + (maxL + 11) + rm.locals ≤ R.locals) (hc : cells + rm.cells ≤ R.cells) (hs : slots + rm.slots ≤ R.slots)
    {g : JFrame} (hg : g.method = m) (hsize : g.locals.size = c.maxLocals) {rest : List Value} {ps : List FieldType} {r : Option FieldType} (hd : parseMethodDescriptor y.desc = some ⟨ps, r⟩) (hlen : as.length = ps.length) (hstack : g.stack = as.reverse ++ .ref a :: rest) (hW : 2 * g.monitorRoom + (rest.map fun v => v.category).sum ≤ W)
    (hdg : decode c.code g.pc = .ok (.invokevirtual index, 3)) :
    ∃ v T' L, Stand p l e R s m args below meth c T' (locs ++ L) (cells + rm.cells) (slots + rm.slots) ∧ Q v T'.heap L ∧ ∀ t, Steps p.tables e below (T'.setTop { g with pc := g.pc + 3, stack := v.toList ++ rest }) t → Steps p.tables e below (T.setTop g) t := by
  obtain ⟨cq, q1, q2⟩ := E.cell
  have hpv : s.PrivateAt y := Cond.privateMethod_at (mvP hZ w7 (args := #[]))
  obtain ⟨v, _, ⟨T1, L1, k1, n1⟩, -, X1, ⟨Lc, hQ, l1, y1, z1⟩, st⟩ := X.privateBack hx (y := y) hown (mvT hZ w1) (mvT hZ w6) (ownSelfSel hz (mvT hZ w5) (mvT hZ w6) hpv hy) hpv (mvT hZ w4) hy (backOf (W := W) hM hZ w4 w3 hf hl) hg hsize (Steps.refl _) (a := a) (by rw [eT]; exact q1) q2 (argsL := as) (rest := rest) (lenOf hd hlen) hstack hW hdg (fun _ _ => ⟨rfl, eT, hc, hs⟩)
  dsimp only [Pt.U, Pt.locs, Pt.cells, Pt.slots] at X1 l1 y1 z1 st hQ
  subst l1 y1 z1
  exact ⟨v, T1, Lc, X1, hQ, fun t k => st.trans k⟩
end OwnKit
theorem wd_0 {Z : State} {a0 : Array Value} (hw : ∀ d ∈ tables_1, d.before a0 Z = true) : (Jvm.Cond.constant "com/example/vestline/vestline/engine/TopHeavyStatusIsTopHeavyPinLaw" (7 : Nat) (2147483647 : Int32)).before a0 Z = true := hw _ (List.mem_of_getElem? (i := 0) rfl)
theorem wd_1 {Z : State} {a0 : Array Value} (hw : ∀ d ∈ tables_1, d.before a0 Z = true) : (Jvm.Cond.fieldLink "com/example/vestline/vestline/engine/TopHeavyStatusIsTopHeavyPinLaw" (8 : Nat) "com/example/vestline/vestline/engine/TopHeavyStatus" "NOT_TOP_HEAVY" "Lcom/example/vestline/vestline/engine/TopHeavyStatus;").before a0 Z = true := hw _ (List.mem_of_getElem? (i := 1) rfl)
theorem wd_2 {Z : State} {a0 : Array Value} (hw : ∀ d ∈ tables_1, d.before a0 Z = true) : (Jvm.Cond.initialized "com/example/vestline/vestline/engine/TopHeavyStatus").before a0 Z = true := hw _ (List.mem_of_getElem? (i := 2) rfl)
theorem wd_3 {Z : State} {a0 : Array Value} (hw : ∀ d ∈ tables_1, d.before a0 Z = true) : (Jvm.Cond.laysStatic "com/example/vestline/vestline/engine/TopHeavyStatus" "NOT_TOP_HEAVY" "Lcom/example/vestline/vestline/engine/TopHeavyStatus;").before a0 Z = true := hw _ (List.mem_of_getElem? (i := 3) rfl)
theorem wd_4 {Z : State} {a0 : Array Value} (hw : ∀ d ∈ tables_1, d.before a0 Z = true) : (Jvm.Cond.methodLink "com/example/vestline/vestline/engine/TopHeavyStatusIsTopHeavyPinLaw" (20 : Nat) ({ cls := "com/example/vestline/vestline/engine/TopHeavyStatus", name := "isTopHeavy", desc := "()Z" } : Jvm.MethodName)).before a0 Z = true := hw _ (List.mem_of_getElem? (i := 4) rfl)
theorem wd_5 {Z : State} {a0 : Array Value} (hw : ∀ d ∈ tables_1, d.before a0 Z = true) : (Jvm.Cond.declares ({ cls := "com/example/vestline/vestline/engine/TopHeavyStatus", name := "isTopHeavy", desc := "()Z" } : Jvm.MethodName)).before a0 Z = true := hw _ (List.mem_of_getElem? (i := 5) rfl)
theorem wd_6 {Z : State} {a0 : Array Value} (hw : ∀ d ∈ tables_1, d.before a0 Z = true) : (Jvm.Cond.instanceMethod ({ cls := "com/example/vestline/vestline/engine/TopHeavyStatus", name := "isTopHeavy", desc := "()Z" } : Jvm.MethodName)).before a0 Z = true := hw _ (List.mem_of_getElem? (i := 6) rfl)
theorem wd_7 {Z : State} {a0 : Array Value} (hw : ∀ d ∈ tables_1, d.before a0 Z = true) : (Jvm.Cond.selects "com/example/vestline/vestline/engine/TopHeavyStatus" ({ cls := "com/example/vestline/vestline/engine/TopHeavyStatus", name := "isTopHeavy", desc := "()Z" } : Jvm.MethodName) ({ cls := "com/example/vestline/vestline/engine/TopHeavyStatus", name := "isTopHeavy", desc := "()Z" } : Jvm.MethodName)).before a0 Z = true := hw _ (List.mem_of_getElem? (i := 7) rfl)
theorem wd_8 {Z : State} {a0 : Array Value} (hw : ∀ d ∈ tables_1, d.before a0 Z = true) : (Jvm.Cond.code ({ cls := "com/example/vestline/vestline/engine/TopHeavyStatus", name := "isTopHeavy", desc := "()Z" } : Jvm.MethodName) prog_66_method_4_code (1 : Nat) (Option.some Jvm.ClassFile.FieldType.boolean)).before a0 Z = true := hw _ (List.mem_of_getElem? (i := 8) rfl)
theorem wd_9 {Z : State} {a0 : Array Value} (hw : ∀ d ∈ tables_1, d.before a0 Z = true) : (Jvm.Cond.fieldLink "com/example/vestline/vestline/engine/TopHeavyStatus" (3 : Nat) "com/example/vestline/vestline/engine/TopHeavyStatus" "NOT_TOP_HEAVY" "Lcom/example/vestline/vestline/engine/TopHeavyStatus;").before a0 Z = true := hw _ (List.mem_of_getElem? (i := 9) rfl)
theorem wd_10 {Z : State} {a0 : Array Value} (hw : ∀ d ∈ tables_1, d.before a0 Z = true) : (Jvm.Cond.fieldLink "com/example/vestline/vestline/engine/TopHeavyStatusIsTopHeavyPinLaw" (17 : Nat) "com/example/vestline/vestline/engine/TopHeavyStatus" "SUPER_TOP_HEAVY" "Lcom/example/vestline/vestline/engine/TopHeavyStatus;").before a0 Z = true := hw _ (List.mem_of_getElem? (i := 10) rfl)
theorem wd_11 {Z : State} {a0 : Array Value} (hw : ∀ d ∈ tables_1, d.before a0 Z = true) : (Jvm.Cond.laysStatic "com/example/vestline/vestline/engine/TopHeavyStatus" "SUPER_TOP_HEAVY" "Lcom/example/vestline/vestline/engine/TopHeavyStatus;").before a0 Z = true := hw _ (List.mem_of_getElem? (i := 11) rfl)
theorem wd_12 {Z : State} {a0 : Array Value} (hw : ∀ d ∈ tables_1, d.before a0 Z = true) : (Jvm.Cond.fieldLink "com/example/vestline/vestline/engine/TopHeavyStatusIsTopHeavyPinLaw" (14 : Nat) "com/example/vestline/vestline/engine/TopHeavyStatus" "TOP_HEAVY" "Lcom/example/vestline/vestline/engine/TopHeavyStatus;").before a0 Z = true := hw _ (List.mem_of_getElem? (i := 12) rfl)
theorem wd_13 {Z : State} {a0 : Array Value} (hw : ∀ d ∈ tables_1, d.before a0 Z = true) : (Jvm.Cond.laysStatic "com/example/vestline/vestline/engine/TopHeavyStatus" "TOP_HEAVY" "Lcom/example/vestline/vestline/engine/TopHeavyStatus;").before a0 Z = true := hw _ (List.mem_of_getElem? (i := 13) rfl)
theorem ef_rm1 : ∀ (m : MethodId) (oa : Addr), entryFrame m #[(.ref oa)] 1 = mkF m 0 #[.val (.ref oa)] [] := by intros; first | (simp [entryFrame, mkF, argsToLocals, Value.category]; done) | rfl
theorem d1_0 : decode prog_66_method_4_code 0 = .ok (.aload_n 0, 1) := by decide +kernel
theorem d1_1 : decode prog_66_method_4_code 1 = .ok (.getstatic 3, 3) := by decide +kernel
theorem d1_4 : decode prog_66_method_4_code 4 = .ok (.if_acmp .eq 7, 3) := by decide +kernel
theorem d1_11 : decode prog_66_method_4_code 11 = .ok (.iconst 0, 1) := by decide +kernel
theorem d1_12 : decode prog_66_method_4_code 12 = .ok (.ireturn, 1) := by decide +kernel
theorem d1_7 : decode prog_66_method_4_code 7 = .ok (.iconst 1, 1) := by decide +kernel
theorem d1_8 : decode prog_66_method_4_code 8 = .ok (.goto 4, 3) := by decide +kernel
theorem pn_1 : plainName "com/example/vestline/vestline/engine/TopHeavyStatus" = true := by first | (simp [plainName, overriddenIn]; done) | decide +kernel
theorem ef_rm0 : ∀ (m : MethodId) (xx : Int32), entryFrame m #[(.int xx)] maxLocals = mkF m 0 #[.val (.int xx), .unset, .unset, .unset] [] := by intros; first | (simp [entryFrame, mkF, argsToLocals, Value.category, maxLocals]; done) | rfl
theorem pd_0 : parseMethodDescriptor "()Z" = some ⟨[], some .boolean⟩ := by decide +kernel
theorem pn_0 : plainName "com/example/vestline/vestline/engine/TopHeavyStatusIsTopHeavyPinLaw" = true := by first | (simp [plainName, overriddenIn]; done) | decide +kernel
set_option maxRecDepth 65536 in
set_option maxHeartbeats 40000000 in
theorem rm1 (l : Launch) (Z : State) (a0 : Array Value) (hw : ∀ d ∈ tables_1, d.before a0 Z = true) (oa : Addr) (A_NOT_TOP_HEAVY : Addr) (h0 : Heap) (n0 : Nat) (Z0 : n0 ≤ h0.size) (S_NOT_TOP_HEAVY : Sta Z h0 "com/example/vestline/vestline/engine/TopHeavyStatus" "NOT_TOP_HEAVY" "Lcom/example/vestline/vestline/engine/TopHeavyStatus;" (.ref A_NOT_TOP_HEAVY)) :
    ownMet l Z (⟨"com/example/vestline/vestline/engine/TopHeavyStatus", "isTopHeavy", "()Z"⟩ : MethodName) prog_66_method_4_code 1 (some .boolean) [] ({ frames := 0, cells := 0, slots := 0, locals := 0 } : Room) #[(.ref oa)] h0 (fun v h L => v = some (.int (if oa = A_NOT_TOP_HEAVY then 0 else 1)) ∧ L = [] ∧ h = h0) := by
  refine ownMet.of (plainFor_of_name pn_1) ?_
  intro p e s m below meth c T0 hx hby hml hZ hown hnm hret hlk X0 e0
  refine ownEnds.cast (ef_rm1 m oa) ?_
  show ownEnds _ _ _ _ (T0.setTop (mkF m 0 #[.val (.ref oa)] []))
  refine ownEnds.law (fun t k => XS.aloadN X0.here hx rfl (hb hby d1_0) rfl rfl k) ?_
  show ownEnds _ _ _ _ (T0.setTop (mkF m 1 #[.val (.ref oa)] [(.ref oa)]))
  obtain ⟨T1, X1, e1, st1⟩ := getS2 X0 hx hZ hown (host := "") (Or.inl (wd_9 hw)) Via.refl e0 S_NOT_TOP_HEAVY (g := (mkF m 1 #[.val (.ref oa)] [(.ref oa)])) rfl (hb hby d1_1)
  refine ownEnds.law st1 ?_
  show ownEnds _ _ _ _ (T1.setTop (mkF m 4 #[.val (.ref oa)] [(.ref A_NOT_TOP_HEAVY), (.ref oa)]))
  by_cases hc4 : oa = A_NOT_TOP_HEAVY
  · refine ownEnds.law (fun t => Jvm.RoadKit.acmp (g := (mkF m 4 #[.val (.ref oa)] [(.ref A_NOT_TOP_HEAVY), (.ref oa)])) X1 hx rfl rfl rfl (pc0 := 4) (pc' := 11) (same := true) rfl (hb hby d1_4) rfl (decide_eq_true (congrArg Value.ref hc4)) (by decide) (by decide)) ?_
    show ownEnds _ _ _ _ (T1.setTop (mkF m 11 #[.val (.ref oa)] []))
    refine ownEnds.law (fun t k => XS.iconst X1.here hx rfl (hb hby d1_11) k) ?_
    show ownEnds _ _ _ _ (T1.setTop (mkF m 12 #[.val (.ref oa)] [(.int (0 : Int32))]))
    refine ownRetN X1 hlk hx (t := .boolean) hret (by simp) (hb hby d1_12) (by decide) (by decide) ?_
    exact ⟨by simp_all [nar], rfl, e1⟩
  · refine ownEnds.law (fun t => Jvm.RoadKit.acmp (g := (mkF m 4 #[.val (.ref oa)] [(.ref A_NOT_TOP_HEAVY), (.ref oa)])) X1 hx rfl rfl rfl (pc0 := 4) (pc' := 7) (same := false) rfl (hb hby d1_4) rfl (decide_eq_false fun q => hc4 (Value.ref.inj q)) (by decide) (by decide)) ?_
    show ownEnds _ _ _ _ (T1.setTop (mkF m 7 #[.val (.ref oa)] []))
    refine ownEnds.law (fun t k => XS.iconst X1.here hx rfl (hb hby d1_7) (XS.goto X1.here hx rfl (pc0 := 8) (pc' := 12) rfl (hb hby d1_8) (by decide) (by decide) k)) ?_
    show ownEnds _ _ _ _ (T1.setTop (mkF m 12 #[.val (.ref oa)] [(.int (1 : Int32))]))
    refine ownRetN X1 hlk hx (t := .boolean) hret (by simp) (hb hby d1_12) (by decide) (by decide) ?_
    exact ⟨by simp_all [nar], rfl, e1⟩
set_option maxRecDepth 65536 in
set_option maxHeartbeats 40000000 in
theorem rm0 (l : Launch) (Z : State) (a0 : Array Value) (hw : ∀ d ∈ tables_1, d.before a0 Z = true) (xx : Int32) (A_NOT_TOP_HEAVY A_TOP_HEAVY A_SUPER_TOP_HEAVY : Addr) (h0 : Heap) (n0 : Nat) (Z0 : n0 ≤ h0.size) (S_NOT_TOP_HEAVY : Sta Z h0 "com/example/vestline/vestline/engine/TopHeavyStatus" "NOT_TOP_HEAVY" "Lcom/example/vestline/vestline/engine/TopHeavyStatus;" (.ref A_NOT_TOP_HEAVY)) (E_NOT_TOP_HEAVY : Exa Z h0 A_NOT_TOP_HEAVY "com/example/vestline/vestline/engine/TopHeavyStatus") (S_TOP_HEAVY : Sta Z h0 "com/example/vestline/vestline/engine/TopHeavyStatus" "TOP_HEAVY" "Lcom/example/vestline/vestline/engine/TopHeavyStatus;" (.ref A_TOP_HEAVY)) (E_TOP_HEAVY : Exa Z h0 A_TOP_HEAVY "com/example/vestline/vestline/engine/TopHeavyStatus") (S_SUPER_TOP_HEAVY : Sta Z h0 "com/example/vestline/vestline/engine/TopHeavyStatus" "SUPER_TOP_HEAVY" "Lcom/example/vestline/vestline/engine/TopHeavyStatus;" (.ref A_SUPER_TOP_HEAVY)) (E_SUPER_TOP_HEAVY : Exa Z h0 A_SUPER_TOP_HEAVY "com/example/vestline/vestline/engine/TopHeavyStatus") (n1 : A_TOP_HEAVY ≠ A_NOT_TOP_HEAVY) (n2 : A_SUPER_TOP_HEAVY ≠ A_NOT_TOP_HEAVY) :
    ownMet l Z x code maxLocals ret tables_1 room_1 #[(.int xx)] h0 (fun v h L => v = some (.int 1) ∧ Fr n0 L) := by
  refine ownMet.of (plainFor_of_name pn_0) ?_
  intro p e s m below meth c T0 hx hby hml hZ hown hnm hret hlk X0 e0
  have hown : s.vm.findClass "com/example/vestline/vestline/engine/TopHeavyStatusIsTopHeavyPinLaw" = some m.cls := hown
  have hml : c.maxLocals = 4 := hml
  have hret : meth.sig.returnType = some .boolean := hret
  refine ownEnds.cast (ef_rm0 m xx) ?_
  show ownEnds _ _ _ _ (T0.setTop (mkF m 0 #[.val (.int xx), .unset, .unset, .unset] []))
  refine ownEnds.law (fun t k => XS.iloadN X0.here hx rfl (hb hby at_0) rfl (X0.ldcInt hx hown (mvT hZ (wd_0 hw)) (g := (mkF m 1 #[.val (.int xx), .unset, .unset, .unset] [(.int xx)])) rfl (hb hby at_1) _ (XS.iand X0.here hx rfl (hb hby at_3) rfl (XS.iconst X0.here hx rfl (hb hby at_4) (iremM X0 hx rfl (hb hby at_5) rfl (by decide) (XS.istoreN X0.here hx rfl (hb hby at_6) rfl (l' := #[.val (.int xx), .val (.int ((xx &&& (2147483647 : Int32)) % (3 : Int32))), .unset, .unset]) rfl (XS.iloadN X0.here hx rfl (hb hby at_7) rfl k))))))) ?_
  show ownEnds _ _ _ _ (T0.setTop (mkF m 8 #[.val (.int xx), .val (.int ((xx &&& (2147483647 : Int32)) % (3 : Int32))), .unset, .unset] [(.int ((xx &&& (2147483647 : Int32)) % (3 : Int32)))]))
  by_cases hc8 : ((xx &&& (2147483647 : Int32)) % (3 : Int32)) = (0 : Int32)
  · refine ownEnds.law (fun t => XS.ifNo X0.here hx rfl (hb hby at_8) rfl ((if0 _ _).trans (teq hc8).2)) ?_
    show ownEnds _ _ _ _ (T0.setTop (mkF m 11 #[.val (.int xx), .val (.int ((xx &&& (2147483647 : Int32)) % (3 : Int32))), .unset, .unset] []))
    obtain ⟨T1, X1, e1, st1⟩ := getS2 X0 hx hZ hown (host := "") (Or.inl (wd_1 hw)) Via.refl e0 S_NOT_TOP_HEAVY (g := (mkF m 11 #[.val (.int xx), .val (.int ((xx &&& (2147483647 : Int32)) % (3 : Int32))), .unset, .unset] [])) rfl (hb hby at_11)
    refine ownEnds.law st1 ?_
    show ownEnds _ _ _ _ (T1.setTop (mkF m 14 #[.val (.int xx), .val (.int ((xx &&& (2147483647 : Int32)) % (3 : Int32))), .unset, .unset] [(.ref A_NOT_TOP_HEAVY)]))
    refine ownEnds.law (fun t k => XS.astoreN X1.here hx rfl (hb hby at_14) rfl rfl (l' := #[.val (.int xx), .val (.int ((xx &&& (2147483647 : Int32)) % (3 : Int32))), .val (.ref A_NOT_TOP_HEAVY), .unset]) rfl (XS.iconst X1.here hx rfl (hb hby at_15) (XS.istoreN X1.here hx rfl (hb hby at_16) rfl (l' := #[.val (.int xx), .val (.int ((xx &&& (2147483647 : Int32)) % (3 : Int32))), .val (.ref A_NOT_TOP_HEAVY), .val (.int (0 : Int32))]) rfl (XS.goto X1.here hx rfl (pc0 := 17) (pc' := 40) rfl (hb hby at_17) (by decide) (by decide) (XS.aloadN X1.here hx rfl (hb hby at_40) rfl rfl k))))) ?_
    show ownEnds _ _ _ _ (T1.setTop (mkF m 41 #[.val (.int xx), .val (.int ((xx &&& (2147483647 : Int32)) % (3 : Int32))), .val (.ref A_NOT_TOP_HEAVY), .val (.int (0 : Int32))] [(.ref A_NOT_TOP_HEAVY)]))
    obtain ⟨v2, T2, L2, X2, hQ2, st2⟩ := ownCallV X1 hx hZ hown (y := (⟨"com/example/vestline/vestline/engine/TopHeavyStatus", "isTopHeavy", "()Z"⟩ : MethodName)) (z := (⟨"com/example/vestline/vestline/engine/TopHeavyStatus", "isTopHeavy", "()Z"⟩ : MethodName)) (a := A_NOT_TOP_HEAVY) (as := []) (wd_4 hw) (wd_5 hw) (notFace_of_selects (args := #[]) (mvT hZ (wd_7 hw))) (wd_7 hw) (wd_6 hw) (wd_2 hw) (wd_8 hw) (by decide) (rm1 l Z a0 hw A_NOT_TOP_HEAVY A_NOT_TOP_HEAVY h0 n0 Z0 S_NOT_TOP_HEAVY) e1 E_NOT_TOP_HEAVY 0 (by decide) (by decide) (by decide) (by decide) (g := (mkF m 41 #[.val (.int xx), .val (.int ((xx &&& (2147483647 : Int32)) % (3 : Int32))), .val (.ref A_NOT_TOP_HEAVY), .val (.int (0 : Int32))] [(.ref A_NOT_TOP_HEAVY)])) rfl (by rw [hml]; rfl) (rest := []) pd_0 rfl rfl (by show 2 * 0 + _ ≤ _; exact Nat.le_of_eq rfl) (hb hby at_41)
    obtain ⟨rfl, rfl, e2⟩ := hQ2
    rw [List.append_nil] at X2
    refine ownEnds.law st2 ?_
    show ownEnds _ _ _ _ (T2.setTop (mkF m 44 #[.val (.int xx), .val (.int ((xx &&& (2147483647 : Int32)) % (3 : Int32))), .val (.ref A_NOT_TOP_HEAVY), .val (.int (0 : Int32))] [(.int (if A_NOT_TOP_HEAVY = A_NOT_TOP_HEAVY then 0 else 1))]))
    refine ownEnds.law (fun t k => XS.iloadN X2.here hx rfl (hb hby at_44) rfl k) ?_
    show ownEnds _ _ _ _ (T2.setTop (mkF m 45 #[.val (.int xx), .val (.int ((xx &&& (2147483647 : Int32)) % (3 : Int32))), .val (.ref A_NOT_TOP_HEAVY), .val (.int (0 : Int32))] [(.int (0 : Int32)), (.int (if A_NOT_TOP_HEAVY = A_NOT_TOP_HEAVY then 0 else 1))]))
    have hc45 : (if A_NOT_TOP_HEAVY = A_NOT_TOP_HEAVY then 0 else 1) = (0 : Int32) := if_pos rfl
    refine ownEnds.law (fun t => XS.icmpNo X2.here hx rfl (hb hby at_45) rfl (teq hc45).2) ?_
    show ownEnds _ _ _ _ (T2.setTop (mkF m 48 #[.val (.int xx), .val (.int ((xx &&& (2147483647 : Int32)) % (3 : Int32))), .val (.ref A_NOT_TOP_HEAVY), .val (.int (0 : Int32))] []))
    refine ownEnds.law (fun t k => XS.iconst X2.here hx rfl (hb hby at_48) (XS.goto X2.here hx rfl (pc0 := 49) (pc' := 53) rfl (hb hby at_49) (by decide) (by decide) k)) ?_
    show ownEnds _ _ _ _ (T2.setTop (mkF m 53 #[.val (.int xx), .val (.int ((xx &&& (2147483647 : Int32)) % (3 : Int32))), .val (.ref A_NOT_TOP_HEAVY), .val (.int (0 : Int32))] [(.int (1 : Int32))]))
    refine ownRetN X2 hlk hx (t := .boolean) hret (by simp) (hb hby at_53) (by decide) (by decide) ?_
    exact ⟨rfl, Fr.nil n0⟩
  · refine ownEnds.law (fun t => XS.ifYes X0.here hx rfl (pc0 := 8) (pc' := 20) rfl (hb hby at_8) rfl ((if0 _ _).trans (feq hc8).2) (by decide) (by decide)) ?_
    show ownEnds _ _ _ _ (T0.setTop (mkF m 20 #[.val (.int xx), .val (.int ((xx &&& (2147483647 : Int32)) % (3 : Int32))), .unset, .unset] []))
    refine ownEnds.law (fun t k => XS.iloadN X0.here hx rfl (hb hby at_20) rfl (XS.iconst X0.here hx rfl (hb hby at_21) k)) ?_
    show ownEnds _ _ _ _ (T0.setTop (mkF m 22 #[.val (.int xx), .val (.int ((xx &&& (2147483647 : Int32)) % (3 : Int32))), .unset, .unset] [(.int (1 : Int32)), (.int ((xx &&& (2147483647 : Int32)) % (3 : Int32)))]))
    by_cases hc22 : ((xx &&& (2147483647 : Int32)) % (3 : Int32)) = (1 : Int32)
    · refine ownEnds.law (fun t => XS.icmpNo X0.here hx rfl (hb hby at_22) rfl (teq hc22).2) ?_
      show ownEnds _ _ _ _ (T0.setTop (mkF m 25 #[.val (.int xx), .val (.int ((xx &&& (2147483647 : Int32)) % (3 : Int32))), .unset, .unset] []))
      obtain ⟨T3, X3, e3, st3⟩ := getS2 X0 hx hZ hown (host := "") (Or.inl (wd_12 hw)) Via.refl e0 S_TOP_HEAVY (g := (mkF m 25 #[.val (.int xx), .val (.int ((xx &&& (2147483647 : Int32)) % (3 : Int32))), .unset, .unset] [])) rfl (hb hby at_25)
      refine ownEnds.law st3 ?_
      show ownEnds _ _ _ _ (T3.setTop (mkF m 28 #[.val (.int xx), .val (.int ((xx &&& (2147483647 : Int32)) % (3 : Int32))), .unset, .unset] [(.ref A_TOP_HEAVY)]))
      refine ownEnds.law (fun t k => XS.astoreN X3.here hx rfl (hb hby at_28) rfl rfl (l' := #[.val (.int xx), .val (.int ((xx &&& (2147483647 : Int32)) % (3 : Int32))), .val (.ref A_TOP_HEAVY), .unset]) rfl (XS.iconst X3.here hx rfl (hb hby at_29) (XS.istoreN X3.here hx rfl (hb hby at_30) rfl (l' := #[.val (.int xx), .val (.int ((xx &&& (2147483647 : Int32)) % (3 : Int32))), .val (.ref A_TOP_HEAVY), .val (.int (1 : Int32))]) rfl (XS.goto X3.here hx rfl (pc0 := 31) (pc' := 40) rfl (hb hby at_31) (by decide) (by decide) (XS.aloadN X3.here hx rfl (hb hby at_40) rfl rfl k))))) ?_
      show ownEnds _ _ _ _ (T3.setTop (mkF m 41 #[.val (.int xx), .val (.int ((xx &&& (2147483647 : Int32)) % (3 : Int32))), .val (.ref A_TOP_HEAVY), .val (.int (1 : Int32))] [(.ref A_TOP_HEAVY)]))
      obtain ⟨v4, T4, L4, X4, hQ4, st4⟩ := ownCallV X3 hx hZ hown (y := (⟨"com/example/vestline/vestline/engine/TopHeavyStatus", "isTopHeavy", "()Z"⟩ : MethodName)) (z := (⟨"com/example/vestline/vestline/engine/TopHeavyStatus", "isTopHeavy", "()Z"⟩ : MethodName)) (a := A_TOP_HEAVY) (as := []) (wd_4 hw) (wd_5 hw) (notFace_of_selects (args := #[]) (mvT hZ (wd_7 hw))) (wd_7 hw) (wd_6 hw) (wd_2 hw) (wd_8 hw) (by decide) (rm1 l Z a0 hw A_TOP_HEAVY A_NOT_TOP_HEAVY h0 n0 Z0 S_NOT_TOP_HEAVY) e3 E_TOP_HEAVY 0 (by decide) (by decide) (by decide) (by decide) (g := (mkF m 41 #[.val (.int xx), .val (.int ((xx &&& (2147483647 : Int32)) % (3 : Int32))), .val (.ref A_TOP_HEAVY), .val (.int (1 : Int32))] [(.ref A_TOP_HEAVY)])) rfl (by rw [hml]; rfl) (rest := []) pd_0 rfl rfl (by show 2 * 0 + _ ≤ _; exact Nat.le_of_eq rfl) (hb hby at_41)
      obtain ⟨rfl, rfl, e4⟩ := hQ4
      rw [List.append_nil] at X4
      refine ownEnds.law st4 ?_
      show ownEnds _ _ _ _ (T4.setTop (mkF m 44 #[.val (.int xx), .val (.int ((xx &&& (2147483647 : Int32)) % (3 : Int32))), .val (.ref A_TOP_HEAVY), .val (.int (1 : Int32))] [(.int (if A_TOP_HEAVY = A_NOT_TOP_HEAVY then 0 else 1))]))
      refine ownEnds.law (fun t k => XS.iloadN X4.here hx rfl (hb hby at_44) rfl k) ?_
      show ownEnds _ _ _ _ (T4.setTop (mkF m 45 #[.val (.int xx), .val (.int ((xx &&& (2147483647 : Int32)) % (3 : Int32))), .val (.ref A_TOP_HEAVY), .val (.int (1 : Int32))] [(.int (1 : Int32)), (.int (if A_TOP_HEAVY = A_NOT_TOP_HEAVY then 0 else 1))]))
      have hc45 : (if A_TOP_HEAVY = A_NOT_TOP_HEAVY then 0 else 1) = (1 : Int32) := if_neg n1
      refine ownEnds.law (fun t => XS.icmpNo X4.here hx rfl (hb hby at_45) rfl (teq hc45).2) ?_
      show ownEnds _ _ _ _ (T4.setTop (mkF m 48 #[.val (.int xx), .val (.int ((xx &&& (2147483647 : Int32)) % (3 : Int32))), .val (.ref A_TOP_HEAVY), .val (.int (1 : Int32))] []))
      refine ownEnds.law (fun t k => XS.iconst X4.here hx rfl (hb hby at_48) (XS.goto X4.here hx rfl (pc0 := 49) (pc' := 53) rfl (hb hby at_49) (by decide) (by decide) k)) ?_
      show ownEnds _ _ _ _ (T4.setTop (mkF m 53 #[.val (.int xx), .val (.int ((xx &&& (2147483647 : Int32)) % (3 : Int32))), .val (.ref A_TOP_HEAVY), .val (.int (1 : Int32))] [(.int (1 : Int32))]))
      refine ownRetN X4 hlk hx (t := .boolean) hret (by simp) (hb hby at_53) (by decide) (by decide) ?_
      exact ⟨rfl, Fr.nil n0⟩
    · refine ownEnds.law (fun t => XS.icmpYes X0.here hx rfl (pc0 := 22) (pc' := 34) rfl (hb hby at_22) rfl (feq hc22).2 (by decide) (by decide)) ?_
      show ownEnds _ _ _ _ (T0.setTop (mkF m 34 #[.val (.int xx), .val (.int ((xx &&& (2147483647 : Int32)) % (3 : Int32))), .unset, .unset] []))
      obtain ⟨T5, X5, e5, st5⟩ := getS2 X0 hx hZ hown (host := "") (Or.inl (wd_10 hw)) Via.refl e0 S_SUPER_TOP_HEAVY (g := (mkF m 34 #[.val (.int xx), .val (.int ((xx &&& (2147483647 : Int32)) % (3 : Int32))), .unset, .unset] [])) rfl (hb hby at_34)
      refine ownEnds.law st5 ?_
      show ownEnds _ _ _ _ (T5.setTop (mkF m 37 #[.val (.int xx), .val (.int ((xx &&& (2147483647 : Int32)) % (3 : Int32))), .unset, .unset] [(.ref A_SUPER_TOP_HEAVY)]))
      refine ownEnds.law (fun t k => XS.astoreN X5.here hx rfl (hb hby at_37) rfl rfl (l' := #[.val (.int xx), .val (.int ((xx &&& (2147483647 : Int32)) % (3 : Int32))), .val (.ref A_SUPER_TOP_HEAVY), .unset]) rfl (XS.iconst X5.here hx rfl (hb hby at_38) (XS.istoreN X5.here hx rfl (hb hby at_39) rfl (l' := #[.val (.int xx), .val (.int ((xx &&& (2147483647 : Int32)) % (3 : Int32))), .val (.ref A_SUPER_TOP_HEAVY), .val (.int (1 : Int32))]) rfl (XS.aloadN X5.here hx rfl (hb hby at_40) rfl rfl k)))) ?_
      show ownEnds _ _ _ _ (T5.setTop (mkF m 41 #[.val (.int xx), .val (.int ((xx &&& (2147483647 : Int32)) % (3 : Int32))), .val (.ref A_SUPER_TOP_HEAVY), .val (.int (1 : Int32))] [(.ref A_SUPER_TOP_HEAVY)]))
      obtain ⟨v6, T6, L6, X6, hQ6, st6⟩ := ownCallV X5 hx hZ hown (y := (⟨"com/example/vestline/vestline/engine/TopHeavyStatus", "isTopHeavy", "()Z"⟩ : MethodName)) (z := (⟨"com/example/vestline/vestline/engine/TopHeavyStatus", "isTopHeavy", "()Z"⟩ : MethodName)) (a := A_SUPER_TOP_HEAVY) (as := []) (wd_4 hw) (wd_5 hw) (notFace_of_selects (args := #[]) (mvT hZ (wd_7 hw))) (wd_7 hw) (wd_6 hw) (wd_2 hw) (wd_8 hw) (by decide) (rm1 l Z a0 hw A_SUPER_TOP_HEAVY A_NOT_TOP_HEAVY h0 n0 Z0 S_NOT_TOP_HEAVY) e5 E_SUPER_TOP_HEAVY 0 (by decide) (by decide) (by decide) (by decide) (g := (mkF m 41 #[.val (.int xx), .val (.int ((xx &&& (2147483647 : Int32)) % (3 : Int32))), .val (.ref A_SUPER_TOP_HEAVY), .val (.int (1 : Int32))] [(.ref A_SUPER_TOP_HEAVY)])) rfl (by rw [hml]; rfl) (rest := []) pd_0 rfl rfl (by show 2 * 0 + _ ≤ _; exact Nat.le_of_eq rfl) (hb hby at_41)
      obtain ⟨rfl, rfl, e6⟩ := hQ6
      rw [List.append_nil] at X6
      refine ownEnds.law st6 ?_
      show ownEnds _ _ _ _ (T6.setTop (mkF m 44 #[.val (.int xx), .val (.int ((xx &&& (2147483647 : Int32)) % (3 : Int32))), .val (.ref A_SUPER_TOP_HEAVY), .val (.int (1 : Int32))] [(.int (if A_SUPER_TOP_HEAVY = A_NOT_TOP_HEAVY then 0 else 1))]))
      refine ownEnds.law (fun t k => XS.iloadN X6.here hx rfl (hb hby at_44) rfl k) ?_
      show ownEnds _ _ _ _ (T6.setTop (mkF m 45 #[.val (.int xx), .val (.int ((xx &&& (2147483647 : Int32)) % (3 : Int32))), .val (.ref A_SUPER_TOP_HEAVY), .val (.int (1 : Int32))] [(.int (1 : Int32)), (.int (if A_SUPER_TOP_HEAVY = A_NOT_TOP_HEAVY then 0 else 1))]))
      have hc45 : (if A_SUPER_TOP_HEAVY = A_NOT_TOP_HEAVY then 0 else 1) = (1 : Int32) := if_neg n2
      refine ownEnds.law (fun t => XS.icmpNo X6.here hx rfl (hb hby at_45) rfl (teq hc45).2) ?_
      show ownEnds _ _ _ _ (T6.setTop (mkF m 48 #[.val (.int xx), .val (.int ((xx &&& (2147483647 : Int32)) % (3 : Int32))), .val (.ref A_SUPER_TOP_HEAVY), .val (.int (1 : Int32))] []))
      refine ownEnds.law (fun t k => XS.iconst X6.here hx rfl (hb hby at_48) (XS.goto X6.here hx rfl (pc0 := 49) (pc' := 53) rfl (hb hby at_49) (by decide) (by decide) k)) ?_
      show ownEnds _ _ _ _ (T6.setTop (mkF m 53 #[.val (.int xx), .val (.int ((xx &&& (2147483647 : Int32)) % (3 : Int32))), .val (.ref A_SUPER_TOP_HEAVY), .val (.int (1 : Int32))] [(.int (1 : Int32))]))
      refine ownRetN X6 hlk hx (t := .boolean) hret (by simp) (hb hby at_53) (by decide) (by decide) ?_
      exact ⟨rfl, Fr.nil n0⟩
set_option maxRecDepth 65536 in
set_option maxHeartbeats 40000000 in
theorem comes_1 {Post : Tables → Env → Array Value → State → Outcome → State → Prop} (hpost : ∀ tb e args s v u, (limb_1_1.after args s (.returned v) u = true ∧ limb_1_2.after args s (.returned v) u = true ∧ True) → FrameEnd s (.returned v) u (Jvm.fieldLocs frame_1_writes args s ++ Jvm.arrayLocs frame_1_arrays args s ++ Jvm.staticLocs frame_1_statics s) 0 0 → Post tb e args s (.returned v) u) :
    ArmFor flags0 classFile x code maxLocals ret World_1 tables_1 room_1 Calls_1 rest_1 Pre_1 Post := by
  intro l hfl _ _ p e ha hc hk s m args below hf hA hF happ hP
  obtain ⟨hcalls, hrest, hpre⟩ := hP
  obtain ⟨-, -, -, hnamed, -, -, -, hat⟩ := (Spec.applies_iff hf).mp happ
  obtain ⟨hg, hn⟩ := and_e (Cond.before_iff.mp (show (Jvm.Cond.and given_1 narrow_1).before args s = true from hpre))
  obtain ⟨gg1, gg2⟩ := and_e hg
  obtain ⟨w0, rfl⟩ : ∃ w0 : Value, args = #[w0] := by
    have hs : args.size = 1 := by simpa [Cond.value, given_1] using gg1
    obtain ⟨L⟩ := args
    match L, hs with
    | [w0], _ => exact ⟨w0, rfl⟩
  have hw := fun d (hd : d ∈ tables_1) => atoms_spec (ws := Jvm.Cond.code x code maxLocals ret :: tables_1) hat d (List.mem_cons_of_mem _ hd)
  have hfit : Fit s := fun {y c} hc i hi => by
    obtain ⟨ha, rfl⟩ := Array.getElem?_eq_some_iff.mp hc
    have q := List.all_eq_true.mp ((Array.all_eq_true_iff_forall_mem.mp hF) _ (Array.getElem_mem ha)) i (List.mem_range.mpr hi)
    simpa [Array.getElem?_eq_getElem hi] using q
  obtain ⟨i0, ei0⟩ := is_v gg2
  obtain rfl : w0 = (.int i0) := Option.some.inj ei0
  obtain ⟨na1, nb1⟩ := and_e hn
  obtain ⟨na2, nb2⟩ := and_e nb1
  obtain ⟨na3, nb3⟩ := and_e nb2
  obtain ⟨na4, nb4⟩ := and_e nb3
  obtain ⟨na5, nb5⟩ := and_e nb4
  obtain ⟨A_NOT_TOP_HEAVY, ev_NOT_TOP_HEAVY⟩ := exa_v na1
  have S_NOT_TOP_HEAVY := Sta.start ev_NOT_TOP_HEAVY (Or.inr ⟨(wd_2 hw), (wd_3 hw)⟩)
  have E_NOT_TOP_HEAVY := Exa.start ev_NOT_TOP_HEAVY na1
  obtain ⟨A_SUPER_TOP_HEAVY, ev_SUPER_TOP_HEAVY⟩ := exa_v na2
  have S_SUPER_TOP_HEAVY := Sta.start ev_SUPER_TOP_HEAVY (Or.inr ⟨(wd_2 hw), (wd_11 hw)⟩)
  have E_SUPER_TOP_HEAVY := Exa.start ev_SUPER_TOP_HEAVY na2
  obtain ⟨A_TOP_HEAVY, ev_TOP_HEAVY⟩ := exa_v na5
  have S_TOP_HEAVY := Sta.start ev_TOP_HEAVY (Or.inr ⟨(wd_2 hw), (wd_13 hw)⟩)
  have E_TOP_HEAVY := Exa.start ev_TOP_HEAVY na5
  have F_SUPER_TOP_HEAVY_ordinal := Fld.start ((ownFieldAt ev_SUPER_TOP_HEAVY).symm.trans (ownEqV na3 rfl))
  have F_NOT_TOP_HEAVY_ordinal := Fld.start ((ownFieldAt ev_NOT_TOP_HEAVY).symm.trans (ownEqV na4 rfl))
  have F_TOP_HEAVY_ordinal := Fld.start ((ownFieldAt ev_TOP_HEAVY).symm.trans (ownEqV nb5 rfl))
  have n1 : A_TOP_HEAVY ≠ A_NOT_TOP_HEAVY := Fld.ne F_TOP_HEAVY_ordinal F_NOT_TOP_HEAVY_ordinal (by decide)
  have n2 : A_SUPER_TOP_HEAVY ≠ A_NOT_TOP_HEAVY := Fld.ne F_SUPER_TOP_HEAVY_ordinal F_NOT_TOP_HEAVY_ordinal (by decide)
  obtain ⟨n, o, h1, h2, h3, _, L, rfl, ⟨rfl, N⟩, hq⟩ := rm0 l s _ hw i0 A_NOT_TOP_HEAVY A_TOP_HEAVY A_SUPER_TOP_HEAVY s.heap s.heap.size (Nat.le_refl _) S_NOT_TOP_HEAVY E_NOT_TOP_HEAVY S_TOP_HEAVY E_TOP_HEAVY S_SUPER_TOP_HEAVY E_SUPER_TOP_HEAVY n1 n2 p e ha hc hk s m _ below hf ((Spec.applies_iff_loose hf).mp happ).1 ⟨rfl, State.Warmed39.refl s, rfl⟩ trivial
  refine ⟨n, _, h1, h2, h3, hpost _ _ _ _ _ _ ⟨Cond.after_iff.mpr rfl, Cond.after_iff.mpr (eq_i res_at (Term.int_eval (1)) rfl), trivial⟩ ⟨hq.1, hq.2.1, (hq.2.2.sift fun y hy => Or.inr (N y hy)).mono (by decide) (by decide)⟩⟩
theorem main_1_1 : Claimed_1_1 := comes_1 fun _ _ _ _ _ _ h hF => ⟨h.1, hF⟩
theorem main_1_2 : Claimed_1_2 := comes_1 fun _ _ _ _ _ _ h hF => ⟨h.2.1, hF⟩
end Jvm.Pilot.@@N@@
namespace Jvm.Pilot.@@N@@
open Jvm Jvm.ClassFile Sem Op Lib Jvm.Free Jvm.Stand Jvm.Pilot.@@N@@.Jvm.D
/-! MADE BY PROGRAM (witnessworld.py) out of the Statement's table words and the real class files: 12 classes; the members and pool entries that the words name. The judged class is class 1, her method 1. -/
namespace start1
open Jvm.ClassFile
def u (s : String) : CpInfo := .utf8 (stringToUtf16 s)
/-- a pool by its gaps: so many unusable entries, then the entry; so many at the end -/
def gap : Nat → List CpInfo → List CpInfo
  | 0, r => r
  | n + 1, r => .unusable :: gap n r
def poolList (es : List (Nat × CpInfo)) (last : Nat) : List CpInfo := es.foldr (fun e r => gap e.1 (e.2 :: r)) (gap last [])
def pool (es : List (Nat × CpInfo)) (last : Nat) : Array CpInfo := ⟨poolList es last⟩
def fileOf (pool : Array CpInfo) (this : Nat) (attrs : Array Attribute := #[]) (ms : Array MethodInfo := #[]) (fl : Nat := 33) (sup : Nat := 0) (ifs : Array Nat := #[]) (fds : Array FieldInfo := #[]) : ClassFile where
  minorVersion := 0
  majorVersion := 65
  constantPool := pool
  accessFlags := fl
  thisClass := this
  superClass := sup
  interfaces := ifs
  fields := fds
  methods := ms
  attributes := attrs
def plain (name : String) (sup : Option ClassId) : Class where
  name := name
  kind := .ordinary
  loader := none
  accessFlags := 33
  super := sup
  interfaces := #[]
  cf := none
  fields := #[]
  methods := #[]
  instanceTypes := #[]
  staticTypes := #[]
  resolved := #[]
  callSites := []
  init := .initialized
  statics := none
  mirror := none

def pool0 : Array CpInfo := pool [(5, u "<init>"), (0, u "()V"), (1, .class_ 10), (1, u "java/lang/Object")] 113

def k0m0 : Method := { name := "<init>", desc := "()V", sig := { parameters := [], returnType := none }, accessFlags := 1, code := none }
/-- java/lang/Object -/
def k0 : Class := { plain "java/lang/Object" none with
  accessFlags := 33
  interfaces := #[]
  cf := some (fileOf pool0 8 #[] #[{ accessFlags := 1, nameIndex := 5, descriptorIndex := 6, attributes := #[] }] 33 0 #[] #[])
  fields := #[]
  methods := #[k0m0]
  instanceTypes := #[]
  staticTypes := #[]
  resolved := Array.replicate 124 none
  statics := none }

def pool1 : Array CpInfo := pool [(2, .class_ 4), (1, u "java/lang/Object"), (0, u "<init>"), (0, u "()V"), (0, .integer 2147483647), (0, .fieldref 9 10), (0, .class_ 11), (0, .nameAndType 12 13), (0, u "com/example/vestline/vestline/engine/TopHeavyStatus"), (0, u "NOT_TOP_HEAVY"), (0, u "Lcom/example/vestline/vestline/engine/TopHeavyStatus;"), (0, .fieldref 9 15), (0, .nameAndType 16 13), (0, u "TOP_HEAVY"), (0, .fieldref 9 18), (0, .nameAndType 19 13), (0, u "SUPER_TOP_HEAVY"), (0, .methodref 9 21), (0, .nameAndType 22 23), (0, u "isTopHeavy"), (0, u "()Z"), (0, .class_ 25), (0, u "com/example/vestline/vestline/engine/TopHeavyStatusIsTopHeavyPinLaw"), (2, u "law"), (0, u "(I)Z")] 3

def k1m0 : Method := { name := "<init>", desc := "()V", sig := { parameters := [], returnType := none }, accessFlags := 1, code := none }
def k1c1 : Code := { maxStack := 2, maxLocals := 4, code := code, exceptionTable := #[], attributes := #[] }
def k1m1 : Method := { name := "law", desc := "(I)Z", sig := { parameters := [.int], returnType := some .boolean }, accessFlags := 9, code := some k1c1 }
/-- com/example/vestline/vestline/engine/TopHeavyStatusIsTopHeavyPinLaw -/
def k1 : Class := { plain "com/example/vestline/vestline/engine/TopHeavyStatusIsTopHeavyPinLaw" (some 0) with
  accessFlags := 49
  interfaces := #[]
  cf := some (fileOf pool1 24 #[] #[{ accessFlags := 1, nameIndex := 5, descriptorIndex := 6, attributes := #[] }, { accessFlags := 9, nameIndex := 28, descriptorIndex := 29, attributes := #[] }] 49 2 #[] #[])
  fields := #[]
  methods := #[k1m0, k1m1]
  instanceTypes := #[]
  staticTypes := #[]
  resolved := Array.replicate 33 none
  statics := none }

def pool2 : Array CpInfo := pool [(1, .class_ 2), (0, u "java/lang/constant/Constable"), (0, .class_ 4), (0, u "java/lang/Object")] 6

/-- java/lang/constant/Constable -/
def k2 : Class := { plain "java/lang/constant/Constable" (some 0) with
  accessFlags := 1537
  interfaces := #[]
  cf := some (fileOf pool2 1 #[] #[] 1537 3 #[] #[])
  fields := #[]
  methods := #[]
  instanceTypes := #[]
  staticTypes := #[]
  resolved := Array.replicate 11 none
  statics := none }

def pool3 : Array CpInfo := pool [(1, .class_ 2), (0, u "java/lang/Comparable"), (0, .class_ 4), (0, u "java/lang/Object")] 7

/-- java/lang/Comparable -/
def k3 : Class := { plain "java/lang/Comparable" (some 0) with
  accessFlags := 1537
  interfaces := #[]
  cf := some (fileOf pool3 1 #[] #[] 1537 3 #[] #[])
  fields := #[]
  methods := #[]
  instanceTypes := #[]
  staticTypes := #[]
  resolved := Array.replicate 12 none
  statics := none }

def pool4 : Array CpInfo := pool [(1, .class_ 2), (0, u "java/io/Serializable"), (0, .class_ 4), (0, u "java/lang/Object")] 2

/-- java/io/Serializable -/
def k4 : Class := { plain "java/io/Serializable" (some 0) with
  accessFlags := 1537
  interfaces := #[]
  cf := some (fileOf pool4 1 #[] #[] 1537 3 #[] #[])
  fields := #[]
  methods := #[]
  instanceTypes := #[]
  staticTypes := #[]
  resolved := Array.replicate 7 none
  statics := none }

def pool5 : Array CpInfo := pool [(2, .class_ 4), (1, u "java/lang/Enum"), (0, u "name"), (0, u "Ljava/lang/String;"), (2, u "ordinal"), (0, u "I"), (1, .class_ 14), (1, u "java/lang/Object"), (4, u "hash"), (86, .class_ 108), (1, u "java/lang/Enum$EnumDesc"), (2, .class_ 112), (0, u "java/lang/constant/Constable"), (0, .class_ 114), (0, u "java/lang/Comparable"), (0, .class_ 116), (0, u "java/io/Serializable")] 87

/-- java/lang/Enum -/
def k5 : Class := { plain "java/lang/Enum" (some 0) with
  accessFlags := 1057
  interfaces := #[2, 3, 4]
  cf := some (fileOf pool5 2 #[.nestMembers #[106]] #[] 1057 12 #[111, 113, 115] #[{ accessFlags := 18, nameIndex := 5, descriptorIndex := 6, attributes := #[] }, { accessFlags := 18, nameIndex := 9, descriptorIndex := 10, attributes := #[] }, { accessFlags := 2, nameIndex := 19, descriptorIndex := 10, attributes := #[] }])
  fields := #[{ name := "name", type := (.object "java/lang/String"), accessFlags := 18, slot := 0, constantValue := 0 }, { name := "ordinal", type := .int, accessFlags := 18, slot := 1, constantValue := 0 }, { name := "hash", type := .int, accessFlags := 2, slot := 2, constantValue := 0 }]
  methods := #[]
  instanceTypes := #[(.object "java/lang/String"), .int, .int]
  staticTypes := #[]
  resolved := Array.replicate 204 none
  statics := none }

def pool6 : Array CpInfo := pool [(1, .class_ 2), (0, u "com/example/vestline/vestline/engine/TopHeavyStatus"), (0, .fieldref 1 4), (0, .nameAndType 5 6), (0, u "NOT_TOP_HEAVY"), (0, u "Lcom/example/vestline/vestline/engine/TopHeavyStatus;"), (2, u "TOP_HEAVY"), (2, u "SUPER_TOP_HEAVY"), (2, u "$VALUES"), (0, u "[Lcom/example/vestline/vestline/engine/TopHeavyStatus;"), (6, .class_ 25), (1, u "java/lang/Enum"), (21, u "isTopHeavy"), (0, u "()Z")] 5

def k6c0 : Code := { maxStack := 2, maxLocals := 1, code := prog_66_method_4_code, exceptionTable := #[], attributes := #[] }
def k6m0 : Method := { name := "isTopHeavy", desc := "()Z", sig := { parameters := [], returnType := some .boolean }, accessFlags := 1, code := some k6c0 }
/-- com/example/vestline/vestline/engine/TopHeavyStatus -/
def k6 : Class := { plain "com/example/vestline/vestline/engine/TopHeavyStatus" (some 5) with
  accessFlags := 16433
  interfaces := #[]
  cf := some (fileOf pool6 1 #[] #[{ accessFlags := 1, nameIndex := 47, descriptorIndex := 48, attributes := #[] }] 16433 23 #[] #[{ accessFlags := 16409, nameIndex := 5, descriptorIndex := 6, attributes := #[] }, { accessFlags := 16409, nameIndex := 9, descriptorIndex := 6, attributes := #[] }, { accessFlags := 16409, nameIndex := 12, descriptorIndex := 6, attributes := #[] }, { accessFlags := 4122, nameIndex := 15, descriptorIndex := 16, attributes := #[] }])
  fields := #[{ name := "NOT_TOP_HEAVY", type := (.object "com/example/vestline/vestline/engine/TopHeavyStatus"), accessFlags := 16409, slot := 0, constantValue := 0 }, { name := "TOP_HEAVY", type := (.object "com/example/vestline/vestline/engine/TopHeavyStatus"), accessFlags := 16409, slot := 1, constantValue := 0 }, { name := "SUPER_TOP_HEAVY", type := (.object "com/example/vestline/vestline/engine/TopHeavyStatus"), accessFlags := 16409, slot := 2, constantValue := 0 }, { name := "$VALUES", type := (.array (.object "com/example/vestline/vestline/engine/TopHeavyStatus")), accessFlags := 4122, slot := 3, constantValue := 0 }]
  methods := #[k6m0]
  instanceTypes := #[(.object "java/lang/String"), .int, .int]
  staticTypes := #[(.object "com/example/vestline/vestline/engine/TopHeavyStatus"), (.object "com/example/vestline/vestline/engine/TopHeavyStatus"), (.object "com/example/vestline/vestline/engine/TopHeavyStatus"), (.array (.object "com/example/vestline/vestline/engine/TopHeavyStatus"))]
  resolved := Array.replicate 54 none
  statics := some 0 }

def pool7 : Array CpInfo := pool [(1, u "java/lang/Cloneable"), (0, .class_ 1), (0, u "java/lang/Object"), (0, .class_ 3)] 3

/-- java/lang/Cloneable -/
def k7 : Class := { plain "java/lang/Cloneable" (some 0) with
  accessFlags := 1537
  interfaces := #[]
  cf := some (fileOf pool7 2 #[] #[] 1537 4 #[] #[])
  fields := #[]
  methods := #[]
  instanceTypes := #[]
  staticTypes := #[]
  resolved := Array.replicate 8 none
  statics := none }

/-- the primitive byte -/
def k8 : Class := { plain "byte" none with kind := .primitive 'B', accessFlags := 0x411 }
/-- [B -/
def k9 : Class := { plain "[B" (some 0) with kind := .array 8 .byte, interfaces := #[7, 4], accessFlags := 1041 }

/-- the primitive int -/
def k10 : Class := { plain "int" none with kind := .primitive 'I', accessFlags := 0x411 }
/-- [I -/
def k11 : Class := { plain "[I" (some 0) with kind := .array 10 .int, interfaces := #[7, 4], accessFlags := 1041 }

def heap : Heap := #[{ cls := 6, slots := #[.ref 1, .ref 2, .ref 3, .null], vm := .statics 6 },
  { cls := 6, slots := #[.null, .int 0, .int 0], vm := .none },
  { cls := 6, slots := #[.null, .int 1, .int 0], vm := .none },
  { cls := 6, slots := #[.null, .int 2, .int 0], vm := .none }]
def classes : Array Class := #[k0, k1, k2, k3, k4, k5, k6, k7, k8, k9, k10, k11]
def interned : List (Array UInt16 × Addr) := []
def slotsUsed : Nat := 13
def theMethod : MethodId := ⟨1, 1⟩
def args0 : Array Value := #[.int 5]
def aboutOver (below : List Frame) : State where
  vm := { classes := classes, interned := interned.toArray }
  heap := heap
  slotsUsed := slotsUsed
  threads := #[{ frames := .invoking theMethod args0 :: below }]
def below0 : List Frame := [.native { method := ⟨0, 0⟩, args := #[] }]
def about1 : State := aboutOver below0
def p0 : Program := .bare "" "" ""
def e0 : Env := launch0.env 0 0 0
theorem w_frames : about1.frames = Frame.invoking theMethod args0 :: below0 := rfl
set_option maxRecDepth 65536 in
theorem w_args : argsFit about1.vm theMethod args0 = true := by decide +kernel
set_option maxRecDepth 65536 in
theorem w_heap : heapFits about1 = true := by decide +kernel
set_option maxRecDepth 65536 in
theorem w_runnable : about1.curStatus? = some .runnable := by decide +kernel
set_option maxRecDepth 65536 in
theorem w_alone : about1.alone = true := by decide +kernel
set_option maxRecDepth 65536 in
theorem w_named : about1.methodNamed? x = some theMethod := by decide +kernel
set_option maxRecDepth 65536 in
theorem w_hears : about1.hears theMethod below0 = true := by decide +kernel
set_option maxRecDepth 65536 in
theorem w_ripe : about1.ripe theMethod args0 below0 = true := by decide +kernel
theorem w_running : about1.status = .running := rfl
set_option maxRecDepth 65536 in
theorem w_room : about1.hasRoom e0.platform room_1 = true :=
  launch0.hasRoom_least _ room_1 (by decide +kernel) (by decide +kernel) (by decide +kernel) (by decide +kernel) (by decide +kernel) (by decide +kernel)
theorem allAtoms_all (ts : List Jvm.Cond) (a : Array Jvm.Value) (st : Jvm.State) : (allAtoms ts).before a st = ts.all (fun c => c.before a st) := by
  induction ts with
  | nil => rfl
  | cons c t ih =>
    show (Jvm.Cond.and c (allAtoms t)).before a st = _
    rw [Jvm.Cond.before_and, ih, List.all_cons]
def words1 : List Jvm.Cond := Jvm.Cond.code x code maxLocals ret :: tables_1
/-- a 'code' word, met by the world's own term for the bytes: nothing is compared byte by byte -/
theorem code_word {y : MethodName} {bytes : ByteArray} {mx : Nat} {rt : Option FieldType} {a : Array Value} {s : State} {m : MethodId} {meth : Method} {c : Code} (h1 : s.methodNamed? y = some m) (h2 : s.vm.method? m = some meth) (h3 : meth.code = some c) (h4 : c.code = bytes)
    (h5 : (c.maxLocals == mx && c.exceptionTable.isEmpty && decide (c.maxStack ≤ mostOperands) && decide (meth.sig.returnType = rt) && !meth.locks && decide (parseMethodDescriptor y.desc = some meth.sig)) = true) : (Jvm.Cond.code y bytes mx rt).before a s = true := by
  simp only [Bool.and_eq_true, beq_iff_eq, Bool.not_eq_true', decide_eq_true_eq] at h5
  obtain ⟨⟨⟨⟨⟨g1, g2⟩, g3⟩, g4⟩, g5⟩, g6⟩ := h5
  simp [Cond.before, Cond.holds, Cond.value, h1, h2, h3, h4, g1, g2, g3, g4, g5, g6]
def isCode : Jvm.Cond → Bool
  | .code _ _ _ _ => true
  | _ => false
theorem all_split {L : List Jvm.Cond} {P : Jvm.Cond → Bool} (h1 : L.all (fun c => isCode c || P c) = true) (h2 : ∀ c ∈ L.filter isCode, P c = true) : L.all P = true := by
  refine List.all_eq_true.mpr fun c hc => ?_
  have h := List.all_eq_true.mp h1 c hc
  rcases Bool.eq_false_or_eq_true (isCode c) with hi | hi
  · exact h2 c (List.mem_filter.mpr ⟨hc, hi⟩)
  · simpa [hi] using h
set_option maxRecDepth 65536 in
theorem w_c0 : (Jvm.Cond.code x code maxLocals ret).before args0 about1 = true := code_word (m := ⟨1, 1⟩) (meth := k1m1) (c := k1c1) (by decide +kernel) rfl rfl rfl (by decide +kernel)
set_option maxRecDepth 65536 in
theorem w_c1 : (Jvm.Cond.code ({ cls := "com/example/vestline/vestline/engine/TopHeavyStatus", name := "isTopHeavy", desc := "()Z" } : Jvm.MethodName) prog_66_method_4_code (1 : Nat) (Option.some Jvm.ClassFile.FieldType.boolean)).before args0 about1 = true := code_word (m := ⟨6, 0⟩) (meth := k6m0) (c := k6c0) (by decide +kernel) rfl rfl rfl (by decide +kernel)
def codes1 : List Jvm.Cond := [Jvm.Cond.code x code maxLocals ret, Jvm.Cond.code ({ cls := "com/example/vestline/vestline/engine/TopHeavyStatus", name := "isTopHeavy", desc := "()Z" } : Jvm.MethodName) prog_66_method_4_code (1 : Nat) (Option.some Jvm.ClassFile.FieldType.boolean)]
set_option maxRecDepth 65536 in
theorem codes_eq : words1.filter isCode = codes1 := rfl
theorem w_codes : ∀ c ∈ words1.filter isCode, c.before args0 about1 = true := by
  rw [codes_eq]
  intro c hc
  simp only [codes1, List.mem_cons, List.not_mem_nil, or_false] at hc
  rcases hc with rfl | rfl
  · exact w_c0
  · exact w_c1
set_option maxRecDepth 65536 in
theorem w_t1 : words1.all (fun c => isCode c || c.before args0 about1) = true := by decide +kernel
theorem w_tables : (allAtoms (Jvm.Cond.code x code maxLocals ret :: tables_1)).before args0 about1 = true := by
  rw [allAtoms_all]
  show words1.all (fun c => c.before args0 about1) = true
  refine all_split ?_ w_codes
  rw [w_t1]
set_option maxRecDepth 65536 in
theorem w_case : (Jvm.Cond.and given_1 narrow_1).before args0 about1 = true := by decide +kernel
theorem w_applies : (headSpec (Jvm.Cond.code x code maxLocals ret :: tables_1) room_1).applies x e0.platform about1 = true :=
  (Spec.applies_iff w_frames).mpr ⟨w_running, w_runnable, w_alone, w_named, w_hears, w_ripe, w_room, w_tables⟩
theorem atStart : AtStart classFile x code maxLocals ret World_1 tables_1 room_1 Calls_1 rest_1 Pre_1 launch0 p0 e0 about1 theMethod args0 below0 :=
  ⟨lists_1, trivial, launch0.admits_env _ _ _, launch0.least_env, fairChoices_fair.cas, fairChoices_fair.clock, w_frames, w_args, w_heap, w_applies, trivial, trivial, w_case⟩
end start1
theorem witness_1 : WitnessClaimed_1 := ⟨start1.p0, start1.e0, start1.about1, start1.theMethod, start1.args0, start1.below0, start1.atStart⟩
end Jvm.Pilot.@@N@@
