import JvmDerived
import JvmDerived.Pilot.@@N@@Statement
import JvmDerived.Pilot.@@N@@Code
set_option linter.unusedVariables false
set_option linter.unusedSimpArgs false
namespace Jvm.Pilot.@@N@@
open Jvm Jvm.ClassFile Sem Op Lib Jvm.Free Jvm.Stand Jvm.LawKit Jvm.RoadKit Bundle Jvm.Pilot.@@N@@.Jvm.D
def ownEnds (tb : Tables) (e : Env) (below : List Frame) (Φ : State → Outcome → Prop) (A : State) : Prop :=
  ∃ s₂ o, Steps tb e below A s₂ ∧ s₂.status = .running ∧ Ended s₂ below o ∧ Φ s₂ o
theorem ownEnds.law {tb : Tables} {e : Env} {below : List Frame} {Φ : State → Outcome → Prop} {A B : State} (k : ∀ t, Steps tb e below B t → Steps tb e below A t) (h : ownEnds tb e below Φ B) : ownEnds tb e below Φ A := by
  obtain ⟨s2, o, h1, h2⟩ := h
  exact ⟨s2, o, k _ h1, h2⟩
theorem ownEnds.tr {tb : Tables} {e : Env} {below : List Frame} {Φ : State → Outcome → Prop} {A B : State} (k : Steps tb e below A B) (h : ownEnds tb e below Φ B) : ownEnds tb e below Φ A := by
  obtain ⟨s2, o, h1, h2⟩ := h
  exact ⟨s2, o, k.trans h1, h2⟩
theorem ownEnds.cast {tb : Tables} {e : Env} {below : List Frame} {Φ : State → Outcome → Prop} {T : State} {g g' : JFrame} (q : g = g') (h : ownEnds tb e below Φ (T.setTop g')) : ownEnds tb e below Φ (T.setTop g) := q ▸ h
def ownPost (s : State) (Q : Option Value → Heap → List Loc → Prop) (C S : Nat) : State → Outcome → Prop := fun U o => ∃ v L, o = .returned v ∧ Q v U.heap L ∧ FrameEnd s o U L C S
abbrev ownMet (l : Launch) (Z : State) (y : MethodName) (bytes : ByteArray) (maxL : Nat) (rt : Option FieldType) (ws : List Jvm.Cond) (rm : Room) (as : Array Value) (h0 : Heap) (Q : Option Value → Heap → List Loc → Prop) : Prop :=
  MetFree l y (head1 (Jvm.Cond.code y bytes maxL rt :: ws) rm) (fun a U => a = as ∧ Z.Warmed39 U.vm ∧ U.heap = h0) (fun _ _ _ _ _ => True) (fun _ U o U' => ∃ v L, o = .returned v ∧ Q v U'.heap L ∧ FrameEnd U o U' L rm.cells rm.slots)
theorem ownMet.of {l : Launch} {Z : State} {y : MethodName} {bytes : ByteArray} {maxL : Nat} {rt : Option FieldType} {ws : List Jvm.Cond} {rm : Room} {as : Array Value} {h0 : Heap} {Q : Option Value → Heap → List Loc → Prop} (hpl : plainFor y = true)
    (body : ∀ (p : Program) (e : Env) (s : State) (m : MethodId) (below : List Frame) (meth : Method) (c : Code) (T0 : State), p.tables.exec = Jvm.exec → c.code = bytes → c.maxLocals = maxL → Z.Warmed39 s.vm → s.vm.findClass y.cls = some m.cls → meth.name = y.name → meth.sig.returnType = rt → meth.locks = false →
      Stand p l e rm s m as below meth c T0 [] 0 0 → T0.heap = h0 → ownEnds p.tables e below (ownPost s Q rm.cells rm.slots) (T0.setTop (entryFrame m as maxL))) : ownMet l Z y bytes maxL rt ws rm as h0 Q := by
  refine MetFree.of_bodySF hpl hisR ?_
  intro p e s m args below meth c s₁ Bd hml0 hP hK
  obtain ⟨rfl, hZ, hh⟩ := hP
  exact body p e s m below meth c s₁ Bd.exec Bd.bytes hml0 hZ (findClass_of_methodNamed Bd.named) (name_of_methodNamed Bd.named Bd.method).1 Bd.returns Bd.notSynchronized (Stand.of_body Bd) (by rw [← hh, Bd.state]; rfl)
theorem ownEqV {args : Array Value} {first s : State} {o : Option Outcome} {idx : List Nat} {a b : Term} {v : Value} (h : (Cond.eq a b).value args first o s idx = some true) (hb : b.eval args first o idx s = some v) : a.eval args first o idx s = some v := by
  simp only [Cond.value, hb] at h
  cases ha : a.eval args first o idx s with
  | none => simp [ha] at h
  | some x => cases x <;> cases v <;> simp_all
theorem ownFieldAt {args : Array Value} {first s : State} {o : Option Outcome} {idx : List Nat} {t : Term} {a : Addr} {C n d : String} (ev : t.eval args first o idx s = some (.ref a)) : (Term.field t C n d).eval args first o idx s = s.fieldOf? a C n d := by
  simp [Term.eval, ev]
theorem ownLen {s : State} {args : Array Value} {t : Term} {a : Addr} {cl : Cell} {ty : FieldType} {z : Int32} (ev : t.eval args s none [] s = some (.ref a)) (A : Arr s s.heap a cl ty) (h : (Term.length t).eval args s none [] s = some (.int z)) : cl.slots.size < 2 ^ 31 ∧ cl.slots.size.toInt32 = z := by
  have q := A.fin (Vm.Alike.refl _)
  simp only [Term.eval, ev, q, Option.bind_eq_bind, Option.bind_some, Option.pure_def] at h
  split at h
  · rename_i hs
    exact ⟨hs, by simpa using h⟩
  · cases h
theorem ownEl {s : State} {args : Array Value} {t i : Term} {a : Addr} {cl : Cell} {ty : FieldType} {j : Int32} {v : Value} (ev : t.eval args s none [] s = some (.ref a)) (A : Arr s s.heap a cl ty) (ej : i.eval args s none [] s = some (.int j)) (h : (Term.elem t i).eval args s none [] s = some v) : cl.slots[j.toNatClampNeg]? = some v := by
  have q := A.fin (Vm.Alike.refl _)
  simp only [Term.eval, ev, ej, q, Option.bind_eq_bind, Option.bind_some] at h
  split at h
  · cases h
  · exact h
section OwnKit
variable {p : Program} {l : Launch} {e : Env} {R : Room} {s : State} {m : MethodId} {args : Array Value} {below : List Frame} {meth : Method} {c : Code} {T : State} {locs : List Loc} {cells slots : Nat} {Z : State} {a0 : Array Value} {h : Heap}
theorem ownRet (X : Stand p l e R s m args below meth c T locs cells slots) (hlk : meth.locks = false) {v : Option Value} (hv : meth.sig.returnType = none → v = none) {g : JFrame} {Q : Option Value → Heap → List Loc → Prop} {C S : Nat}
    (hst : ∀ fs, (∀ (f : JFrame) (acts : List Action), f.method = m → f.locked = none → f.entered = [] → (doReturn e (T.setTop f) acts v).1 = T.setFrames fs) → Steps p.tables e below (T.setTop g) (T.setFrames fs))
    (hc : cells ≤ C) (hs : slots ≤ S) (hQ : Q v T.heap locs) : ownEnds p.tables e below (ownPost s Q C S) (T.setTop g) := by
  obtain ⟨fs, hr, hrun, hended, hW, hsame⟩ := X.leave (v := v) hv hlk
  exact ⟨_, _, hst fs hr, hrun, hended, v, locs, rfl, hQ, ⟨_, rfl⟩, hW, hsame.mono hc hs⟩
theorem ownRetN (X : Stand p l e R s m args below meth c T locs cells slots) (hlk : meth.locks = false) (hx : p.tables.exec = Jvm.exec) {pc : Nat} {Ls : Array Slot} {z : Int32} {t : FieldType} {rest : List Value} (hret : meth.sig.returnType = some t) (ht : t = .boolean ∨ t = .byte ∨ t = .char ∨ t = .short)
    (hd : decode c.code pc = .ok (.ireturn, 1)) {Q : Option Value → Heap → List Loc → Prop} {C S : Nat} (hc : cells ≤ C) (hs : slots ≤ S) (hQ : Q (some (.int (nar t z))) T.heap locs) : ownEnds p.tables e below (ownPost s Q C S) (T.setTop (mkF m pc Ls (.int z :: rest))) :=
  ownRet X hlk (fun h => by rw [hret] at h; cases h) (fun fs hr => retN X hx hret ht hd hr) hc hs hQ
theorem ownRetI (X : Stand p l e R s m args below meth c T locs cells slots) (hlk : meth.locks = false) (hx : p.tables.exec = Jvm.exec) {pc : Nat} {Ls : Array Slot} {z : Int32} {rest : List Value} (hret : meth.sig.returnType = some .int)
    (hd : decode c.code pc = .ok (.ireturn, 1)) {Q : Option Value → Heap → List Loc → Prop} {C S : Nat} (hc : cells ≤ C) (hs : slots ≤ S) (hQ : Q (some (.int z)) T.heap locs) : ownEnds p.tables e below (ownPost s Q C S) (T.setTop (mkF m pc Ls (.int z :: rest))) :=
  ownRet X hlk (fun h => by rw [hret] at h; cases h) (fun fs hr => retOut X hx hret rfl (Or.inl ⟨rfl, Or.inl rfl, z, rfl⟩) hd hr) hc hs hQ
theorem ownRetL (X : Stand p l e R s m args below meth c T locs cells slots) (hlk : meth.locks = false) (hx : p.tables.exec = Jvm.exec) {pc : Nat} {Ls : Array Slot} {z : Int64} {rest : List Value} (hret : meth.sig.returnType = some .long)
    (hd : decode c.code pc = .ok (.lreturn, 1)) {Q : Option Value → Heap → List Loc → Prop} {C S : Nat} (hc : cells ≤ C) (hs : slots ≤ S) (hQ : Q (some (.long z)) T.heap locs) : ownEnds p.tables e below (ownPost s Q C S) (T.setTop (mkF m pc Ls (.long z :: rest))) :=
  ownRet X hlk (fun h => by rw [hret] at h; cases h) (fun fs hr => retOut X hx hret rfl (Or.inr (Or.inl ⟨rfl, rfl, z, rfl⟩)) hd hr) hc hs hQ
theorem ownRetA (X : Stand p l e R s m args below meth c T locs cells slots) (hlk : meth.locks = false) (hx : p.tables.exec = Jvm.exec) {pc : Nat} {Ls : Array Slot} {w : Value} {t : FieldType} {rest : List Value} (hret : meth.sig.returnType = some t) (ht : t.isReference = true) (hw : w.isRef = true)
    (hd : decode c.code pc = .ok (.areturn, 1)) {Q : Option Value → Heap → List Loc → Prop} {C S : Nat} (hc : cells ≤ C) (hs : slots ≤ S) (hQ : Q (some w) T.heap locs) : ownEnds p.tables e below (ownPost s Q C S) (T.setTop (mkF m pc Ls (w :: rest))) :=
  ownRet X hlk (fun h => by rw [hret] at h; cases h) (fun fs hr => retOut X hx hret (by rcases ref_cases hw with rfl | ⟨a, rfl⟩ <;> cases t <;> first | rfl | (simp [FieldType.isReference] at ht)) (Or.inr (Or.inr (Or.inr (Or.inr ⟨rfl, ht, hw⟩)))) hd hr) hc hs hQ
theorem ownRetV (X : Stand p l e R s m args below meth c T locs cells slots) (hlk : meth.locks = false) (hx : p.tables.exec = Jvm.exec) {pc : Nat} {Ls : Array Slot} (hret : meth.sig.returnType = none)
    (hd : decode c.code pc = .ok (.return_, 1)) {Q : Option Value → Heap → List Loc → Prop} {C S : Nat} (hc : cells ≤ C) (hs : slots ≤ S) (hQ : Q none T.heap locs) : ownEnds p.tables e below (ownPost s Q C S) (T.setTop (mkF m pc Ls [])) :=
  ownRet X hlk (fun _ => rfl) (fun fs hr => X.returnOut hx hret hd hr) hc hs hQ
theorem ownCallS (X : Stand p l e R s m args below meth c T locs cells slots) (hx : p.tables.exec = Jvm.exec) (hZ : Z.Warmed39 s.vm) {own : String} {index : Nat} (hown : s.vm.findClass own = some m.cls) {y : MethodName} {bytes : ByteArray} {maxL : Nat} {rt : Option FieldType} {rm : Room} {as : List Value} {Q : Option Value → Heap → List Loc → Prop}
    (w1 : (Cond.methodLink own index y).before a0 Z = true) (w2 : (Cond.static y).before a0 Z = true) (w3 : (Cond.initialized y.cls).before a0 Z = true) (w4 : (Cond.code y bytes maxL rt).before a0 Z = true) (hy : y.cls ≠ "java/lang/invoke/MethodHandle" ∧ y.cls ≠ "java/lang/invoke/VarHandle")
    (hM : ownMet l Z y bytes maxL rt [] rm as.toArray h Q) (eT : T.heap = h) (W : Nat) (hf : rm.frames + 1 ≤ R.frames) (hl : W + (maxL + 11) + rm.locals ≤ R.locals) (hc : cells + rm.cells ≤ R.cells) (hs : slots + rm.slots ≤ R.slots)
    {g : JFrame} (hg : g.method = m) (hsize : g.locals.size = c.maxLocals) {rest : List Value} {ps : List FieldType} {r : Option FieldType} (hd : parseMethodDescriptor y.desc = some ⟨ps, r⟩) (hlen : as.length = ps.length) (hstack : g.stack = as.reverse ++ rest) (hW : 2 * g.monitorRoom + (rest.map fun v => v.category).sum ≤ W)
    (hdg : decode c.code g.pc = .ok (.invokestatic index, 3)) :
    ∃ v T' L, Stand p l e R s m args below meth c T' (locs ++ L) (cells + rm.cells) (slots + rm.slots) ∧ Q v T'.heap L ∧ ∀ t, Steps p.tables e below (T'.setTop { g with pc := g.pc + 3, stack := v.toList ++ rest }) t → Steps p.tables e below (T.setTop g) t := by
  obtain ⟨v, _, ⟨T1, L1, k1, n1⟩, -, X1, ⟨Lc, hQ, l1, y1, z1⟩, st⟩ := Jvm.LawKit.callS X hx (y := y) hown (mvT hZ w1) (mvT hZ w2) (mvT hZ w3) (mvT hZ w4) hy (backOf (W := W) hM hZ w4 w3 hf hl) hg hsize (argsL := as) (rest := rest) (lenOf hd hlen) hstack hW hdg (fun _ _ => ⟨rfl, eT, hc, hs⟩)
  dsimp only [Pt.U, Pt.locs, Pt.cells, Pt.slots] at X1 l1 y1 z1 st hQ
  subst l1 y1 z1
  exact ⟨v, T1, Lc, X1, hQ, st⟩
theorem ownCallC (X : Stand p l e R s m args below meth c T locs cells slots) (hx : p.tables.exec = Jvm.exec) (hZ : Z.Warmed39 s.vm) {own : String} {index : Nat} (hown : s.vm.findClass own = some m.cls) {y : MethodName} (hy1 : y.name = "<init>") {bytes : ByteArray} {maxL : Nat} {rm : Room} {a : Addr} {as : List Value} {Q : Option Value → Heap → List Loc → Prop}
    (w1 : (Cond.methodLink own index y).before a0 Z = true) (w2 : (Cond.instanceMethod y).before a0 Z = true) (w3 : (Cond.initialized y.cls).before a0 Z = true) (w4 : (Cond.code y bytes maxL none).before a0 Z = true) (hy : y.cls ≠ "java/lang/invoke/MethodHandle" ∧ y.cls ≠ "java/lang/invoke/VarHandle")
    (hM : ownMet l Z y bytes maxL none [] rm (.ref a :: as).toArray h Q) (eT : T.heap = h) (W : Nat) (hf : rm.frames + 1 ≤ R.frames) (hl : W + (maxL + 11) + rm.locals ≤ R.locals) (hc : cells + rm.cells ≤ R.cells) (hs : slots + rm.slots ≤ R.slots)
    {g : JFrame} (hg : g.method = m) (hsize : g.locals.size = c.maxLocals) {rest : List Value} {ps : List FieldType} {r : Option FieldType} (hd : parseMethodDescriptor y.desc = some ⟨ps, r⟩) (hlen : as.length = ps.length) (hstack : g.stack = as.reverse ++ .ref a :: rest) (hW : 2 * g.monitorRoom + (rest.map fun v => v.category).sum ≤ W)
    (hdg : decode c.code g.pc = .ok (.invokespecial index, 3)) :
    ∃ v T' L, Stand p l e R s m args below meth c T' (locs ++ L) (cells + rm.cells) (slots + rm.slots) ∧ Q v T'.heap L ∧ ∀ t, Steps p.tables e below (T'.setTop { g with pc := g.pc + 3, stack := v.toList ++ rest }) t → Steps p.tables e below (T.setTop g) t := by
  obtain ⟨v, _, ⟨T1, L1, k1, n1⟩, -, X1, ⟨Lc, hQ, l1, y1, z1⟩, st⟩ := X.specialBack hx (y := y) hy1 hown (mvT hZ w1) (mvT hZ w2) (mvT hZ w4) hy (backOf (W := W) hM hZ w4 w3 hf hl) hg hsize (Steps.refl _) (a := a) (argsL := as) (rest := rest) (lenOf hd hlen) hstack hW hdg (fun _ _ => ⟨rfl, eT, hc, hs⟩)
  dsimp only [Pt.U, Pt.locs, Pt.cells, Pt.slots] at X1 l1 y1 z1 st hQ
  subst l1 y1 z1
  exact ⟨v, T1, Lc, X1, hQ, fun t k => st.trans k⟩
theorem ownCallV (X : Stand p l e R s m args below meth c T locs cells slots) (hx : p.tables.exec = Jvm.exec) (hZ : Z.Warmed39 s.vm) {own C : String} {index : Nat} (hown : s.vm.findClass own = some m.cls) {y z : MethodName} {bytes : ByteArray} {maxL : Nat} {rt : Option FieldType} {rm : Room} {a : Addr} {as : List Value} {Q : Option Value → Heap → List Loc → Prop}
    (w1 : (Cond.methodLink own index y).before a0 Z = true) (w2 : (Cond.declares y).before a0 Z = true) (hnf : NotFace s y) (w5 : (Cond.selects C y z).before a0 Z = true) (w6 : (Cond.instanceMethod z).before a0 Z = true) (w3 : (Cond.initialized z.cls).before a0 Z = true) (w4 : (Cond.code z bytes maxL rt).before a0 Z = true) (hy : y.cls ≠ "java/lang/invoke/MethodHandle" ∧ y.cls ≠ "java/lang/invoke/VarHandle")
    (hM : ownMet l Z z bytes maxL rt [] rm (.ref a :: as).toArray h Q) (eT : T.heap = h) (E : Exa Z h a C) (W : Nat) (hf : rm.frames + 1 ≤ R.frames) (hl : W + (maxL + 11) + rm.locals ≤ R.locals) (hc : cells + rm.cells ≤ R.cells) (hs : slots + rm.slots ≤ R.slots)
    {g : JFrame} (hg : g.method = m) (hsize : g.locals.size = c.maxLocals) {rest : List Value} {ps : List FieldType} {r : Option FieldType} (hd : parseMethodDescriptor y.desc = some ⟨ps, r⟩) (hlen : as.length = ps.length) (hstack : g.stack = as.reverse ++ .ref a :: rest) (hW : 2 * g.monitorRoom + (rest.map fun v => v.category).sum ≤ W)
    (hdg : decode c.code g.pc = .ok (.invokevirtual index, 3)) :
    ∃ v T' L, Stand p l e R s m args below meth c T' (locs ++ L) (cells + rm.cells) (slots + rm.slots) ∧ Q v T'.heap L ∧ ∀ t, Steps p.tables e below (T'.setTop { g with pc := g.pc + 3, stack := v.toList ++ rest }) t → Steps p.tables e below (T.setTop g) t := by
  obtain ⟨cq, kq, qa, qb, qc⟩ := isOf hZ eT E
  obtain ⟨v, _, ⟨T1, L1, k1, n1⟩, -, X1, ⟨Lc, hQ, l1, y1, z1⟩, st⟩ := X.virtualBack hx (y := y) (z := z) hown (mvT hZ w1) (mvT hZ w2) hnf (mvT hZ w5) (mvT hZ w6) hy (backOf (W := W) hM hZ w4 w3 hf hl) qa qc hg hsize (Steps.refl _) (argsL := as) (rest := rest) (lenOf hd hlen) hstack hW hdg (fun _ _ => ⟨rfl, eT, hc, hs⟩)
  dsimp only [Pt.U, Pt.locs, Pt.cells, Pt.slots] at X1 l1 y1 z1 st hQ
  subst l1 y1 z1
  exact ⟨v, T1, Lc, X1, hQ, fun t k => st.trans k⟩
theorem ownSelfSel {y z : MethodName} {C : String} (hz : z.cls = y.cls) (wz : (Cond.selects C z z).before args s = true) (hinst : (Cond.instanceMethod y).before args s = true) (hpriv : s.PrivateAt y) (hy : y.cls ≠ "java/lang/invoke/MethodHandle" ∧ y.cls ≠ "java/lang/invoke/VarHandle") : (Cond.selects y.cls y y).before args s = true := by
  obtain ⟨c2, r2, m2, q1, q2, q3, q4, kP, hkP, hkPi⟩ := Cond.selects_spec wz
  exact selects_self_of_private (by rw [← hz]; exact findClass_of_methodNamed q3) hkP hkPi hpriv hinst hy
theorem ownCallP (X : Stand p l e R s m args below meth c T locs cells slots) (hx : p.tables.exec = Jvm.exec) (hZ : Z.Warmed39 s.vm) {own C D : String} {index : Nat} (hown : s.vm.findClass own = some m.cls) {y z : MethodName} {bytes : ByteArray} {maxL : Nat} {rt : Option FieldType} {rm : Room} {a : Addr} {as : List Value} {Q : Option Value → Heap → List Loc → Prop}
    (w1 : (Cond.methodLink own index y).before a0 Z = true) (hz : z.cls = y.cls) (w5 : (Cond.selects C z z).before a0 Z = true) (w6 : (Cond.instanceMethod y).before a0 Z = true) (w7 : (Cond.privateMethod y).before a0 Z = true) (w3 : (Cond.initialized y.cls).before a0 Z = true) (w4 : (Cond.code y bytes maxL rt).before a0 Z = true) (hy : y.cls ≠ "java/lang/invoke/MethodHandle" ∧ y.cls ≠ "java/lang/invoke/VarHandle")
    (hM : ownMet l Z y bytes maxL rt [] rm (.ref a :: as).toArray h Q) (eT : T.heap = h) (E : Exa Z h a D) (W : Nat) (hf : rm.frames + 1 ≤ R.frames) (hl : W + (maxL + 11) + rm.locals ≤ R.locals) (hc : cells + rm.cells ≤ R.cells) (hs : slots + rm.slots ≤ R.slots)
    {g : JFrame} (hg : g.method = m) (hsize : g.locals.size = c.maxLocals) {rest : List Value} {ps : List FieldType} {r : Option FieldType} (hd : parseMethodDescriptor y.desc = some ⟨ps, r⟩) (hlen : as.length = ps.length) (hstack : g.stack = as.reverse ++ .ref a :: rest) (hW : 2 * g.monitorRoom + (rest.map fun v => v.category).sum ≤ W)
    (hdg : decode c.code g.pc = .ok (.invokevirtual index, 3)) :
    ∃ v T' L, Stand p l e R s m args below meth c T' (locs ++ L) (cells + rm.cells) (slots + rm.slots) ∧ Q v T'.heap L ∧ ∀ t, Steps p.tables e below (T'.setTop { g with pc := g.pc + 3, stack := v.toList ++ rest }) t → Steps p.tables e below (T.setTop g) t := by
  obtain ⟨cq, q1, q2⟩ := E.cell
  have hpv : s.PrivateAt y := Cond.privateMethod_at (mvP hZ w7 (args := #[]))
  obtain ⟨v, _, ⟨T1, L1, k1, n1⟩, -, X1, ⟨Lc, hQ, l1, y1, z1⟩, st⟩ := X.privateBack hx (y := y) hown (mvT hZ w1) (mvT hZ w6) (ownSelfSel hz (mvT hZ w5) (mvT hZ w6) hpv hy) hpv (mvT hZ w4) hy (backOf (W := W) hM hZ w4 w3 hf hl) hg hsize (Steps.refl _) (a := a) (by rw [eT]; exact q1) q2 (argsL := as) (rest := rest) (lenOf hd hlen) hstack hW hdg (fun _ _ => ⟨rfl, eT, hc, hs⟩)
  dsimp only [Pt.U, Pt.locs, Pt.cells, Pt.slots] at X1 l1 y1 z1 st hQ
  subst l1 y1 z1
  exact ⟨v, T1, Lc, X1, hQ, fun t k => st.trans k⟩
end OwnKit
theorem wd_0 {Z : State} {a0 : Array Value} (hw : ∀ d ∈ tables_1, d.before a0 Z = true) : (Jvm.Cond.classLink "com/example/meldwork/meldwork/SideScoreTotalPinLaw" (7 : Nat) "com/example/meldwork/meldwork/SideScore").before a0 Z = true := hw _ (List.mem_of_getElem? (i := 0) rfl)
theorem wd_1 {Z : State} {a0 : Array Value} (hw : ∀ d ∈ tables_1, d.before a0 Z = true) : (Jvm.Cond.instantiable "com/example/meldwork/meldwork/SideScore" (5 : Nat)).before a0 Z = true := hw _ (List.mem_of_getElem? (i := 1) rfl)
theorem wd_2 {Z : State} {a0 : Array Value} (hw : ∀ d ∈ tables_1, d.before a0 Z = true) : (Jvm.Cond.initialized "com/example/meldwork/meldwork/SideScore").before a0 Z = true := hw _ (List.mem_of_getElem? (i := 2) rfl)
theorem wd_3 {Z : State} {a0 : Array Value} (hw : ∀ d ∈ tables_1, d.before a0 Z = true) : (Jvm.Cond.methodLink "com/example/meldwork/meldwork/SideScoreTotalPinLaw" (9 : Nat) ({ cls := "com/example/meldwork/meldwork/SideScore", name := "<init>", desc := "(IIIII)V" } : Jvm.MethodName)).before a0 Z = true := hw _ (List.mem_of_getElem? (i := 3) rfl)
theorem wd_4 {Z : State} {a0 : Array Value} (hw : ∀ d ∈ tables_1, d.before a0 Z = true) : (Jvm.Cond.instanceMethod ({ cls := "com/example/meldwork/meldwork/SideScore", name := "<init>", desc := "(IIIII)V" } : Jvm.MethodName)).before a0 Z = true := hw _ (List.mem_of_getElem? (i := 4) rfl)
theorem wd_5 {Z : State} {a0 : Array Value} (hw : ∀ d ∈ tables_1, d.before a0 Z = true) : (Jvm.Cond.code ({ cls := "com/example/meldwork/meldwork/SideScore", name := "<init>", desc := "(IIIII)V" } : Jvm.MethodName) prog_57_method_1_code (6 : Nat) (Option.none : Option Jvm.ClassFile.FieldType)).before a0 Z = true := hw _ (List.mem_of_getElem? (i := 5) rfl)
theorem wd_6 {Z : State} {a0 : Array Value} (hw : ∀ d ∈ tables_1, d.before a0 Z = true) : (Jvm.Cond.methodLink "com/example/meldwork/meldwork/SideScore" (1 : Nat) ({ cls := "java/lang/Record", name := "<init>", desc := "()V" } : Jvm.MethodName)).before a0 Z = true := hw _ (List.mem_of_getElem? (i := 6) rfl)
theorem wd_7 {Z : State} {a0 : Array Value} (hw : ∀ d ∈ tables_1, d.before a0 Z = true) : (Jvm.Cond.instanceMethod ({ cls := "java/lang/Record", name := "<init>", desc := "()V" } : Jvm.MethodName)).before a0 Z = true := hw _ (List.mem_of_getElem? (i := 7) rfl)
theorem wd_9 {Z : State} {a0 : Array Value} (hw : ∀ d ∈ tables_1, d.before a0 Z = true) : (Jvm.Cond.initialized "java/lang/Record").before a0 Z = true := hw _ (List.mem_of_getElem? (i := 9) rfl)
theorem wd_10 {Z : State} {a0 : Array Value} (hw : ∀ d ∈ tables_1, d.before a0 Z = true) : (Jvm.Cond.code ({ cls := "java/lang/Record", name := "<init>", desc := "()V" } : Jvm.MethodName) jdk_30_method_1_code (1 : Nat) (Option.none : Option Jvm.ClassFile.FieldType)).before a0 Z = true := hw _ (List.mem_of_getElem? (i := 10) rfl)
theorem wd_11 {Z : State} {a0 : Array Value} (hw : ∀ d ∈ tables_1, d.before a0 Z = true) : (Jvm.Cond.methodLink "java/lang/Record" (1 : Nat) ({ cls := "java/lang/Object", name := "<init>", desc := "()V" } : Jvm.MethodName)).before a0 Z = true := hw _ (List.mem_of_getElem? (i := 11) rfl)
theorem wd_12 {Z : State} {a0 : Array Value} (hw : ∀ d ∈ tables_1, d.before a0 Z = true) : (Jvm.Cond.instanceMethod ({ cls := "java/lang/Object", name := "<init>", desc := "()V" } : Jvm.MethodName)).before a0 Z = true := hw _ (List.mem_of_getElem? (i := 12) rfl)
theorem wd_13 {Z : State} {a0 : Array Value} (hw : ∀ d ∈ tables_1, d.before a0 Z = true) : (Jvm.Cond.code ({ cls := "java/lang/Object", name := "<init>", desc := "()V" } : Jvm.MethodName) object_method_1_code (1 : Nat) (Option.none : Option Jvm.ClassFile.FieldType)).before a0 Z = true := hw _ (List.mem_of_getElem? (i := 13) rfl)
theorem wd_14 {Z : State} {a0 : Array Value} (hw : ∀ d ∈ tables_1, d.before a0 Z = true) : (Jvm.Cond.fieldLink "com/example/meldwork/meldwork/SideScore" (7 : Nat) "com/example/meldwork/meldwork/SideScore" "canastas" "I").before a0 Z = true := hw _ (List.mem_of_getElem? (i := 14) rfl)
theorem wd_15 {Z : State} {a0 : Array Value} (hw : ∀ d ∈ tables_1, d.before a0 Z = true) : (Jvm.Cond.laysFinal "com/example/meldwork/meldwork/SideScore" "com/example/meldwork/meldwork/SideScore" "canastas" "I").before a0 Z = true := hw _ (List.mem_of_getElem? (i := 15) rfl)
theorem wd_16 {Z : State} {a0 : Array Value} (hw : ∀ d ∈ tables_1, d.before a0 Z = true) : (Jvm.Cond.fieldLink "com/example/meldwork/meldwork/SideScore" (13 : Nat) "com/example/meldwork/meldwork/SideScore" "redThrees" "I").before a0 Z = true := hw _ (List.mem_of_getElem? (i := 16) rfl)
theorem wd_17 {Z : State} {a0 : Array Value} (hw : ∀ d ∈ tables_1, d.before a0 Z = true) : (Jvm.Cond.laysFinal "com/example/meldwork/meldwork/SideScore" "com/example/meldwork/meldwork/SideScore" "redThrees" "I").before a0 Z = true := hw _ (List.mem_of_getElem? (i := 17) rfl)
theorem wd_18 {Z : State} {a0 : Array Value} (hw : ∀ d ∈ tables_1, d.before a0 Z = true) : (Jvm.Cond.fieldLink "com/example/meldwork/meldwork/SideScore" (16 : Nat) "com/example/meldwork/meldwork/SideScore" "goingOut" "I").before a0 Z = true := hw _ (List.mem_of_getElem? (i := 18) rfl)
theorem wd_19 {Z : State} {a0 : Array Value} (hw : ∀ d ∈ tables_1, d.before a0 Z = true) : (Jvm.Cond.laysFinal "com/example/meldwork/meldwork/SideScore" "com/example/meldwork/meldwork/SideScore" "goingOut" "I").before a0 Z = true := hw _ (List.mem_of_getElem? (i := 19) rfl)
theorem wd_20 {Z : State} {a0 : Array Value} (hw : ∀ d ∈ tables_1, d.before a0 Z = true) : (Jvm.Cond.fieldLink "com/example/meldwork/meldwork/SideScore" (19 : Nat) "com/example/meldwork/meldwork/SideScore" "melded" "I").before a0 Z = true := hw _ (List.mem_of_getElem? (i := 20) rfl)
theorem wd_21 {Z : State} {a0 : Array Value} (hw : ∀ d ∈ tables_1, d.before a0 Z = true) : (Jvm.Cond.laysFinal "com/example/meldwork/meldwork/SideScore" "com/example/meldwork/meldwork/SideScore" "melded" "I").before a0 Z = true := hw _ (List.mem_of_getElem? (i := 21) rfl)
theorem wd_22 {Z : State} {a0 : Array Value} (hw : ∀ d ∈ tables_1, d.before a0 Z = true) : (Jvm.Cond.fieldLink "com/example/meldwork/meldwork/SideScore" (22 : Nat) "com/example/meldwork/meldwork/SideScore" "inHand" "I").before a0 Z = true := hw _ (List.mem_of_getElem? (i := 22) rfl)
theorem wd_23 {Z : State} {a0 : Array Value} (hw : ∀ d ∈ tables_1, d.before a0 Z = true) : (Jvm.Cond.laysFinal "com/example/meldwork/meldwork/SideScore" "com/example/meldwork/meldwork/SideScore" "inHand" "I").before a0 Z = true := hw _ (List.mem_of_getElem? (i := 23) rfl)
theorem wd_24 {Z : State} {a0 : Array Value} (hw : ∀ d ∈ tables_1, d.before a0 Z = true) : (Jvm.Cond.methodLink "com/example/meldwork/meldwork/SideScoreTotalPinLaw" (12 : Nat) ({ cls := "com/example/meldwork/meldwork/SideScore", name := "total", desc := "()I" } : Jvm.MethodName)).before a0 Z = true := hw _ (List.mem_of_getElem? (i := 24) rfl)
theorem wd_25 {Z : State} {a0 : Array Value} (hw : ∀ d ∈ tables_1, d.before a0 Z = true) : (Jvm.Cond.declares ({ cls := "com/example/meldwork/meldwork/SideScore", name := "total", desc := "()I" } : Jvm.MethodName)).before a0 Z = true := hw _ (List.mem_of_getElem? (i := 25) rfl)
theorem wd_26 {Z : State} {a0 : Array Value} (hw : ∀ d ∈ tables_1, d.before a0 Z = true) : (Jvm.Cond.instanceMethod ({ cls := "com/example/meldwork/meldwork/SideScore", name := "total", desc := "()I" } : Jvm.MethodName)).before a0 Z = true := hw _ (List.mem_of_getElem? (i := 26) rfl)
theorem wd_27 {Z : State} {a0 : Array Value} (hw : ∀ d ∈ tables_1, d.before a0 Z = true) : (Jvm.Cond.selects "com/example/meldwork/meldwork/SideScore" ({ cls := "com/example/meldwork/meldwork/SideScore", name := "total", desc := "()I" } : Jvm.MethodName) ({ cls := "com/example/meldwork/meldwork/SideScore", name := "total", desc := "()I" } : Jvm.MethodName)).before a0 Z = true := hw _ (List.mem_of_getElem? (i := 27) rfl)
theorem wd_28 {Z : State} {a0 : Array Value} (hw : ∀ d ∈ tables_1, d.before a0 Z = true) : (Jvm.Cond.code ({ cls := "com/example/meldwork/meldwork/SideScore", name := "total", desc := "()I" } : Jvm.MethodName) prog_57_method_4_code (1 : Nat) (Option.some Jvm.ClassFile.FieldType.int)).before a0 Z = true := hw _ (List.mem_of_getElem? (i := 28) rfl)
theorem ef_rm2 : ∀ (m : MethodId) (oa : Addr), entryFrame m #[(.ref oa)] 1 = mkF m 0 #[.val (.ref oa)] [] := by intros; first | (simp [entryFrame, mkF, argsToLocals, Value.category]; done) | rfl
theorem d2_0 : decode jdk_30_method_1_code 0 = .ok (.aload_n 0, 1) := by decide +kernel
theorem d2_1 : decode jdk_30_method_1_code 1 = .ok (.invokespecial 1, 3) := by decide +kernel
theorem d2_4 : decode jdk_30_method_1_code 4 = .ok (.return_, 1) := by decide +kernel
theorem pn_2 : plainName "java/lang/Record" = true := by first | (simp [plainName, overriddenIn]; done) | decide +kernel
theorem ef_rm1 : ∀ (m : MethodId) (oa : Addr) (xa : Int32) (xb : Int32) (xc : Int32) (xd : Int32) (xe : Int32), entryFrame m #[(.ref oa), (.int xa), (.int xb), (.int xc), (.int xd), (.int xe)] 6 = mkF m 0 #[.val (.ref oa), .val (.int xa), .val (.int xb), .val (.int xc), .val (.int xd), .val (.int xe)] [] := by intros; first | (simp [entryFrame, mkF, argsToLocals, Value.category]; done) | rfl
theorem d1_0 : decode prog_57_method_1_code 0 = .ok (.aload_n 0, 1) := by decide +kernel
theorem pd_0 : parseMethodDescriptor "()V" = some ⟨[], none⟩ := by decide +kernel
theorem d1_1 : decode prog_57_method_1_code 1 = .ok (.invokespecial 1, 3) := by decide +kernel
theorem d1_4 : decode prog_57_method_1_code 4 = .ok (.aload_n 0, 1) := by decide +kernel
theorem d1_5 : decode prog_57_method_1_code 5 = .ok (.iload_n 1, 1) := by decide +kernel
theorem d1_6 : decode prog_57_method_1_code 6 = .ok (.putfield 7, 3) := by decide +kernel
theorem d1_9 : decode prog_57_method_1_code 9 = .ok (.aload_n 0, 1) := by decide +kernel
theorem d1_10 : decode prog_57_method_1_code 10 = .ok (.iload_n 2, 1) := by decide +kernel
theorem d1_11 : decode prog_57_method_1_code 11 = .ok (.putfield 13, 3) := by decide +kernel
theorem d1_14 : decode prog_57_method_1_code 14 = .ok (.aload_n 0, 1) := by decide +kernel
theorem d1_15 : decode prog_57_method_1_code 15 = .ok (.iload_n 3, 1) := by decide +kernel
theorem d1_16 : decode prog_57_method_1_code 16 = .ok (.putfield 16, 3) := by decide +kernel
theorem d1_19 : decode prog_57_method_1_code 19 = .ok (.aload_n 0, 1) := by decide +kernel
theorem d1_20 : decode prog_57_method_1_code 20 = .ok (.iload 4, 2) := by decide +kernel
theorem d1_22 : decode prog_57_method_1_code 22 = .ok (.putfield 19, 3) := by decide +kernel
theorem d1_25 : decode prog_57_method_1_code 25 = .ok (.aload_n 0, 1) := by decide +kernel
theorem d1_26 : decode prog_57_method_1_code 26 = .ok (.iload 5, 2) := by decide +kernel
theorem d1_28 : decode prog_57_method_1_code 28 = .ok (.putfield 22, 3) := by decide +kernel
theorem d1_31 : decode prog_57_method_1_code 31 = .ok (.return_, 1) := by decide +kernel
theorem pn_1 : plainName "com/example/meldwork/meldwork/SideScore" = true := by first | (simp [plainName, overriddenIn]; done) | decide +kernel
theorem ef_rm4 : ∀ (m : MethodId) (oa : Addr), entryFrame m #[(.ref oa)] 1 = mkF m 0 #[.val (.ref oa)] [] := by intros; first | (simp [entryFrame, mkF, argsToLocals, Value.category]; done) | rfl
theorem d4_0 : decode prog_57_method_4_code 0 = .ok (.aload_n 0, 1) := by decide +kernel
theorem d4_1 : decode prog_57_method_4_code 1 = .ok (.getfield 7, 3) := by decide +kernel
theorem d4_4 : decode prog_57_method_4_code 4 = .ok (.aload_n 0, 1) := by decide +kernel
theorem d4_5 : decode prog_57_method_4_code 5 = .ok (.getfield 13, 3) := by decide +kernel
theorem d4_8 : decode prog_57_method_4_code 8 = .ok (.iadd, 1) := by decide +kernel
theorem d4_9 : decode prog_57_method_4_code 9 = .ok (.aload_n 0, 1) := by decide +kernel
theorem d4_10 : decode prog_57_method_4_code 10 = .ok (.getfield 16, 3) := by decide +kernel
theorem d4_13 : decode prog_57_method_4_code 13 = .ok (.iadd, 1) := by decide +kernel
theorem d4_14 : decode prog_57_method_4_code 14 = .ok (.aload_n 0, 1) := by decide +kernel
theorem d4_15 : decode prog_57_method_4_code 15 = .ok (.getfield 19, 3) := by decide +kernel
theorem d4_18 : decode prog_57_method_4_code 18 = .ok (.iadd, 1) := by decide +kernel
theorem d4_19 : decode prog_57_method_4_code 19 = .ok (.aload_n 0, 1) := by decide +kernel
theorem d4_20 : decode prog_57_method_4_code 20 = .ok (.getfield 22, 3) := by decide +kernel
theorem d4_23 : decode prog_57_method_4_code 23 = .ok (.iadd, 1) := by decide +kernel
theorem d4_24 : decode prog_57_method_4_code 24 = .ok (.ireturn, 1) := by decide +kernel
theorem pn_4 : plainName "com/example/meldwork/meldwork/SideScore" = true := by first | (simp [plainName, overriddenIn]; done) | decide +kernel
theorem ef_rm0 : ∀ (m : MethodId) (xa : Int32) (xb : Int32) (xc : Int32) (xd : Int32) (xe : Int32), entryFrame m #[(.int xa), (.int xb), (.int xc), (.int xd), (.int xe)] maxLocals = mkF m 0 #[.val (.int xa), .val (.int xb), .val (.int xc), .val (.int xd), .val (.int xe), .unset, .unset, .unset, .unset, .unset, .unset, .unset, .unset, .unset, .unset, .unset, .unset, .unset, .unset, .unset] [] := by intros; first | (simp [entryFrame, mkF, argsToLocals, Value.category, maxLocals]; done) | rfl
theorem pd_1 : parseMethodDescriptor "(IIIII)V" = some ⟨[.int, .int, .int, .int, .int], none⟩ := by decide +kernel
theorem pd_2 : parseMethodDescriptor "()I" = some ⟨[], some .int⟩ := by decide +kernel
theorem pn_0 : plainName "com/example/meldwork/meldwork/SideScoreTotalPinLaw" = true := by first | (simp [plainName, overriddenIn]; done) | decide +kernel
theorem own_t (a b c d e : Int32) : (((a + b) + c) + d) + e = ((((0 + b) + c) + d) + e) + a ∧ (((0 + b) + c) + d) + e = ((((0 + 0) + c) + d) + e) + b ∧ (((0 + 0) + c) + d) + e = ((((0 + 0) + 0) + d) + e) + c ∧ (((0 + 0) + 0) + d) + e = ((((0 + 0) + 0) + 0) + e) + d ∧ ((((0 : Int32) + 0) + 0) + 0) + e = e := by
  refine ⟨?_, ?_, ?_, ?_, ?_⟩
  all_goals (simp only [Int32.zero_add, Int32.add_zero]; try ac_rfl)
set_option maxRecDepth 65536 in
set_option maxHeartbeats 40000000 in
theorem rm2 (l : Launch) (Z : State) (a0 : Array Value) (hw : ∀ d ∈ tables_1, d.before a0 Z = true) (oa : Addr)  (h0 : Heap) (n0 : Nat) (Z0 : n0 ≤ h0.size)  :
    ownMet l Z (⟨"java/lang/Record", "<init>", "()V"⟩ : MethodName) jdk_30_method_1_code 1 none [] ({ frames := 1, cells := 0, slots := 0, locals := 12 } : Room) #[(.ref oa)] h0 (fun v h L => v = none ∧ L = [] ∧ h = h0) := by
  refine ownMet.of (plainFor_of_name pn_2) ?_
  intro p e s m below meth c T0 hx hby hml hZ hown hnm hret hlk X0 e0
  refine ownEnds.cast (ef_rm2 m oa) ?_
  show ownEnds _ _ _ _ (T0.setTop (mkF m 0 #[.val (.ref oa)] []))
  refine ownEnds.law (fun t k => XS.aloadN X0.here hx rfl (hb hby d2_0) rfl rfl k) ?_
  show ownEnds _ _ _ _ (T0.setTop (mkF m 1 #[.val (.ref oa)] [(.ref oa)]))
  obtain ⟨T1, X1, e1, st1⟩ := initO X0 hx hZ hown (wd_11 hw) (wd_12 hw) (wd_13 hw) e0 (g := (mkF m 1 #[.val (.ref oa)] [(.ref oa)])) rfl (by rw [hml]; rfl) rfl (hb hby d2_1) (by decide) (W := 0) (by show 2 * 0 + _ ≤ _; exact Nat.le_of_eq rfl) (by decide)
  refine ownEnds.law st1 ?_
  show ownEnds _ _ _ _ (T1.setTop (mkF m 4 #[.val (.ref oa)] []))
  refine ownRetV X1 hlk hx hret (hb hby d2_4) (by decide) (by decide) ?_
  exact ⟨rfl, rfl, e1⟩
set_option maxRecDepth 65536 in
set_option maxHeartbeats 40000000 in
theorem rm1 (l : Launch) (Z : State) (a0 : Array Value) (hw : ∀ d ∈ tables_1, d.before a0 Z = true) (oa : Addr) (xa : Int32) (xb : Int32) (xc : Int32) (xd : Int32) (xe : Int32)  (h0 : Heap) (n0 : Nat) (Z0 : n0 ≤ h0.size) (E_oa : Exa Z h0 oa "com/example/meldwork/meldwork/SideScore") (g_oa : n0 ≤ oa) (F_oa_canastas : Fld Z h0 oa "com/example/meldwork/meldwork/SideScore" "canastas" "I" (.int (0 : Int32))) (F_oa_redThrees : Fld Z h0 oa "com/example/meldwork/meldwork/SideScore" "redThrees" "I" (.int (0 : Int32))) (F_oa_goingOut : Fld Z h0 oa "com/example/meldwork/meldwork/SideScore" "goingOut" "I" (.int (0 : Int32))) (F_oa_melded : Fld Z h0 oa "com/example/meldwork/meldwork/SideScore" "melded" "I" (.int (0 : Int32))) (F_oa_inHand : Fld Z h0 oa "com/example/meldwork/meldwork/SideScore" "inHand" "I" (.int (0 : Int32))) :
    ownMet l Z (⟨"com/example/meldwork/meldwork/SideScore", "<init>", "(IIIII)V"⟩ : MethodName) prog_57_method_1_code 6 none [] ({ frames := 2, cells := 0, slots := 0, locals := 24 } : Room) #[(.ref oa), (.int xa), (.int xb), (.int xc), (.int xd), (.int xe)] h0 (fun v h L => v = none ∧ Fr n0 L ∧ Keep h0 h [oa] ∧ Exa Z h oa "com/example/meldwork/meldwork/SideScore" ∧ Fld Z h oa "com/example/meldwork/meldwork/SideScore" "canastas" "I" (.int xa) ∧ Fld Z h oa "com/example/meldwork/meldwork/SideScore" "redThrees" "I" (.int xb) ∧ Fld Z h oa "com/example/meldwork/meldwork/SideScore" "goingOut" "I" (.int xc) ∧ Fld Z h oa "com/example/meldwork/meldwork/SideScore" "melded" "I" (.int xd) ∧ Fld Z h oa "com/example/meldwork/meldwork/SideScore" "inHand" "I" (.int xe)) := by
  refine ownMet.of (plainFor_of_name pn_1) ?_
  intro p e s m below meth c T0 hx hby hml hZ hown hnm hret hlk X0 e0
  refine ownEnds.cast (ef_rm1 m oa xa xb xc xd xe) ?_
  show ownEnds _ _ _ _ (T0.setTop (mkF m 0 #[.val (.ref oa), .val (.int xa), .val (.int xb), .val (.int xc), .val (.int xd), .val (.int xe)] []))
  refine ownEnds.law (fun t k => XS.aloadN X0.here hx rfl (hb hby d1_0) rfl rfl k) ?_
  show ownEnds _ _ _ _ (T0.setTop (mkF m 1 #[.val (.ref oa), .val (.int xa), .val (.int xb), .val (.int xc), .val (.int xd), .val (.int xe)] [(.ref oa)]))
  obtain ⟨v1, T1, L1, X1, hQ1, st1⟩ := ownCallC X0 hx hZ hown (y := (⟨"java/lang/Record", "<init>", "()V"⟩ : MethodName)) rfl (a := oa) (as := []) (wd_6 hw) (wd_7 hw) (wd_9 hw) (wd_10 hw) (by decide) (rm2 l Z a0 hw oa  h0 n0 Z0 ) e0 0 (by decide) (by decide) (by decide) (by decide) (g := (mkF m 1 #[.val (.ref oa), .val (.int xa), .val (.int xb), .val (.int xc), .val (.int xd), .val (.int xe)] [(.ref oa)])) rfl (by rw [hml]; rfl) (rest := []) pd_0 rfl rfl (by show 2 * 0 + _ ≤ _; exact Nat.le_of_eq rfl) (hb hby d1_1)
  obtain ⟨rfl, rfl, e1⟩ := hQ1
  rw [List.append_nil] at X1
  refine ownEnds.law st1 ?_
  show ownEnds _ _ _ _ (T1.setTop (mkF m 4 #[.val (.ref oa), .val (.int xa), .val (.int xb), .val (.int xc), .val (.int xd), .val (.int xe)] []))
  refine ownEnds.law (fun t k => XS.aloadN X1.here hx rfl (hb hby d1_4) rfl rfl (XS.iloadN X1.here hx rfl (hb hby d1_5) rfl k)) ?_
  show ownEnds _ _ _ _ (T1.setTop (mkF m 6 #[.val (.ref oa), .val (.int xa), .val (.int xb), .val (.int xc), .val (.int xd), .val (.int xe)] [(.int xa), (.ref oa)]))
  obtain ⟨T2, h2, X2, e2, W2, st2⟩ := putF X1 hx hZ hown (host := "") (Or.inl (wd_14 hw)) Via.refl e1 F_oa_canastas E_oa (Or.inr ⟨(wd_15 hw), rfl, hnm⟩) (wd_1 hw) (ty := .int) (by decide) rfl rfl (g := (mkF m 6 #[.val (.ref oa), .val (.int xa), .val (.int xb), .val (.int xc), .val (.int xd), .val (.int xe)] [(.int xa), (.ref oa)])) rfl rfl (hb hby d1_6)
  refine ownEnds.law st2 ?_
  have N2 := Fr.snoc X2 (Fr.nil n0) g_oa
  have KK2 : Keep h0 h2 [oa] := (Keep.refl h0 [oa]).wr W2 (Or.inl (List.mem_of_getElem? (i := 0) rfl))
  have Z2 : n0 ≤ h2.size := by rw [W2.size]; exact Z0
  have Fw2 : Fld Z h2 oa "com/example/meldwork/meldwork/SideScore" "canastas" "I" (.int xa) := Fld.same W2 F_oa_canastas
  show ownEnds _ _ _ _ (T2.setTop (mkF m 9 #[.val (.ref oa), .val (.int xa), .val (.int xb), .val (.int xc), .val (.int xd), .val (.int xe)] []))
  refine ownEnds.law (fun t k => XS.aloadN X2.here hx rfl (hb hby d1_9) rfl rfl (XS.iloadN X2.here hx rfl (hb hby d1_10) rfl k)) ?_
  show ownEnds _ _ _ _ (T2.setTop (mkF m 11 #[.val (.ref oa), .val (.int xa), .val (.int xb), .val (.int xc), .val (.int xd), .val (.int xe)] [(.int xb), (.ref oa)]))
  have f3 := (Exa.wr W2 E_oa)
  have f4 := (Fld.other W2 F_oa_redThrees (Or.inr (slot_ne (Or.inr (wd_17 hw)) (Or.inr (wd_15 hw)) (by decide) (t := .int) (t' := .int) (by decide) (by decide))))
  obtain ⟨T5, h5, X5, e5, W5, st5⟩ := putF X2 hx hZ hown (host := "") (Or.inl (wd_16 hw)) Via.refl e2 f4 f3 (Or.inr ⟨(wd_17 hw), rfl, hnm⟩) (wd_1 hw) (ty := .int) (by decide) rfl rfl (g := (mkF m 11 #[.val (.ref oa), .val (.int xa), .val (.int xb), .val (.int xc), .val (.int xd), .val (.int xe)] [(.int xb), (.ref oa)])) rfl rfl (hb hby d1_11)
  refine ownEnds.law st5 ?_
  have N5 := Fr.snoc X5 N2 g_oa
  have KK5 : Keep h0 h5 [oa] := (KK2).wr W5 (Or.inl (List.mem_of_getElem? (i := 0) rfl))
  have Z5 : n0 ≤ h5.size := by rw [W5.size]; exact Z2
  have Fw5 : Fld Z h5 oa "com/example/meldwork/meldwork/SideScore" "redThrees" "I" (.int xb) := Fld.same W5 f4
  show ownEnds _ _ _ _ (T5.setTop (mkF m 14 #[.val (.ref oa), .val (.int xa), .val (.int xb), .val (.int xc), .val (.int xd), .val (.int xe)] []))
  refine ownEnds.law (fun t k => XS.aloadN X5.here hx rfl (hb hby d1_14) rfl rfl (XS.iloadN X5.here hx rfl (hb hby d1_15) rfl k)) ?_
  show ownEnds _ _ _ _ (T5.setTop (mkF m 16 #[.val (.ref oa), .val (.int xa), .val (.int xb), .val (.int xc), .val (.int xd), .val (.int xe)] [(.int xc), (.ref oa)]))
  have f6 := (Exa.wr W5 f3)
  have f7 := (Fld.other W5 (Fld.other W2 F_oa_goingOut (Or.inr (slot_ne (Or.inr (wd_19 hw)) (Or.inr (wd_15 hw)) (by decide) (t := .int) (t' := .int) (by decide) (by decide)))) (Or.inr (slot_ne (Or.inr (wd_19 hw)) (Or.inr (wd_17 hw)) (by decide) (t := .int) (t' := .int) (by decide) (by decide))))
  obtain ⟨T8, h8, X8, e8, W8, st8⟩ := putF X5 hx hZ hown (host := "") (Or.inl (wd_18 hw)) Via.refl e5 f7 f6 (Or.inr ⟨(wd_19 hw), rfl, hnm⟩) (wd_1 hw) (ty := .int) (by decide) rfl rfl (g := (mkF m 16 #[.val (.ref oa), .val (.int xa), .val (.int xb), .val (.int xc), .val (.int xd), .val (.int xe)] [(.int xc), (.ref oa)])) rfl rfl (hb hby d1_16)
  refine ownEnds.law st8 ?_
  have N8 := Fr.snoc X8 N5 g_oa
  have KK8 : Keep h0 h8 [oa] := (KK5).wr W8 (Or.inl (List.mem_of_getElem? (i := 0) rfl))
  have Z8 : n0 ≤ h8.size := by rw [W8.size]; exact Z5
  have Fw8 : Fld Z h8 oa "com/example/meldwork/meldwork/SideScore" "goingOut" "I" (.int xc) := Fld.same W8 f7
  show ownEnds _ _ _ _ (T8.setTop (mkF m 19 #[.val (.ref oa), .val (.int xa), .val (.int xb), .val (.int xc), .val (.int xd), .val (.int xe)] []))
  refine ownEnds.law (fun t k => XS.aloadN X8.here hx rfl (hb hby d1_19) rfl rfl (XS.iload X8.here hx rfl (hb hby d1_20) rfl k)) ?_
  show ownEnds _ _ _ _ (T8.setTop (mkF m 22 #[.val (.ref oa), .val (.int xa), .val (.int xb), .val (.int xc), .val (.int xd), .val (.int xe)] [(.int xd), (.ref oa)]))
  have f9 := (Exa.wr W8 f6)
  have f10 := (Fld.other W8 (Fld.other W5 (Fld.other W2 F_oa_melded (Or.inr (slot_ne (Or.inr (wd_21 hw)) (Or.inr (wd_15 hw)) (by decide) (t := .int) (t' := .int) (by decide) (by decide)))) (Or.inr (slot_ne (Or.inr (wd_21 hw)) (Or.inr (wd_17 hw)) (by decide) (t := .int) (t' := .int) (by decide) (by decide)))) (Or.inr (slot_ne (Or.inr (wd_21 hw)) (Or.inr (wd_19 hw)) (by decide) (t := .int) (t' := .int) (by decide) (by decide))))
  obtain ⟨T11, h11, X11, e11, W11, st11⟩ := putF X8 hx hZ hown (host := "") (Or.inl (wd_20 hw)) Via.refl e8 f10 f9 (Or.inr ⟨(wd_21 hw), rfl, hnm⟩) (wd_1 hw) (ty := .int) (by decide) rfl rfl (g := (mkF m 22 #[.val (.ref oa), .val (.int xa), .val (.int xb), .val (.int xc), .val (.int xd), .val (.int xe)] [(.int xd), (.ref oa)])) rfl rfl (hb hby d1_22)
  refine ownEnds.law st11 ?_
  have N11 := Fr.snoc X11 N8 g_oa
  have KK11 : Keep h0 h11 [oa] := (KK8).wr W11 (Or.inl (List.mem_of_getElem? (i := 0) rfl))
  have Z11 : n0 ≤ h11.size := by rw [W11.size]; exact Z8
  have Fw11 : Fld Z h11 oa "com/example/meldwork/meldwork/SideScore" "melded" "I" (.int xd) := Fld.same W11 f10
  show ownEnds _ _ _ _ (T11.setTop (mkF m 25 #[.val (.ref oa), .val (.int xa), .val (.int xb), .val (.int xc), .val (.int xd), .val (.int xe)] []))
  refine ownEnds.law (fun t k => XS.aloadN X11.here hx rfl (hb hby d1_25) rfl rfl (XS.iload X11.here hx rfl (hb hby d1_26) rfl k)) ?_
  show ownEnds _ _ _ _ (T11.setTop (mkF m 28 #[.val (.ref oa), .val (.int xa), .val (.int xb), .val (.int xc), .val (.int xd), .val (.int xe)] [(.int xe), (.ref oa)]))
  have f12 := (Exa.wr W11 f9)
  have f13 := (Fld.other W11 (Fld.other W8 (Fld.other W5 (Fld.other W2 F_oa_inHand (Or.inr (slot_ne (Or.inr (wd_23 hw)) (Or.inr (wd_15 hw)) (by decide) (t := .int) (t' := .int) (by decide) (by decide)))) (Or.inr (slot_ne (Or.inr (wd_23 hw)) (Or.inr (wd_17 hw)) (by decide) (t := .int) (t' := .int) (by decide) (by decide)))) (Or.inr (slot_ne (Or.inr (wd_23 hw)) (Or.inr (wd_19 hw)) (by decide) (t := .int) (t' := .int) (by decide) (by decide)))) (Or.inr (slot_ne (Or.inr (wd_23 hw)) (Or.inr (wd_21 hw)) (by decide) (t := .int) (t' := .int) (by decide) (by decide))))
  obtain ⟨T14, h14, X14, e14, W14, st14⟩ := putF X11 hx hZ hown (host := "") (Or.inl (wd_22 hw)) Via.refl e11 f13 f12 (Or.inr ⟨(wd_23 hw), rfl, hnm⟩) (wd_1 hw) (ty := .int) (by decide) rfl rfl (g := (mkF m 28 #[.val (.ref oa), .val (.int xa), .val (.int xb), .val (.int xc), .val (.int xd), .val (.int xe)] [(.int xe), (.ref oa)])) rfl rfl (hb hby d1_28)
  refine ownEnds.law st14 ?_
  have N14 := Fr.snoc X14 N11 g_oa
  have KK14 : Keep h0 h14 [oa] := (KK11).wr W14 (Or.inl (List.mem_of_getElem? (i := 0) rfl))
  have Z14 : n0 ≤ h14.size := by rw [W14.size]; exact Z11
  have Fw14 : Fld Z h14 oa "com/example/meldwork/meldwork/SideScore" "inHand" "I" (.int xe) := Fld.same W14 f13
  show ownEnds _ _ _ _ (T14.setTop (mkF m 31 #[.val (.ref oa), .val (.int xa), .val (.int xb), .val (.int xc), .val (.int xd), .val (.int xe)] []))
  refine ownRetV X14 hlk hx hret (hb hby d1_31) (by decide) (by decide) ?_
  have f15 := (Exa.wr W14 f12)
  have f16 := (Fld.other W14 (Fld.other W11 (Fld.other W8 (Fld.other W5 Fw2 (Or.inr (slot_ne (Or.inr (wd_15 hw)) (Or.inr (wd_17 hw)) (by decide) (t := .int) (t' := .int) (by decide) (by decide)))) (Or.inr (slot_ne (Or.inr (wd_15 hw)) (Or.inr (wd_19 hw)) (by decide) (t := .int) (t' := .int) (by decide) (by decide)))) (Or.inr (slot_ne (Or.inr (wd_15 hw)) (Or.inr (wd_21 hw)) (by decide) (t := .int) (t' := .int) (by decide) (by decide)))) (Or.inr (slot_ne (Or.inr (wd_15 hw)) (Or.inr (wd_23 hw)) (by decide) (t := .int) (t' := .int) (by decide) (by decide))))
  have f17 := (Fld.other W14 (Fld.other W11 (Fld.other W8 Fw5 (Or.inr (slot_ne (Or.inr (wd_17 hw)) (Or.inr (wd_19 hw)) (by decide) (t := .int) (t' := .int) (by decide) (by decide)))) (Or.inr (slot_ne (Or.inr (wd_17 hw)) (Or.inr (wd_21 hw)) (by decide) (t := .int) (t' := .int) (by decide) (by decide)))) (Or.inr (slot_ne (Or.inr (wd_17 hw)) (Or.inr (wd_23 hw)) (by decide) (t := .int) (t' := .int) (by decide) (by decide))))
  have f18 := (Fld.other W14 (Fld.other W11 Fw8 (Or.inr (slot_ne (Or.inr (wd_19 hw)) (Or.inr (wd_21 hw)) (by decide) (t := .int) (t' := .int) (by decide) (by decide)))) (Or.inr (slot_ne (Or.inr (wd_19 hw)) (Or.inr (wd_23 hw)) (by decide) (t := .int) (t' := .int) (by decide) (by decide))))
  have f19 := (Fld.other W14 Fw11 (Or.inr (slot_ne (Or.inr (wd_21 hw)) (Or.inr (wd_23 hw)) (by decide) (t := .int) (t' := .int) (by decide) (by decide))))
  rw [e14]
  exact ⟨rfl, N14, KK14, f15, f16, f17, f18, f19, Fw14⟩
set_option maxRecDepth 65536 in
set_option maxHeartbeats 40000000 in
theorem rm4 (l : Launch) (Z : State) (a0 : Array Value) (hw : ∀ d ∈ tables_1, d.before a0 Z = true) (oa : Addr) (vcanastas : Int32) (vredThrees : Int32) (vgoingOut : Int32) (vmelded : Int32) (vinHand : Int32) (h0 : Heap) (n0 : Nat) (Z0 : n0 ≤ h0.size)  (F_canastas : Fld Z h0 oa "com/example/meldwork/meldwork/SideScore" "canastas" "I" (.int vcanastas)) (F_redThrees : Fld Z h0 oa "com/example/meldwork/meldwork/SideScore" "redThrees" "I" (.int vredThrees)) (F_goingOut : Fld Z h0 oa "com/example/meldwork/meldwork/SideScore" "goingOut" "I" (.int vgoingOut)) (F_melded : Fld Z h0 oa "com/example/meldwork/meldwork/SideScore" "melded" "I" (.int vmelded)) (F_inHand : Fld Z h0 oa "com/example/meldwork/meldwork/SideScore" "inHand" "I" (.int vinHand)) :
    ownMet l Z (⟨"com/example/meldwork/meldwork/SideScore", "total", "()I"⟩ : MethodName) prog_57_method_4_code 1 (some .int) [] ({ frames := 0, cells := 0, slots := 0, locals := 0 } : Room) #[(.ref oa)] h0 (fun v h L => v = some (.int ((((vcanastas + vredThrees) + vgoingOut) + vmelded) + vinHand)) ∧ L = [] ∧ h = h0) := by
  refine ownMet.of (plainFor_of_name pn_4) ?_
  intro p e s m below meth c T0 hx hby hml hZ hown hnm hret hlk X0 e0
  refine ownEnds.cast (ef_rm4 m oa) ?_
  show ownEnds _ _ _ _ (T0.setTop (mkF m 0 #[.val (.ref oa)] []))
  refine ownEnds.law (fun t k => XS.aloadN X0.here hx rfl (hb hby d4_0) rfl rfl k) ?_
  show ownEnds _ _ _ _ (T0.setTop (mkF m 1 #[.val (.ref oa)] [(.ref oa)]))
  obtain ⟨T1, X1, e1, st1⟩ := getF X0 hx hZ hown (host := "") (Or.inl (wd_14 hw)) Via.refl e0 F_canastas (g := (mkF m 1 #[.val (.ref oa)] [(.ref oa)])) rfl rfl (hb hby d4_1)
  refine ownEnds.law st1 ?_
  show ownEnds _ _ _ _ (T1.setTop (mkF m 4 #[.val (.ref oa)] [(.int vcanastas)]))
  refine ownEnds.law (fun t k => XS.aloadN X1.here hx rfl (hb hby d4_4) rfl rfl k) ?_
  show ownEnds _ _ _ _ (T1.setTop (mkF m 5 #[.val (.ref oa)] [(.ref oa), (.int vcanastas)]))
  obtain ⟨T2, X2, e2, st2⟩ := getF X1 hx hZ hown (host := "") (Or.inl (wd_16 hw)) Via.refl e1 F_redThrees (g := (mkF m 5 #[.val (.ref oa)] [(.ref oa), (.int vcanastas)])) rfl rfl (hb hby d4_5)
  refine ownEnds.law st2 ?_
  show ownEnds _ _ _ _ (T2.setTop (mkF m 8 #[.val (.ref oa)] [(.int vredThrees), (.int vcanastas)]))
  refine ownEnds.law (fun t k => XS.iadd X2.here hx rfl (hb hby d4_8) rfl (XS.aloadN X2.here hx rfl (hb hby d4_9) rfl rfl k)) ?_
  show ownEnds _ _ _ _ (T2.setTop (mkF m 10 #[.val (.ref oa)] [(.ref oa), (.int (vcanastas + vredThrees))]))
  obtain ⟨T3, X3, e3, st3⟩ := getF X2 hx hZ hown (host := "") (Or.inl (wd_18 hw)) Via.refl e2 F_goingOut (g := (mkF m 10 #[.val (.ref oa)] [(.ref oa), (.int (vcanastas + vredThrees))])) rfl rfl (hb hby d4_10)
  refine ownEnds.law st3 ?_
  show ownEnds _ _ _ _ (T3.setTop (mkF m 13 #[.val (.ref oa)] [(.int vgoingOut), (.int (vcanastas + vredThrees))]))
  refine ownEnds.law (fun t k => XS.iadd X3.here hx rfl (hb hby d4_13) rfl (XS.aloadN X3.here hx rfl (hb hby d4_14) rfl rfl k)) ?_
  show ownEnds _ _ _ _ (T3.setTop (mkF m 15 #[.val (.ref oa)] [(.ref oa), (.int ((vcanastas + vredThrees) + vgoingOut))]))
  obtain ⟨T4, X4, e4, st4⟩ := getF X3 hx hZ hown (host := "") (Or.inl (wd_20 hw)) Via.refl e3 F_melded (g := (mkF m 15 #[.val (.ref oa)] [(.ref oa), (.int ((vcanastas + vredThrees) + vgoingOut))])) rfl rfl (hb hby d4_15)
  refine ownEnds.law st4 ?_
  show ownEnds _ _ _ _ (T4.setTop (mkF m 18 #[.val (.ref oa)] [(.int vmelded), (.int ((vcanastas + vredThrees) + vgoingOut))]))
  refine ownEnds.law (fun t k => XS.iadd X4.here hx rfl (hb hby d4_18) rfl (XS.aloadN X4.here hx rfl (hb hby d4_19) rfl rfl k)) ?_
  show ownEnds _ _ _ _ (T4.setTop (mkF m 20 #[.val (.ref oa)] [(.ref oa), (.int (((vcanastas + vredThrees) + vgoingOut) + vmelded))]))
  obtain ⟨T5, X5, e5, st5⟩ := getF X4 hx hZ hown (host := "") (Or.inl (wd_22 hw)) Via.refl e4 F_inHand (g := (mkF m 20 #[.val (.ref oa)] [(.ref oa), (.int (((vcanastas + vredThrees) + vgoingOut) + vmelded))])) rfl rfl (hb hby d4_20)
  refine ownEnds.law st5 ?_
  show ownEnds _ _ _ _ (T5.setTop (mkF m 23 #[.val (.ref oa)] [(.int vinHand), (.int (((vcanastas + vredThrees) + vgoingOut) + vmelded))]))
  refine ownEnds.law (fun t k => XS.iadd X5.here hx rfl (hb hby d4_23) rfl k) ?_
  show ownEnds _ _ _ _ (T5.setTop (mkF m 24 #[.val (.ref oa)] [(.int ((((vcanastas + vredThrees) + vgoingOut) + vmelded) + vinHand))]))
  refine ownRetI X5 hlk hx hret (hb hby d4_24) (by decide) (by decide) ?_
  exact ⟨rfl, rfl, e5⟩
set_option maxRecDepth 65536 in
set_option maxHeartbeats 40000000 in
theorem rm0 (l : Launch) (Z : State) (a0 : Array Value) (hw : ∀ d ∈ tables_1, d.before a0 Z = true) (xa : Int32) (xb : Int32) (xc : Int32) (xd : Int32) (xe : Int32)  (h0 : Heap) (n0 : Nat) (Z0 : n0 ≤ h0.size)  :
    ownMet l Z x code maxLocals ret tables_1 room_1 #[(.int xa), (.int xb), (.int xc), (.int xd), (.int xe)] h0 (fun v h L => v = some (.int 1) ∧ Fr n0 L) := by
  refine ownMet.of (plainFor_of_name pn_0) ?_
  intro p e s m below meth c T0 hx hby hml hZ hown hnm hret hlk X0 e0
  have hown : s.vm.findClass "com/example/meldwork/meldwork/SideScoreTotalPinLaw" = some m.cls := hown
  have hml : c.maxLocals = 20 := hml
  have hret : meth.sig.returnType = some .boolean := hret
  refine ownEnds.cast (ef_rm0 m xa xb xc xd xe) ?_
  show ownEnds _ _ _ _ (T0.setTop (mkF m 0 #[.val (.int xa), .val (.int xb), .val (.int xc), .val (.int xd), .val (.int xe), .unset, .unset, .unset, .unset, .unset, .unset, .unset, .unset, .unset, .unset, .unset, .unset, .unset, .unset, .unset] []))
  obtain ⟨T1, h1, X1, e1, E1, A1, D1, -, st1⟩ := newO X0 hx hZ hown (wd_0 hw) (wd_1 hw) (wd_2 hw) e0 (g := (mkF m 0 #[.val (.int xa), .val (.int xb), .val (.int xc), .val (.int xd), .val (.int xe), .unset, .unset, .unset, .unset, .unset, .unset, .unset, .unset, .unset, .unset, .unset, .unset, .unset, .unset, .unset] [])) rfl (hb hby at_0) (by decide) (by decide)
  obtain ⟨b1, g1⟩ : ∃ z, z = h0.size := ⟨_, rfl⟩
  rw [← g1] at A1 D1 st1
  refine ownEnds.law st1 ?_
  have g_b1 : n0 ≤ b1 := Nat.le_trans Z0 (Nat.le_of_eq g1.symm)
  have Z1 : n0 ≤ h1.size := Nat.le_trans Z0 E1.1
  have F2 : Fld Z h1 b1 "com/example/meldwork/meldwork/SideScore" "canastas" "I" (.int (0 : Int32)) := D1 (Or.inr (wd_15 hw)) (ty := .int) (by decide)
  have F3 : Fld Z h1 b1 "com/example/meldwork/meldwork/SideScore" "redThrees" "I" (.int (0 : Int32)) := D1 (Or.inr (wd_17 hw)) (ty := .int) (by decide)
  have F4 : Fld Z h1 b1 "com/example/meldwork/meldwork/SideScore" "goingOut" "I" (.int (0 : Int32)) := D1 (Or.inr (wd_19 hw)) (ty := .int) (by decide)
  have F5 : Fld Z h1 b1 "com/example/meldwork/meldwork/SideScore" "melded" "I" (.int (0 : Int32)) := D1 (Or.inr (wd_21 hw)) (ty := .int) (by decide)
  have F6 : Fld Z h1 b1 "com/example/meldwork/meldwork/SideScore" "inHand" "I" (.int (0 : Int32)) := D1 (Or.inr (wd_23 hw)) (ty := .int) (by decide)
  show ownEnds _ _ _ _ (T1.setTop (mkF m 3 #[.val (.int xa), .val (.int xb), .val (.int xc), .val (.int xd), .val (.int xe), .unset, .unset, .unset, .unset, .unset, .unset, .unset, .unset, .unset, .unset, .unset, .unset, .unset, .unset, .unset] [(.ref b1)]))
  refine ownEnds.law (fun t k => XS.dup X1.here hx rfl (hb hby at_3) rfl rfl (XS.iloadN X1.here hx rfl (hb hby at_4) rfl (XS.iloadN X1.here hx rfl (hb hby at_5) rfl (XS.iloadN X1.here hx rfl (hb hby at_6) rfl (XS.iloadN X1.here hx rfl (hb hby at_7) rfl (XS.iload X1.here hx rfl (hb hby at_8) rfl k)))))) ?_
  show ownEnds _ _ _ _ (T1.setTop (mkF m 10 #[.val (.int xa), .val (.int xb), .val (.int xc), .val (.int xd), .val (.int xe), .unset, .unset, .unset, .unset, .unset, .unset, .unset, .unset, .unset, .unset, .unset, .unset, .unset, .unset, .unset] [(.int xe), (.int xd), (.int xc), (.int xb), (.int xa), (.ref b1), (.ref b1)]))
  obtain ⟨v7, T7, L7, X7, hQ7, st7⟩ := ownCallC X1 hx hZ hown (y := (⟨"com/example/meldwork/meldwork/SideScore", "<init>", "(IIIII)V"⟩ : MethodName)) rfl (a := b1) (as := [(.int xa), (.int xb), (.int xc), (.int xd), (.int xe)]) (wd_3 hw) (wd_4 hw) (wd_2 hw) (wd_5 hw) (by decide) (rm1 l Z a0 hw b1 xa xb xc xd xe  h1 n0 Z1 A1 g_b1 F2 F3 F4 F5 F6) e1 1 (by decide) (by decide) (by decide) (by decide) (g := (mkF m 10 #[.val (.int xa), .val (.int xb), .val (.int xc), .val (.int xd), .val (.int xe), .unset, .unset, .unset, .unset, .unset, .unset, .unset, .unset, .unset, .unset, .unset, .unset, .unset, .unset, .unset] [(.int xe), (.int xd), (.int xc), (.int xb), (.int xa), (.ref b1), (.ref b1)])) rfl (by rw [hml]; rfl) (rest := [(.ref b1)]) pd_1 rfl rfl (by show 2 * 0 + _ ≤ _; exact Nat.le_of_eq rfl) (hb hby at_10)
  obtain ⟨rfl, Nq7, Kq7, Eq7, Fc7_0, Fc7_1, Fc7_2, Fc7_3, Fc7_4⟩ := hQ7
  have N7 := Fr.app (Fr.nil n0) Nq7
  have Z7 : n0 ≤ T7.heap.size := Nat.le_trans Z1 Kq7.1
  refine ownEnds.law st7 ?_
  show ownEnds _ _ _ _ (T7.setTop (mkF m 13 #[.val (.int xa), .val (.int xb), .val (.int xc), .val (.int xd), .val (.int xe), .unset, .unset, .unset, .unset, .unset, .unset, .unset, .unset, .unset, .unset, .unset, .unset, .unset, .unset, .unset] [(.ref b1)]))
  refine ownEnds.law (fun t k => XS.astore X7.here hx rfl (hb hby at_13) rfl rfl (l' := #[.val (.int xa), .val (.int xb), .val (.int xc), .val (.int xd), .val (.int xe), .val (.ref b1), .unset, .unset, .unset, .unset, .unset, .unset, .unset, .unset, .unset, .unset, .unset, .unset, .unset, .unset]) rfl k) ?_
  show ownEnds _ _ _ _ (T7.setTop (mkF m 15 #[.val (.int xa), .val (.int xb), .val (.int xc), .val (.int xd), .val (.int xe), .val (.ref b1), .unset, .unset, .unset, .unset, .unset, .unset, .unset, .unset, .unset, .unset, .unset, .unset, .unset, .unset] []))
  obtain ⟨T8, h8, X8, e8, E8, A8, D8, -, st8⟩ := newO X7 hx hZ hown (wd_0 hw) (wd_1 hw) (wd_2 hw) rfl (g := (mkF m 15 #[.val (.int xa), .val (.int xb), .val (.int xc), .val (.int xd), .val (.int xe), .val (.ref b1), .unset, .unset, .unset, .unset, .unset, .unset, .unset, .unset, .unset, .unset, .unset, .unset, .unset, .unset] [])) rfl (hb hby at_15) (by decide) (by decide)
  obtain ⟨b8, g8⟩ : ∃ z, z = T7.heap.size := ⟨_, rfl⟩
  rw [← g8] at A8 D8 st8
  refine ownEnds.law st8 ?_
  have ne_b1_b8 : b1 ≠ b8 := Nat.ne_of_lt (Nat.lt_of_lt_of_eq Eq7.lt g8.symm)
  have g_b8 : n0 ≤ b8 := Nat.le_trans Z7 (Nat.le_of_eq g8.symm)
  have Z8 : n0 ≤ h8.size := Nat.le_trans Z7 E8.1
  have F9 : Fld Z h8 b8 "com/example/meldwork/meldwork/SideScore" "canastas" "I" (.int (0 : Int32)) := D8 (Or.inr (wd_15 hw)) (ty := .int) (by decide)
  have F10 : Fld Z h8 b8 "com/example/meldwork/meldwork/SideScore" "redThrees" "I" (.int (0 : Int32)) := D8 (Or.inr (wd_17 hw)) (ty := .int) (by decide)
  have F11 : Fld Z h8 b8 "com/example/meldwork/meldwork/SideScore" "goingOut" "I" (.int (0 : Int32)) := D8 (Or.inr (wd_19 hw)) (ty := .int) (by decide)
  have F12 : Fld Z h8 b8 "com/example/meldwork/meldwork/SideScore" "melded" "I" (.int (0 : Int32)) := D8 (Or.inr (wd_21 hw)) (ty := .int) (by decide)
  have F13 : Fld Z h8 b8 "com/example/meldwork/meldwork/SideScore" "inHand" "I" (.int (0 : Int32)) := D8 (Or.inr (wd_23 hw)) (ty := .int) (by decide)
  show ownEnds _ _ _ _ (T8.setTop (mkF m 18 #[.val (.int xa), .val (.int xb), .val (.int xc), .val (.int xd), .val (.int xe), .val (.ref b1), .unset, .unset, .unset, .unset, .unset, .unset, .unset, .unset, .unset, .unset, .unset, .unset, .unset, .unset] [(.ref b8)]))
  refine ownEnds.law (fun t k => XS.dup X8.here hx rfl (hb hby at_18) rfl rfl (XS.iconst X8.here hx rfl (hb hby at_19) (XS.iloadN X8.here hx rfl (hb hby at_20) rfl (XS.iloadN X8.here hx rfl (hb hby at_21) rfl (XS.iloadN X8.here hx rfl (hb hby at_22) rfl (XS.iload X8.here hx rfl (hb hby at_23) rfl k)))))) ?_
  show ownEnds _ _ _ _ (T8.setTop (mkF m 25 #[.val (.int xa), .val (.int xb), .val (.int xc), .val (.int xd), .val (.int xe), .val (.ref b1), .unset, .unset, .unset, .unset, .unset, .unset, .unset, .unset, .unset, .unset, .unset, .unset, .unset, .unset] [(.int xe), (.int xd), (.int xc), (.int xb), (.int (0 : Int32)), (.ref b8), (.ref b8)]))
  obtain ⟨v14, T14, L14, X14, hQ14, st14⟩ := ownCallC X8 hx hZ hown (y := (⟨"com/example/meldwork/meldwork/SideScore", "<init>", "(IIIII)V"⟩ : MethodName)) rfl (a := b8) (as := [(.int (0 : Int32)), (.int xb), (.int xc), (.int xd), (.int xe)]) (wd_3 hw) (wd_4 hw) (wd_2 hw) (wd_5 hw) (by decide) (rm1 l Z a0 hw b8 (0 : Int32) xb xc xd xe  h8 n0 Z8 A8 g_b8 F9 F10 F11 F12 F13) e8 1 (by decide) (by decide) (by decide) (by decide) (g := (mkF m 25 #[.val (.int xa), .val (.int xb), .val (.int xc), .val (.int xd), .val (.int xe), .val (.ref b1), .unset, .unset, .unset, .unset, .unset, .unset, .unset, .unset, .unset, .unset, .unset, .unset, .unset, .unset] [(.int xe), (.int xd), (.int xc), (.int xb), (.int (0 : Int32)), (.ref b8), (.ref b8)])) rfl (by rw [hml]; rfl) (rest := [(.ref b8)]) pd_1 rfl rfl (by show 2 * 0 + _ ≤ _; exact Nat.le_of_eq rfl) (hb hby at_25)
  obtain ⟨rfl, Nq14, Kq14, Eq14, Fc14_0, Fc14_1, Fc14_2, Fc14_3, Fc14_4⟩ := hQ14
  have N14 := Fr.app N7 Nq14
  have Z14 : n0 ≤ T14.heap.size := Nat.le_trans Z8 Kq14.1
  refine ownEnds.law st14 ?_
  show ownEnds _ _ _ _ (T14.setTop (mkF m 28 #[.val (.int xa), .val (.int xb), .val (.int xc), .val (.int xd), .val (.int xe), .val (.ref b1), .unset, .unset, .unset, .unset, .unset, .unset, .unset, .unset, .unset, .unset, .unset, .unset, .unset, .unset] [(.ref b8)]))
  refine ownEnds.law (fun t k => XS.astore X14.here hx rfl (hb hby at_28) rfl rfl (l' := #[.val (.int xa), .val (.int xb), .val (.int xc), .val (.int xd), .val (.int xe), .val (.ref b1), .val (.ref b8), .unset, .unset, .unset, .unset, .unset, .unset, .unset, .unset, .unset, .unset, .unset, .unset, .unset]) rfl k) ?_
  show ownEnds _ _ _ _ (T14.setTop (mkF m 30 #[.val (.int xa), .val (.int xb), .val (.int xc), .val (.int xd), .val (.int xe), .val (.ref b1), .val (.ref b8), .unset, .unset, .unset, .unset, .unset, .unset, .unset, .unset, .unset, .unset, .unset, .unset, .unset] []))
  obtain ⟨T15, h15, X15, e15, E15, A15, D15, -, st15⟩ := newO X14 hx hZ hown (wd_0 hw) (wd_1 hw) (wd_2 hw) rfl (g := (mkF m 30 #[.val (.int xa), .val (.int xb), .val (.int xc), .val (.int xd), .val (.int xe), .val (.ref b1), .val (.ref b8), .unset, .unset, .unset, .unset, .unset, .unset, .unset, .unset, .unset, .unset, .unset, .unset, .unset] [])) rfl (hb hby at_30) (by decide) (by decide)
  obtain ⟨b15, g15⟩ : ∃ z, z = T14.heap.size := ⟨_, rfl⟩
  rw [← g15] at A15 D15 st15
  refine ownEnds.law st15 ?_
  have f16 := (Exa.keep (Exa.ext E8 Eq7) Kq14)
  have ne_b1_b15 : b1 ≠ b15 := Nat.ne_of_lt (Nat.lt_of_lt_of_eq f16.lt g15.symm)
  have ne_b8_b15 : b8 ≠ b15 := Nat.ne_of_lt (Nat.lt_of_lt_of_eq Eq14.lt g15.symm)
  have g_b15 : n0 ≤ b15 := Nat.le_trans Z14 (Nat.le_of_eq g15.symm)
  have Z15 : n0 ≤ h15.size := Nat.le_trans Z14 E15.1
  have F17 : Fld Z h15 b15 "com/example/meldwork/meldwork/SideScore" "canastas" "I" (.int (0 : Int32)) := D15 (Or.inr (wd_15 hw)) (ty := .int) (by decide)
  have F18 : Fld Z h15 b15 "com/example/meldwork/meldwork/SideScore" "redThrees" "I" (.int (0 : Int32)) := D15 (Or.inr (wd_17 hw)) (ty := .int) (by decide)
  have F19 : Fld Z h15 b15 "com/example/meldwork/meldwork/SideScore" "goingOut" "I" (.int (0 : Int32)) := D15 (Or.inr (wd_19 hw)) (ty := .int) (by decide)
  have F20 : Fld Z h15 b15 "com/example/meldwork/meldwork/SideScore" "melded" "I" (.int (0 : Int32)) := D15 (Or.inr (wd_21 hw)) (ty := .int) (by decide)
  have F21 : Fld Z h15 b15 "com/example/meldwork/meldwork/SideScore" "inHand" "I" (.int (0 : Int32)) := D15 (Or.inr (wd_23 hw)) (ty := .int) (by decide)
  show ownEnds _ _ _ _ (T15.setTop (mkF m 33 #[.val (.int xa), .val (.int xb), .val (.int xc), .val (.int xd), .val (.int xe), .val (.ref b1), .val (.ref b8), .unset, .unset, .unset, .unset, .unset, .unset, .unset, .unset, .unset, .unset, .unset, .unset, .unset] [(.ref b15)]))
  refine ownEnds.law (fun t k => XS.dup X15.here hx rfl (hb hby at_33) rfl rfl (XS.iconst X15.here hx rfl (hb hby at_34) (XS.iconst X15.here hx rfl (hb hby at_35) (XS.iloadN X15.here hx rfl (hb hby at_36) rfl (XS.iloadN X15.here hx rfl (hb hby at_37) rfl (XS.iload X15.here hx rfl (hb hby at_38) rfl k)))))) ?_
  show ownEnds _ _ _ _ (T15.setTop (mkF m 40 #[.val (.int xa), .val (.int xb), .val (.int xc), .val (.int xd), .val (.int xe), .val (.ref b1), .val (.ref b8), .unset, .unset, .unset, .unset, .unset, .unset, .unset, .unset, .unset, .unset, .unset, .unset, .unset] [(.int xe), (.int xd), (.int xc), (.int (0 : Int32)), (.int (0 : Int32)), (.ref b15), (.ref b15)]))
  obtain ⟨v22, T22, L22, X22, hQ22, st22⟩ := ownCallC X15 hx hZ hown (y := (⟨"com/example/meldwork/meldwork/SideScore", "<init>", "(IIIII)V"⟩ : MethodName)) rfl (a := b15) (as := [(.int (0 : Int32)), (.int (0 : Int32)), (.int xc), (.int xd), (.int xe)]) (wd_3 hw) (wd_4 hw) (wd_2 hw) (wd_5 hw) (by decide) (rm1 l Z a0 hw b15 (0 : Int32) (0 : Int32) xc xd xe  h15 n0 Z15 A15 g_b15 F17 F18 F19 F20 F21) e15 1 (by decide) (by decide) (by decide) (by decide) (g := (mkF m 40 #[.val (.int xa), .val (.int xb), .val (.int xc), .val (.int xd), .val (.int xe), .val (.ref b1), .val (.ref b8), .unset, .unset, .unset, .unset, .unset, .unset, .unset, .unset, .unset, .unset, .unset, .unset, .unset] [(.int xe), (.int xd), (.int xc), (.int (0 : Int32)), (.int (0 : Int32)), (.ref b15), (.ref b15)])) rfl (by rw [hml]; rfl) (rest := [(.ref b15)]) pd_1 rfl rfl (by show 2 * 0 + _ ≤ _; exact Nat.le_of_eq rfl) (hb hby at_40)
  obtain ⟨rfl, Nq22, Kq22, Eq22, Fc22_0, Fc22_1, Fc22_2, Fc22_3, Fc22_4⟩ := hQ22
  have N22 := Fr.app N14 Nq22
  have Z22 : n0 ≤ T22.heap.size := Nat.le_trans Z15 Kq22.1
  refine ownEnds.law st22 ?_
  show ownEnds _ _ _ _ (T22.setTop (mkF m 43 #[.val (.int xa), .val (.int xb), .val (.int xc), .val (.int xd), .val (.int xe), .val (.ref b1), .val (.ref b8), .unset, .unset, .unset, .unset, .unset, .unset, .unset, .unset, .unset, .unset, .unset, .unset, .unset] [(.ref b15)]))
  refine ownEnds.law (fun t k => XS.astore X22.here hx rfl (hb hby at_43) rfl rfl (l' := #[.val (.int xa), .val (.int xb), .val (.int xc), .val (.int xd), .val (.int xe), .val (.ref b1), .val (.ref b8), .val (.ref b15), .unset, .unset, .unset, .unset, .unset, .unset, .unset, .unset, .unset, .unset, .unset, .unset]) rfl k) ?_
  show ownEnds _ _ _ _ (T22.setTop (mkF m 45 #[.val (.int xa), .val (.int xb), .val (.int xc), .val (.int xd), .val (.int xe), .val (.ref b1), .val (.ref b8), .val (.ref b15), .unset, .unset, .unset, .unset, .unset, .unset, .unset, .unset, .unset, .unset, .unset, .unset] []))
  obtain ⟨T23, h23, X23, e23, E23, A23, D23, -, st23⟩ := newO X22 hx hZ hown (wd_0 hw) (wd_1 hw) (wd_2 hw) rfl (g := (mkF m 45 #[.val (.int xa), .val (.int xb), .val (.int xc), .val (.int xd), .val (.int xe), .val (.ref b1), .val (.ref b8), .val (.ref b15), .unset, .unset, .unset, .unset, .unset, .unset, .unset, .unset, .unset, .unset, .unset, .unset] [])) rfl (hb hby at_45) (by decide) (by decide)
  obtain ⟨b23, g23⟩ : ∃ z, z = T22.heap.size := ⟨_, rfl⟩
  rw [← g23] at A23 D23 st23
  refine ownEnds.law st23 ?_
  have f24 := (Exa.keep (Exa.ext E15 f16) Kq22)
  have ne_b1_b23 : b1 ≠ b23 := Nat.ne_of_lt (Nat.lt_of_lt_of_eq f24.lt g23.symm)
  have f25 := (Exa.keep (Exa.ext E15 Eq14) Kq22)
  have ne_b8_b23 : b8 ≠ b23 := Nat.ne_of_lt (Nat.lt_of_lt_of_eq f25.lt g23.symm)
  have ne_b15_b23 : b15 ≠ b23 := Nat.ne_of_lt (Nat.lt_of_lt_of_eq Eq22.lt g23.symm)
  have g_b23 : n0 ≤ b23 := Nat.le_trans Z22 (Nat.le_of_eq g23.symm)
  have Z23 : n0 ≤ h23.size := Nat.le_trans Z22 E23.1
  have F26 : Fld Z h23 b23 "com/example/meldwork/meldwork/SideScore" "canastas" "I" (.int (0 : Int32)) := D23 (Or.inr (wd_15 hw)) (ty := .int) (by decide)
  have F27 : Fld Z h23 b23 "com/example/meldwork/meldwork/SideScore" "redThrees" "I" (.int (0 : Int32)) := D23 (Or.inr (wd_17 hw)) (ty := .int) (by decide)
  have F28 : Fld Z h23 b23 "com/example/meldwork/meldwork/SideScore" "goingOut" "I" (.int (0 : Int32)) := D23 (Or.inr (wd_19 hw)) (ty := .int) (by decide)
  have F29 : Fld Z h23 b23 "com/example/meldwork/meldwork/SideScore" "melded" "I" (.int (0 : Int32)) := D23 (Or.inr (wd_21 hw)) (ty := .int) (by decide)
  have F30 : Fld Z h23 b23 "com/example/meldwork/meldwork/SideScore" "inHand" "I" (.int (0 : Int32)) := D23 (Or.inr (wd_23 hw)) (ty := .int) (by decide)
  show ownEnds _ _ _ _ (T23.setTop (mkF m 48 #[.val (.int xa), .val (.int xb), .val (.int xc), .val (.int xd), .val (.int xe), .val (.ref b1), .val (.ref b8), .val (.ref b15), .unset, .unset, .unset, .unset, .unset, .unset, .unset, .unset, .unset, .unset, .unset, .unset] [(.ref b23)]))
  refine ownEnds.law (fun t k => XS.dup X23.here hx rfl (hb hby at_48) rfl rfl (XS.iconst X23.here hx rfl (hb hby at_49) (XS.iconst X23.here hx rfl (hb hby at_50) (XS.iconst X23.here hx rfl (hb hby at_51) (XS.iloadN X23.here hx rfl (hb hby at_52) rfl (XS.iload X23.here hx rfl (hb hby at_53) rfl k)))))) ?_
  show ownEnds _ _ _ _ (T23.setTop (mkF m 55 #[.val (.int xa), .val (.int xb), .val (.int xc), .val (.int xd), .val (.int xe), .val (.ref b1), .val (.ref b8), .val (.ref b15), .unset, .unset, .unset, .unset, .unset, .unset, .unset, .unset, .unset, .unset, .unset, .unset] [(.int xe), (.int xd), (.int (0 : Int32)), (.int (0 : Int32)), (.int (0 : Int32)), (.ref b23), (.ref b23)]))
  obtain ⟨v31, T31, L31, X31, hQ31, st31⟩ := ownCallC X23 hx hZ hown (y := (⟨"com/example/meldwork/meldwork/SideScore", "<init>", "(IIIII)V"⟩ : MethodName)) rfl (a := b23) (as := [(.int (0 : Int32)), (.int (0 : Int32)), (.int (0 : Int32)), (.int xd), (.int xe)]) (wd_3 hw) (wd_4 hw) (wd_2 hw) (wd_5 hw) (by decide) (rm1 l Z a0 hw b23 (0 : Int32) (0 : Int32) (0 : Int32) xd xe  h23 n0 Z23 A23 g_b23 F26 F27 F28 F29 F30) e23 1 (by decide) (by decide) (by decide) (by decide) (g := (mkF m 55 #[.val (.int xa), .val (.int xb), .val (.int xc), .val (.int xd), .val (.int xe), .val (.ref b1), .val (.ref b8), .val (.ref b15), .unset, .unset, .unset, .unset, .unset, .unset, .unset, .unset, .unset, .unset, .unset, .unset] [(.int xe), (.int xd), (.int (0 : Int32)), (.int (0 : Int32)), (.int (0 : Int32)), (.ref b23), (.ref b23)])) rfl (by rw [hml]; rfl) (rest := [(.ref b23)]) pd_1 rfl rfl (by show 2 * 0 + _ ≤ _; exact Nat.le_of_eq rfl) (hb hby at_55)
  obtain ⟨rfl, Nq31, Kq31, Eq31, Fc31_0, Fc31_1, Fc31_2, Fc31_3, Fc31_4⟩ := hQ31
  have N31 := Fr.app N22 Nq31
  have Z31 : n0 ≤ T31.heap.size := Nat.le_trans Z23 Kq31.1
  refine ownEnds.law st31 ?_
  show ownEnds _ _ _ _ (T31.setTop (mkF m 58 #[.val (.int xa), .val (.int xb), .val (.int xc), .val (.int xd), .val (.int xe), .val (.ref b1), .val (.ref b8), .val (.ref b15), .unset, .unset, .unset, .unset, .unset, .unset, .unset, .unset, .unset, .unset, .unset, .unset] [(.ref b23)]))
  refine ownEnds.law (fun t k => XS.astore X31.here hx rfl (hb hby at_58) rfl rfl (l' := #[.val (.int xa), .val (.int xb), .val (.int xc), .val (.int xd), .val (.int xe), .val (.ref b1), .val (.ref b8), .val (.ref b15), .val (.ref b23), .unset, .unset, .unset, .unset, .unset, .unset, .unset, .unset, .unset, .unset, .unset]) rfl k) ?_
  show ownEnds _ _ _ _ (T31.setTop (mkF m 60 #[.val (.int xa), .val (.int xb), .val (.int xc), .val (.int xd), .val (.int xe), .val (.ref b1), .val (.ref b8), .val (.ref b15), .val (.ref b23), .unset, .unset, .unset, .unset, .unset, .unset, .unset, .unset, .unset, .unset, .unset] []))
  obtain ⟨T32, h32, X32, e32, E32, A32, D32, -, st32⟩ := newO X31 hx hZ hown (wd_0 hw) (wd_1 hw) (wd_2 hw) rfl (g := (mkF m 60 #[.val (.int xa), .val (.int xb), .val (.int xc), .val (.int xd), .val (.int xe), .val (.ref b1), .val (.ref b8), .val (.ref b15), .val (.ref b23), .unset, .unset, .unset, .unset, .unset, .unset, .unset, .unset, .unset, .unset, .unset] [])) rfl (hb hby at_60) (by decide) (by decide)
  obtain ⟨b32, g32⟩ : ∃ z, z = T31.heap.size := ⟨_, rfl⟩
  rw [← g32] at A32 D32 st32
  refine ownEnds.law st32 ?_
  have f33 := (Exa.keep (Exa.ext E23 f24) Kq31)
  have ne_b1_b32 : b1 ≠ b32 := Nat.ne_of_lt (Nat.lt_of_lt_of_eq f33.lt g32.symm)
  have f34 := (Exa.keep (Exa.ext E23 f25) Kq31)
  have ne_b8_b32 : b8 ≠ b32 := Nat.ne_of_lt (Nat.lt_of_lt_of_eq f34.lt g32.symm)
  have f35 := (Exa.keep (Exa.ext E23 Eq22) Kq31)
  have ne_b15_b32 : b15 ≠ b32 := Nat.ne_of_lt (Nat.lt_of_lt_of_eq f35.lt g32.symm)
  have ne_b23_b32 : b23 ≠ b32 := Nat.ne_of_lt (Nat.lt_of_lt_of_eq Eq31.lt g32.symm)
  have g_b32 : n0 ≤ b32 := Nat.le_trans Z31 (Nat.le_of_eq g32.symm)
  have Z32 : n0 ≤ h32.size := Nat.le_trans Z31 E32.1
  have F36 : Fld Z h32 b32 "com/example/meldwork/meldwork/SideScore" "canastas" "I" (.int (0 : Int32)) := D32 (Or.inr (wd_15 hw)) (ty := .int) (by decide)
  have F37 : Fld Z h32 b32 "com/example/meldwork/meldwork/SideScore" "redThrees" "I" (.int (0 : Int32)) := D32 (Or.inr (wd_17 hw)) (ty := .int) (by decide)
  have F38 : Fld Z h32 b32 "com/example/meldwork/meldwork/SideScore" "goingOut" "I" (.int (0 : Int32)) := D32 (Or.inr (wd_19 hw)) (ty := .int) (by decide)
  have F39 : Fld Z h32 b32 "com/example/meldwork/meldwork/SideScore" "melded" "I" (.int (0 : Int32)) := D32 (Or.inr (wd_21 hw)) (ty := .int) (by decide)
  have F40 : Fld Z h32 b32 "com/example/meldwork/meldwork/SideScore" "inHand" "I" (.int (0 : Int32)) := D32 (Or.inr (wd_23 hw)) (ty := .int) (by decide)
  show ownEnds _ _ _ _ (T32.setTop (mkF m 63 #[.val (.int xa), .val (.int xb), .val (.int xc), .val (.int xd), .val (.int xe), .val (.ref b1), .val (.ref b8), .val (.ref b15), .val (.ref b23), .unset, .unset, .unset, .unset, .unset, .unset, .unset, .unset, .unset, .unset, .unset] [(.ref b32)]))
  refine ownEnds.law (fun t k => XS.dup X32.here hx rfl (hb hby at_63) rfl rfl (XS.iconst X32.here hx rfl (hb hby at_64) (XS.iconst X32.here hx rfl (hb hby at_65) (XS.iconst X32.here hx rfl (hb hby at_66) (XS.iconst X32.here hx rfl (hb hby at_67) (XS.iload X32.here hx rfl (hb hby at_68) rfl k)))))) ?_
  show ownEnds _ _ _ _ (T32.setTop (mkF m 70 #[.val (.int xa), .val (.int xb), .val (.int xc), .val (.int xd), .val (.int xe), .val (.ref b1), .val (.ref b8), .val (.ref b15), .val (.ref b23), .unset, .unset, .unset, .unset, .unset, .unset, .unset, .unset, .unset, .unset, .unset] [(.int xe), (.int (0 : Int32)), (.int (0 : Int32)), (.int (0 : Int32)), (.int (0 : Int32)), (.ref b32), (.ref b32)]))
  obtain ⟨v41, T41, L41, X41, hQ41, st41⟩ := ownCallC X32 hx hZ hown (y := (⟨"com/example/meldwork/meldwork/SideScore", "<init>", "(IIIII)V"⟩ : MethodName)) rfl (a := b32) (as := [(.int (0 : Int32)), (.int (0 : Int32)), (.int (0 : Int32)), (.int (0 : Int32)), (.int xe)]) (wd_3 hw) (wd_4 hw) (wd_2 hw) (wd_5 hw) (by decide) (rm1 l Z a0 hw b32 (0 : Int32) (0 : Int32) (0 : Int32) (0 : Int32) xe  h32 n0 Z32 A32 g_b32 F36 F37 F38 F39 F40) e32 1 (by decide) (by decide) (by decide) (by decide) (g := (mkF m 70 #[.val (.int xa), .val (.int xb), .val (.int xc), .val (.int xd), .val (.int xe), .val (.ref b1), .val (.ref b8), .val (.ref b15), .val (.ref b23), .unset, .unset, .unset, .unset, .unset, .unset, .unset, .unset, .unset, .unset, .unset] [(.int xe), (.int (0 : Int32)), (.int (0 : Int32)), (.int (0 : Int32)), (.int (0 : Int32)), (.ref b32), (.ref b32)])) rfl (by rw [hml]; rfl) (rest := [(.ref b32)]) pd_1 rfl rfl (by show 2 * 0 + _ ≤ _; exact Nat.le_of_eq rfl) (hb hby at_70)
  obtain ⟨rfl, Nq41, Kq41, Eq41, Fc41_0, Fc41_1, Fc41_2, Fc41_3, Fc41_4⟩ := hQ41
  have N41 := Fr.app N31 Nq41
  have Z41 : n0 ≤ T41.heap.size := Nat.le_trans Z32 Kq41.1
  refine ownEnds.law st41 ?_
  show ownEnds _ _ _ _ (T41.setTop (mkF m 73 #[.val (.int xa), .val (.int xb), .val (.int xc), .val (.int xd), .val (.int xe), .val (.ref b1), .val (.ref b8), .val (.ref b15), .val (.ref b23), .unset, .unset, .unset, .unset, .unset, .unset, .unset, .unset, .unset, .unset, .unset] [(.ref b32)]))
  refine ownEnds.law (fun t k => XS.astore X41.here hx rfl (hb hby at_73) rfl rfl (l' := #[.val (.int xa), .val (.int xb), .val (.int xc), .val (.int xd), .val (.int xe), .val (.ref b1), .val (.ref b8), .val (.ref b15), .val (.ref b23), .val (.ref b32), .unset, .unset, .unset, .unset, .unset, .unset, .unset, .unset, .unset, .unset]) rfl (XS.aload X41.here hx rfl (hb hby at_75) rfl rfl k)) ?_
  show ownEnds _ _ _ _ (T41.setTop (mkF m 77 #[.val (.int xa), .val (.int xb), .val (.int xc), .val (.int xd), .val (.int xe), .val (.ref b1), .val (.ref b8), .val (.ref b15), .val (.ref b23), .val (.ref b32), .unset, .unset, .unset, .unset, .unset, .unset, .unset, .unset, .unset, .unset] [(.ref b1)]))
  have f43 := (Fld.keep (Fld.ext E32 (Fld.keep (Fld.ext E23 (Fld.keep (Fld.ext E15 (Fld.keep (Fld.ext E8 Fc7_0) Kq14 (ninS ne_b1_b8 nin0))) Kq22 (ninS ne_b1_b15 nin0))) Kq31 (ninS ne_b1_b23 nin0))) Kq41 (ninS ne_b1_b32 nin0))
  have f44 := (Fld.keep (Fld.ext E32 (Fld.keep (Fld.ext E23 (Fld.keep (Fld.ext E15 (Fld.keep (Fld.ext E8 Fc7_1) Kq14 (ninS ne_b1_b8 nin0))) Kq22 (ninS ne_b1_b15 nin0))) Kq31 (ninS ne_b1_b23 nin0))) Kq41 (ninS ne_b1_b32 nin0))
  have f45 := (Fld.keep (Fld.ext E32 (Fld.keep (Fld.ext E23 (Fld.keep (Fld.ext E15 (Fld.keep (Fld.ext E8 Fc7_2) Kq14 (ninS ne_b1_b8 nin0))) Kq22 (ninS ne_b1_b15 nin0))) Kq31 (ninS ne_b1_b23 nin0))) Kq41 (ninS ne_b1_b32 nin0))
  have f46 := (Fld.keep (Fld.ext E32 (Fld.keep (Fld.ext E23 (Fld.keep (Fld.ext E15 (Fld.keep (Fld.ext E8 Fc7_3) Kq14 (ninS ne_b1_b8 nin0))) Kq22 (ninS ne_b1_b15 nin0))) Kq31 (ninS ne_b1_b23 nin0))) Kq41 (ninS ne_b1_b32 nin0))
  have f47 := (Fld.keep (Fld.ext E32 (Fld.keep (Fld.ext E23 (Fld.keep (Fld.ext E15 (Fld.keep (Fld.ext E8 Fc7_4) Kq14 (ninS ne_b1_b8 nin0))) Kq22 (ninS ne_b1_b15 nin0))) Kq31 (ninS ne_b1_b23 nin0))) Kq41 (ninS ne_b1_b32 nin0))
  have f48 := (Exa.keep (Exa.ext E32 f33) Kq41)
  obtain ⟨v42, T42, L42, X42, hQ42, st42⟩ := ownCallV X41 hx hZ hown (y := (⟨"com/example/meldwork/meldwork/SideScore", "total", "()I"⟩ : MethodName)) (z := (⟨"com/example/meldwork/meldwork/SideScore", "total", "()I"⟩ : MethodName)) (a := b1) (as := []) (wd_24 hw) (wd_25 hw) (notFace_of_selects (args := #[]) (mvT hZ (wd_27 hw))) (wd_27 hw) (wd_26 hw) (wd_2 hw) (wd_28 hw) (by decide) (rm4 l Z a0 hw b1 xa xb xc xd xe T41.heap n0 Z41 f43 f44 f45 f46 f47) rfl f48 0 (by decide) (by decide) (by decide) (by decide) (g := (mkF m 77 #[.val (.int xa), .val (.int xb), .val (.int xc), .val (.int xd), .val (.int xe), .val (.ref b1), .val (.ref b8), .val (.ref b15), .val (.ref b23), .val (.ref b32), .unset, .unset, .unset, .unset, .unset, .unset, .unset, .unset, .unset, .unset] [(.ref b1)])) rfl (by rw [hml]; rfl) (rest := []) pd_2 rfl rfl (by show 2 * 0 + _ ≤ _; exact Nat.le_of_eq rfl) (hb hby at_77)
  obtain ⟨rfl, rfl, e42⟩ := hQ42
  rw [List.append_nil] at X42
  refine ownEnds.law st42 ?_
  show ownEnds _ _ _ _ (T42.setTop (mkF m 80 #[.val (.int xa), .val (.int xb), .val (.int xc), .val (.int xd), .val (.int xe), .val (.ref b1), .val (.ref b8), .val (.ref b15), .val (.ref b23), .val (.ref b32), .unset, .unset, .unset, .unset, .unset, .unset, .unset, .unset, .unset, .unset] [(.int ((((xa + xb) + xc) + xd) + xe))]))
  refine ownEnds.law (fun t k => XS.istore X42.here hx rfl (hb hby at_80) rfl (l' := #[.val (.int xa), .val (.int xb), .val (.int xc), .val (.int xd), .val (.int xe), .val (.ref b1), .val (.ref b8), .val (.ref b15), .val (.ref b23), .val (.ref b32), .val (.int ((((xa + xb) + xc) + xd) + xe)), .unset, .unset, .unset, .unset, .unset, .unset, .unset, .unset, .unset]) rfl (XS.aload X42.here hx rfl (hb hby at_82) rfl rfl k)) ?_
  show ownEnds _ _ _ _ (T42.setTop (mkF m 84 #[.val (.int xa), .val (.int xb), .val (.int xc), .val (.int xd), .val (.int xe), .val (.ref b1), .val (.ref b8), .val (.ref b15), .val (.ref b23), .val (.ref b32), .val (.int ((((xa + xb) + xc) + xd) + xe)), .unset, .unset, .unset, .unset, .unset, .unset, .unset, .unset, .unset] [(.ref b8)]))
  have f50 := (Fld.keep (Fld.ext E32 (Fld.keep (Fld.ext E23 (Fld.keep (Fld.ext E15 Fc14_0) Kq22 (ninS ne_b8_b15 nin0))) Kq31 (ninS ne_b8_b23 nin0))) Kq41 (ninS ne_b8_b32 nin0))
  have f51 := (Fld.keep (Fld.ext E32 (Fld.keep (Fld.ext E23 (Fld.keep (Fld.ext E15 Fc14_1) Kq22 (ninS ne_b8_b15 nin0))) Kq31 (ninS ne_b8_b23 nin0))) Kq41 (ninS ne_b8_b32 nin0))
  have f52 := (Fld.keep (Fld.ext E32 (Fld.keep (Fld.ext E23 (Fld.keep (Fld.ext E15 Fc14_2) Kq22 (ninS ne_b8_b15 nin0))) Kq31 (ninS ne_b8_b23 nin0))) Kq41 (ninS ne_b8_b32 nin0))
  have f53 := (Fld.keep (Fld.ext E32 (Fld.keep (Fld.ext E23 (Fld.keep (Fld.ext E15 Fc14_3) Kq22 (ninS ne_b8_b15 nin0))) Kq31 (ninS ne_b8_b23 nin0))) Kq41 (ninS ne_b8_b32 nin0))
  have f54 := (Fld.keep (Fld.ext E32 (Fld.keep (Fld.ext E23 (Fld.keep (Fld.ext E15 Fc14_4) Kq22 (ninS ne_b8_b15 nin0))) Kq31 (ninS ne_b8_b23 nin0))) Kq41 (ninS ne_b8_b32 nin0))
  have f55 := (Exa.keep (Exa.ext E32 f34) Kq41)
  obtain ⟨v49, T49, L49, X49, hQ49, st49⟩ := ownCallV X42 hx hZ hown (y := (⟨"com/example/meldwork/meldwork/SideScore", "total", "()I"⟩ : MethodName)) (z := (⟨"com/example/meldwork/meldwork/SideScore", "total", "()I"⟩ : MethodName)) (a := b8) (as := []) (wd_24 hw) (wd_25 hw) (notFace_of_selects (args := #[]) (mvT hZ (wd_27 hw))) (wd_27 hw) (wd_26 hw) (wd_2 hw) (wd_28 hw) (by decide) (rm4 l Z a0 hw b8 (0 : Int32) xb xc xd xe T41.heap n0 Z41 f50 f51 f52 f53 f54) e42 f55 0 (by decide) (by decide) (by decide) (by decide) (g := (mkF m 84 #[.val (.int xa), .val (.int xb), .val (.int xc), .val (.int xd), .val (.int xe), .val (.ref b1), .val (.ref b8), .val (.ref b15), .val (.ref b23), .val (.ref b32), .val (.int ((((xa + xb) + xc) + xd) + xe)), .unset, .unset, .unset, .unset, .unset, .unset, .unset, .unset, .unset] [(.ref b8)])) rfl (by rw [hml]; rfl) (rest := []) pd_2 rfl rfl (by show 2 * 0 + _ ≤ _; exact Nat.le_of_eq rfl) (hb hby at_84)
  obtain ⟨rfl, rfl, e49⟩ := hQ49
  rw [List.append_nil] at X49
  refine ownEnds.law st49 ?_
  show ownEnds _ _ _ _ (T49.setTop (mkF m 87 #[.val (.int xa), .val (.int xb), .val (.int xc), .val (.int xd), .val (.int xe), .val (.ref b1), .val (.ref b8), .val (.ref b15), .val (.ref b23), .val (.ref b32), .val (.int ((((xa + xb) + xc) + xd) + xe)), .unset, .unset, .unset, .unset, .unset, .unset, .unset, .unset, .unset] [(.int (((((0 : Int32) + xb) + xc) + xd) + xe))]))
  refine ownEnds.law (fun t k => XS.istore X49.here hx rfl (hb hby at_87) rfl (l' := #[.val (.int xa), .val (.int xb), .val (.int xc), .val (.int xd), .val (.int xe), .val (.ref b1), .val (.ref b8), .val (.ref b15), .val (.ref b23), .val (.ref b32), .val (.int ((((xa + xb) + xc) + xd) + xe)), .val (.int (((((0 : Int32) + xb) + xc) + xd) + xe)), .unset, .unset, .unset, .unset, .unset, .unset, .unset, .unset]) rfl (XS.aload X49.here hx rfl (hb hby at_89) rfl rfl k)) ?_
  show ownEnds _ _ _ _ (T49.setTop (mkF m 91 #[.val (.int xa), .val (.int xb), .val (.int xc), .val (.int xd), .val (.int xe), .val (.ref b1), .val (.ref b8), .val (.ref b15), .val (.ref b23), .val (.ref b32), .val (.int ((((xa + xb) + xc) + xd) + xe)), .val (.int (((((0 : Int32) + xb) + xc) + xd) + xe)), .unset, .unset, .unset, .unset, .unset, .unset, .unset, .unset] [(.ref b15)]))
  have f57 := (Fld.keep (Fld.ext E32 (Fld.keep (Fld.ext E23 Fc22_0) Kq31 (ninS ne_b15_b23 nin0))) Kq41 (ninS ne_b15_b32 nin0))
  have f58 := (Fld.keep (Fld.ext E32 (Fld.keep (Fld.ext E23 Fc22_1) Kq31 (ninS ne_b15_b23 nin0))) Kq41 (ninS ne_b15_b32 nin0))
  have f59 := (Fld.keep (Fld.ext E32 (Fld.keep (Fld.ext E23 Fc22_2) Kq31 (ninS ne_b15_b23 nin0))) Kq41 (ninS ne_b15_b32 nin0))
  have f60 := (Fld.keep (Fld.ext E32 (Fld.keep (Fld.ext E23 Fc22_3) Kq31 (ninS ne_b15_b23 nin0))) Kq41 (ninS ne_b15_b32 nin0))
  have f61 := (Fld.keep (Fld.ext E32 (Fld.keep (Fld.ext E23 Fc22_4) Kq31 (ninS ne_b15_b23 nin0))) Kq41 (ninS ne_b15_b32 nin0))
  have f62 := (Exa.keep (Exa.ext E32 f35) Kq41)
  obtain ⟨v56, T56, L56, X56, hQ56, st56⟩ := ownCallV X49 hx hZ hown (y := (⟨"com/example/meldwork/meldwork/SideScore", "total", "()I"⟩ : MethodName)) (z := (⟨"com/example/meldwork/meldwork/SideScore", "total", "()I"⟩ : MethodName)) (a := b15) (as := []) (wd_24 hw) (wd_25 hw) (notFace_of_selects (args := #[]) (mvT hZ (wd_27 hw))) (wd_27 hw) (wd_26 hw) (wd_2 hw) (wd_28 hw) (by decide) (rm4 l Z a0 hw b15 (0 : Int32) (0 : Int32) xc xd xe T41.heap n0 Z41 f57 f58 f59 f60 f61) e49 f62 0 (by decide) (by decide) (by decide) (by decide) (g := (mkF m 91 #[.val (.int xa), .val (.int xb), .val (.int xc), .val (.int xd), .val (.int xe), .val (.ref b1), .val (.ref b8), .val (.ref b15), .val (.ref b23), .val (.ref b32), .val (.int ((((xa + xb) + xc) + xd) + xe)), .val (.int (((((0 : Int32) + xb) + xc) + xd) + xe)), .unset, .unset, .unset, .unset, .unset, .unset, .unset, .unset] [(.ref b15)])) rfl (by rw [hml]; rfl) (rest := []) pd_2 rfl rfl (by show 2 * 0 + _ ≤ _; exact Nat.le_of_eq rfl) (hb hby at_91)
  obtain ⟨rfl, rfl, e56⟩ := hQ56
  rw [List.append_nil] at X56
  refine ownEnds.law st56 ?_
  show ownEnds _ _ _ _ (T56.setTop (mkF m 94 #[.val (.int xa), .val (.int xb), .val (.int xc), .val (.int xd), .val (.int xe), .val (.ref b1), .val (.ref b8), .val (.ref b15), .val (.ref b23), .val (.ref b32), .val (.int ((((xa + xb) + xc) + xd) + xe)), .val (.int (((((0 : Int32) + xb) + xc) + xd) + xe)), .unset, .unset, .unset, .unset, .unset, .unset, .unset, .unset] [(.int (((((0 : Int32) + (0 : Int32)) + xc) + xd) + xe))]))
  refine ownEnds.law (fun t k => XS.istore X56.here hx rfl (hb hby at_94) rfl (l' := #[.val (.int xa), .val (.int xb), .val (.int xc), .val (.int xd), .val (.int xe), .val (.ref b1), .val (.ref b8), .val (.ref b15), .val (.ref b23), .val (.ref b32), .val (.int ((((xa + xb) + xc) + xd) + xe)), .val (.int (((((0 : Int32) + xb) + xc) + xd) + xe)), .val (.int (((((0 : Int32) + (0 : Int32)) + xc) + xd) + xe)), .unset, .unset, .unset, .unset, .unset, .unset, .unset]) rfl (XS.aload X56.here hx rfl (hb hby at_96) rfl rfl k)) ?_
  show ownEnds _ _ _ _ (T56.setTop (mkF m 98 #[.val (.int xa), .val (.int xb), .val (.int xc), .val (.int xd), .val (.int xe), .val (.ref b1), .val (.ref b8), .val (.ref b15), .val (.ref b23), .val (.ref b32), .val (.int ((((xa + xb) + xc) + xd) + xe)), .val (.int (((((0 : Int32) + xb) + xc) + xd) + xe)), .val (.int (((((0 : Int32) + (0 : Int32)) + xc) + xd) + xe)), .unset, .unset, .unset, .unset, .unset, .unset, .unset] [(.ref b23)]))
  have f64 := (Fld.keep (Fld.ext E32 Fc31_0) Kq41 (ninS ne_b23_b32 nin0))
  have f65 := (Fld.keep (Fld.ext E32 Fc31_1) Kq41 (ninS ne_b23_b32 nin0))
  have f66 := (Fld.keep (Fld.ext E32 Fc31_2) Kq41 (ninS ne_b23_b32 nin0))
  have f67 := (Fld.keep (Fld.ext E32 Fc31_3) Kq41 (ninS ne_b23_b32 nin0))
  have f68 := (Fld.keep (Fld.ext E32 Fc31_4) Kq41 (ninS ne_b23_b32 nin0))
  have f69 := (Exa.keep (Exa.ext E32 Eq31) Kq41)
  obtain ⟨v63, T63, L63, X63, hQ63, st63⟩ := ownCallV X56 hx hZ hown (y := (⟨"com/example/meldwork/meldwork/SideScore", "total", "()I"⟩ : MethodName)) (z := (⟨"com/example/meldwork/meldwork/SideScore", "total", "()I"⟩ : MethodName)) (a := b23) (as := []) (wd_24 hw) (wd_25 hw) (notFace_of_selects (args := #[]) (mvT hZ (wd_27 hw))) (wd_27 hw) (wd_26 hw) (wd_2 hw) (wd_28 hw) (by decide) (rm4 l Z a0 hw b23 (0 : Int32) (0 : Int32) (0 : Int32) xd xe T41.heap n0 Z41 f64 f65 f66 f67 f68) e56 f69 0 (by decide) (by decide) (by decide) (by decide) (g := (mkF m 98 #[.val (.int xa), .val (.int xb), .val (.int xc), .val (.int xd), .val (.int xe), .val (.ref b1), .val (.ref b8), .val (.ref b15), .val (.ref b23), .val (.ref b32), .val (.int ((((xa + xb) + xc) + xd) + xe)), .val (.int (((((0 : Int32) + xb) + xc) + xd) + xe)), .val (.int (((((0 : Int32) + (0 : Int32)) + xc) + xd) + xe)), .unset, .unset, .unset, .unset, .unset, .unset, .unset] [(.ref b23)])) rfl (by rw [hml]; rfl) (rest := []) pd_2 rfl rfl (by show 2 * 0 + _ ≤ _; exact Nat.le_of_eq rfl) (hb hby at_98)
  obtain ⟨rfl, rfl, e63⟩ := hQ63
  rw [List.append_nil] at X63
  refine ownEnds.law st63 ?_
  show ownEnds _ _ _ _ (T63.setTop (mkF m 101 #[.val (.int xa), .val (.int xb), .val (.int xc), .val (.int xd), .val (.int xe), .val (.ref b1), .val (.ref b8), .val (.ref b15), .val (.ref b23), .val (.ref b32), .val (.int ((((xa + xb) + xc) + xd) + xe)), .val (.int (((((0 : Int32) + xb) + xc) + xd) + xe)), .val (.int (((((0 : Int32) + (0 : Int32)) + xc) + xd) + xe)), .unset, .unset, .unset, .unset, .unset, .unset, .unset] [(.int (((((0 : Int32) + (0 : Int32)) + (0 : Int32)) + xd) + xe))]))
  refine ownEnds.law (fun t k => XS.istore X63.here hx rfl (hb hby at_101) rfl (l' := #[.val (.int xa), .val (.int xb), .val (.int xc), .val (.int xd), .val (.int xe), .val (.ref b1), .val (.ref b8), .val (.ref b15), .val (.ref b23), .val (.ref b32), .val (.int ((((xa + xb) + xc) + xd) + xe)), .val (.int (((((0 : Int32) + xb) + xc) + xd) + xe)), .val (.int (((((0 : Int32) + (0 : Int32)) + xc) + xd) + xe)), .val (.int (((((0 : Int32) + (0 : Int32)) + (0 : Int32)) + xd) + xe)), .unset, .unset, .unset, .unset, .unset, .unset]) rfl (XS.aload X63.here hx rfl (hb hby at_103) rfl rfl k)) ?_
  show ownEnds _ _ _ _ (T63.setTop (mkF m 105 #[.val (.int xa), .val (.int xb), .val (.int xc), .val (.int xd), .val (.int xe), .val (.ref b1), .val (.ref b8), .val (.ref b15), .val (.ref b23), .val (.ref b32), .val (.int ((((xa + xb) + xc) + xd) + xe)), .val (.int (((((0 : Int32) + xb) + xc) + xd) + xe)), .val (.int (((((0 : Int32) + (0 : Int32)) + xc) + xd) + xe)), .val (.int (((((0 : Int32) + (0 : Int32)) + (0 : Int32)) + xd) + xe)), .unset, .unset, .unset, .unset, .unset, .unset] [(.ref b32)]))
  obtain ⟨v70, T70, L70, X70, hQ70, st70⟩ := ownCallV X63 hx hZ hown (y := (⟨"com/example/meldwork/meldwork/SideScore", "total", "()I"⟩ : MethodName)) (z := (⟨"com/example/meldwork/meldwork/SideScore", "total", "()I"⟩ : MethodName)) (a := b32) (as := []) (wd_24 hw) (wd_25 hw) (notFace_of_selects (args := #[]) (mvT hZ (wd_27 hw))) (wd_27 hw) (wd_26 hw) (wd_2 hw) (wd_28 hw) (by decide) (rm4 l Z a0 hw b32 (0 : Int32) (0 : Int32) (0 : Int32) (0 : Int32) xe T41.heap n0 Z41 Fc41_0 Fc41_1 Fc41_2 Fc41_3 Fc41_4) e63 Eq41 0 (by decide) (by decide) (by decide) (by decide) (g := (mkF m 105 #[.val (.int xa), .val (.int xb), .val (.int xc), .val (.int xd), .val (.int xe), .val (.ref b1), .val (.ref b8), .val (.ref b15), .val (.ref b23), .val (.ref b32), .val (.int ((((xa + xb) + xc) + xd) + xe)), .val (.int (((((0 : Int32) + xb) + xc) + xd) + xe)), .val (.int (((((0 : Int32) + (0 : Int32)) + xc) + xd) + xe)), .val (.int (((((0 : Int32) + (0 : Int32)) + (0 : Int32)) + xd) + xe)), .unset, .unset, .unset, .unset, .unset, .unset] [(.ref b32)])) rfl (by rw [hml]; rfl) (rest := []) pd_2 rfl rfl (by show 2 * 0 + _ ≤ _; exact Nat.le_of_eq rfl) (hb hby at_105)
  obtain ⟨rfl, rfl, e70⟩ := hQ70
  rw [List.append_nil] at X70
  refine ownEnds.law st70 ?_
  show ownEnds _ _ _ _ (T70.setTop (mkF m 108 #[.val (.int xa), .val (.int xb), .val (.int xc), .val (.int xd), .val (.int xe), .val (.ref b1), .val (.ref b8), .val (.ref b15), .val (.ref b23), .val (.ref b32), .val (.int ((((xa + xb) + xc) + xd) + xe)), .val (.int (((((0 : Int32) + xb) + xc) + xd) + xe)), .val (.int (((((0 : Int32) + (0 : Int32)) + xc) + xd) + xe)), .val (.int (((((0 : Int32) + (0 : Int32)) + (0 : Int32)) + xd) + xe)), .unset, .unset, .unset, .unset, .unset, .unset] [(.int (((((0 : Int32) + (0 : Int32)) + (0 : Int32)) + (0 : Int32)) + xe))]))
  refine ownEnds.law (fun t k => XS.istore X70.here hx rfl (hb hby at_108) rfl (l' := #[.val (.int xa), .val (.int xb), .val (.int xc), .val (.int xd), .val (.int xe), .val (.ref b1), .val (.ref b8), .val (.ref b15), .val (.ref b23), .val (.ref b32), .val (.int ((((xa + xb) + xc) + xd) + xe)), .val (.int (((((0 : Int32) + xb) + xc) + xd) + xe)), .val (.int (((((0 : Int32) + (0 : Int32)) + xc) + xd) + xe)), .val (.int (((((0 : Int32) + (0 : Int32)) + (0 : Int32)) + xd) + xe)), .val (.int (((((0 : Int32) + (0 : Int32)) + (0 : Int32)) + (0 : Int32)) + xe)), .unset, .unset, .unset, .unset, .unset]) rfl (XS.iload X70.here hx rfl (hb hby at_110) rfl (XS.iload X70.here hx rfl (hb hby at_112) rfl (XS.iloadN X70.here hx rfl (hb hby at_114) rfl (XS.iadd X70.here hx rfl (hb hby at_115) rfl k))))) ?_
  show ownEnds _ _ _ _ (T70.setTop (mkF m 116 #[.val (.int xa), .val (.int xb), .val (.int xc), .val (.int xd), .val (.int xe), .val (.ref b1), .val (.ref b8), .val (.ref b15), .val (.ref b23), .val (.ref b32), .val (.int ((((xa + xb) + xc) + xd) + xe)), .val (.int (((((0 : Int32) + xb) + xc) + xd) + xe)), .val (.int (((((0 : Int32) + (0 : Int32)) + xc) + xd) + xe)), .val (.int (((((0 : Int32) + (0 : Int32)) + (0 : Int32)) + xd) + xe)), .val (.int (((((0 : Int32) + (0 : Int32)) + (0 : Int32)) + (0 : Int32)) + xe)), .unset, .unset, .unset, .unset, .unset] [(.int ((((((0 : Int32) + xb) + xc) + xd) + xe) + xa)), (.int ((((xa + xb) + xc) + xd) + xe))]))
  have hc116 : ((((xa + xb) + xc) + xd) + xe) = ((((((0 : Int32) + xb) + xc) + xd) + xe) + xa) := (own_t xa xb xc xd xe).1
  refine ownEnds.law (fun t => XS.icmpNo X70.here hx rfl (hb hby at_116) rfl (teq hc116).2) ?_
  show ownEnds _ _ _ _ (T70.setTop (mkF m 119 #[.val (.int xa), .val (.int xb), .val (.int xc), .val (.int xd), .val (.int xe), .val (.ref b1), .val (.ref b8), .val (.ref b15), .val (.ref b23), .val (.ref b32), .val (.int ((((xa + xb) + xc) + xd) + xe)), .val (.int (((((0 : Int32) + xb) + xc) + xd) + xe)), .val (.int (((((0 : Int32) + (0 : Int32)) + xc) + xd) + xe)), .val (.int (((((0 : Int32) + (0 : Int32)) + (0 : Int32)) + xd) + xe)), .val (.int (((((0 : Int32) + (0 : Int32)) + (0 : Int32)) + (0 : Int32)) + xe)), .unset, .unset, .unset, .unset, .unset] []))
  refine ownEnds.law (fun t k => XS.iconst X70.here hx rfl (hb hby at_119) (XS.goto X70.here hx rfl (pc0 := 120) (pc' := 124) rfl (hb hby at_120) (by decide) (by decide) (XS.istore X70.here hx rfl (hb hby at_124) rfl (l' := #[.val (.int xa), .val (.int xb), .val (.int xc), .val (.int xd), .val (.int xe), .val (.ref b1), .val (.ref b8), .val (.ref b15), .val (.ref b23), .val (.ref b32), .val (.int ((((xa + xb) + xc) + xd) + xe)), .val (.int (((((0 : Int32) + xb) + xc) + xd) + xe)), .val (.int (((((0 : Int32) + (0 : Int32)) + xc) + xd) + xe)), .val (.int (((((0 : Int32) + (0 : Int32)) + (0 : Int32)) + xd) + xe)), .val (.int (((((0 : Int32) + (0 : Int32)) + (0 : Int32)) + (0 : Int32)) + xe)), .val (.int (1 : Int32)), .unset, .unset, .unset, .unset]) rfl (XS.iload X70.here hx rfl (hb hby at_126) rfl (XS.iload X70.here hx rfl (hb hby at_128) rfl (XS.iloadN X70.here hx rfl (hb hby at_130) rfl (XS.iadd X70.here hx rfl (hb hby at_131) rfl k))))))) ?_
  show ownEnds _ _ _ _ (T70.setTop (mkF m 132 #[.val (.int xa), .val (.int xb), .val (.int xc), .val (.int xd), .val (.int xe), .val (.ref b1), .val (.ref b8), .val (.ref b15), .val (.ref b23), .val (.ref b32), .val (.int ((((xa + xb) + xc) + xd) + xe)), .val (.int (((((0 : Int32) + xb) + xc) + xd) + xe)), .val (.int (((((0 : Int32) + (0 : Int32)) + xc) + xd) + xe)), .val (.int (((((0 : Int32) + (0 : Int32)) + (0 : Int32)) + xd) + xe)), .val (.int (((((0 : Int32) + (0 : Int32)) + (0 : Int32)) + (0 : Int32)) + xe)), .val (.int (1 : Int32)), .unset, .unset, .unset, .unset] [(.int ((((((0 : Int32) + (0 : Int32)) + xc) + xd) + xe) + xb)), (.int (((((0 : Int32) + xb) + xc) + xd) + xe))]))
  have hc132 : (((((0 : Int32) + xb) + xc) + xd) + xe) = ((((((0 : Int32) + (0 : Int32)) + xc) + xd) + xe) + xb) := (own_t xa xb xc xd xe).2.1
  refine ownEnds.law (fun t => XS.icmpNo X70.here hx rfl (hb hby at_132) rfl (teq hc132).2) ?_
  show ownEnds _ _ _ _ (T70.setTop (mkF m 135 #[.val (.int xa), .val (.int xb), .val (.int xc), .val (.int xd), .val (.int xe), .val (.ref b1), .val (.ref b8), .val (.ref b15), .val (.ref b23), .val (.ref b32), .val (.int ((((xa + xb) + xc) + xd) + xe)), .val (.int (((((0 : Int32) + xb) + xc) + xd) + xe)), .val (.int (((((0 : Int32) + (0 : Int32)) + xc) + xd) + xe)), .val (.int (((((0 : Int32) + (0 : Int32)) + (0 : Int32)) + xd) + xe)), .val (.int (((((0 : Int32) + (0 : Int32)) + (0 : Int32)) + (0 : Int32)) + xe)), .val (.int (1 : Int32)), .unset, .unset, .unset, .unset] []))
  refine ownEnds.law (fun t k => XS.iconst X70.here hx rfl (hb hby at_135) (XS.goto X70.here hx rfl (pc0 := 136) (pc' := 140) rfl (hb hby at_136) (by decide) (by decide) (XS.istore X70.here hx rfl (hb hby at_140) rfl (l' := #[.val (.int xa), .val (.int xb), .val (.int xc), .val (.int xd), .val (.int xe), .val (.ref b1), .val (.ref b8), .val (.ref b15), .val (.ref b23), .val (.ref b32), .val (.int ((((xa + xb) + xc) + xd) + xe)), .val (.int (((((0 : Int32) + xb) + xc) + xd) + xe)), .val (.int (((((0 : Int32) + (0 : Int32)) + xc) + xd) + xe)), .val (.int (((((0 : Int32) + (0 : Int32)) + (0 : Int32)) + xd) + xe)), .val (.int (((((0 : Int32) + (0 : Int32)) + (0 : Int32)) + (0 : Int32)) + xe)), .val (.int (1 : Int32)), .val (.int (1 : Int32)), .unset, .unset, .unset]) rfl (XS.iload X70.here hx rfl (hb hby at_142) rfl (XS.iload X70.here hx rfl (hb hby at_144) rfl (XS.iloadN X70.here hx rfl (hb hby at_146) rfl (XS.iadd X70.here hx rfl (hb hby at_147) rfl k))))))) ?_
  show ownEnds _ _ _ _ (T70.setTop (mkF m 148 #[.val (.int xa), .val (.int xb), .val (.int xc), .val (.int xd), .val (.int xe), .val (.ref b1), .val (.ref b8), .val (.ref b15), .val (.ref b23), .val (.ref b32), .val (.int ((((xa + xb) + xc) + xd) + xe)), .val (.int (((((0 : Int32) + xb) + xc) + xd) + xe)), .val (.int (((((0 : Int32) + (0 : Int32)) + xc) + xd) + xe)), .val (.int (((((0 : Int32) + (0 : Int32)) + (0 : Int32)) + xd) + xe)), .val (.int (((((0 : Int32) + (0 : Int32)) + (0 : Int32)) + (0 : Int32)) + xe)), .val (.int (1 : Int32)), .val (.int (1 : Int32)), .unset, .unset, .unset] [(.int ((((((0 : Int32) + (0 : Int32)) + (0 : Int32)) + xd) + xe) + xc)), (.int (((((0 : Int32) + (0 : Int32)) + xc) + xd) + xe))]))
  have hc148 : (((((0 : Int32) + (0 : Int32)) + xc) + xd) + xe) = ((((((0 : Int32) + (0 : Int32)) + (0 : Int32)) + xd) + xe) + xc) := (own_t xa xb xc xd xe).2.2.1
  refine ownEnds.law (fun t => XS.icmpNo X70.here hx rfl (hb hby at_148) rfl (teq hc148).2) ?_
  show ownEnds _ _ _ _ (T70.setTop (mkF m 151 #[.val (.int xa), .val (.int xb), .val (.int xc), .val (.int xd), .val (.int xe), .val (.ref b1), .val (.ref b8), .val (.ref b15), .val (.ref b23), .val (.ref b32), .val (.int ((((xa + xb) + xc) + xd) + xe)), .val (.int (((((0 : Int32) + xb) + xc) + xd) + xe)), .val (.int (((((0 : Int32) + (0 : Int32)) + xc) + xd) + xe)), .val (.int (((((0 : Int32) + (0 : Int32)) + (0 : Int32)) + xd) + xe)), .val (.int (((((0 : Int32) + (0 : Int32)) + (0 : Int32)) + (0 : Int32)) + xe)), .val (.int (1 : Int32)), .val (.int (1 : Int32)), .unset, .unset, .unset] []))
  refine ownEnds.law (fun t k => XS.iconst X70.here hx rfl (hb hby at_151) (XS.goto X70.here hx rfl (pc0 := 152) (pc' := 156) rfl (hb hby at_152) (by decide) (by decide) (XS.istore X70.here hx rfl (hb hby at_156) rfl (l' := #[.val (.int xa), .val (.int xb), .val (.int xc), .val (.int xd), .val (.int xe), .val (.ref b1), .val (.ref b8), .val (.ref b15), .val (.ref b23), .val (.ref b32), .val (.int ((((xa + xb) + xc) + xd) + xe)), .val (.int (((((0 : Int32) + xb) + xc) + xd) + xe)), .val (.int (((((0 : Int32) + (0 : Int32)) + xc) + xd) + xe)), .val (.int (((((0 : Int32) + (0 : Int32)) + (0 : Int32)) + xd) + xe)), .val (.int (((((0 : Int32) + (0 : Int32)) + (0 : Int32)) + (0 : Int32)) + xe)), .val (.int (1 : Int32)), .val (.int (1 : Int32)), .val (.int (1 : Int32)), .unset, .unset]) rfl (XS.iload X70.here hx rfl (hb hby at_158) rfl (XS.iload X70.here hx rfl (hb hby at_160) rfl (XS.iloadN X70.here hx rfl (hb hby at_162) rfl (XS.iadd X70.here hx rfl (hb hby at_163) rfl k))))))) ?_
  show ownEnds _ _ _ _ (T70.setTop (mkF m 164 #[.val (.int xa), .val (.int xb), .val (.int xc), .val (.int xd), .val (.int xe), .val (.ref b1), .val (.ref b8), .val (.ref b15), .val (.ref b23), .val (.ref b32), .val (.int ((((xa + xb) + xc) + xd) + xe)), .val (.int (((((0 : Int32) + xb) + xc) + xd) + xe)), .val (.int (((((0 : Int32) + (0 : Int32)) + xc) + xd) + xe)), .val (.int (((((0 : Int32) + (0 : Int32)) + (0 : Int32)) + xd) + xe)), .val (.int (((((0 : Int32) + (0 : Int32)) + (0 : Int32)) + (0 : Int32)) + xe)), .val (.int (1 : Int32)), .val (.int (1 : Int32)), .val (.int (1 : Int32)), .unset, .unset] [(.int ((((((0 : Int32) + (0 : Int32)) + (0 : Int32)) + (0 : Int32)) + xe) + xd)), (.int (((((0 : Int32) + (0 : Int32)) + (0 : Int32)) + xd) + xe))]))
  have hc164 : (((((0 : Int32) + (0 : Int32)) + (0 : Int32)) + xd) + xe) = ((((((0 : Int32) + (0 : Int32)) + (0 : Int32)) + (0 : Int32)) + xe) + xd) := (own_t xa xb xc xd xe).2.2.2.1
  refine ownEnds.law (fun t => XS.icmpNo X70.here hx rfl (hb hby at_164) rfl (teq hc164).2) ?_
  show ownEnds _ _ _ _ (T70.setTop (mkF m 167 #[.val (.int xa), .val (.int xb), .val (.int xc), .val (.int xd), .val (.int xe), .val (.ref b1), .val (.ref b8), .val (.ref b15), .val (.ref b23), .val (.ref b32), .val (.int ((((xa + xb) + xc) + xd) + xe)), .val (.int (((((0 : Int32) + xb) + xc) + xd) + xe)), .val (.int (((((0 : Int32) + (0 : Int32)) + xc) + xd) + xe)), .val (.int (((((0 : Int32) + (0 : Int32)) + (0 : Int32)) + xd) + xe)), .val (.int (((((0 : Int32) + (0 : Int32)) + (0 : Int32)) + (0 : Int32)) + xe)), .val (.int (1 : Int32)), .val (.int (1 : Int32)), .val (.int (1 : Int32)), .unset, .unset] []))
  refine ownEnds.law (fun t k => XS.iconst X70.here hx rfl (hb hby at_167) (XS.goto X70.here hx rfl (pc0 := 168) (pc' := 172) rfl (hb hby at_168) (by decide) (by decide) (XS.istore X70.here hx rfl (hb hby at_172) rfl (l' := #[.val (.int xa), .val (.int xb), .val (.int xc), .val (.int xd), .val (.int xe), .val (.ref b1), .val (.ref b8), .val (.ref b15), .val (.ref b23), .val (.ref b32), .val (.int ((((xa + xb) + xc) + xd) + xe)), .val (.int (((((0 : Int32) + xb) + xc) + xd) + xe)), .val (.int (((((0 : Int32) + (0 : Int32)) + xc) + xd) + xe)), .val (.int (((((0 : Int32) + (0 : Int32)) + (0 : Int32)) + xd) + xe)), .val (.int (((((0 : Int32) + (0 : Int32)) + (0 : Int32)) + (0 : Int32)) + xe)), .val (.int (1 : Int32)), .val (.int (1 : Int32)), .val (.int (1 : Int32)), .val (.int (1 : Int32)), .unset]) rfl (XS.iload X70.here hx rfl (hb hby at_174) rfl (XS.iload X70.here hx rfl (hb hby at_176) rfl k))))) ?_
  show ownEnds _ _ _ _ (T70.setTop (mkF m 178 #[.val (.int xa), .val (.int xb), .val (.int xc), .val (.int xd), .val (.int xe), .val (.ref b1), .val (.ref b8), .val (.ref b15), .val (.ref b23), .val (.ref b32), .val (.int ((((xa + xb) + xc) + xd) + xe)), .val (.int (((((0 : Int32) + xb) + xc) + xd) + xe)), .val (.int (((((0 : Int32) + (0 : Int32)) + xc) + xd) + xe)), .val (.int (((((0 : Int32) + (0 : Int32)) + (0 : Int32)) + xd) + xe)), .val (.int (((((0 : Int32) + (0 : Int32)) + (0 : Int32)) + (0 : Int32)) + xe)), .val (.int (1 : Int32)), .val (.int (1 : Int32)), .val (.int (1 : Int32)), .val (.int (1 : Int32)), .unset] [(.int xe), (.int (((((0 : Int32) + (0 : Int32)) + (0 : Int32)) + (0 : Int32)) + xe))]))
  have hc178 : (((((0 : Int32) + (0 : Int32)) + (0 : Int32)) + (0 : Int32)) + xe) = xe := (own_t xa xb xc xd xe).2.2.2.2
  refine ownEnds.law (fun t => XS.icmpNo X70.here hx rfl (hb hby at_178) rfl (teq hc178).2) ?_
  show ownEnds _ _ _ _ (T70.setTop (mkF m 181 #[.val (.int xa), .val (.int xb), .val (.int xc), .val (.int xd), .val (.int xe), .val (.ref b1), .val (.ref b8), .val (.ref b15), .val (.ref b23), .val (.ref b32), .val (.int ((((xa + xb) + xc) + xd) + xe)), .val (.int (((((0 : Int32) + xb) + xc) + xd) + xe)), .val (.int (((((0 : Int32) + (0 : Int32)) + xc) + xd) + xe)), .val (.int (((((0 : Int32) + (0 : Int32)) + (0 : Int32)) + xd) + xe)), .val (.int (((((0 : Int32) + (0 : Int32)) + (0 : Int32)) + (0 : Int32)) + xe)), .val (.int (1 : Int32)), .val (.int (1 : Int32)), .val (.int (1 : Int32)), .val (.int (1 : Int32)), .unset] []))
  refine ownEnds.law (fun t k => XS.iconst X70.here hx rfl (hb hby at_181) (XS.goto X70.here hx rfl (pc0 := 182) (pc' := 186) rfl (hb hby at_182) (by decide) (by decide) (XS.istore X70.here hx rfl (hb hby at_186) rfl (l' := #[.val (.int xa), .val (.int xb), .val (.int xc), .val (.int xd), .val (.int xe), .val (.ref b1), .val (.ref b8), .val (.ref b15), .val (.ref b23), .val (.ref b32), .val (.int ((((xa + xb) + xc) + xd) + xe)), .val (.int (((((0 : Int32) + xb) + xc) + xd) + xe)), .val (.int (((((0 : Int32) + (0 : Int32)) + xc) + xd) + xe)), .val (.int (((((0 : Int32) + (0 : Int32)) + (0 : Int32)) + xd) + xe)), .val (.int (((((0 : Int32) + (0 : Int32)) + (0 : Int32)) + (0 : Int32)) + xe)), .val (.int (1 : Int32)), .val (.int (1 : Int32)), .val (.int (1 : Int32)), .val (.int (1 : Int32)), .val (.int (1 : Int32))]) rfl (XS.iload X70.here hx rfl (hb hby at_188) rfl k)))) ?_
  show ownEnds _ _ _ _ (T70.setTop (mkF m 190 #[.val (.int xa), .val (.int xb), .val (.int xc), .val (.int xd), .val (.int xe), .val (.ref b1), .val (.ref b8), .val (.ref b15), .val (.ref b23), .val (.ref b32), .val (.int ((((xa + xb) + xc) + xd) + xe)), .val (.int (((((0 : Int32) + xb) + xc) + xd) + xe)), .val (.int (((((0 : Int32) + (0 : Int32)) + xc) + xd) + xe)), .val (.int (((((0 : Int32) + (0 : Int32)) + (0 : Int32)) + xd) + xe)), .val (.int (((((0 : Int32) + (0 : Int32)) + (0 : Int32)) + (0 : Int32)) + xe)), .val (.int (1 : Int32)), .val (.int (1 : Int32)), .val (.int (1 : Int32)), .val (.int (1 : Int32)), .val (.int (1 : Int32))] [(.int (1 : Int32))]))
  refine ownEnds.law (fun t => XS.ifNo X70.here hx rfl (hb hby at_190) rfl ((if0 _ _).trans (feq (by decide : ¬ ((1 : Int32) = (0 : Int32)))).1)) ?_
  show ownEnds _ _ _ _ (T70.setTop (mkF m 193 #[.val (.int xa), .val (.int xb), .val (.int xc), .val (.int xd), .val (.int xe), .val (.ref b1), .val (.ref b8), .val (.ref b15), .val (.ref b23), .val (.ref b32), .val (.int ((((xa + xb) + xc) + xd) + xe)), .val (.int (((((0 : Int32) + xb) + xc) + xd) + xe)), .val (.int (((((0 : Int32) + (0 : Int32)) + xc) + xd) + xe)), .val (.int (((((0 : Int32) + (0 : Int32)) + (0 : Int32)) + xd) + xe)), .val (.int (((((0 : Int32) + (0 : Int32)) + (0 : Int32)) + (0 : Int32)) + xe)), .val (.int (1 : Int32)), .val (.int (1 : Int32)), .val (.int (1 : Int32)), .val (.int (1 : Int32)), .val (.int (1 : Int32))] []))
  refine ownEnds.law (fun t k => XS.iload X70.here hx rfl (hb hby at_193) rfl k) ?_
  show ownEnds _ _ _ _ (T70.setTop (mkF m 195 #[.val (.int xa), .val (.int xb), .val (.int xc), .val (.int xd), .val (.int xe), .val (.ref b1), .val (.ref b8), .val (.ref b15), .val (.ref b23), .val (.ref b32), .val (.int ((((xa + xb) + xc) + xd) + xe)), .val (.int (((((0 : Int32) + xb) + xc) + xd) + xe)), .val (.int (((((0 : Int32) + (0 : Int32)) + xc) + xd) + xe)), .val (.int (((((0 : Int32) + (0 : Int32)) + (0 : Int32)) + xd) + xe)), .val (.int (((((0 : Int32) + (0 : Int32)) + (0 : Int32)) + (0 : Int32)) + xe)), .val (.int (1 : Int32)), .val (.int (1 : Int32)), .val (.int (1 : Int32)), .val (.int (1 : Int32)), .val (.int (1 : Int32))] [(.int (1 : Int32))]))
  refine ownEnds.law (fun t => XS.ifNo X70.here hx rfl (hb hby at_195) rfl ((if0 _ _).trans (feq (by decide : ¬ ((1 : Int32) = (0 : Int32)))).1)) ?_
  show ownEnds _ _ _ _ (T70.setTop (mkF m 198 #[.val (.int xa), .val (.int xb), .val (.int xc), .val (.int xd), .val (.int xe), .val (.ref b1), .val (.ref b8), .val (.ref b15), .val (.ref b23), .val (.ref b32), .val (.int ((((xa + xb) + xc) + xd) + xe)), .val (.int (((((0 : Int32) + xb) + xc) + xd) + xe)), .val (.int (((((0 : Int32) + (0 : Int32)) + xc) + xd) + xe)), .val (.int (((((0 : Int32) + (0 : Int32)) + (0 : Int32)) + xd) + xe)), .val (.int (((((0 : Int32) + (0 : Int32)) + (0 : Int32)) + (0 : Int32)) + xe)), .val (.int (1 : Int32)), .val (.int (1 : Int32)), .val (.int (1 : Int32)), .val (.int (1 : Int32)), .val (.int (1 : Int32))] []))
  refine ownEnds.law (fun t k => XS.iload X70.here hx rfl (hb hby at_198) rfl k) ?_
  show ownEnds _ _ _ _ (T70.setTop (mkF m 200 #[.val (.int xa), .val (.int xb), .val (.int xc), .val (.int xd), .val (.int xe), .val (.ref b1), .val (.ref b8), .val (.ref b15), .val (.ref b23), .val (.ref b32), .val (.int ((((xa + xb) + xc) + xd) + xe)), .val (.int (((((0 : Int32) + xb) + xc) + xd) + xe)), .val (.int (((((0 : Int32) + (0 : Int32)) + xc) + xd) + xe)), .val (.int (((((0 : Int32) + (0 : Int32)) + (0 : Int32)) + xd) + xe)), .val (.int (((((0 : Int32) + (0 : Int32)) + (0 : Int32)) + (0 : Int32)) + xe)), .val (.int (1 : Int32)), .val (.int (1 : Int32)), .val (.int (1 : Int32)), .val (.int (1 : Int32)), .val (.int (1 : Int32))] [(.int (1 : Int32))]))
  refine ownEnds.law (fun t => XS.ifNo X70.here hx rfl (hb hby at_200) rfl ((if0 _ _).trans (feq (by decide : ¬ ((1 : Int32) = (0 : Int32)))).1)) ?_
  show ownEnds _ _ _ _ (T70.setTop (mkF m 203 #[.val (.int xa), .val (.int xb), .val (.int xc), .val (.int xd), .val (.int xe), .val (.ref b1), .val (.ref b8), .val (.ref b15), .val (.ref b23), .val (.ref b32), .val (.int ((((xa + xb) + xc) + xd) + xe)), .val (.int (((((0 : Int32) + xb) + xc) + xd) + xe)), .val (.int (((((0 : Int32) + (0 : Int32)) + xc) + xd) + xe)), .val (.int (((((0 : Int32) + (0 : Int32)) + (0 : Int32)) + xd) + xe)), .val (.int (((((0 : Int32) + (0 : Int32)) + (0 : Int32)) + (0 : Int32)) + xe)), .val (.int (1 : Int32)), .val (.int (1 : Int32)), .val (.int (1 : Int32)), .val (.int (1 : Int32)), .val (.int (1 : Int32))] []))
  refine ownEnds.law (fun t k => XS.iload X70.here hx rfl (hb hby at_203) rfl k) ?_
  show ownEnds _ _ _ _ (T70.setTop (mkF m 205 #[.val (.int xa), .val (.int xb), .val (.int xc), .val (.int xd), .val (.int xe), .val (.ref b1), .val (.ref b8), .val (.ref b15), .val (.ref b23), .val (.ref b32), .val (.int ((((xa + xb) + xc) + xd) + xe)), .val (.int (((((0 : Int32) + xb) + xc) + xd) + xe)), .val (.int (((((0 : Int32) + (0 : Int32)) + xc) + xd) + xe)), .val (.int (((((0 : Int32) + (0 : Int32)) + (0 : Int32)) + xd) + xe)), .val (.int (((((0 : Int32) + (0 : Int32)) + (0 : Int32)) + (0 : Int32)) + xe)), .val (.int (1 : Int32)), .val (.int (1 : Int32)), .val (.int (1 : Int32)), .val (.int (1 : Int32)), .val (.int (1 : Int32))] [(.int (1 : Int32))]))
  refine ownEnds.law (fun t => XS.ifNo X70.here hx rfl (hb hby at_205) rfl ((if0 _ _).trans (feq (by decide : ¬ ((1 : Int32) = (0 : Int32)))).1)) ?_
  show ownEnds _ _ _ _ (T70.setTop (mkF m 208 #[.val (.int xa), .val (.int xb), .val (.int xc), .val (.int xd), .val (.int xe), .val (.ref b1), .val (.ref b8), .val (.ref b15), .val (.ref b23), .val (.ref b32), .val (.int ((((xa + xb) + xc) + xd) + xe)), .val (.int (((((0 : Int32) + xb) + xc) + xd) + xe)), .val (.int (((((0 : Int32) + (0 : Int32)) + xc) + xd) + xe)), .val (.int (((((0 : Int32) + (0 : Int32)) + (0 : Int32)) + xd) + xe)), .val (.int (((((0 : Int32) + (0 : Int32)) + (0 : Int32)) + (0 : Int32)) + xe)), .val (.int (1 : Int32)), .val (.int (1 : Int32)), .val (.int (1 : Int32)), .val (.int (1 : Int32)), .val (.int (1 : Int32))] []))
  refine ownEnds.law (fun t k => XS.iload X70.here hx rfl (hb hby at_208) rfl k) ?_
  show ownEnds _ _ _ _ (T70.setTop (mkF m 210 #[.val (.int xa), .val (.int xb), .val (.int xc), .val (.int xd), .val (.int xe), .val (.ref b1), .val (.ref b8), .val (.ref b15), .val (.ref b23), .val (.ref b32), .val (.int ((((xa + xb) + xc) + xd) + xe)), .val (.int (((((0 : Int32) + xb) + xc) + xd) + xe)), .val (.int (((((0 : Int32) + (0 : Int32)) + xc) + xd) + xe)), .val (.int (((((0 : Int32) + (0 : Int32)) + (0 : Int32)) + xd) + xe)), .val (.int (((((0 : Int32) + (0 : Int32)) + (0 : Int32)) + (0 : Int32)) + xe)), .val (.int (1 : Int32)), .val (.int (1 : Int32)), .val (.int (1 : Int32)), .val (.int (1 : Int32)), .val (.int (1 : Int32))] [(.int (1 : Int32))]))
  refine ownEnds.law (fun t => XS.ifNo X70.here hx rfl (hb hby at_210) rfl ((if0 _ _).trans (feq (by decide : ¬ ((1 : Int32) = (0 : Int32)))).1)) ?_
  show ownEnds _ _ _ _ (T70.setTop (mkF m 213 #[.val (.int xa), .val (.int xb), .val (.int xc), .val (.int xd), .val (.int xe), .val (.ref b1), .val (.ref b8), .val (.ref b15), .val (.ref b23), .val (.ref b32), .val (.int ((((xa + xb) + xc) + xd) + xe)), .val (.int (((((0 : Int32) + xb) + xc) + xd) + xe)), .val (.int (((((0 : Int32) + (0 : Int32)) + xc) + xd) + xe)), .val (.int (((((0 : Int32) + (0 : Int32)) + (0 : Int32)) + xd) + xe)), .val (.int (((((0 : Int32) + (0 : Int32)) + (0 : Int32)) + (0 : Int32)) + xe)), .val (.int (1 : Int32)), .val (.int (1 : Int32)), .val (.int (1 : Int32)), .val (.int (1 : Int32)), .val (.int (1 : Int32))] []))
  refine ownEnds.law (fun t k => XS.iconst X70.here hx rfl (hb hby at_213) (XS.goto X70.here hx rfl (pc0 := 214) (pc' := 218) rfl (hb hby at_214) (by decide) (by decide) k)) ?_
  show ownEnds _ _ _ _ (T70.setTop (mkF m 218 #[.val (.int xa), .val (.int xb), .val (.int xc), .val (.int xd), .val (.int xe), .val (.ref b1), .val (.ref b8), .val (.ref b15), .val (.ref b23), .val (.ref b32), .val (.int ((((xa + xb) + xc) + xd) + xe)), .val (.int (((((0 : Int32) + xb) + xc) + xd) + xe)), .val (.int (((((0 : Int32) + (0 : Int32)) + xc) + xd) + xe)), .val (.int (((((0 : Int32) + (0 : Int32)) + (0 : Int32)) + xd) + xe)), .val (.int (((((0 : Int32) + (0 : Int32)) + (0 : Int32)) + (0 : Int32)) + xe)), .val (.int (1 : Int32)), .val (.int (1 : Int32)), .val (.int (1 : Int32)), .val (.int (1 : Int32)), .val (.int (1 : Int32))] [(.int (1 : Int32))]))
  refine ownRetN X70 hlk hx (t := .boolean) hret (by simp) (hb hby at_218) (by decide) (by decide) ?_
  exact ⟨rfl, N41⟩
set_option maxRecDepth 65536 in
set_option maxHeartbeats 40000000 in
theorem comes_1 {Post : Tables → Env → Array Value → State → Outcome → State → Prop} (hpost : ∀ tb e args s v u, (limb_1_1.after args s (.returned v) u = true ∧ limb_1_2.after args s (.returned v) u = true ∧ True) → FrameEnd s (.returned v) u (Jvm.fieldLocs frame_1_writes args s ++ Jvm.arrayLocs frame_1_arrays args s ++ Jvm.staticLocs frame_1_statics s) 24 128 → Post tb e args s (.returned v) u) :
    ArmFor flags0 classFile x code maxLocals ret World_1 tables_1 room_1 Calls_1 rest_1 Pre_1 Post := by
  intro l hfl _ _ p e ha hc hk s m args below hf hA hF happ hP
  obtain ⟨hcalls, hrest, hpre⟩ := hP
  obtain ⟨-, -, -, hnamed, -, -, -, hat⟩ := (Spec.applies_iff hf).mp happ
  obtain ⟨hg, hn⟩ := and_e (Cond.before_iff.mp (show (Jvm.Cond.and given_1 narrow_1).before args s = true from hpre))
  obtain ⟨gg1, gg2⟩ := and_e hg
  obtain ⟨gg3, gg4⟩ := and_e gg2
  obtain ⟨gg5, gg6⟩ := and_e gg4
  obtain ⟨gg7, gg8⟩ := and_e gg6
  obtain ⟨gg9, gg10⟩ := and_e gg8
  obtain ⟨w0, w1, w2, w3, w4, rfl⟩ : ∃ w0 w1 w2 w3 w4 : Value, args = #[w0, w1, w2, w3, w4] := by
    have hs : args.size = 5 := by simpa [Cond.value, given_1] using gg1
    obtain ⟨L⟩ := args
    match L, hs with
    | [w0, w1, w2, w3, w4], _ => exact ⟨w0, w1, w2, w3, w4, rfl⟩
  have hw := fun d (hd : d ∈ tables_1) => atoms_spec (ws := Jvm.Cond.code x code maxLocals ret :: tables_1) hat d (List.mem_cons_of_mem _ hd)
  have hfit : Fit s := fun {y c} hc i hi => by
    obtain ⟨ha, rfl⟩ := Array.getElem?_eq_some_iff.mp hc
    have q := List.all_eq_true.mp ((Array.all_eq_true_iff_forall_mem.mp hF) _ (Array.getElem_mem ha)) i (List.mem_range.mpr hi)
    simpa [Array.getElem?_eq_getElem hi] using q
  obtain ⟨i0, ei0⟩ := is_v gg3
  obtain rfl : w0 = (.int i0) := Option.some.inj ei0
  obtain ⟨i1, ei1⟩ := is_v gg5
  obtain rfl : w1 = (.int i1) := Option.some.inj ei1
  obtain ⟨i2, ei2⟩ := is_v gg7
  obtain rfl : w2 = (.int i2) := Option.some.inj ei2
  obtain ⟨i3, ei3⟩ := is_v gg9
  obtain rfl : w3 = (.int i3) := Option.some.inj ei3
  obtain ⟨i4, ei4⟩ := is_v gg10
  obtain rfl : w4 = (.int i4) := Option.some.inj ei4
  obtain ⟨n, o, h1, h2, h3, _, L, rfl, ⟨rfl, N⟩, hq⟩ := rm0 l s _ hw i0 i1 i2 i3 i4  s.heap s.heap.size (Nat.le_refl _)  p e ha hc hk s m _ below hf ((Spec.applies_iff_loose hf).mp happ).1 ⟨rfl, State.Warmed39.refl s, rfl⟩ trivial
  refine ⟨n, _, h1, h2, h3, hpost _ _ _ _ _ _ ⟨Cond.after_iff.mpr rfl, Cond.after_iff.mpr (eq_i res_at (Term.int_eval (1)) rfl), trivial⟩ ⟨hq.1, hq.2.1, (hq.2.2.sift fun y hy => Or.inr (N y hy)).mono (by decide) (by decide)⟩⟩
theorem main_1_1 : Claimed_1_1 := comes_1 fun _ _ _ _ _ _ h hF => ⟨h.1, hF⟩
theorem main_1_2 : Claimed_1_2 := comes_1 fun _ _ _ _ _ _ h hF => ⟨h.2.1, hF⟩
end Jvm.Pilot.@@N@@
namespace Jvm.Pilot.@@N@@
open Jvm Jvm.ClassFile Sem Op Lib Jvm.Free Jvm.Stand Jvm.Pilot.@@N@@.Jvm.D
/-! MADE BY PROGRAM (witnessworld.py) out of the Statement's table words and the real class files: 10 classes; the members and pool entries that the words name. The judged class is class 1, her method 1. -/
namespace start1
open Jvm.ClassFile
def u (s : String) : CpInfo := .utf8 (stringToUtf16 s)
/-- a pool by its gaps: so many unusable entries, then the entry; so many at the end -/
def gap : Nat → List CpInfo → List CpInfo
  | 0, r => r
  | n + 1, r => .unusable :: gap n r
def poolList (es : List (Nat × CpInfo)) (last : Nat) : List CpInfo := es.foldr (fun e r => gap e.1 (e.2 :: r)) (gap last [])
def pool (es : List (Nat × CpInfo)) (last : Nat) : Array CpInfo := ⟨poolList es last⟩
def fileOf (pool : Array CpInfo) (this : Nat) (attrs : Array Attribute := #[]) (ms : Array MethodInfo := #[]) (fl : Nat := 33) (sup : Nat := 0) (ifs : Array Nat := #[]) (fds : Array FieldInfo := #[]) : ClassFile where
  minorVersion := 0
  majorVersion := 65
  constantPool := pool
  accessFlags := fl
  thisClass := this
  superClass := sup
  interfaces := ifs
  fields := fds
  methods := ms
  attributes := attrs
def plain (name : String) (sup : Option ClassId) : Class where
  name := name
  kind := .ordinary
  loader := none
  accessFlags := 33
  super := sup
  interfaces := #[]
  cf := none
  fields := #[]
  methods := #[]
  instanceTypes := #[]
  staticTypes := #[]
  resolved := #[]
  callSites := []
  init := .initialized
  statics := none
  mirror := none

def pool0 : Array CpInfo := pool [(5, u "<init>"), (0, u "()V"), (1, .class_ 10), (1, u "java/lang/Object")] 113

def k0c0 : Code := { maxStack := 0, maxLocals := 1, code := object_method_1_code, exceptionTable := #[], attributes := #[] }
def k0m0 : Method := { name := "<init>", desc := "()V", sig := { parameters := [], returnType := none }, accessFlags := 1, code := some k0c0 }
/-- java/lang/Object -/
def k0 : Class := { plain "java/lang/Object" none with
  accessFlags := 33
  interfaces := #[]
  cf := some (fileOf pool0 8 #[] #[{ accessFlags := 1, nameIndex := 5, descriptorIndex := 6, attributes := #[] }] 33 0 #[] #[])
  fields := #[]
  methods := #[k0m0]
  instanceTypes := #[]
  staticTypes := #[]
  resolved := Array.replicate 124 none
  statics := none }

def pool1 : Array CpInfo := pool [(2, .class_ 4), (1, u "java/lang/Object"), (0, u "<init>"), (0, u "()V"), (0, .class_ 8), (0, u "com/example/meldwork/meldwork/SideScore"), (0, .methodref 7 10), (0, .nameAndType 5 11), (0, u "(IIIII)V"), (0, .methodref 7 13), (0, .nameAndType 14 15), (0, u "total"), (0, u "()I"), (0, .class_ 17), (0, u "com/example/meldwork/meldwork/SideScoreTotalPinLaw"), (2, u "law"), (0, u "(IIIII)Z")] 3

def k1m0 : Method := { name := "<init>", desc := "()V", sig := { parameters := [], returnType := none }, accessFlags := 1, code := none }
def k1c1 : Code := { maxStack := 7, maxLocals := 20, code := code, exceptionTable := #[], attributes := #[] }
def k1m1 : Method := { name := "law", desc := "(IIIII)Z", sig := { parameters := [.int, .int, .int, .int, .int], returnType := some .boolean }, accessFlags := 9, code := some k1c1 }
/-- com/example/meldwork/meldwork/SideScoreTotalPinLaw -/
def k1 : Class := { plain "com/example/meldwork/meldwork/SideScoreTotalPinLaw" (some 0) with
  accessFlags := 49
  interfaces := #[]
  cf := some (fileOf pool1 16 #[] #[{ accessFlags := 1, nameIndex := 5, descriptorIndex := 6, attributes := #[] }, { accessFlags := 9, nameIndex := 20, descriptorIndex := 21, attributes := #[] }] 49 2 #[] #[])
  fields := #[]
  methods := #[k1m0, k1m1]
  instanceTypes := #[]
  staticTypes := #[]
  resolved := Array.replicate 25 none
  statics := none }

def pool2 : Array CpInfo := pool [(1, .methodref 2 3), (0, .class_ 4), (0, .nameAndType 5 6), (0, u "java/lang/Object"), (0, u "<init>"), (0, u "()V"), (0, .class_ 8), (0, u "java/lang/Record")] 13

def k2c0 : Code := { maxStack := 1, maxLocals := 1, code := jdk_30_method_1_code, exceptionTable := #[], attributes := #[] }
def k2m0 : Method := { name := "<init>", desc := "()V", sig := { parameters := [], returnType := none }, accessFlags := 4, code := some k2c0 }
/-- java/lang/Record -/
def k2 : Class := { plain "java/lang/Record" (some 0) with
  accessFlags := 1057
  interfaces := #[]
  cf := some (fileOf pool2 7 #[] #[{ accessFlags := 4, nameIndex := 5, descriptorIndex := 6, attributes := #[] }] 1057 2 #[] #[])
  fields := #[]
  methods := #[k2m0]
  instanceTypes := #[]
  staticTypes := #[]
  resolved := Array.replicate 22 none
  statics := none }

def pool3 : Array CpInfo := pool [(1, .methodref 2 3), (0, .class_ 4), (0, .nameAndType 5 6), (0, u "java/lang/Record"), (0, u "<init>"), (0, u "()V"), (0, .fieldref 8 9), (0, .class_ 10), (0, .nameAndType 11 12), (0, u "com/example/meldwork/meldwork/SideScore"), (0, u "canastas"), (0, u "I"), (0, .fieldref 8 14), (0, .nameAndType 15 12), (0, u "redThrees"), (0, .fieldref 8 17), (0, .nameAndType 18 12), (0, u "goingOut"), (0, .fieldref 8 20), (0, .nameAndType 21 12), (0, u "melded"), (0, .fieldref 8 23), (0, .nameAndType 24 12), (0, u "inHand"), (40, u "()I"), (2, u "(IIIII)V"), (7, u "total"), (12, u "NATURAL_CANASTA"), (2, u "MIXED_CANASTA"), (1, u "RED_THREE")] 45

def k3c0 : Code := { maxStack := 2, maxLocals := 6, code := prog_57_method_1_code, exceptionTable := #[], attributes := #[] }
def k3m0 : Method := { name := "<init>", desc := "(IIIII)V", sig := { parameters := [.int, .int, .int, .int, .int], returnType := none }, accessFlags := 1, code := some k3c0 }
def k3c1 : Code := { maxStack := 2, maxLocals := 1, code := prog_57_method_4_code, exceptionTable := #[], attributes := #[] }
def k3m1 : Method := { name := "total", desc := "()I", sig := { parameters := [], returnType := some .int }, accessFlags := 1, code := some k3c1 }
/-- com/example/meldwork/meldwork/SideScore -/
def k3 : Class := { plain "com/example/meldwork/meldwork/SideScore" (some 2) with
  accessFlags := 49
  interfaces := #[]
  cf := some (fileOf pool3 8 #[] #[{ accessFlags := 1, nameIndex := 5, descriptorIndex := 68, attributes := #[] }, { accessFlags := 1, nameIndex := 76, descriptorIndex := 65, attributes := #[] }] 49 2 #[] #[{ accessFlags := 18, nameIndex := 11, descriptorIndex := 12, attributes := #[] }, { accessFlags := 18, nameIndex := 15, descriptorIndex := 12, attributes := #[] }, { accessFlags := 18, nameIndex := 18, descriptorIndex := 12, attributes := #[] }, { accessFlags := 18, nameIndex := 21, descriptorIndex := 12, attributes := #[] }, { accessFlags := 18, nameIndex := 24, descriptorIndex := 12, attributes := #[] }, { accessFlags := 26, nameIndex := 89, descriptorIndex := 12, attributes := #[] }, { accessFlags := 26, nameIndex := 92, descriptorIndex := 12, attributes := #[] }, { accessFlags := 26, nameIndex := 94, descriptorIndex := 12, attributes := #[] }])
  fields := #[{ name := "canastas", type := .int, accessFlags := 18, slot := 0, constantValue := 0 }, { name := "redThrees", type := .int, accessFlags := 18, slot := 1, constantValue := 0 }, { name := "goingOut", type := .int, accessFlags := 18, slot := 2, constantValue := 0 }, { name := "melded", type := .int, accessFlags := 18, slot := 3, constantValue := 0 }, { name := "inHand", type := .int, accessFlags := 18, slot := 4, constantValue := 0 }, { name := "NATURAL_CANASTA", type := .int, accessFlags := 26, slot := 0, constantValue := 0 }, { name := "MIXED_CANASTA", type := .int, accessFlags := 26, slot := 1, constantValue := 0 }, { name := "RED_THREE", type := .int, accessFlags := 26, slot := 2, constantValue := 0 }]
  methods := #[k3m0, k3m1]
  instanceTypes := #[.int, .int, .int, .int, .int]
  staticTypes := #[.int, .int, .int]
  resolved := Array.replicate 140 none
  statics := none }

def pool4 : Array CpInfo := pool [(1, u "java/lang/Cloneable"), (0, .class_ 1), (0, u "java/lang/Object"), (0, .class_ 3)] 3

/-- java/lang/Cloneable -/
def k4 : Class := { plain "java/lang/Cloneable" (some 0) with
  accessFlags := 1537
  interfaces := #[]
  cf := some (fileOf pool4 2 #[] #[] 1537 4 #[] #[])
  fields := #[]
  methods := #[]
  instanceTypes := #[]
  staticTypes := #[]
  resolved := Array.replicate 8 none
  statics := none }

def pool5 : Array CpInfo := pool [(1, u "java/io/Serializable"), (0, .class_ 1), (0, u "java/lang/Object"), (0, .class_ 3)] 3

/-- java/io/Serializable -/
def k5 : Class := { plain "java/io/Serializable" (some 0) with
  accessFlags := 1537
  interfaces := #[]
  cf := some (fileOf pool5 2 #[] #[] 1537 4 #[] #[])
  fields := #[]
  methods := #[]
  instanceTypes := #[]
  staticTypes := #[]
  resolved := Array.replicate 8 none
  statics := none }

/-- the primitive byte -/
def k6 : Class := { plain "byte" none with kind := .primitive 'B', accessFlags := 0x411 }
/-- [B -/
def k7 : Class := { plain "[B" (some 0) with kind := .array 6 .byte, interfaces := #[4, 5], accessFlags := 1041 }

/-- the primitive int -/
def k8 : Class := { plain "int" none with kind := .primitive 'I', accessFlags := 0x411 }
/-- [I -/
def k9 : Class := { plain "[I" (some 0) with kind := .array 8 .int, interfaces := #[4, 5], accessFlags := 1041 }

def heap : Heap := #[]
def classes : Array Class := #[k0, k1, k2, k3, k4, k5, k6, k7, k8, k9]
def interned : List (Array UInt16 × Addr) := []
def slotsUsed : Nat := 0
def theMethod : MethodId := ⟨1, 1⟩
def args0 : Array Value := #[.int 9, .int 3, .int 2, .int 7, .int 8]
def aboutOver (below : List Frame) : State where
  vm := { classes := classes, interned := interned.toArray }
  heap := heap
  slotsUsed := slotsUsed
  threads := #[{ frames := .invoking theMethod args0 :: below }]
def below0 : List Frame := [.native { method := ⟨0, 0⟩, args := #[] }]
def about1 : State := aboutOver below0
def p0 : Program := .bare "" "" ""
def e0 : Env := launch0.env 0 0 0
theorem w_frames : about1.frames = Frame.invoking theMethod args0 :: below0 := rfl
set_option maxRecDepth 65536 in
theorem w_args : argsFit about1.vm theMethod args0 = true := by decide +kernel
set_option maxRecDepth 65536 in
theorem w_heap : heapFits about1 = true := by decide +kernel
set_option maxRecDepth 65536 in
theorem w_runnable : about1.curStatus? = some .runnable := by decide +kernel
set_option maxRecDepth 65536 in
theorem w_alone : about1.alone = true := by decide +kernel
set_option maxRecDepth 65536 in
theorem w_named : about1.methodNamed? x = some theMethod := by decide +kernel
set_option maxRecDepth 65536 in
theorem w_hears : about1.hears theMethod below0 = true := by decide +kernel
set_option maxRecDepth 65536 in
theorem w_ripe : about1.ripe theMethod args0 below0 = true := by decide +kernel
theorem w_running : about1.status = .running := rfl
set_option maxRecDepth 65536 in
theorem w_room : about1.hasRoom e0.platform room_1 = true :=
  launch0.hasRoom_least _ room_1 (by decide +kernel) (by decide +kernel) (by decide +kernel) (by decide +kernel) (by decide +kernel) (by decide +kernel)
theorem allAtoms_all (ts : List Jvm.Cond) (a : Array Jvm.Value) (st : Jvm.State) : (allAtoms ts).before a st = ts.all (fun c => c.before a st) := by
  induction ts with
  | nil => rfl
  | cons c t ih =>
    show (Jvm.Cond.and c (allAtoms t)).before a st = _
    rw [Jvm.Cond.before_and, ih, List.all_cons]
def words1 : List Jvm.Cond := Jvm.Cond.code x code maxLocals ret :: tables_1
/-- a 'code' word, met by the world's own term for the bytes: nothing is compared byte by byte -/
theorem code_word {y : MethodName} {bytes : ByteArray} {mx : Nat} {rt : Option FieldType} {a : Array Value} {s : State} {m : MethodId} {meth : Method} {c : Code} (h1 : s.methodNamed? y = some m) (h2 : s.vm.method? m = some meth) (h3 : meth.code = some c) (h4 : c.code = bytes)
    (h5 : (c.maxLocals == mx && c.exceptionTable.isEmpty && decide (c.maxStack ≤ mostOperands) && decide (meth.sig.returnType = rt) && !meth.locks && decide (parseMethodDescriptor y.desc = some meth.sig)) = true) : (Jvm.Cond.code y bytes mx rt).before a s = true := by
  simp only [Bool.and_eq_true, beq_iff_eq, Bool.not_eq_true', decide_eq_true_eq] at h5
  obtain ⟨⟨⟨⟨⟨g1, g2⟩, g3⟩, g4⟩, g5⟩, g6⟩ := h5
  simp [Cond.before, Cond.holds, Cond.value, h1, h2, h3, h4, g1, g2, g3, g4, g5, g6]
def isCode : Jvm.Cond → Bool
  | .code _ _ _ _ => true
  | _ => false
theorem all_split {L : List Jvm.Cond} {P : Jvm.Cond → Bool} (h1 : L.all (fun c => isCode c || P c) = true) (h2 : ∀ c ∈ L.filter isCode, P c = true) : L.all P = true := by
  refine List.all_eq_true.mpr fun c hc => ?_
  have h := List.all_eq_true.mp h1 c hc
  rcases Bool.eq_false_or_eq_true (isCode c) with hi | hi
  · exact h2 c (List.mem_filter.mpr ⟨hc, hi⟩)
  · simpa [hi] using h
set_option maxRecDepth 65536 in
theorem w_c0 : (Jvm.Cond.code x code maxLocals ret).before args0 about1 = true := code_word (m := ⟨1, 1⟩) (meth := k1m1) (c := k1c1) (by decide +kernel) rfl rfl rfl (by decide +kernel)
set_option maxRecDepth 65536 in
theorem w_c1 : (Jvm.Cond.code ({ cls := "com/example/meldwork/meldwork/SideScore", name := "<init>", desc := "(IIIII)V" } : Jvm.MethodName) prog_57_method_1_code (6 : Nat) (Option.none : Option Jvm.ClassFile.FieldType)).before args0 about1 = true := code_word (m := ⟨3, 0⟩) (meth := k3m0) (c := k3c0) (by decide +kernel) rfl rfl rfl (by decide +kernel)
set_option maxRecDepth 65536 in
theorem w_c2 : (Jvm.Cond.code ({ cls := "java/lang/Record", name := "<init>", desc := "()V" } : Jvm.MethodName) jdk_30_method_1_code (1 : Nat) (Option.none : Option Jvm.ClassFile.FieldType)).before args0 about1 = true := code_word (m := ⟨2, 0⟩) (meth := k2m0) (c := k2c0) (by decide +kernel) rfl rfl rfl (by decide +kernel)
set_option maxRecDepth 65536 in
theorem w_c3 : (Jvm.Cond.code ({ cls := "java/lang/Object", name := "<init>", desc := "()V" } : Jvm.MethodName) object_method_1_code (1 : Nat) (Option.none : Option Jvm.ClassFile.FieldType)).before args0 about1 = true := code_word (m := ⟨0, 0⟩) (meth := k0m0) (c := k0c0) (by decide +kernel) rfl rfl rfl (by decide +kernel)
set_option maxRecDepth 65536 in
theorem w_c4 : (Jvm.Cond.code ({ cls := "com/example/meldwork/meldwork/SideScore", name := "total", desc := "()I" } : Jvm.MethodName) prog_57_method_4_code (1 : Nat) (Option.some Jvm.ClassFile.FieldType.int)).before args0 about1 = true := code_word (m := ⟨3, 1⟩) (meth := k3m1) (c := k3c1) (by decide +kernel) rfl rfl rfl (by decide +kernel)
def codes1 : List Jvm.Cond := [Jvm.Cond.code x code maxLocals ret, Jvm.Cond.code ({ cls := "com/example/meldwork/meldwork/SideScore", name := "<init>", desc := "(IIIII)V" } : Jvm.MethodName) prog_57_method_1_code (6 : Nat) (Option.none : Option Jvm.ClassFile.FieldType), Jvm.Cond.code ({ cls := "java/lang/Record", name := "<init>", desc := "()V" } : Jvm.MethodName) jdk_30_method_1_code (1 : Nat) (Option.none : Option Jvm.ClassFile.FieldType), Jvm.Cond.code ({ cls := "java/lang/Object", name := "<init>", desc := "()V" } : Jvm.MethodName) object_method_1_code (1 : Nat) (Option.none : Option Jvm.ClassFile.FieldType), Jvm.Cond.code ({ cls := "com/example/meldwork/meldwork/SideScore", name := "total", desc := "()I" } : Jvm.MethodName) prog_57_method_4_code (1 : Nat) (Option.some Jvm.ClassFile.FieldType.int)]
set_option maxRecDepth 65536 in
theorem codes_eq : words1.filter isCode = codes1 := rfl
theorem w_codes : ∀ c ∈ words1.filter isCode, c.before args0 about1 = true := by
  rw [codes_eq]
  intro c hc
  simp only [codes1, List.mem_cons, List.not_mem_nil, or_false] at hc
  rcases hc with rfl | rfl | rfl | rfl | rfl
  · exact w_c0
  · exact w_c1
  · exact w_c2
  · exact w_c3
  · exact w_c4
set_option maxRecDepth 65536 in
theorem w_t1 : (words1.take 24).all (fun c => isCode c || c.before args0 about1) = true := by decide +kernel
set_option maxRecDepth 65536 in
theorem w_t2 : (words1.drop 24).all (fun c => isCode c || c.before args0 about1) = true := by decide +kernel
theorem w_tables : (allAtoms (Jvm.Cond.code x code maxLocals ret :: tables_1)).before args0 about1 = true := by
  rw [allAtoms_all]
  show words1.all (fun c => c.before args0 about1) = true
  refine all_split ?_ w_codes
  rw [← List.take_append_drop 24 words1, List.all_append, w_t1, w_t2]
  rfl
set_option maxRecDepth 65536 in
theorem w_case : (Jvm.Cond.and given_1 narrow_1).before args0 about1 = true := by decide +kernel
theorem w_applies : (headSpec (Jvm.Cond.code x code maxLocals ret :: tables_1) room_1).applies x e0.platform about1 = true :=
  (Spec.applies_iff w_frames).mpr ⟨w_running, w_runnable, w_alone, w_named, w_hears, w_ripe, w_room, w_tables⟩
theorem atStart : AtStart classFile x code maxLocals ret World_1 tables_1 room_1 Calls_1 rest_1 Pre_1 launch0 p0 e0 about1 theMethod args0 below0 :=
  ⟨lists_1, trivial, launch0.admits_env _ _ _, launch0.least_env, fairChoices_fair.cas, fairChoices_fair.clock, w_frames, w_args, w_heap, w_applies, trivial, trivial, w_case⟩
end start1
theorem witness_1 : WitnessClaimed_1 := ⟨start1.p0, start1.e0, start1.about1, start1.theMethod, start1.args0, start1.below0, start1.atStart⟩
end Jvm.Pilot.@@N@@
