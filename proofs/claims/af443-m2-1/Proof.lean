import JvmDerived
import JvmDerived.Pilot.@@N@@Statement
import JvmDerived.Pilot.@@N@@Code
set_option linter.unusedVariables false
set_option linter.unusedSimpArgs false
namespace Jvm.Pilot.@@N@@
open Jvm Jvm.ClassFile Sem Op Lib Jvm.Free Jvm.Stand Jvm.LawKit Jvm.RoadKit Bundle Jvm.Pilot.@@N@@.Jvm.D
def ownEnds (tb : Tables) (e : Env) (below : List Frame) (Φ : State → Outcome → Prop) (A : State) : Prop :=
  ∃ s₂ o, Steps tb e below A s₂ ∧ s₂.status = .running ∧ Ended s₂ below o ∧ Φ s₂ o
theorem ownEnds.law {tb : Tables} {e : Env} {below : List Frame} {Φ : State → Outcome → Prop} {A B : State} (k : ∀ t, Steps tb e below B t → Steps tb e below A t) (h : ownEnds tb e below Φ B) : ownEnds tb e below Φ A := by
  obtain ⟨s2, o, h1, h2⟩ := h
  exact ⟨s2, o, k _ h1, h2⟩
theorem ownEnds.tr {tb : Tables} {e : Env} {below : List Frame} {Φ : State → Outcome → Prop} {A B : State} (k : Steps tb e below A B) (h : ownEnds tb e below Φ B) : ownEnds tb e below Φ A := by
  obtain ⟨s2, o, h1, h2⟩ := h
  exact ⟨s2, o, k.trans h1, h2⟩
theorem ownEnds.cast {tb : Tables} {e : Env} {below : List Frame} {Φ : State → Outcome → Prop} {T : State} {g g' : JFrame} (q : g = g') (h : ownEnds tb e below Φ (T.setTop g')) : ownEnds tb e below Φ (T.setTop g) := q ▸ h
def ownPost (s : State) (Q : Option Value → Heap → List Loc → Prop) (C S : Nat) : State → Outcome → Prop := fun U o => ∃ v L, o = .returned v ∧ Q v U.heap L ∧ FrameEnd s o U L C S
abbrev ownMet (l : Launch) (Z : State) (y : MethodName) (bytes : ByteArray) (maxL : Nat) (rt : Option FieldType) (ws : List Jvm.Cond) (rm : Room) (as : Array Value) (h0 : Heap) (Q : Option Value → Heap → List Loc → Prop) : Prop :=
  MetFree l y (head1 (Jvm.Cond.code y bytes maxL rt :: ws) rm) (fun a U => a = as ∧ Z.Warmed39 U.vm ∧ U.heap = h0) (fun _ _ _ _ _ => True) (fun _ U o U' => ∃ v L, o = .returned v ∧ Q v U'.heap L ∧ FrameEnd U o U' L rm.cells rm.slots)
theorem ownMet.of {l : Launch} {Z : State} {y : MethodName} {bytes : ByteArray} {maxL : Nat} {rt : Option FieldType} {ws : List Jvm.Cond} {rm : Room} {as : Array Value} {h0 : Heap} {Q : Option Value → Heap → List Loc → Prop} (hpl : plainFor y = true)
    (body : ∀ (p : Program) (e : Env) (s : State) (m : MethodId) (below : List Frame) (meth : Method) (c : Code) (T0 : State), p.tables.exec = Jvm.exec → c.code = bytes → c.maxLocals = maxL → Z.Warmed39 s.vm → s.vm.findClass y.cls = some m.cls → meth.name = y.name → meth.sig.returnType = rt → meth.locks = false →
      Stand p l e rm s m as below meth c T0 [] 0 0 → T0.heap = h0 → ownEnds p.tables e below (ownPost s Q rm.cells rm.slots) (T0.setTop (entryFrame m as maxL))) : ownMet l Z y bytes maxL rt ws rm as h0 Q := by
  refine MetFree.of_bodySF hpl hisR ?_
  intro p e s m args below meth c s₁ Bd hml0 hP hK
  obtain ⟨rfl, hZ, hh⟩ := hP
  exact body p e s m below meth c s₁ Bd.exec Bd.bytes hml0 hZ (findClass_of_methodNamed Bd.named) (name_of_methodNamed Bd.named Bd.method).1 Bd.returns Bd.notSynchronized (Stand.of_body Bd) (by rw [← hh, Bd.state]; rfl)
theorem ownEqV {args : Array Value} {first s : State} {o : Option Outcome} {idx : List Nat} {a b : Term} {v : Value} (h : (Cond.eq a b).value args first o s idx = some true) (hb : b.eval args first o idx s = some v) : a.eval args first o idx s = some v := by
  simp only [Cond.value, hb] at h
  cases ha : a.eval args first o idx s with
  | none => simp [ha] at h
  | some x => cases x <;> cases v <;> simp_all
theorem ownFieldAt {args : Array Value} {first s : State} {o : Option Outcome} {idx : List Nat} {t : Term} {a : Addr} {C n d : String} (ev : t.eval args first o idx s = some (.ref a)) : (Term.field t C n d).eval args first o idx s = s.fieldOf? a C n d := by
  simp [Term.eval, ev]
theorem ownLen {s : State} {args : Array Value} {t : Term} {a : Addr} {cl : Cell} {ty : FieldType} {z : Int32} (ev : t.eval args s none [] s = some (.ref a)) (A : Arr s s.heap a cl ty) (h : (Term.length t).eval args s none [] s = some (.int z)) : cl.slots.size < 2 ^ 31 ∧ cl.slots.size.toInt32 = z := by
  have q := A.fin (Vm.Alike.refl _)
  simp only [Term.eval, ev, q, Option.bind_eq_bind, Option.bind_some, Option.pure_def] at h
  split at h
  · rename_i hs
    exact ⟨hs, by simpa using h⟩
  · cases h
theorem ownEl {s : State} {args : Array Value} {t i : Term} {a : Addr} {cl : Cell} {ty : FieldType} {j : Int32} {v : Value} (ev : t.eval args s none [] s = some (.ref a)) (A : Arr s s.heap a cl ty) (ej : i.eval args s none [] s = some (.int j)) (h : (Term.elem t i).eval args s none [] s = some v) : cl.slots[j.toNatClampNeg]? = some v := by
  have q := A.fin (Vm.Alike.refl _)
  simp only [Term.eval, ev, ej, q, Option.bind_eq_bind, Option.bind_some] at h
  split at h
  · cases h
  · exact h
section OwnKit
variable {p : Program} {l : Launch} {e : Env} {R : Room} {s : State} {m : MethodId} {args : Array Value} {below : List Frame} {meth : Method} {c : Code} {T : State} {locs : List Loc} {cells slots : Nat} {Z : State} {a0 : Array Value} {h : Heap}
theorem ownRet (X : Stand p l e R s m args below meth c T locs cells slots) (hlk : meth.locks = false) {v : Option Value} (hv : meth.sig.returnType = none → v = none) {g : JFrame} {Q : Option Value → Heap → List Loc → Prop} {C S : Nat}
    (hst : ∀ fs, (∀ (f : JFrame) (acts : List Action), f.method = m → f.locked = none → f.entered = [] → (doReturn e (T.setTop f) acts v).1 = T.setFrames fs) → Steps p.tables e below (T.setTop g) (T.setFrames fs))
    (hc : cells ≤ C) (hs : slots ≤ S) (hQ : Q v T.heap locs) : ownEnds p.tables e below (ownPost s Q C S) (T.setTop g) := by
  obtain ⟨fs, hr, hrun, hended, hW, hsame⟩ := X.leave (v := v) hv hlk
  exact ⟨_, _, hst fs hr, hrun, hended, v, locs, rfl, hQ, ⟨_, rfl⟩, hW, hsame.mono hc hs⟩
theorem ownRetN (X : Stand p l e R s m args below meth c T locs cells slots) (hlk : meth.locks = false) (hx : p.tables.exec = Jvm.exec) {pc : Nat} {Ls : Array Slot} {z : Int32} {t : FieldType} {rest : List Value} (hret : meth.sig.returnType = some t) (ht : t = .boolean ∨ t = .byte ∨ t = .char ∨ t = .short)
    (hd : decode c.code pc = .ok (.ireturn, 1)) {Q : Option Value → Heap → List Loc → Prop} {C S : Nat} (hc : cells ≤ C) (hs : slots ≤ S) (hQ : Q (some (.int (nar t z))) T.heap locs) : ownEnds p.tables e below (ownPost s Q C S) (T.setTop (mkF m pc Ls (.int z :: rest))) :=
  ownRet X hlk (fun h => by rw [hret] at h; cases h) (fun fs hr => retN X hx hret ht hd hr) hc hs hQ
theorem ownRetI (X : Stand p l e R s m args below meth c T locs cells slots) (hlk : meth.locks = false) (hx : p.tables.exec = Jvm.exec) {pc : Nat} {Ls : Array Slot} {z : Int32} {rest : List Value} (hret : meth.sig.returnType = some .int)
    (hd : decode c.code pc = .ok (.ireturn, 1)) {Q : Option Value → Heap → List Loc → Prop} {C S : Nat} (hc : cells ≤ C) (hs : slots ≤ S) (hQ : Q (some (.int z)) T.heap locs) : ownEnds p.tables e below (ownPost s Q C S) (T.setTop (mkF m pc Ls (.int z :: rest))) :=
  ownRet X hlk (fun h => by rw [hret] at h; cases h) (fun fs hr => retOut X hx hret rfl (Or.inl ⟨rfl, Or.inl rfl, z, rfl⟩) hd hr) hc hs hQ
theorem ownRetL (X : Stand p l e R s m args below meth c T locs cells slots) (hlk : meth.locks = false) (hx : p.tables.exec = Jvm.exec) {pc : Nat} {Ls : Array Slot} {z : Int64} {rest : List Value} (hret : meth.sig.returnType = some .long)
    (hd : decode c.code pc = .ok (.lreturn, 1)) {Q : Option Value → Heap → List Loc → Prop} {C S : Nat} (hc : cells ≤ C) (hs : slots ≤ S) (hQ : Q (some (.long z)) T.heap locs) : ownEnds p.tables e below (ownPost s Q C S) (T.setTop (mkF m pc Ls (.long z :: rest))) :=
  ownRet X hlk (fun h => by rw [hret] at h; cases h) (fun fs hr => retOut X hx hret rfl (Or.inr (Or.inl ⟨rfl, rfl, z, rfl⟩)) hd hr) hc hs hQ
theorem ownRetA (X : Stand p l e R s m args below meth c T locs cells slots) (hlk : meth.locks = false) (hx : p.tables.exec = Jvm.exec) {pc : Nat} {Ls : Array Slot} {w : Value} {t : FieldType} {rest : List Value} (hret : meth.sig.returnType = some t) (ht : t.isReference = true) (hw : w.isRef = true)
    (hd : decode c.code pc = .ok (.areturn, 1)) {Q : Option Value → Heap → List Loc → Prop} {C S : Nat} (hc : cells ≤ C) (hs : slots ≤ S) (hQ : Q (some w) T.heap locs) : ownEnds p.tables e below (ownPost s Q C S) (T.setTop (mkF m pc Ls (w :: rest))) :=
  ownRet X hlk (fun h => by rw [hret] at h; cases h) (fun fs hr => retOut X hx hret (by rcases ref_cases hw with rfl | ⟨a, rfl⟩ <;> cases t <;> first | rfl | (simp [FieldType.isReference] at ht)) (Or.inr (Or.inr (Or.inr (Or.inr ⟨rfl, ht, hw⟩)))) hd hr) hc hs hQ
theorem ownRetV (X : Stand p l e R s m args below meth c T locs cells slots) (hlk : meth.locks = false) (hx : p.tables.exec = Jvm.exec) {pc : Nat} {Ls : Array Slot} (hret : meth.sig.returnType = none)
    (hd : decode c.code pc = .ok (.return_, 1)) {Q : Option Value → Heap → List Loc → Prop} {C S : Nat} (hc : cells ≤ C) (hs : slots ≤ S) (hQ : Q none T.heap locs) : ownEnds p.tables e below (ownPost s Q C S) (T.setTop (mkF m pc Ls [])) :=
  ownRet X hlk (fun _ => rfl) (fun fs hr => X.returnOut hx hret hd hr) hc hs hQ
theorem ownCallS (X : Stand p l e R s m args below meth c T locs cells slots) (hx : p.tables.exec = Jvm.exec) (hZ : Z.Warmed39 s.vm) {own : String} {index : Nat} (hown : s.vm.findClass own = some m.cls) {y : MethodName} {bytes : ByteArray} {maxL : Nat} {rt : Option FieldType} {rm : Room} {as : List Value} {Q : Option Value → Heap → List Loc → Prop}
    (w1 : (Cond.methodLink own index y).before a0 Z = true) (w2 : (Cond.static y).before a0 Z = true) (w3 : (Cond.initialized y.cls).before a0 Z = true) (w4 : (Cond.code y bytes maxL rt).before a0 Z = true) (hy : y.cls ≠ "java/lang/invoke/MethodHandle" ∧ y.cls ≠ "java/lang/invoke/VarHandle")
    (hM : ownMet l Z y bytes maxL rt [] rm as.toArray h Q) (eT : T.heap = h) (W : Nat) (hf : rm.frames + 1 ≤ R.frames) (hl : W + (maxL + 11) + rm.locals ≤ R.locals) (hc : cells + rm.cells ≤ R.cells) (hs : slots + rm.slots ≤ R.slots)
    {g : JFrame} (hg : g.method = m) (hsize : g.locals.size = c.maxLocals) {rest : List Value} {ps : List FieldType} {r : Option FieldType} (hd : parseMethodDescriptor y.desc = some ⟨ps, r⟩) (hlen : as.length = ps.length) (hstack : g.stack = as.reverse ++ rest) (hW : 2 * g.monitorRoom + (rest.map fun v => v.category).sum ≤ W)
    (hdg : decode c.code g.pc = .ok (.invokestatic index, 3)) :
    ∃ v T' L, Stand p l e R s m args below meth c T' (locs ++ L) (cells + rm.cells) (slots + rm.slots) ∧ Q v T'.heap L ∧ ∀ t, Steps p.tables e below (T'.setTop { g with pc := g.pc + 3, stack := v.toList ++ rest }) t → Steps p.tables e below (T.setTop g) t := by
  obtain ⟨v, _, ⟨T1, L1, k1, n1⟩, -, X1, ⟨Lc, hQ, l1, y1, z1⟩, st⟩ := Jvm.LawKit.callS X hx (y := y) hown (mvT hZ w1) (mvT hZ w2) (mvT hZ w3) (mvT hZ w4) hy (backOf (W := W) hM hZ w4 w3 hf hl) hg hsize (argsL := as) (rest := rest) (lenOf hd hlen) hstack hW hdg (fun _ _ => ⟨rfl, eT, hc, hs⟩)
  dsimp only [Pt.U, Pt.locs, Pt.cells, Pt.slots] at X1 l1 y1 z1 st hQ
  subst l1 y1 z1
  exact ⟨v, T1, Lc, X1, hQ, st⟩
theorem ownCallC (X : Stand p l e R s m args below meth c T locs cells slots) (hx : p.tables.exec = Jvm.exec) (hZ : Z.Warmed39 s.vm) {own : String} {index : Nat} (hown : s.vm.findClass own = some m.cls) {y : MethodName} (hy1 : y.name = "<init>") {bytes : ByteArray} {maxL : Nat} {rm : Room} {a : Addr} {as : List Value} {Q : Option Value → Heap → List Loc → Prop}
    (w1 : (Cond.methodLink own index y).before a0 Z = true) (w2 : (Cond.instanceMethod y).before a0 Z = true) (w3 : (Cond.initialized y.cls).before a0 Z = true) (w4 : (Cond.code y bytes maxL none).before a0 Z = true) (hy : y.cls ≠ "java/lang/invoke/MethodHandle" ∧ y.cls ≠ "java/lang/invoke/VarHandle")
    (hM : ownMet l Z y bytes maxL none [] rm (.ref a :: as).toArray h Q) (eT : T.heap = h) (W : Nat) (hf : rm.frames + 1 ≤ R.frames) (hl : W + (maxL + 11) + rm.locals ≤ R.locals) (hc : cells + rm.cells ≤ R.cells) (hs : slots + rm.slots ≤ R.slots)
    {g : JFrame} (hg : g.method = m) (hsize : g.locals.size = c.maxLocals) {rest : List Value} {ps : List FieldType} {r : Option FieldType} (hd : parseMethodDescriptor y.desc = some ⟨ps, r⟩) (hlen : as.length = ps.length) (hstack : g.stack = as.reverse ++ .ref a :: rest) (hW : 2 * g.monitorRoom + (rest.map fun v => v.category).sum ≤ W)
    (hdg : decode c.code g.pc = .ok (.invokespecial index, 3)) :
    ∃ v T' L, Stand p l e R s m args below meth c T' (locs ++ L) (cells + rm.cells) (slots + rm.slots) ∧ Q v T'.heap L ∧ ∀ t, Steps p.tables e below (T'.setTop { g with pc := g.pc + 3, stack := v.toList ++ rest }) t → Steps p.tables e below (T.setTop g) t := by
  obtain ⟨v, _, ⟨T1, L1, k1, n1⟩, -, X1, ⟨Lc, hQ, l1, y1, z1⟩, st⟩ := X.specialBack hx (y := y) hy1 hown (mvT hZ w1) (mvT hZ w2) (mvT hZ w4) hy (backOf (W := W) hM hZ w4 w3 hf hl) hg hsize (Steps.refl _) (a := a) (argsL := as) (rest := rest) (lenOf hd hlen) hstack hW hdg (fun _ _ => ⟨rfl, eT, hc, hs⟩)
  dsimp only [Pt.U, Pt.locs, Pt.cells, Pt.slots] at X1 l1 y1 z1 st hQ
  subst l1 y1 z1
  exact ⟨v, T1, Lc, X1, hQ, fun t k => st.trans k⟩
theorem ownCallV (X : Stand p l e R s m args below meth c T locs cells slots) (hx : p.tables.exec = Jvm.exec) (hZ : Z.Warmed39 s.vm) {own C : String} {index : Nat} (hown : s.vm.findClass own = some m.cls) {y z : MethodName} {bytes : ByteArray} {maxL : Nat} {rt : Option FieldType} {rm : Room} {a : Addr} {as : List Value} {Q : Option Value → Heap → List Loc → Prop}
    (w1 : (Cond.methodLink own index y).before a0 Z = true) (w2 : (Cond.declares y).before a0 Z = true) (hnf : NotFace s y) (w5 : (Cond.selects C y z).before a0 Z = true) (w6 : (Cond.instanceMethod z).before a0 Z = true) (w3 : (Cond.initialized z.cls).before a0 Z = true) (w4 : (Cond.code z bytes maxL rt).before a0 Z = true) (hy : y.cls ≠ "java/lang/invoke/MethodHandle" ∧ y.cls ≠ "java/lang/invoke/VarHandle")
    (hM : ownMet l Z z bytes maxL rt [] rm (.ref a :: as).toArray h Q) (eT : T.heap = h) (E : Exa Z h a C) (W : Nat) (hf : rm.frames + 1 ≤ R.frames) (hl : W + (maxL + 11) + rm.locals ≤ R.locals) (hc : cells + rm.cells ≤ R.cells) (hs : slots + rm.slots ≤ R.slots)
    {g : JFrame} (hg : g.method = m) (hsize : g.locals.size = c.maxLocals) {rest : List Value} {ps : List FieldType} {r : Option FieldType} (hd : parseMethodDescriptor y.desc = some ⟨ps, r⟩) (hlen : as.length = ps.length) (hstack : g.stack = as.reverse ++ .ref a :: rest) (hW : 2 * g.monitorRoom + (rest.map fun v => v.category).sum ≤ W)
    (hdg : decode c.code g.pc = .ok (.invokevirtual index, 3)) :
    ∃ v T' L, Stand p l e R s m args below meth c T' (locs ++ L) (cells + rm.cells) (slots + rm.slots) ∧ Q v T'.heap L ∧ ∀ t, Steps p.tables e below (T'.setTop { g with pc := g.pc + 3, stack := v.toList ++ rest }) t → Steps p.tables e below (T.setTop g) t := by
  obtain ⟨cq, kq, qa, qb, qc⟩ := isOf hZ eT E
  obtain ⟨v, _, ⟨T1, L1, k1, n1⟩, -, X1, ⟨Lc, hQ, l1, y1, z1⟩, st⟩ := X.virtualBack hx (y := y) (z := z) hown (mvT hZ w1) (mvT hZ w2) hnf (mvT hZ w5) (mvT hZ w6) hy (backOf (W := W) hM hZ w4 w3 hf hl) qa qc hg hsize (Steps.refl _) (argsL := as) (rest := rest) (lenOf hd hlen) hstack hW hdg (fun _ _ => ⟨rfl, eT, hc, hs⟩)
  dsimp only [Pt.U, Pt.locs, Pt.cells, Pt.slots] at X1 l1 y1 z1 st hQ
  subst l1 y1 z1
  exact ⟨v, T1, Lc, X1, hQ, fun t k => st.trans k⟩
theorem ownSelfSel {y z : MethodName} {C : String} (hz : z.cls = y.cls) (wz : (Cond.selects C z z).before args s = true) (hinst : (Cond.instanceMethod y).before args s = true) (hpriv : s.PrivateAt y) (hy : y.cls ≠ "java/lang/invoke/MethodHandle" ∧ y.cls ≠ "java/lang/invoke/VarHandle") : (Cond.selects y.cls y y).before args s = true := by
  obtain ⟨c2, r2, m2, q1, q2, q3, q4, kP, hkP, hkPi⟩ := Cond.selects_spec wz
  exact selects_self_of_private (by rw [← hz]; exact findClass_of_methodNamed q3) hkP hkPi hpriv hinst hy
theorem ownCallP (X : Stand p l e R s m args below meth c T locs cells slots) (hx : p.tables.exec = Jvm.exec) (hZ : Z.Warmed39 s.vm) {own C D : String} {index : Nat} (hown : s.vm.findClass own = some m.cls) {y z : MethodName} {bytes : ByteArray} {maxL : Nat} {rt : Option FieldType} {rm : Room} {a : Addr} {as : List Value} {Q : Option Value → Heap → List Loc → Prop}
    (w1 : (Cond.methodLink own index y).before a0 Z = true) (hz : z.cls = y.cls) (w5 : (Cond.selects C z z).before a0 Z = true) (w6 : (Cond.instanceMethod y).before a0 Z = true) (w7 : (Cond.privateMethod y).before a0 Z = true) (w3 : (Cond.initialized y.cls).before a0 Z = true) (w4 : (Cond.code y bytes maxL rt).before a0 Z = true) (hy : y.cls ≠ "java/lang/invoke/MethodHandle" ∧ y.cls ≠ "java/lang/invoke/VarHandle")
    (hM : ownMet l Z y bytes maxL rt [] rm (.ref a :: as).toArray h Q) (eT : T.heap = h) (E : Exa Z h a D) (W : Nat) (hf : rm.frames + 1 ≤ R.frames) (hl : W + (maxL + 11) + rm.locals ≤ R.locals) (hc : cells + rm.cells ≤ R.cells) (hs : slots + rm.slots ≤ R.slots)
    {g : JFrame} (hg : g.method = m) (hsize : g.locals.size = c.maxLocals) {rest : List Value} {ps : List FieldType} {r : Option FieldType} (hd : parseMethodDescriptor y.desc = some ⟨ps, r⟩) (hlen : as.length = ps.length) (hstack : g.stack = as.reverse ++ .ref a :: rest) (hW : 2 * g.monitorRoom + (rest.map fun v => v.category).sum ≤ W)
    (hdg : decode c.code g.pc = .ok (.invokevirtual index, 3)) :
    ∃ v T' L, Stand p l e R s m args below meth c T' (locs ++ L) (cells + rm.cells) (slots + rm.slots) ∧ Q v T'.heap L ∧ ∀ t, Steps p.tables e below (T'.setTop { g with pc := g.pc + 3, stack := v.toList ++ rest }) t → Steps p.tables e below (T.setTop g) t := by
  obtain ⟨cq, q1, q2⟩ := E.cell
  have hpv : s.PrivateAt y := Cond.privateMethod_at (mvP hZ w7 (args := #[]))
  obtain ⟨v, _, ⟨T1, L1, k1, n1⟩, -, X1, ⟨Lc, hQ, l1, y1, z1⟩, st⟩ := X.privateBack hx (y := y) hown (mvT hZ w1) (mvT hZ w6) (ownSelfSel hz (mvT hZ w5) (mvT hZ w6) hpv hy) hpv (mvT hZ w4) hy (backOf (W := W) hM hZ w4 w3 hf hl) hg hsize (Steps.refl _) (a := a) (by rw [eT]; exact q1) q2 (argsL := as) (rest := rest) (lenOf hd hlen) hstack hW hdg (fun _ _ => ⟨rfl, eT, hc, hs⟩)
  dsimp only [Pt.U, Pt.locs, Pt.cells, Pt.slots] at X1 l1 y1 z1 st hQ
  subst l1 y1 z1
  exact ⟨v, T1, Lc, X1, hQ, fun t k => st.trans k⟩
end OwnKit
theorem wd_0 {Z : State} {a0 : Array Value} (hw : ∀ d ∈ tables_1, d.before a0 Z = true) : (Jvm.Cond.constant "com/example/meldwork/meldwork/RankIsWildPinLaw" (7 : Nat) (2147483647 : Int32)).before a0 Z = true := hw _ (List.mem_of_getElem? (i := 0) rfl)
theorem wd_1 {Z : State} {a0 : Array Value} (hw : ∀ d ∈ tables_1, d.before a0 Z = true) : (Jvm.Cond.classLink "com/example/meldwork/meldwork/RankIsWildPinLaw" (8 : Nat) "com/example/meldwork/meldwork/Rank").before a0 Z = true := hw _ (List.mem_of_getElem? (i := 1) rfl)
theorem wd_2 {Z : State} {a0 : Array Value} (hw : ∀ d ∈ tables_1, d.before a0 Z = true) : (Jvm.Cond.arrayOver (Jvm.ClassFile.FieldType.object "com/example/meldwork/meldwork/Rank")).before a0 Z = true := hw _ (List.mem_of_getElem? (i := 2) rfl)
theorem wd_3 {Z : State} {a0 : Array Value} (hw : ∀ d ∈ tables_1, d.before a0 Z = true) : (Jvm.Cond.fieldLink "com/example/meldwork/meldwork/RankIsWildPinLaw" (10 : Nat) "com/example/meldwork/meldwork/Rank" "TWO" "Lcom/example/meldwork/meldwork/Rank;").before a0 Z = true := hw _ (List.mem_of_getElem? (i := 3) rfl)
theorem wd_4 {Z : State} {a0 : Array Value} (hw : ∀ d ∈ tables_1, d.before a0 Z = true) : (Jvm.Cond.initialized "com/example/meldwork/meldwork/Rank").before a0 Z = true := hw _ (List.mem_of_getElem? (i := 4) rfl)
theorem wd_5 {Z : State} {a0 : Array Value} (hw : ∀ d ∈ tables_1, d.before a0 Z = true) : (Jvm.Cond.laysStatic "com/example/meldwork/meldwork/Rank" "TWO" "Lcom/example/meldwork/meldwork/Rank;").before a0 Z = true := hw _ (List.mem_of_getElem? (i := 5) rfl)
theorem wd_7 {Z : State} {a0 : Array Value} (hw : ∀ d ∈ tables_1, d.before a0 Z = true) : (Jvm.Cond.fieldLink "com/example/meldwork/meldwork/RankIsWildPinLaw" (14 : Nat) "com/example/meldwork/meldwork/Rank" "THREE" "Lcom/example/meldwork/meldwork/Rank;").before a0 Z = true := hw _ (List.mem_of_getElem? (i := 7) rfl)
theorem wd_8 {Z : State} {a0 : Array Value} (hw : ∀ d ∈ tables_1, d.before a0 Z = true) : (Jvm.Cond.laysStatic "com/example/meldwork/meldwork/Rank" "THREE" "Lcom/example/meldwork/meldwork/Rank;").before a0 Z = true := hw _ (List.mem_of_getElem? (i := 8) rfl)
theorem wd_9 {Z : State} {a0 : Array Value} (hw : ∀ d ∈ tables_1, d.before a0 Z = true) : (Jvm.Cond.fieldLink "com/example/meldwork/meldwork/RankIsWildPinLaw" (17 : Nat) "com/example/meldwork/meldwork/Rank" "FOUR" "Lcom/example/meldwork/meldwork/Rank;").before a0 Z = true := hw _ (List.mem_of_getElem? (i := 9) rfl)
theorem wd_10 {Z : State} {a0 : Array Value} (hw : ∀ d ∈ tables_1, d.before a0 Z = true) : (Jvm.Cond.laysStatic "com/example/meldwork/meldwork/Rank" "FOUR" "Lcom/example/meldwork/meldwork/Rank;").before a0 Z = true := hw _ (List.mem_of_getElem? (i := 10) rfl)
theorem wd_11 {Z : State} {a0 : Array Value} (hw : ∀ d ∈ tables_1, d.before a0 Z = true) : (Jvm.Cond.fieldLink "com/example/meldwork/meldwork/RankIsWildPinLaw" (20 : Nat) "com/example/meldwork/meldwork/Rank" "FIVE" "Lcom/example/meldwork/meldwork/Rank;").before a0 Z = true := hw _ (List.mem_of_getElem? (i := 11) rfl)
theorem wd_12 {Z : State} {a0 : Array Value} (hw : ∀ d ∈ tables_1, d.before a0 Z = true) : (Jvm.Cond.laysStatic "com/example/meldwork/meldwork/Rank" "FIVE" "Lcom/example/meldwork/meldwork/Rank;").before a0 Z = true := hw _ (List.mem_of_getElem? (i := 12) rfl)
theorem wd_13 {Z : State} {a0 : Array Value} (hw : ∀ d ∈ tables_1, d.before a0 Z = true) : (Jvm.Cond.fieldLink "com/example/meldwork/meldwork/RankIsWildPinLaw" (23 : Nat) "com/example/meldwork/meldwork/Rank" "SIX" "Lcom/example/meldwork/meldwork/Rank;").before a0 Z = true := hw _ (List.mem_of_getElem? (i := 13) rfl)
theorem wd_14 {Z : State} {a0 : Array Value} (hw : ∀ d ∈ tables_1, d.before a0 Z = true) : (Jvm.Cond.laysStatic "com/example/meldwork/meldwork/Rank" "SIX" "Lcom/example/meldwork/meldwork/Rank;").before a0 Z = true := hw _ (List.mem_of_getElem? (i := 14) rfl)
theorem wd_15 {Z : State} {a0 : Array Value} (hw : ∀ d ∈ tables_1, d.before a0 Z = true) : (Jvm.Cond.fieldLink "com/example/meldwork/meldwork/RankIsWildPinLaw" (26 : Nat) "com/example/meldwork/meldwork/Rank" "SEVEN" "Lcom/example/meldwork/meldwork/Rank;").before a0 Z = true := hw _ (List.mem_of_getElem? (i := 15) rfl)
theorem wd_16 {Z : State} {a0 : Array Value} (hw : ∀ d ∈ tables_1, d.before a0 Z = true) : (Jvm.Cond.laysStatic "com/example/meldwork/meldwork/Rank" "SEVEN" "Lcom/example/meldwork/meldwork/Rank;").before a0 Z = true := hw _ (List.mem_of_getElem? (i := 16) rfl)
theorem wd_17 {Z : State} {a0 : Array Value} (hw : ∀ d ∈ tables_1, d.before a0 Z = true) : (Jvm.Cond.fieldLink "com/example/meldwork/meldwork/RankIsWildPinLaw" (29 : Nat) "com/example/meldwork/meldwork/Rank" "EIGHT" "Lcom/example/meldwork/meldwork/Rank;").before a0 Z = true := hw _ (List.mem_of_getElem? (i := 17) rfl)
theorem wd_18 {Z : State} {a0 : Array Value} (hw : ∀ d ∈ tables_1, d.before a0 Z = true) : (Jvm.Cond.laysStatic "com/example/meldwork/meldwork/Rank" "EIGHT" "Lcom/example/meldwork/meldwork/Rank;").before a0 Z = true := hw _ (List.mem_of_getElem? (i := 18) rfl)
theorem wd_19 {Z : State} {a0 : Array Value} (hw : ∀ d ∈ tables_1, d.before a0 Z = true) : (Jvm.Cond.fieldLink "com/example/meldwork/meldwork/RankIsWildPinLaw" (32 : Nat) "com/example/meldwork/meldwork/Rank" "NINE" "Lcom/example/meldwork/meldwork/Rank;").before a0 Z = true := hw _ (List.mem_of_getElem? (i := 19) rfl)
theorem wd_20 {Z : State} {a0 : Array Value} (hw : ∀ d ∈ tables_1, d.before a0 Z = true) : (Jvm.Cond.laysStatic "com/example/meldwork/meldwork/Rank" "NINE" "Lcom/example/meldwork/meldwork/Rank;").before a0 Z = true := hw _ (List.mem_of_getElem? (i := 20) rfl)
theorem wd_21 {Z : State} {a0 : Array Value} (hw : ∀ d ∈ tables_1, d.before a0 Z = true) : (Jvm.Cond.fieldLink "com/example/meldwork/meldwork/RankIsWildPinLaw" (35 : Nat) "com/example/meldwork/meldwork/Rank" "TEN" "Lcom/example/meldwork/meldwork/Rank;").before a0 Z = true := hw _ (List.mem_of_getElem? (i := 21) rfl)
theorem wd_22 {Z : State} {a0 : Array Value} (hw : ∀ d ∈ tables_1, d.before a0 Z = true) : (Jvm.Cond.laysStatic "com/example/meldwork/meldwork/Rank" "TEN" "Lcom/example/meldwork/meldwork/Rank;").before a0 Z = true := hw _ (List.mem_of_getElem? (i := 22) rfl)
theorem wd_23 {Z : State} {a0 : Array Value} (hw : ∀ d ∈ tables_1, d.before a0 Z = true) : (Jvm.Cond.fieldLink "com/example/meldwork/meldwork/RankIsWildPinLaw" (38 : Nat) "com/example/meldwork/meldwork/Rank" "JACK" "Lcom/example/meldwork/meldwork/Rank;").before a0 Z = true := hw _ (List.mem_of_getElem? (i := 23) rfl)
theorem wd_24 {Z : State} {a0 : Array Value} (hw : ∀ d ∈ tables_1, d.before a0 Z = true) : (Jvm.Cond.laysStatic "com/example/meldwork/meldwork/Rank" "JACK" "Lcom/example/meldwork/meldwork/Rank;").before a0 Z = true := hw _ (List.mem_of_getElem? (i := 24) rfl)
theorem wd_25 {Z : State} {a0 : Array Value} (hw : ∀ d ∈ tables_1, d.before a0 Z = true) : (Jvm.Cond.fieldLink "com/example/meldwork/meldwork/RankIsWildPinLaw" (41 : Nat) "com/example/meldwork/meldwork/Rank" "QUEEN" "Lcom/example/meldwork/meldwork/Rank;").before a0 Z = true := hw _ (List.mem_of_getElem? (i := 25) rfl)
theorem wd_26 {Z : State} {a0 : Array Value} (hw : ∀ d ∈ tables_1, d.before a0 Z = true) : (Jvm.Cond.laysStatic "com/example/meldwork/meldwork/Rank" "QUEEN" "Lcom/example/meldwork/meldwork/Rank;").before a0 Z = true := hw _ (List.mem_of_getElem? (i := 26) rfl)
theorem wd_27 {Z : State} {a0 : Array Value} (hw : ∀ d ∈ tables_1, d.before a0 Z = true) : (Jvm.Cond.fieldLink "com/example/meldwork/meldwork/RankIsWildPinLaw" (44 : Nat) "com/example/meldwork/meldwork/Rank" "KING" "Lcom/example/meldwork/meldwork/Rank;").before a0 Z = true := hw _ (List.mem_of_getElem? (i := 27) rfl)
theorem wd_28 {Z : State} {a0 : Array Value} (hw : ∀ d ∈ tables_1, d.before a0 Z = true) : (Jvm.Cond.laysStatic "com/example/meldwork/meldwork/Rank" "KING" "Lcom/example/meldwork/meldwork/Rank;").before a0 Z = true := hw _ (List.mem_of_getElem? (i := 28) rfl)
theorem wd_29 {Z : State} {a0 : Array Value} (hw : ∀ d ∈ tables_1, d.before a0 Z = true) : (Jvm.Cond.fieldLink "com/example/meldwork/meldwork/RankIsWildPinLaw" (47 : Nat) "com/example/meldwork/meldwork/Rank" "ACE" "Lcom/example/meldwork/meldwork/Rank;").before a0 Z = true := hw _ (List.mem_of_getElem? (i := 29) rfl)
theorem wd_30 {Z : State} {a0 : Array Value} (hw : ∀ d ∈ tables_1, d.before a0 Z = true) : (Jvm.Cond.laysStatic "com/example/meldwork/meldwork/Rank" "ACE" "Lcom/example/meldwork/meldwork/Rank;").before a0 Z = true := hw _ (List.mem_of_getElem? (i := 30) rfl)
theorem wd_31 {Z : State} {a0 : Array Value} (hw : ∀ d ∈ tables_1, d.before a0 Z = true) : (Jvm.Cond.fieldLink "com/example/meldwork/meldwork/RankIsWildPinLaw" (50 : Nat) "com/example/meldwork/meldwork/Rank" "JOKER" "Lcom/example/meldwork/meldwork/Rank;").before a0 Z = true := hw _ (List.mem_of_getElem? (i := 31) rfl)
theorem wd_32 {Z : State} {a0 : Array Value} (hw : ∀ d ∈ tables_1, d.before a0 Z = true) : (Jvm.Cond.laysStatic "com/example/meldwork/meldwork/Rank" "JOKER" "Lcom/example/meldwork/meldwork/Rank;").before a0 Z = true := hw _ (List.mem_of_getElem? (i := 32) rfl)
theorem wd_33 {Z : State} {a0 : Array Value} (hw : ∀ d ∈ tables_1, d.before a0 Z = true) : (Jvm.Cond.methodLink "com/example/meldwork/meldwork/RankIsWildPinLaw" (53 : Nat) ({ cls := "com/example/meldwork/meldwork/Rank", name := "isWild", desc := "()Z" } : Jvm.MethodName)).before a0 Z = true := hw _ (List.mem_of_getElem? (i := 33) rfl)
theorem wd_34 {Z : State} {a0 : Array Value} (hw : ∀ d ∈ tables_1, d.before a0 Z = true) : (Jvm.Cond.declares ({ cls := "com/example/meldwork/meldwork/Rank", name := "isWild", desc := "()Z" } : Jvm.MethodName)).before a0 Z = true := hw _ (List.mem_of_getElem? (i := 34) rfl)
theorem wd_35 {Z : State} {a0 : Array Value} (hw : ∀ d ∈ tables_1, d.before a0 Z = true) : (Jvm.Cond.instanceMethod ({ cls := "com/example/meldwork/meldwork/Rank", name := "isWild", desc := "()Z" } : Jvm.MethodName)).before a0 Z = true := hw _ (List.mem_of_getElem? (i := 35) rfl)
theorem wd_36 {Z : State} {a0 : Array Value} (hw : ∀ d ∈ tables_1, d.before a0 Z = true) : (Jvm.Cond.selects "com/example/meldwork/meldwork/Rank" ({ cls := "com/example/meldwork/meldwork/Rank", name := "isWild", desc := "()Z" } : Jvm.MethodName) ({ cls := "com/example/meldwork/meldwork/Rank", name := "isWild", desc := "()Z" } : Jvm.MethodName)).before a0 Z = true := hw _ (List.mem_of_getElem? (i := 36) rfl)
theorem wd_37 {Z : State} {a0 : Array Value} (hw : ∀ d ∈ tables_1, d.before a0 Z = true) : (Jvm.Cond.code ({ cls := "com/example/meldwork/meldwork/Rank", name := "isWild", desc := "()Z" } : Jvm.MethodName) prog_47_method_5_code (1 : Nat) (Option.some Jvm.ClassFile.FieldType.boolean)).before a0 Z = true := hw _ (List.mem_of_getElem? (i := 37) rfl)
theorem wd_38 {Z : State} {a0 : Array Value} (hw : ∀ d ∈ tables_1, d.before a0 Z = true) : (Jvm.Cond.fieldLink "com/example/meldwork/meldwork/Rank" (43 : Nat) "com/example/meldwork/meldwork/Rank" "JOKER" "Lcom/example/meldwork/meldwork/Rank;").before a0 Z = true := hw _ (List.mem_of_getElem? (i := 38) rfl)
theorem wd_39 {Z : State} {a0 : Array Value} (hw : ∀ d ∈ tables_1, d.before a0 Z = true) : (Jvm.Cond.fieldLink "com/example/meldwork/meldwork/Rank" (3 : Nat) "com/example/meldwork/meldwork/Rank" "TWO" "Lcom/example/meldwork/meldwork/Rank;").before a0 Z = true := hw _ (List.mem_of_getElem? (i := 39) rfl)
theorem ef_rm1 : ∀ (m : MethodId) (oa : Addr), entryFrame m #[(.ref oa)] 1 = mkF m 0 #[.val (.ref oa)] [] := by intros; first | (simp [entryFrame, mkF, argsToLocals, Value.category]; done) | rfl
theorem d1_0 : decode prog_47_method_5_code 0 = .ok (.aload_n 0, 1) := by decide +kernel
theorem d1_1 : decode prog_47_method_5_code 1 = .ok (.getstatic 43, 3) := by decide +kernel
theorem d1_4 : decode prog_47_method_5_code 4 = .ok (.if_acmp .eq 10, 3) := by decide +kernel
theorem d1_14 : decode prog_47_method_5_code 14 = .ok (.iconst 1, 1) := by decide +kernel
theorem d1_15 : decode prog_47_method_5_code 15 = .ok (.goto 4, 3) := by decide +kernel
theorem d1_19 : decode prog_47_method_5_code 19 = .ok (.ireturn, 1) := by decide +kernel
theorem d1_7 : decode prog_47_method_5_code 7 = .ok (.aload_n 0, 1) := by decide +kernel
theorem d1_8 : decode prog_47_method_5_code 8 = .ok (.getstatic 3, 3) := by decide +kernel
theorem d1_11 : decode prog_47_method_5_code 11 = .ok (.if_acmp .ne 7, 3) := by decide +kernel
theorem d1_18 : decode prog_47_method_5_code 18 = .ok (.iconst 0, 1) := by decide +kernel
theorem pn_1 : plainName "com/example/meldwork/meldwork/Rank" = true := by first | (simp [plainName, overriddenIn]; done) | decide +kernel
theorem ef_rm0 : ∀ (m : MethodId) (xx : Int32), entryFrame m #[(.int xx)] maxLocals = mkF m 0 #[.val (.int xx), .unset, .unset, .unset, .unset] [] := by intros; first | (simp [entryFrame, mkF, argsToLocals, Value.category, maxLocals]; done) | rfl
theorem pd_0 : parseMethodDescriptor "()Z" = some ⟨[], some .boolean⟩ := by decide +kernel
theorem pn_0 : plainName "com/example/meldwork/meldwork/RankIsWildPinLaw" = true := by first | (simp [plainName, overriddenIn]; done) | decide +kernel
theorem own_k (a : Int32) : (a &&& 2147483647) % 14 = 0 ∨ (a &&& 2147483647) % 14 = 1 ∨ (a &&& 2147483647) % 14 = 2 ∨ (a &&& 2147483647) % 14 = 3 ∨ (a &&& 2147483647) % 14 = 4 ∨ (a &&& 2147483647) % 14 = 5 ∨ (a &&& 2147483647) % 14 = 6 ∨ (a &&& 2147483647) % 14 = 7 ∨ (a &&& 2147483647) % 14 = 8 ∨ (a &&& 2147483647) % 14 = 9 ∨ (a &&& 2147483647) % 14 = 10 ∨ (a &&& 2147483647) % 14 = 11 ∨ (a &&& 2147483647) % 14 = 12 ∨ (a &&& 2147483647) % 14 = 13 := by
  have e : (a &&& 2147483647).toInt = a.toInt % (2 ^ 31 : Nat) := c_mask a 2147483647 31 (by decide) (by decide)
  have q := (c_irem (a &&& 2147483647) 14 14 rfl).1 (by rw [e]; omega)
  generalize (a &&& 2147483647) % 14 = r at *
  simp only [← Int32.toInt_inj, Int32.reduceToInt]
  omega
set_option maxRecDepth 65536 in
set_option maxHeartbeats 40000000 in
theorem rm1 (l : Launch) (Z : State) (a0 : Array Value) (hw : ∀ d ∈ tables_1, d.before a0 Z = true) (oa : Addr) (A_JOKER A_TWO : Addr) (h0 : Heap) (n0 : Nat) (Z0 : n0 ≤ h0.size) (S_JOKER : Sta Z h0 "com/example/meldwork/meldwork/Rank" "JOKER" "Lcom/example/meldwork/meldwork/Rank;" (.ref A_JOKER))(S_TWO : Sta Z h0 "com/example/meldwork/meldwork/Rank" "TWO" "Lcom/example/meldwork/meldwork/Rank;" (.ref A_TWO)) :
    ownMet l Z (⟨"com/example/meldwork/meldwork/Rank", "isWild", "()Z"⟩ : MethodName) prog_47_method_5_code 1 (some .boolean) [] ({ frames := 0, cells := 0, slots := 0, locals := 0 } : Room) #[(.ref oa)] h0 (fun v h L => v = some (.int (if oa = A_JOKER then 1 else if oa = A_TWO then 1 else 0)) ∧ L = [] ∧ h = h0) := by
  refine ownMet.of (plainFor_of_name pn_1) ?_
  intro p e s m below meth c T0 hx hby hml hZ hown hnm hret hlk X0 e0
  refine ownEnds.cast (ef_rm1 m oa) ?_
  show ownEnds _ _ _ _ (T0.setTop (mkF m 0 #[.val (.ref oa)] []))
  refine ownEnds.law (fun t k => XS.aloadN X0.here hx rfl (hb hby d1_0) rfl rfl k) ?_
  show ownEnds _ _ _ _ (T0.setTop (mkF m 1 #[.val (.ref oa)] [(.ref oa)]))
  obtain ⟨T1, X1, e1, st1⟩ := getS2 X0 hx hZ hown (host := "") (Or.inl (wd_38 hw)) Via.refl e0 S_JOKER (g := (mkF m 1 #[.val (.ref oa)] [(.ref oa)])) rfl (hb hby d1_1)
  refine ownEnds.law st1 ?_
  show ownEnds _ _ _ _ (T1.setTop (mkF m 4 #[.val (.ref oa)] [(.ref A_JOKER), (.ref oa)]))
  by_cases hc4 : oa = A_JOKER
  · refine ownEnds.law (fun t => Jvm.RoadKit.acmp (g := (mkF m 4 #[.val (.ref oa)] [(.ref A_JOKER), (.ref oa)])) X1 hx rfl rfl rfl (pc0 := 4) (pc' := 14) (same := true) rfl (hb hby d1_4) rfl (decide_eq_true (congrArg Value.ref hc4)) (by decide) (by decide)) ?_
    show ownEnds _ _ _ _ (T1.setTop (mkF m 14 #[.val (.ref oa)] []))
    refine ownEnds.law (fun t k => XS.iconst X1.here hx rfl (hb hby d1_14) (XS.goto X1.here hx rfl (pc0 := 15) (pc' := 19) rfl (hb hby d1_15) (by decide) (by decide) k)) ?_
    show ownEnds _ _ _ _ (T1.setTop (mkF m 19 #[.val (.ref oa)] [(.int (1 : Int32))]))
    refine ownRetN X1 hlk hx (t := .boolean) hret (by simp) (hb hby d1_19) (by decide) (by decide) ?_
    exact ⟨by simp_all [nar], rfl, e1⟩
  · refine ownEnds.law (fun t => Jvm.RoadKit.acmp (g := (mkF m 4 #[.val (.ref oa)] [(.ref A_JOKER), (.ref oa)])) X1 hx rfl rfl rfl (pc0 := 4) (pc' := 7) (same := false) rfl (hb hby d1_4) rfl (decide_eq_false fun q => hc4 (Value.ref.inj q)) (by decide) (by decide)) ?_
    show ownEnds _ _ _ _ (T1.setTop (mkF m 7 #[.val (.ref oa)] []))
    refine ownEnds.law (fun t k => XS.aloadN X1.here hx rfl (hb hby d1_7) rfl rfl k) ?_
    show ownEnds _ _ _ _ (T1.setTop (mkF m 8 #[.val (.ref oa)] [(.ref oa)]))
    obtain ⟨T2, X2, e2, st2⟩ := getS2 X1 hx hZ hown (host := "") (Or.inl (wd_39 hw)) Via.refl e1 S_TWO (g := (mkF m 8 #[.val (.ref oa)] [(.ref oa)])) rfl (hb hby d1_8)
    refine ownEnds.law st2 ?_
    show ownEnds _ _ _ _ (T2.setTop (mkF m 11 #[.val (.ref oa)] [(.ref A_TWO), (.ref oa)]))
    by_cases hc11 : oa = A_TWO
    · refine ownEnds.law (fun t => Jvm.RoadKit.acmp (g := (mkF m 11 #[.val (.ref oa)] [(.ref A_TWO), (.ref oa)])) X2 hx rfl rfl rfl (pc0 := 11) (pc' := 14) (same := true) rfl (hb hby d1_11) rfl (decide_eq_true (congrArg Value.ref hc11)) (by decide) (by decide)) ?_
      show ownEnds _ _ _ _ (T2.setTop (mkF m 14 #[.val (.ref oa)] []))
      refine ownEnds.law (fun t k => XS.iconst X2.here hx rfl (hb hby d1_14) (XS.goto X2.here hx rfl (pc0 := 15) (pc' := 19) rfl (hb hby d1_15) (by decide) (by decide) k)) ?_
      show ownEnds _ _ _ _ (T2.setTop (mkF m 19 #[.val (.ref oa)] [(.int (1 : Int32))]))
      refine ownRetN X2 hlk hx (t := .boolean) hret (by simp) (hb hby d1_19) (by decide) (by decide) ?_
      exact ⟨by simp_all [nar], rfl, e2⟩
    · refine ownEnds.law (fun t => Jvm.RoadKit.acmp (g := (mkF m 11 #[.val (.ref oa)] [(.ref A_TWO), (.ref oa)])) X2 hx rfl rfl rfl (pc0 := 11) (pc' := 18) (same := false) rfl (hb hby d1_11) rfl (decide_eq_false fun q => hc11 (Value.ref.inj q)) (by decide) (by decide)) ?_
      show ownEnds _ _ _ _ (T2.setTop (mkF m 18 #[.val (.ref oa)] []))
      refine ownEnds.law (fun t k => XS.iconst X2.here hx rfl (hb hby d1_18) k) ?_
      show ownEnds _ _ _ _ (T2.setTop (mkF m 19 #[.val (.ref oa)] [(.int (0 : Int32))]))
      refine ownRetN X2 hlk hx (t := .boolean) hret (by simp) (hb hby d1_19) (by decide) (by decide) ?_
      exact ⟨by simp_all [nar], rfl, e2⟩
set_option maxRecDepth 65536 in
set_option maxHeartbeats 40000000 in
theorem rm0 (l : Launch) (Z : State) (a0 : Array Value) (hw : ∀ d ∈ tables_1, d.before a0 Z = true) (xx : Int32) (A_TWO A_THREE A_FOUR A_FIVE A_SIX A_SEVEN A_EIGHT A_NINE A_TEN A_JACK A_QUEEN A_KING A_ACE A_JOKER : Addr) (h0 : Heap) (n0 : Nat) (Z0 : n0 ≤ h0.size) (S_TWO : Sta Z h0 "com/example/meldwork/meldwork/Rank" "TWO" "Lcom/example/meldwork/meldwork/Rank;" (.ref A_TWO)) (E_TWO : Exa Z h0 A_TWO "com/example/meldwork/meldwork/Rank") (S_THREE : Sta Z h0 "com/example/meldwork/meldwork/Rank" "THREE" "Lcom/example/meldwork/meldwork/Rank;" (.ref A_THREE)) (E_THREE : Exa Z h0 A_THREE "com/example/meldwork/meldwork/Rank") (S_FOUR : Sta Z h0 "com/example/meldwork/meldwork/Rank" "FOUR" "Lcom/example/meldwork/meldwork/Rank;" (.ref A_FOUR)) (E_FOUR : Exa Z h0 A_FOUR "com/example/meldwork/meldwork/Rank") (S_FIVE : Sta Z h0 "com/example/meldwork/meldwork/Rank" "FIVE" "Lcom/example/meldwork/meldwork/Rank;" (.ref A_FIVE)) (E_FIVE : Exa Z h0 A_FIVE "com/example/meldwork/meldwork/Rank") (S_SIX : Sta Z h0 "com/example/meldwork/meldwork/Rank" "SIX" "Lcom/example/meldwork/meldwork/Rank;" (.ref A_SIX)) (E_SIX : Exa Z h0 A_SIX "com/example/meldwork/meldwork/Rank") (S_SEVEN : Sta Z h0 "com/example/meldwork/meldwork/Rank" "SEVEN" "Lcom/example/meldwork/meldwork/Rank;" (.ref A_SEVEN)) (E_SEVEN : Exa Z h0 A_SEVEN "com/example/meldwork/meldwork/Rank") (S_EIGHT : Sta Z h0 "com/example/meldwork/meldwork/Rank" "EIGHT" "Lcom/example/meldwork/meldwork/Rank;" (.ref A_EIGHT)) (E_EIGHT : Exa Z h0 A_EIGHT "com/example/meldwork/meldwork/Rank") (S_NINE : Sta Z h0 "com/example/meldwork/meldwork/Rank" "NINE" "Lcom/example/meldwork/meldwork/Rank;" (.ref A_NINE)) (E_NINE : Exa Z h0 A_NINE "com/example/meldwork/meldwork/Rank") (S_TEN : Sta Z h0 "com/example/meldwork/meldwork/Rank" "TEN" "Lcom/example/meldwork/meldwork/Rank;" (.ref A_TEN)) (E_TEN : Exa Z h0 A_TEN "com/example/meldwork/meldwork/Rank") (S_JACK : Sta Z h0 "com/example/meldwork/meldwork/Rank" "JACK" "Lcom/example/meldwork/meldwork/Rank;" (.ref A_JACK)) (E_JACK : Exa Z h0 A_JACK "com/example/meldwork/meldwork/Rank") (S_QUEEN : Sta Z h0 "com/example/meldwork/meldwork/Rank" "QUEEN" "Lcom/example/meldwork/meldwork/Rank;" (.ref A_QUEEN)) (E_QUEEN : Exa Z h0 A_QUEEN "com/example/meldwork/meldwork/Rank") (S_KING : Sta Z h0 "com/example/meldwork/meldwork/Rank" "KING" "Lcom/example/meldwork/meldwork/Rank;" (.ref A_KING)) (E_KING : Exa Z h0 A_KING "com/example/meldwork/meldwork/Rank") (S_ACE : Sta Z h0 "com/example/meldwork/meldwork/Rank" "ACE" "Lcom/example/meldwork/meldwork/Rank;" (.ref A_ACE)) (E_ACE : Exa Z h0 A_ACE "com/example/meldwork/meldwork/Rank") (S_JOKER : Sta Z h0 "com/example/meldwork/meldwork/Rank" "JOKER" "Lcom/example/meldwork/meldwork/Rank;" (.ref A_JOKER)) (E_JOKER : Exa Z h0 A_JOKER "com/example/meldwork/meldwork/Rank") (nj_THREE : A_THREE ≠ A_JOKER) (nt_THREE : A_THREE ≠ A_TWO) (nj_FOUR : A_FOUR ≠ A_JOKER) (nt_FOUR : A_FOUR ≠ A_TWO) (nj_FIVE : A_FIVE ≠ A_JOKER) (nt_FIVE : A_FIVE ≠ A_TWO) (nj_SIX : A_SIX ≠ A_JOKER) (nt_SIX : A_SIX ≠ A_TWO) (nj_SEVEN : A_SEVEN ≠ A_JOKER) (nt_SEVEN : A_SEVEN ≠ A_TWO) (nj_EIGHT : A_EIGHT ≠ A_JOKER) (nt_EIGHT : A_EIGHT ≠ A_TWO) (nj_NINE : A_NINE ≠ A_JOKER) (nt_NINE : A_NINE ≠ A_TWO) (nj_TEN : A_TEN ≠ A_JOKER) (nt_TEN : A_TEN ≠ A_TWO) (nj_JACK : A_JACK ≠ A_JOKER) (nt_JACK : A_JACK ≠ A_TWO) (nj_QUEEN : A_QUEEN ≠ A_JOKER) (nt_QUEEN : A_QUEEN ≠ A_TWO) (nj_KING : A_KING ≠ A_JOKER) (nt_KING : A_KING ≠ A_TWO) (nj_ACE : A_ACE ≠ A_JOKER) (nt_ACE : A_ACE ≠ A_TWO) :
    ownMet l Z x code maxLocals ret tables_1 room_1 #[(.int xx)] h0 (fun v h L => v = some (.int 1) ∧ Fr n0 L) := by
  refine ownMet.of (plainFor_of_name pn_0) ?_
  intro p e s m below meth c T0 hx hby hml hZ hown hnm hret hlk X0 e0
  have hown : s.vm.findClass "com/example/meldwork/meldwork/RankIsWildPinLaw" = some m.cls := hown
  have hml : c.maxLocals = 5 := hml
  have hret : meth.sig.returnType = some .boolean := hret
  refine ownEnds.cast (ef_rm0 m xx) ?_
  show ownEnds _ _ _ _ (T0.setTop (mkF m 0 #[.val (.int xx), .unset, .unset, .unset, .unset] []))
  refine ownEnds.law (fun t k => XS.iloadN X0.here hx rfl (hb hby at_0) rfl (X0.ldcInt hx hown (mvT hZ (wd_0 hw)) (g := (mkF m 1 #[.val (.int xx), .unset, .unset, .unset, .unset] [(.int xx)])) rfl (hb hby at_1) _ (XS.iand X0.here hx rfl (hb hby at_3) rfl (XS.bipush X0.here hx rfl (hb hby at_4) (iremM X0 hx rfl (hb hby at_6) rfl (by decide) k))))) ?_
  show ownEnds _ _ _ _ (T0.setTop (mkF m 7 #[.val (.int xx), .unset, .unset, .unset, .unset] [(.int ((xx &&& (2147483647 : Int32)) % (14 : Int32)))]))
  obtain ⟨k0, e_k0⟩ : ∃ z : Int32, z = ((xx &&& (2147483647 : Int32)) % (14 : Int32)) := ⟨_, rfl⟩
  rw [← e_k0]
  show ownEnds _ _ _ _ (T0.setTop (mkF m 7 #[.val (.int xx), .unset, .unset, .unset, .unset] [(.int k0)]))
  refine ownEnds.law (fun t k => XS.istoreN X0.here hx rfl (hb hby at_7) rfl (l' := #[.val (.int xx), .val (.int k0), .unset, .unset, .unset]) rfl (XS.bipush X0.here hx rfl (hb hby at_8) k)) ?_
  show ownEnds _ _ _ _ (T0.setTop (mkF m 10 #[.val (.int xx), .val (.int k0), .unset, .unset, .unset] [(.int (14 : Int32))]))
  obtain ⟨T1, h1, k1, X1, e1, E1, A1, O1, st1⟩ := newR X0 hx hZ hown (wd_1 hw) (wd_2 hw) e0 (g := (mkF m 10 #[.val (.int xx), .val (.int k0), .unset, .unset, .unset] [(.int (14 : Int32))])) rfl (hb hby at_10) rfl (by decide) (cap := 14) (by decide) (by decide) (by decide) (by decide)
  obtain ⟨b1, g1⟩ : ∃ z, z = h0.size := ⟨_, rfl⟩
  rw [← g1] at A1 st1
  refine ownEnds.law st1 ?_
  have V_b1 : Arv Z h1 b1 k1 (.object "com/example/meldwork/meldwork/Rank") (14 : Int32) [.null, .null, .null, .null, .null, .null, .null, .null, .null, .null, .null, .null, .null, .null] .null := (Arv.new A1 (by decide)).pad (pad_rep [] .null 14)
  have g_b1 : n0 ≤ b1 := Nat.le_trans Z0 (Nat.le_of_eq g1.symm)
  have Z1 : n0 ≤ h1.size := Nat.le_trans Z0 E1.1
  show ownEnds _ _ _ _ (T1.setTop (mkF m 13 #[.val (.int xx), .val (.int k0), .unset, .unset, .unset] [(.ref b1)]))
  refine ownEnds.law (fun t k => XS.dup X1.here hx rfl (hb hby at_13) rfl rfl (XS.iconst X1.here hx rfl (hb hby at_14) k)) ?_
  show ownEnds _ _ _ _ (T1.setTop (mkF m 15 #[.val (.int xx), .val (.int k0), .unset, .unset, .unset] [(.int (0 : Int32)), (.ref b1), (.ref b1)]))
  have f2 := (Sta.ext E1 S_TWO)
  obtain ⟨T3, X3, e3, st3⟩ := getS2 X1 hx hZ hown (host := "") (Or.inl (wd_3 hw)) Via.refl e1 f2 (g := (mkF m 15 #[.val (.int xx), .val (.int k0), .unset, .unset, .unset] [(.int (0 : Int32)), (.ref b1), (.ref b1)])) rfl (hb hby at_15)
  refine ownEnds.law st3 ?_
  show ownEnds _ _ _ _ (T3.setTop (mkF m 18 #[.val (.int xx), .val (.int k0), .unset, .unset, .unset] [(.ref A_TWO), (.int (0 : Int32)), (.ref b1), (.ref b1)]))
  have f5 := (Exa.ext E1 E_TWO)
  obtain ⟨cl4, Ar4, q4, S4, N4, H4, G4⟩ := V_b1
  obtain ⟨T4, h4, X4, e4, W4, st4⟩ := stR X3 hx hZ e3 Ar4 (j := (0 : Int32)) (inb_of S4 ⟨by decide, by decide⟩) rfl (Sto.ofV Ar4 q4 O1 (Ins.self f5)) (g := (mkF m 18 #[.val (.int xx), .val (.int k0), .unset, .unset, .unset] [(.ref A_TWO), (.int (0 : Int32)), (.ref b1), (.ref b1)])) rfl rfl (hb hby at_18)
  refine ownEnds.law st4 ?_
  have V4 : Arv Z h4 b1 k1 (.object "com/example/meldwork/meldwork/Rank") (14 : Int32) [(.ref A_TWO), .null, .null, .null, .null, .null, .null, .null, .null, .null, .null, .null, .null, .null] .null := Arv.set Ar4 q4 S4 N4 H4 G4 rfl W4 0 rfl (Nat.le_of_ble_eq_true rfl)
  have N4 := Fr.snoc X4 (Fr.nil n0) g_b1
  have Z4 : n0 ≤ h4.size := by rw [W4.size]; exact Z1
  show ownEnds _ _ _ _ (T4.setTop (mkF m 19 #[.val (.int xx), .val (.int k0), .unset, .unset, .unset] [(.ref b1)]))
  refine ownEnds.law (fun t k => XS.dup X4.here hx rfl (hb hby at_19) rfl rfl (XS.iconst X4.here hx rfl (hb hby at_20) k)) ?_
  show ownEnds _ _ _ _ (T4.setTop (mkF m 21 #[.val (.int xx), .val (.int k0), .unset, .unset, .unset] [(.int (1 : Int32)), (.ref b1), (.ref b1)]))
  have f6 := (Sta.wr W4 (Sta.ext E1 S_THREE))
  obtain ⟨T7, X7, e7, st7⟩ := getS2 X4 hx hZ hown (host := "") (Or.inl (wd_7 hw)) Via.refl e4 f6 (g := (mkF m 21 #[.val (.int xx), .val (.int k0), .unset, .unset, .unset] [(.int (1 : Int32)), (.ref b1), (.ref b1)])) rfl (hb hby at_21)
  refine ownEnds.law st7 ?_
  show ownEnds _ _ _ _ (T7.setTop (mkF m 24 #[.val (.int xx), .val (.int k0), .unset, .unset, .unset] [(.ref A_THREE), (.int (1 : Int32)), (.ref b1), (.ref b1)]))
  have f9 := (Exa.wr W4 (Exa.ext E1 E_THREE))
  obtain ⟨cl8, Ar8, q8, S8, N8, H8, G8⟩ := V4
  obtain ⟨T8, h8, X8, e8, W8, st8⟩ := stR X7 hx hZ e7 Ar8 (j := (1 : Int32)) (inb_of S8 ⟨by decide, by decide⟩) rfl (Sto.ofV Ar8 q8 O1 (Ins.self f9)) (g := (mkF m 24 #[.val (.int xx), .val (.int k0), .unset, .unset, .unset] [(.ref A_THREE), (.int (1 : Int32)), (.ref b1), (.ref b1)])) rfl rfl (hb hby at_24)
  refine ownEnds.law st8 ?_
  have V8 : Arv Z h8 b1 k1 (.object "com/example/meldwork/meldwork/Rank") (14 : Int32) [(.ref A_TWO), (.ref A_THREE), .null, .null, .null, .null, .null, .null, .null, .null, .null, .null, .null, .null] .null := Arv.set Ar8 q8 S8 N8 H8 G8 rfl W8 1 rfl (Nat.le_of_ble_eq_true rfl)
  have N8 := Fr.snoc X8 N4 g_b1
  have Z8 : n0 ≤ h8.size := by rw [W8.size]; exact Z4
  show ownEnds _ _ _ _ (T8.setTop (mkF m 25 #[.val (.int xx), .val (.int k0), .unset, .unset, .unset] [(.ref b1)]))
  refine ownEnds.law (fun t k => XS.dup X8.here hx rfl (hb hby at_25) rfl rfl (XS.iconst X8.here hx rfl (hb hby at_26) k)) ?_
  show ownEnds _ _ _ _ (T8.setTop (mkF m 27 #[.val (.int xx), .val (.int k0), .unset, .unset, .unset] [(.int (2 : Int32)), (.ref b1), (.ref b1)]))
  have f10 := (Sta.wr W8 (Sta.wr W4 (Sta.ext E1 S_FOUR)))
  obtain ⟨T11, X11, e11, st11⟩ := getS2 X8 hx hZ hown (host := "") (Or.inl (wd_9 hw)) Via.refl e8 f10 (g := (mkF m 27 #[.val (.int xx), .val (.int k0), .unset, .unset, .unset] [(.int (2 : Int32)), (.ref b1), (.ref b1)])) rfl (hb hby at_27)
  refine ownEnds.law st11 ?_
  show ownEnds _ _ _ _ (T11.setTop (mkF m 30 #[.val (.int xx), .val (.int k0), .unset, .unset, .unset] [(.ref A_FOUR), (.int (2 : Int32)), (.ref b1), (.ref b1)]))
  have f13 := (Exa.wr W8 (Exa.wr W4 (Exa.ext E1 E_FOUR)))
  obtain ⟨cl12, Ar12, q12, S12, N12, H12, G12⟩ := V8
  obtain ⟨T12, h12, X12, e12, W12, st12⟩ := stR X11 hx hZ e11 Ar12 (j := (2 : Int32)) (inb_of S12 ⟨by decide, by decide⟩) rfl (Sto.ofV Ar12 q12 O1 (Ins.self f13)) (g := (mkF m 30 #[.val (.int xx), .val (.int k0), .unset, .unset, .unset] [(.ref A_FOUR), (.int (2 : Int32)), (.ref b1), (.ref b1)])) rfl rfl (hb hby at_30)
  refine ownEnds.law st12 ?_
  have V12 : Arv Z h12 b1 k1 (.object "com/example/meldwork/meldwork/Rank") (14 : Int32) [(.ref A_TWO), (.ref A_THREE), (.ref A_FOUR), .null, .null, .null, .null, .null, .null, .null, .null, .null, .null, .null] .null := Arv.set Ar12 q12 S12 N12 H12 G12 rfl W12 2 rfl (Nat.le_of_ble_eq_true rfl)
  have N12 := Fr.snoc X12 N8 g_b1
  have Z12 : n0 ≤ h12.size := by rw [W12.size]; exact Z8
  show ownEnds _ _ _ _ (T12.setTop (mkF m 31 #[.val (.int xx), .val (.int k0), .unset, .unset, .unset] [(.ref b1)]))
  refine ownEnds.law (fun t k => XS.dup X12.here hx rfl (hb hby at_31) rfl rfl (XS.iconst X12.here hx rfl (hb hby at_32) k)) ?_
  show ownEnds _ _ _ _ (T12.setTop (mkF m 33 #[.val (.int xx), .val (.int k0), .unset, .unset, .unset] [(.int (3 : Int32)), (.ref b1), (.ref b1)]))
  have f14 := (Sta.wr W12 (Sta.wr W8 (Sta.wr W4 (Sta.ext E1 S_FIVE))))
  obtain ⟨T15, X15, e15, st15⟩ := getS2 X12 hx hZ hown (host := "") (Or.inl (wd_11 hw)) Via.refl e12 f14 (g := (mkF m 33 #[.val (.int xx), .val (.int k0), .unset, .unset, .unset] [(.int (3 : Int32)), (.ref b1), (.ref b1)])) rfl (hb hby at_33)
  refine ownEnds.law st15 ?_
  show ownEnds _ _ _ _ (T15.setTop (mkF m 36 #[.val (.int xx), .val (.int k0), .unset, .unset, .unset] [(.ref A_FIVE), (.int (3 : Int32)), (.ref b1), (.ref b1)]))
  have f17 := (Exa.wr W12 (Exa.wr W8 (Exa.wr W4 (Exa.ext E1 E_FIVE))))
  obtain ⟨cl16, Ar16, q16, S16, N16, H16, G16⟩ := V12
  obtain ⟨T16, h16, X16, e16, W16, st16⟩ := stR X15 hx hZ e15 Ar16 (j := (3 : Int32)) (inb_of S16 ⟨by decide, by decide⟩) rfl (Sto.ofV Ar16 q16 O1 (Ins.self f17)) (g := (mkF m 36 #[.val (.int xx), .val (.int k0), .unset, .unset, .unset] [(.ref A_FIVE), (.int (3 : Int32)), (.ref b1), (.ref b1)])) rfl rfl (hb hby at_36)
  refine ownEnds.law st16 ?_
  have V16 : Arv Z h16 b1 k1 (.object "com/example/meldwork/meldwork/Rank") (14 : Int32) [(.ref A_TWO), (.ref A_THREE), (.ref A_FOUR), (.ref A_FIVE), .null, .null, .null, .null, .null, .null, .null, .null, .null, .null] .null := Arv.set Ar16 q16 S16 N16 H16 G16 rfl W16 3 rfl (Nat.le_of_ble_eq_true rfl)
  have N16 := Fr.snoc X16 N12 g_b1
  have Z16 : n0 ≤ h16.size := by rw [W16.size]; exact Z12
  show ownEnds _ _ _ _ (T16.setTop (mkF m 37 #[.val (.int xx), .val (.int k0), .unset, .unset, .unset] [(.ref b1)]))
  refine ownEnds.law (fun t k => XS.dup X16.here hx rfl (hb hby at_37) rfl rfl (XS.iconst X16.here hx rfl (hb hby at_38) k)) ?_
  show ownEnds _ _ _ _ (T16.setTop (mkF m 39 #[.val (.int xx), .val (.int k0), .unset, .unset, .unset] [(.int (4 : Int32)), (.ref b1), (.ref b1)]))
  have f18 := (Sta.wr W16 (Sta.wr W12 (Sta.wr W8 (Sta.wr W4 (Sta.ext E1 S_SIX)))))
  obtain ⟨T19, X19, e19, st19⟩ := getS2 X16 hx hZ hown (host := "") (Or.inl (wd_13 hw)) Via.refl e16 f18 (g := (mkF m 39 #[.val (.int xx), .val (.int k0), .unset, .unset, .unset] [(.int (4 : Int32)), (.ref b1), (.ref b1)])) rfl (hb hby at_39)
  refine ownEnds.law st19 ?_
  show ownEnds _ _ _ _ (T19.setTop (mkF m 42 #[.val (.int xx), .val (.int k0), .unset, .unset, .unset] [(.ref A_SIX), (.int (4 : Int32)), (.ref b1), (.ref b1)]))
  have f21 := (Exa.wr W16 (Exa.wr W12 (Exa.wr W8 (Exa.wr W4 (Exa.ext E1 E_SIX)))))
  obtain ⟨cl20, Ar20, q20, S20, N20, H20, G20⟩ := V16
  obtain ⟨T20, h20, X20, e20, W20, st20⟩ := stR X19 hx hZ e19 Ar20 (j := (4 : Int32)) (inb_of S20 ⟨by decide, by decide⟩) rfl (Sto.ofV Ar20 q20 O1 (Ins.self f21)) (g := (mkF m 42 #[.val (.int xx), .val (.int k0), .unset, .unset, .unset] [(.ref A_SIX), (.int (4 : Int32)), (.ref b1), (.ref b1)])) rfl rfl (hb hby at_42)
  refine ownEnds.law st20 ?_
  have V20 : Arv Z h20 b1 k1 (.object "com/example/meldwork/meldwork/Rank") (14 : Int32) [(.ref A_TWO), (.ref A_THREE), (.ref A_FOUR), (.ref A_FIVE), (.ref A_SIX), .null, .null, .null, .null, .null, .null, .null, .null, .null] .null := Arv.set Ar20 q20 S20 N20 H20 G20 rfl W20 4 rfl (Nat.le_of_ble_eq_true rfl)
  have N20 := Fr.snoc X20 N16 g_b1
  have Z20 : n0 ≤ h20.size := by rw [W20.size]; exact Z16
  show ownEnds _ _ _ _ (T20.setTop (mkF m 43 #[.val (.int xx), .val (.int k0), .unset, .unset, .unset] [(.ref b1)]))
  refine ownEnds.law (fun t k => XS.dup X20.here hx rfl (hb hby at_43) rfl rfl (XS.iconst X20.here hx rfl (hb hby at_44) k)) ?_
  show ownEnds _ _ _ _ (T20.setTop (mkF m 45 #[.val (.int xx), .val (.int k0), .unset, .unset, .unset] [(.int (5 : Int32)), (.ref b1), (.ref b1)]))
  have f22 := (Sta.wr W20 (Sta.wr W16 (Sta.wr W12 (Sta.wr W8 (Sta.wr W4 (Sta.ext E1 S_SEVEN))))))
  obtain ⟨T23, X23, e23, st23⟩ := getS2 X20 hx hZ hown (host := "") (Or.inl (wd_15 hw)) Via.refl e20 f22 (g := (mkF m 45 #[.val (.int xx), .val (.int k0), .unset, .unset, .unset] [(.int (5 : Int32)), (.ref b1), (.ref b1)])) rfl (hb hby at_45)
  refine ownEnds.law st23 ?_
  show ownEnds _ _ _ _ (T23.setTop (mkF m 48 #[.val (.int xx), .val (.int k0), .unset, .unset, .unset] [(.ref A_SEVEN), (.int (5 : Int32)), (.ref b1), (.ref b1)]))
  have f25 := (Exa.wr W20 (Exa.wr W16 (Exa.wr W12 (Exa.wr W8 (Exa.wr W4 (Exa.ext E1 E_SEVEN))))))
  obtain ⟨cl24, Ar24, q24, S24, N24, H24, G24⟩ := V20
  obtain ⟨T24, h24, X24, e24, W24, st24⟩ := stR X23 hx hZ e23 Ar24 (j := (5 : Int32)) (inb_of S24 ⟨by decide, by decide⟩) rfl (Sto.ofV Ar24 q24 O1 (Ins.self f25)) (g := (mkF m 48 #[.val (.int xx), .val (.int k0), .unset, .unset, .unset] [(.ref A_SEVEN), (.int (5 : Int32)), (.ref b1), (.ref b1)])) rfl rfl (hb hby at_48)
  refine ownEnds.law st24 ?_
  have V24 : Arv Z h24 b1 k1 (.object "com/example/meldwork/meldwork/Rank") (14 : Int32) [(.ref A_TWO), (.ref A_THREE), (.ref A_FOUR), (.ref A_FIVE), (.ref A_SIX), (.ref A_SEVEN), .null, .null, .null, .null, .null, .null, .null, .null] .null := Arv.set Ar24 q24 S24 N24 H24 G24 rfl W24 5 rfl (Nat.le_of_ble_eq_true rfl)
  have N24 := Fr.snoc X24 N20 g_b1
  have Z24 : n0 ≤ h24.size := by rw [W24.size]; exact Z20
  show ownEnds _ _ _ _ (T24.setTop (mkF m 49 #[.val (.int xx), .val (.int k0), .unset, .unset, .unset] [(.ref b1)]))
  refine ownEnds.law (fun t k => XS.dup X24.here hx rfl (hb hby at_49) rfl rfl (XS.bipush X24.here hx rfl (hb hby at_50) k)) ?_
  show ownEnds _ _ _ _ (T24.setTop (mkF m 52 #[.val (.int xx), .val (.int k0), .unset, .unset, .unset] [(.int (6 : Int32)), (.ref b1), (.ref b1)]))
  have f26 := (Sta.wr W24 (Sta.wr W20 (Sta.wr W16 (Sta.wr W12 (Sta.wr W8 (Sta.wr W4 (Sta.ext E1 S_EIGHT)))))))
  obtain ⟨T27, X27, e27, st27⟩ := getS2 X24 hx hZ hown (host := "") (Or.inl (wd_17 hw)) Via.refl e24 f26 (g := (mkF m 52 #[.val (.int xx), .val (.int k0), .unset, .unset, .unset] [(.int (6 : Int32)), (.ref b1), (.ref b1)])) rfl (hb hby at_52)
  refine ownEnds.law st27 ?_
  show ownEnds _ _ _ _ (T27.setTop (mkF m 55 #[.val (.int xx), .val (.int k0), .unset, .unset, .unset] [(.ref A_EIGHT), (.int (6 : Int32)), (.ref b1), (.ref b1)]))
  have f29 := (Exa.wr W24 (Exa.wr W20 (Exa.wr W16 (Exa.wr W12 (Exa.wr W8 (Exa.wr W4 (Exa.ext E1 E_EIGHT)))))))
  obtain ⟨cl28, Ar28, q28, S28, N28, H28, G28⟩ := V24
  obtain ⟨T28, h28, X28, e28, W28, st28⟩ := stR X27 hx hZ e27 Ar28 (j := (6 : Int32)) (inb_of S28 ⟨by decide, by decide⟩) rfl (Sto.ofV Ar28 q28 O1 (Ins.self f29)) (g := (mkF m 55 #[.val (.int xx), .val (.int k0), .unset, .unset, .unset] [(.ref A_EIGHT), (.int (6 : Int32)), (.ref b1), (.ref b1)])) rfl rfl (hb hby at_55)
  refine ownEnds.law st28 ?_
  have V28 : Arv Z h28 b1 k1 (.object "com/example/meldwork/meldwork/Rank") (14 : Int32) [(.ref A_TWO), (.ref A_THREE), (.ref A_FOUR), (.ref A_FIVE), (.ref A_SIX), (.ref A_SEVEN), (.ref A_EIGHT), .null, .null, .null, .null, .null, .null, .null] .null := Arv.set Ar28 q28 S28 N28 H28 G28 rfl W28 6 rfl (Nat.le_of_ble_eq_true rfl)
  have N28 := Fr.snoc X28 N24 g_b1
  have Z28 : n0 ≤ h28.size := by rw [W28.size]; exact Z24
  show ownEnds _ _ _ _ (T28.setTop (mkF m 56 #[.val (.int xx), .val (.int k0), .unset, .unset, .unset] [(.ref b1)]))
  refine ownEnds.law (fun t k => XS.dup X28.here hx rfl (hb hby at_56) rfl rfl (XS.bipush X28.here hx rfl (hb hby at_57) k)) ?_
  show ownEnds _ _ _ _ (T28.setTop (mkF m 59 #[.val (.int xx), .val (.int k0), .unset, .unset, .unset] [(.int (7 : Int32)), (.ref b1), (.ref b1)]))
  have f30 := (Sta.wr W28 (Sta.wr W24 (Sta.wr W20 (Sta.wr W16 (Sta.wr W12 (Sta.wr W8 (Sta.wr W4 (Sta.ext E1 S_NINE))))))))
  obtain ⟨T31, X31, e31, st31⟩ := getS2 X28 hx hZ hown (host := "") (Or.inl (wd_19 hw)) Via.refl e28 f30 (g := (mkF m 59 #[.val (.int xx), .val (.int k0), .unset, .unset, .unset] [(.int (7 : Int32)), (.ref b1), (.ref b1)])) rfl (hb hby at_59)
  refine ownEnds.law st31 ?_
  show ownEnds _ _ _ _ (T31.setTop (mkF m 62 #[.val (.int xx), .val (.int k0), .unset, .unset, .unset] [(.ref A_NINE), (.int (7 : Int32)), (.ref b1), (.ref b1)]))
  have f33 := (Exa.wr W28 (Exa.wr W24 (Exa.wr W20 (Exa.wr W16 (Exa.wr W12 (Exa.wr W8 (Exa.wr W4 (Exa.ext E1 E_NINE))))))))
  obtain ⟨cl32, Ar32, q32, S32, N32, H32, G32⟩ := V28
  obtain ⟨T32, h32, X32, e32, W32, st32⟩ := stR X31 hx hZ e31 Ar32 (j := (7 : Int32)) (inb_of S32 ⟨by decide, by decide⟩) rfl (Sto.ofV Ar32 q32 O1 (Ins.self f33)) (g := (mkF m 62 #[.val (.int xx), .val (.int k0), .unset, .unset, .unset] [(.ref A_NINE), (.int (7 : Int32)), (.ref b1), (.ref b1)])) rfl rfl (hb hby at_62)
  refine ownEnds.law st32 ?_
  have V32 : Arv Z h32 b1 k1 (.object "com/example/meldwork/meldwork/Rank") (14 : Int32) [(.ref A_TWO), (.ref A_THREE), (.ref A_FOUR), (.ref A_FIVE), (.ref A_SIX), (.ref A_SEVEN), (.ref A_EIGHT), (.ref A_NINE), .null, .null, .null, .null, .null, .null] .null := Arv.set Ar32 q32 S32 N32 H32 G32 rfl W32 7 rfl (Nat.le_of_ble_eq_true rfl)
  have N32 := Fr.snoc X32 N28 g_b1
  have Z32 : n0 ≤ h32.size := by rw [W32.size]; exact Z28
  show ownEnds _ _ _ _ (T32.setTop (mkF m 63 #[.val (.int xx), .val (.int k0), .unset, .unset, .unset] [(.ref b1)]))
  refine ownEnds.law (fun t k => XS.dup X32.here hx rfl (hb hby at_63) rfl rfl (XS.bipush X32.here hx rfl (hb hby at_64) k)) ?_
  show ownEnds _ _ _ _ (T32.setTop (mkF m 66 #[.val (.int xx), .val (.int k0), .unset, .unset, .unset] [(.int (8 : Int32)), (.ref b1), (.ref b1)]))
  have f34 := (Sta.wr W32 (Sta.wr W28 (Sta.wr W24 (Sta.wr W20 (Sta.wr W16 (Sta.wr W12 (Sta.wr W8 (Sta.wr W4 (Sta.ext E1 S_TEN)))))))))
  obtain ⟨T35, X35, e35, st35⟩ := getS2 X32 hx hZ hown (host := "") (Or.inl (wd_21 hw)) Via.refl e32 f34 (g := (mkF m 66 #[.val (.int xx), .val (.int k0), .unset, .unset, .unset] [(.int (8 : Int32)), (.ref b1), (.ref b1)])) rfl (hb hby at_66)
  refine ownEnds.law st35 ?_
  show ownEnds _ _ _ _ (T35.setTop (mkF m 69 #[.val (.int xx), .val (.int k0), .unset, .unset, .unset] [(.ref A_TEN), (.int (8 : Int32)), (.ref b1), (.ref b1)]))
  have f37 := (Exa.wr W32 (Exa.wr W28 (Exa.wr W24 (Exa.wr W20 (Exa.wr W16 (Exa.wr W12 (Exa.wr W8 (Exa.wr W4 (Exa.ext E1 E_TEN)))))))))
  obtain ⟨cl36, Ar36, q36, S36, N36, H36, G36⟩ := V32
  obtain ⟨T36, h36, X36, e36, W36, st36⟩ := stR X35 hx hZ e35 Ar36 (j := (8 : Int32)) (inb_of S36 ⟨by decide, by decide⟩) rfl (Sto.ofV Ar36 q36 O1 (Ins.self f37)) (g := (mkF m 69 #[.val (.int xx), .val (.int k0), .unset, .unset, .unset] [(.ref A_TEN), (.int (8 : Int32)), (.ref b1), (.ref b1)])) rfl rfl (hb hby at_69)
  refine ownEnds.law st36 ?_
  have V36 : Arv Z h36 b1 k1 (.object "com/example/meldwork/meldwork/Rank") (14 : Int32) [(.ref A_TWO), (.ref A_THREE), (.ref A_FOUR), (.ref A_FIVE), (.ref A_SIX), (.ref A_SEVEN), (.ref A_EIGHT), (.ref A_NINE), (.ref A_TEN), .null, .null, .null, .null, .null] .null := Arv.set Ar36 q36 S36 N36 H36 G36 rfl W36 8 rfl (Nat.le_of_ble_eq_true rfl)
  have N36 := Fr.snoc X36 N32 g_b1
  have Z36 : n0 ≤ h36.size := by rw [W36.size]; exact Z32
  show ownEnds _ _ _ _ (T36.setTop (mkF m 70 #[.val (.int xx), .val (.int k0), .unset, .unset, .unset] [(.ref b1)]))
  refine ownEnds.law (fun t k => XS.dup X36.here hx rfl (hb hby at_70) rfl rfl (XS.bipush X36.here hx rfl (hb hby at_71) k)) ?_
  show ownEnds _ _ _ _ (T36.setTop (mkF m 73 #[.val (.int xx), .val (.int k0), .unset, .unset, .unset] [(.int (9 : Int32)), (.ref b1), (.ref b1)]))
  have f38 := (Sta.wr W36 (Sta.wr W32 (Sta.wr W28 (Sta.wr W24 (Sta.wr W20 (Sta.wr W16 (Sta.wr W12 (Sta.wr W8 (Sta.wr W4 (Sta.ext E1 S_JACK))))))))))
  obtain ⟨T39, X39, e39, st39⟩ := getS2 X36 hx hZ hown (host := "") (Or.inl (wd_23 hw)) Via.refl e36 f38 (g := (mkF m 73 #[.val (.int xx), .val (.int k0), .unset, .unset, .unset] [(.int (9 : Int32)), (.ref b1), (.ref b1)])) rfl (hb hby at_73)
  refine ownEnds.law st39 ?_
  show ownEnds _ _ _ _ (T39.setTop (mkF m 76 #[.val (.int xx), .val (.int k0), .unset, .unset, .unset] [(.ref A_JACK), (.int (9 : Int32)), (.ref b1), (.ref b1)]))
  have f41 := (Exa.wr W36 (Exa.wr W32 (Exa.wr W28 (Exa.wr W24 (Exa.wr W20 (Exa.wr W16 (Exa.wr W12 (Exa.wr W8 (Exa.wr W4 (Exa.ext E1 E_JACK))))))))))
  obtain ⟨cl40, Ar40, q40, S40, N40, H40, G40⟩ := V36
  obtain ⟨T40, h40, X40, e40, W40, st40⟩ := stR X39 hx hZ e39 Ar40 (j := (9 : Int32)) (inb_of S40 ⟨by decide, by decide⟩) rfl (Sto.ofV Ar40 q40 O1 (Ins.self f41)) (g := (mkF m 76 #[.val (.int xx), .val (.int k0), .unset, .unset, .unset] [(.ref A_JACK), (.int (9 : Int32)), (.ref b1), (.ref b1)])) rfl rfl (hb hby at_76)
  refine ownEnds.law st40 ?_
  have V40 : Arv Z h40 b1 k1 (.object "com/example/meldwork/meldwork/Rank") (14 : Int32) [(.ref A_TWO), (.ref A_THREE), (.ref A_FOUR), (.ref A_FIVE), (.ref A_SIX), (.ref A_SEVEN), (.ref A_EIGHT), (.ref A_NINE), (.ref A_TEN), (.ref A_JACK), .null, .null, .null, .null] .null := Arv.set Ar40 q40 S40 N40 H40 G40 rfl W40 9 rfl (Nat.le_of_ble_eq_true rfl)
  have N40 := Fr.snoc X40 N36 g_b1
  have Z40 : n0 ≤ h40.size := by rw [W40.size]; exact Z36
  show ownEnds _ _ _ _ (T40.setTop (mkF m 77 #[.val (.int xx), .val (.int k0), .unset, .unset, .unset] [(.ref b1)]))
  refine ownEnds.law (fun t k => XS.dup X40.here hx rfl (hb hby at_77) rfl rfl (XS.bipush X40.here hx rfl (hb hby at_78) k)) ?_
  show ownEnds _ _ _ _ (T40.setTop (mkF m 80 #[.val (.int xx), .val (.int k0), .unset, .unset, .unset] [(.int (10 : Int32)), (.ref b1), (.ref b1)]))
  have f42 := (Sta.wr W40 (Sta.wr W36 (Sta.wr W32 (Sta.wr W28 (Sta.wr W24 (Sta.wr W20 (Sta.wr W16 (Sta.wr W12 (Sta.wr W8 (Sta.wr W4 (Sta.ext E1 S_QUEEN)))))))))))
  obtain ⟨T43, X43, e43, st43⟩ := getS2 X40 hx hZ hown (host := "") (Or.inl (wd_25 hw)) Via.refl e40 f42 (g := (mkF m 80 #[.val (.int xx), .val (.int k0), .unset, .unset, .unset] [(.int (10 : Int32)), (.ref b1), (.ref b1)])) rfl (hb hby at_80)
  refine ownEnds.law st43 ?_
  show ownEnds _ _ _ _ (T43.setTop (mkF m 83 #[.val (.int xx), .val (.int k0), .unset, .unset, .unset] [(.ref A_QUEEN), (.int (10 : Int32)), (.ref b1), (.ref b1)]))
  have f45 := (Exa.wr W40 (Exa.wr W36 (Exa.wr W32 (Exa.wr W28 (Exa.wr W24 (Exa.wr W20 (Exa.wr W16 (Exa.wr W12 (Exa.wr W8 (Exa.wr W4 (Exa.ext E1 E_QUEEN)))))))))))
  obtain ⟨cl44, Ar44, q44, S44, N44, H44, G44⟩ := V40
  obtain ⟨T44, h44, X44, e44, W44, st44⟩ := stR X43 hx hZ e43 Ar44 (j := (10 : Int32)) (inb_of S44 ⟨by decide, by decide⟩) rfl (Sto.ofV Ar44 q44 O1 (Ins.self f45)) (g := (mkF m 83 #[.val (.int xx), .val (.int k0), .unset, .unset, .unset] [(.ref A_QUEEN), (.int (10 : Int32)), (.ref b1), (.ref b1)])) rfl rfl (hb hby at_83)
  refine ownEnds.law st44 ?_
  have V44 : Arv Z h44 b1 k1 (.object "com/example/meldwork/meldwork/Rank") (14 : Int32) [(.ref A_TWO), (.ref A_THREE), (.ref A_FOUR), (.ref A_FIVE), (.ref A_SIX), (.ref A_SEVEN), (.ref A_EIGHT), (.ref A_NINE), (.ref A_TEN), (.ref A_JACK), (.ref A_QUEEN), .null, .null, .null] .null := Arv.set Ar44 q44 S44 N44 H44 G44 rfl W44 10 rfl (Nat.le_of_ble_eq_true rfl)
  have N44 := Fr.snoc X44 N40 g_b1
  have Z44 : n0 ≤ h44.size := by rw [W44.size]; exact Z40
  show ownEnds _ _ _ _ (T44.setTop (mkF m 84 #[.val (.int xx), .val (.int k0), .unset, .unset, .unset] [(.ref b1)]))
  refine ownEnds.law (fun t k => XS.dup X44.here hx rfl (hb hby at_84) rfl rfl (XS.bipush X44.here hx rfl (hb hby at_85) k)) ?_
  show ownEnds _ _ _ _ (T44.setTop (mkF m 87 #[.val (.int xx), .val (.int k0), .unset, .unset, .unset] [(.int (11 : Int32)), (.ref b1), (.ref b1)]))
  have f46 := (Sta.wr W44 (Sta.wr W40 (Sta.wr W36 (Sta.wr W32 (Sta.wr W28 (Sta.wr W24 (Sta.wr W20 (Sta.wr W16 (Sta.wr W12 (Sta.wr W8 (Sta.wr W4 (Sta.ext E1 S_KING))))))))))))
  obtain ⟨T47, X47, e47, st47⟩ := getS2 X44 hx hZ hown (host := "") (Or.inl (wd_27 hw)) Via.refl e44 f46 (g := (mkF m 87 #[.val (.int xx), .val (.int k0), .unset, .unset, .unset] [(.int (11 : Int32)), (.ref b1), (.ref b1)])) rfl (hb hby at_87)
  refine ownEnds.law st47 ?_
  show ownEnds _ _ _ _ (T47.setTop (mkF m 90 #[.val (.int xx), .val (.int k0), .unset, .unset, .unset] [(.ref A_KING), (.int (11 : Int32)), (.ref b1), (.ref b1)]))
  have f49 := (Exa.wr W44 (Exa.wr W40 (Exa.wr W36 (Exa.wr W32 (Exa.wr W28 (Exa.wr W24 (Exa.wr W20 (Exa.wr W16 (Exa.wr W12 (Exa.wr W8 (Exa.wr W4 (Exa.ext E1 E_KING))))))))))))
  obtain ⟨cl48, Ar48, q48, S48, N48, H48, G48⟩ := V44
  obtain ⟨T48, h48, X48, e48, W48, st48⟩ := stR X47 hx hZ e47 Ar48 (j := (11 : Int32)) (inb_of S48 ⟨by decide, by decide⟩) rfl (Sto.ofV Ar48 q48 O1 (Ins.self f49)) (g := (mkF m 90 #[.val (.int xx), .val (.int k0), .unset, .unset, .unset] [(.ref A_KING), (.int (11 : Int32)), (.ref b1), (.ref b1)])) rfl rfl (hb hby at_90)
  refine ownEnds.law st48 ?_
  have V48 : Arv Z h48 b1 k1 (.object "com/example/meldwork/meldwork/Rank") (14 : Int32) [(.ref A_TWO), (.ref A_THREE), (.ref A_FOUR), (.ref A_FIVE), (.ref A_SIX), (.ref A_SEVEN), (.ref A_EIGHT), (.ref A_NINE), (.ref A_TEN), (.ref A_JACK), (.ref A_QUEEN), (.ref A_KING), .null, .null] .null := Arv.set Ar48 q48 S48 N48 H48 G48 rfl W48 11 rfl (Nat.le_of_ble_eq_true rfl)
  have N48 := Fr.snoc X48 N44 g_b1
  have Z48 : n0 ≤ h48.size := by rw [W48.size]; exact Z44
  show ownEnds _ _ _ _ (T48.setTop (mkF m 91 #[.val (.int xx), .val (.int k0), .unset, .unset, .unset] [(.ref b1)]))
  refine ownEnds.law (fun t k => XS.dup X48.here hx rfl (hb hby at_91) rfl rfl (XS.bipush X48.here hx rfl (hb hby at_92) k)) ?_
  show ownEnds _ _ _ _ (T48.setTop (mkF m 94 #[.val (.int xx), .val (.int k0), .unset, .unset, .unset] [(.int (12 : Int32)), (.ref b1), (.ref b1)]))
  have f50 := (Sta.wr W48 (Sta.wr W44 (Sta.wr W40 (Sta.wr W36 (Sta.wr W32 (Sta.wr W28 (Sta.wr W24 (Sta.wr W20 (Sta.wr W16 (Sta.wr W12 (Sta.wr W8 (Sta.wr W4 (Sta.ext E1 S_ACE)))))))))))))
  obtain ⟨T51, X51, e51, st51⟩ := getS2 X48 hx hZ hown (host := "") (Or.inl (wd_29 hw)) Via.refl e48 f50 (g := (mkF m 94 #[.val (.int xx), .val (.int k0), .unset, .unset, .unset] [(.int (12 : Int32)), (.ref b1), (.ref b1)])) rfl (hb hby at_94)
  refine ownEnds.law st51 ?_
  show ownEnds _ _ _ _ (T51.setTop (mkF m 97 #[.val (.int xx), .val (.int k0), .unset, .unset, .unset] [(.ref A_ACE), (.int (12 : Int32)), (.ref b1), (.ref b1)]))
  have f53 := (Exa.wr W48 (Exa.wr W44 (Exa.wr W40 (Exa.wr W36 (Exa.wr W32 (Exa.wr W28 (Exa.wr W24 (Exa.wr W20 (Exa.wr W16 (Exa.wr W12 (Exa.wr W8 (Exa.wr W4 (Exa.ext E1 E_ACE)))))))))))))
  obtain ⟨cl52, Ar52, q52, S52, N52, H52, G52⟩ := V48
  obtain ⟨T52, h52, X52, e52, W52, st52⟩ := stR X51 hx hZ e51 Ar52 (j := (12 : Int32)) (inb_of S52 ⟨by decide, by decide⟩) rfl (Sto.ofV Ar52 q52 O1 (Ins.self f53)) (g := (mkF m 97 #[.val (.int xx), .val (.int k0), .unset, .unset, .unset] [(.ref A_ACE), (.int (12 : Int32)), (.ref b1), (.ref b1)])) rfl rfl (hb hby at_97)
  refine ownEnds.law st52 ?_
  have V52 : Arv Z h52 b1 k1 (.object "com/example/meldwork/meldwork/Rank") (14 : Int32) [(.ref A_TWO), (.ref A_THREE), (.ref A_FOUR), (.ref A_FIVE), (.ref A_SIX), (.ref A_SEVEN), (.ref A_EIGHT), (.ref A_NINE), (.ref A_TEN), (.ref A_JACK), (.ref A_QUEEN), (.ref A_KING), (.ref A_ACE), .null] .null := Arv.set Ar52 q52 S52 N52 H52 G52 rfl W52 12 rfl (Nat.le_of_ble_eq_true rfl)
  have N52 := Fr.snoc X52 N48 g_b1
  have Z52 : n0 ≤ h52.size := by rw [W52.size]; exact Z48
  show ownEnds _ _ _ _ (T52.setTop (mkF m 98 #[.val (.int xx), .val (.int k0), .unset, .unset, .unset] [(.ref b1)]))
  refine ownEnds.law (fun t k => XS.dup X52.here hx rfl (hb hby at_98) rfl rfl (XS.bipush X52.here hx rfl (hb hby at_99) k)) ?_
  show ownEnds _ _ _ _ (T52.setTop (mkF m 101 #[.val (.int xx), .val (.int k0), .unset, .unset, .unset] [(.int (13 : Int32)), (.ref b1), (.ref b1)]))
  have f54 := (Sta.wr W52 (Sta.wr W48 (Sta.wr W44 (Sta.wr W40 (Sta.wr W36 (Sta.wr W32 (Sta.wr W28 (Sta.wr W24 (Sta.wr W20 (Sta.wr W16 (Sta.wr W12 (Sta.wr W8 (Sta.wr W4 (Sta.ext E1 S_JOKER))))))))))))))
  obtain ⟨T55, X55, e55, st55⟩ := getS2 X52 hx hZ hown (host := "") (Or.inl (wd_31 hw)) Via.refl e52 f54 (g := (mkF m 101 #[.val (.int xx), .val (.int k0), .unset, .unset, .unset] [(.int (13 : Int32)), (.ref b1), (.ref b1)])) rfl (hb hby at_101)
  refine ownEnds.law st55 ?_
  show ownEnds _ _ _ _ (T55.setTop (mkF m 104 #[.val (.int xx), .val (.int k0), .unset, .unset, .unset] [(.ref A_JOKER), (.int (13 : Int32)), (.ref b1), (.ref b1)]))
  have f57 := (Exa.wr W52 (Exa.wr W48 (Exa.wr W44 (Exa.wr W40 (Exa.wr W36 (Exa.wr W32 (Exa.wr W28 (Exa.wr W24 (Exa.wr W20 (Exa.wr W16 (Exa.wr W12 (Exa.wr W8 (Exa.wr W4 (Exa.ext E1 E_JOKER))))))))))))))
  obtain ⟨cl56, Ar56, q56, S56, N56, H56, G56⟩ := V52
  obtain ⟨T56, h56, X56, e56, W56, st56⟩ := stR X55 hx hZ e55 Ar56 (j := (13 : Int32)) (inb_of S56 ⟨by decide, by decide⟩) rfl (Sto.ofV Ar56 q56 O1 (Ins.self f57)) (g := (mkF m 104 #[.val (.int xx), .val (.int k0), .unset, .unset, .unset] [(.ref A_JOKER), (.int (13 : Int32)), (.ref b1), (.ref b1)])) rfl rfl (hb hby at_104)
  refine ownEnds.law st56 ?_
  have V56 : Arv Z h56 b1 k1 (.object "com/example/meldwork/meldwork/Rank") (14 : Int32) [(.ref A_TWO), (.ref A_THREE), (.ref A_FOUR), (.ref A_FIVE), (.ref A_SIX), (.ref A_SEVEN), (.ref A_EIGHT), (.ref A_NINE), (.ref A_TEN), (.ref A_JACK), (.ref A_QUEEN), (.ref A_KING), (.ref A_ACE), (.ref A_JOKER)] .null := Arv.set Ar56 q56 S56 N56 H56 G56 rfl W56 13 rfl (Nat.le_of_ble_eq_true rfl)
  have N56 := Fr.snoc X56 N52 g_b1
  have Z56 : n0 ≤ h56.size := by rw [W56.size]; exact Z52
  show ownEnds _ _ _ _ (T56.setTop (mkF m 105 #[.val (.int xx), .val (.int k0), .unset, .unset, .unset] [(.ref b1)]))
  refine ownEnds.law (fun t k => XS.astoreN X56.here hx rfl (hb hby at_105) rfl rfl (l' := #[.val (.int xx), .val (.int k0), .val (.ref b1), .unset, .unset]) rfl k) ?_
  show ownEnds _ _ _ _ (T56.setTop (mkF m 106 #[.val (.int xx), .val (.int k0), .val (.ref b1), .unset, .unset] []))
  have hk := own_k xx
  rw [← e_k0] at hk
  clear e_k0
  rcases hk with rfl | rfl | rfl | rfl | rfl | rfl | rfl | rfl | rfl | rfl | rfl | rfl | rfl | rfl
  · show ownEnds _ _ _ _ (T56.setTop (mkF m 106 #[.val (.int xx), .val (.int (0 : Int32)), .val (.ref b1), .unset, .unset] []))
    refine ownEnds.law (fun t k => XS.aloadN X56.here hx rfl (hb hby at_106) rfl rfl (XS.iloadN X56.here hx rfl (hb hby at_107) rfl k)) ?_
    show ownEnds _ _ _ _ (T56.setTop (mkF m 108 #[.val (.int xx), .val (.int (0 : Int32)), .val (.ref b1), .unset, .unset] [(.int (0 : Int32)), (.ref b1)]))
    obtain ⟨cl58, Ar58, q58, S58, N58, H58, G58⟩ := V56
    have hi58 := inb_of (j := (0 : Int32)) S58 ⟨by decide, by decide⟩
    have hv58 : cl58.slots[((0 : Int32)).toNatClampNeg]? = some (.ref A_TWO) := H58.at hi58 rfl
    refine ownEnds.law (fun t k => X56.aaload hx (j := (0 : Int32)) (v := (.ref A_TWO)) (by rw [e56]; exact Ar58.1) (State.isArrayOf_alike hZ.alike Ar58.2.1) rfl Ar58.2.2 hi58 hv58 (g := (mkF m 108 #[.val (.int xx), .val (.int (0 : Int32)), .val (.ref b1), .unset, .unset] [(.int (0 : Int32)), (.ref b1)])) rfl rfl (hb hby at_108) _ (XS.astoreN X56.here hx rfl (hb hby at_109) rfl rfl (l' := #[.val (.int xx), .val (.int (0 : Int32)), .val (.ref b1), .val (.ref A_TWO), .unset]) rfl (XS.iloadN X56.here hx rfl (hb hby at_110) rfl k))) ?_
    show ownEnds _ _ _ _ (T56.setTop (mkF m 111 #[.val (.int xx), .val (.int (0 : Int32)), .val (.ref b1), .val (.ref A_TWO), .unset] [(.int (0 : Int32))]))
    refine ownEnds.law (fun t => XS.ifYes X56.here hx rfl (pc0 := 111) (pc' := 120) rfl (hb hby at_111) rfl ((if0 _ _).trans (teq (rfl : (0 : Int32) = (0 : Int32))).1) (by decide) (by decide)) ?_
    show ownEnds _ _ _ _ (T56.setTop (mkF m 120 #[.val (.int xx), .val (.int (0 : Int32)), .val (.ref b1), .val (.ref A_TWO), .unset] []))
    refine ownEnds.law (fun t k => XS.iconst X56.here hx rfl (hb hby at_120) (XS.goto X56.here hx rfl (pc0 := 121) (pc' := 125) rfl (hb hby at_121) (by decide) (by decide) (XS.istore X56.here hx rfl (hb hby at_125) rfl (l' := #[.val (.int xx), .val (.int (0 : Int32)), .val (.ref b1), .val (.ref A_TWO), .val (.int (1 : Int32))]) rfl (XS.aloadN X56.here hx rfl (hb hby at_127) rfl rfl k)))) ?_
    show ownEnds _ _ _ _ (T56.setTop (mkF m 128 #[.val (.int xx), .val (.int (0 : Int32)), .val (.ref b1), .val (.ref A_TWO), .val (.int (1 : Int32))] [(.ref A_TWO)]))
    have f60 := (Sta.wr W56 f54)
    have f61 := (Sta.wr W56 (Sta.wr W52 (Sta.wr W48 (Sta.wr W44 (Sta.wr W40 (Sta.wr W36 (Sta.wr W32 (Sta.wr W28 (Sta.wr W24 (Sta.wr W20 (Sta.wr W16 (Sta.wr W12 (Sta.wr W8 (Sta.wr W4 f2))))))))))))))
    have f62 := (Exa.wr W56 (Exa.wr W52 (Exa.wr W48 (Exa.wr W44 (Exa.wr W40 (Exa.wr W36 (Exa.wr W32 (Exa.wr W28 (Exa.wr W24 (Exa.wr W20 (Exa.wr W16 (Exa.wr W12 (Exa.wr W8 (Exa.wr W4 f5))))))))))))))
    obtain ⟨v59, T59, L59, X59, hQ59, st59⟩ := ownCallV X56 hx hZ hown (y := (⟨"com/example/meldwork/meldwork/Rank", "isWild", "()Z"⟩ : MethodName)) (z := (⟨"com/example/meldwork/meldwork/Rank", "isWild", "()Z"⟩ : MethodName)) (a := A_TWO) (as := []) (wd_33 hw) (wd_34 hw) (notFace_of_selects (args := #[]) (mvT hZ (wd_36 hw))) (wd_36 hw) (wd_35 hw) (wd_4 hw) (wd_37 hw) (by decide) (rm1 l Z a0 hw A_TWO A_JOKER A_TWO h56 n0 Z56 f60 f61) e56 f62 0 (by decide) (by decide) (by decide) (by decide) (g := (mkF m 128 #[.val (.int xx), .val (.int (0 : Int32)), .val (.ref b1), .val (.ref A_TWO), .val (.int (1 : Int32))] [(.ref A_TWO)])) rfl (by rw [hml]; rfl) (rest := []) pd_0 rfl rfl (by show 2 * 0 + _ ≤ _; exact Nat.le_of_eq rfl) (hb hby at_128)
    obtain ⟨rfl, rfl, e59⟩ := hQ59
    rw [List.append_nil] at X59
    refine ownEnds.law st59 ?_
    show ownEnds _ _ _ _ (T59.setTop (mkF m 131 #[.val (.int xx), .val (.int (0 : Int32)), .val (.ref b1), .val (.ref A_TWO), .val (.int (1 : Int32))] [(.int (if A_TWO = A_JOKER then 1 else if A_TWO = A_TWO then 1 else 0))]))
    refine ownEnds.law (fun t k => XS.iload X59.here hx rfl (hb hby at_131) rfl k) ?_
    show ownEnds _ _ _ _ (T59.setTop (mkF m 133 #[.val (.int xx), .val (.int (0 : Int32)), .val (.ref b1), .val (.ref A_TWO), .val (.int (1 : Int32))] [(.int (1 : Int32)), (.int (if A_TWO = A_JOKER then 1 else if A_TWO = A_TWO then 1 else 0))]))
    have hc133 : (if A_TWO = A_JOKER then 1 else if A_TWO = A_TWO then 1 else 0) = (1 : Int32) := by simp
    refine ownEnds.law (fun t => XS.icmpNo X59.here hx rfl (hb hby at_133) rfl (teq hc133).2) ?_
    show ownEnds _ _ _ _ (T59.setTop (mkF m 136 #[.val (.int xx), .val (.int (0 : Int32)), .val (.ref b1), .val (.ref A_TWO), .val (.int (1 : Int32))] []))
    refine ownEnds.law (fun t k => XS.iconst X59.here hx rfl (hb hby at_136) (XS.goto X59.here hx rfl (pc0 := 137) (pc' := 141) rfl (hb hby at_137) (by decide) (by decide) k)) ?_
    show ownEnds _ _ _ _ (T59.setTop (mkF m 141 #[.val (.int xx), .val (.int (0 : Int32)), .val (.ref b1), .val (.ref A_TWO), .val (.int (1 : Int32))] [(.int (1 : Int32))]))
    refine ownRetN X59 hlk hx (t := .boolean) hret (by simp) (hb hby at_141) (by decide) (by decide) ?_
    exact ⟨rfl, N56⟩
  · show ownEnds _ _ _ _ (T56.setTop (mkF m 106 #[.val (.int xx), .val (.int (1 : Int32)), .val (.ref b1), .unset, .unset] []))
    refine ownEnds.law (fun t k => XS.aloadN X56.here hx rfl (hb hby at_106) rfl rfl (XS.iloadN X56.here hx rfl (hb hby at_107) rfl k)) ?_
    show ownEnds _ _ _ _ (T56.setTop (mkF m 108 #[.val (.int xx), .val (.int (1 : Int32)), .val (.ref b1), .unset, .unset] [(.int (1 : Int32)), (.ref b1)]))
    obtain ⟨cl63, Ar63, q63, S63, N63, H63, G63⟩ := V56
    have hi63 := inb_of (j := (1 : Int32)) S63 ⟨by decide, by decide⟩
    have hv63 : cl63.slots[((1 : Int32)).toNatClampNeg]? = some (.ref A_THREE) := H63.at hi63 rfl
    refine ownEnds.law (fun t k => X56.aaload hx (j := (1 : Int32)) (v := (.ref A_THREE)) (by rw [e56]; exact Ar63.1) (State.isArrayOf_alike hZ.alike Ar63.2.1) rfl Ar63.2.2 hi63 hv63 (g := (mkF m 108 #[.val (.int xx), .val (.int (1 : Int32)), .val (.ref b1), .unset, .unset] [(.int (1 : Int32)), (.ref b1)])) rfl rfl (hb hby at_108) _ (XS.astoreN X56.here hx rfl (hb hby at_109) rfl rfl (l' := #[.val (.int xx), .val (.int (1 : Int32)), .val (.ref b1), .val (.ref A_THREE), .unset]) rfl (XS.iloadN X56.here hx rfl (hb hby at_110) rfl k))) ?_
    show ownEnds _ _ _ _ (T56.setTop (mkF m 111 #[.val (.int xx), .val (.int (1 : Int32)), .val (.ref b1), .val (.ref A_THREE), .unset] [(.int (1 : Int32))]))
    refine ownEnds.law (fun t => XS.ifNo X56.here hx rfl (hb hby at_111) rfl ((if0 _ _).trans (feq (by decide : ¬ ((1 : Int32) = (0 : Int32)))).1)) ?_
    show ownEnds _ _ _ _ (T56.setTop (mkF m 114 #[.val (.int xx), .val (.int (1 : Int32)), .val (.ref b1), .val (.ref A_THREE), .unset] []))
    refine ownEnds.law (fun t k => XS.iloadN X56.here hx rfl (hb hby at_114) rfl (XS.bipush X56.here hx rfl (hb hby at_115) k)) ?_
    show ownEnds _ _ _ _ (T56.setTop (mkF m 117 #[.val (.int xx), .val (.int (1 : Int32)), .val (.ref b1), .val (.ref A_THREE), .unset] [(.int (13 : Int32)), (.int (1 : Int32))]))
    refine ownEnds.law (fun t => XS.icmpYes X56.here hx rfl (pc0 := 117) (pc' := 124) rfl (hb hby at_117) rfl (feq (by decide : ¬ ((1 : Int32) = (13 : Int32)))).2 (by decide) (by decide)) ?_
    show ownEnds _ _ _ _ (T56.setTop (mkF m 124 #[.val (.int xx), .val (.int (1 : Int32)), .val (.ref b1), .val (.ref A_THREE), .unset] []))
    refine ownEnds.law (fun t k => XS.iconst X56.here hx rfl (hb hby at_124) (XS.istore X56.here hx rfl (hb hby at_125) rfl (l' := #[.val (.int xx), .val (.int (1 : Int32)), .val (.ref b1), .val (.ref A_THREE), .val (.int (0 : Int32))]) rfl (XS.aloadN X56.here hx rfl (hb hby at_127) rfl rfl k))) ?_
    show ownEnds _ _ _ _ (T56.setTop (mkF m 128 #[.val (.int xx), .val (.int (1 : Int32)), .val (.ref b1), .val (.ref A_THREE), .val (.int (0 : Int32))] [(.ref A_THREE)]))
    have f65 := (Sta.wr W56 f54)
    have f66 := (Sta.wr W56 (Sta.wr W52 (Sta.wr W48 (Sta.wr W44 (Sta.wr W40 (Sta.wr W36 (Sta.wr W32 (Sta.wr W28 (Sta.wr W24 (Sta.wr W20 (Sta.wr W16 (Sta.wr W12 (Sta.wr W8 (Sta.wr W4 f2))))))))))))))
    have f67 := (Exa.wr W56 (Exa.wr W52 (Exa.wr W48 (Exa.wr W44 (Exa.wr W40 (Exa.wr W36 (Exa.wr W32 (Exa.wr W28 (Exa.wr W24 (Exa.wr W20 (Exa.wr W16 (Exa.wr W12 (Exa.wr W8 f9)))))))))))))
    obtain ⟨v64, T64, L64, X64, hQ64, st64⟩ := ownCallV X56 hx hZ hown (y := (⟨"com/example/meldwork/meldwork/Rank", "isWild", "()Z"⟩ : MethodName)) (z := (⟨"com/example/meldwork/meldwork/Rank", "isWild", "()Z"⟩ : MethodName)) (a := A_THREE) (as := []) (wd_33 hw) (wd_34 hw) (notFace_of_selects (args := #[]) (mvT hZ (wd_36 hw))) (wd_36 hw) (wd_35 hw) (wd_4 hw) (wd_37 hw) (by decide) (rm1 l Z a0 hw A_THREE A_JOKER A_TWO h56 n0 Z56 f65 f66) e56 f67 0 (by decide) (by decide) (by decide) (by decide) (g := (mkF m 128 #[.val (.int xx), .val (.int (1 : Int32)), .val (.ref b1), .val (.ref A_THREE), .val (.int (0 : Int32))] [(.ref A_THREE)])) rfl (by rw [hml]; rfl) (rest := []) pd_0 rfl rfl (by show 2 * 0 + _ ≤ _; exact Nat.le_of_eq rfl) (hb hby at_128)
    obtain ⟨rfl, rfl, e64⟩ := hQ64
    rw [List.append_nil] at X64
    refine ownEnds.law st64 ?_
    show ownEnds _ _ _ _ (T64.setTop (mkF m 131 #[.val (.int xx), .val (.int (1 : Int32)), .val (.ref b1), .val (.ref A_THREE), .val (.int (0 : Int32))] [(.int (if A_THREE = A_JOKER then 1 else if A_THREE = A_TWO then 1 else 0))]))
    refine ownEnds.law (fun t k => XS.iload X64.here hx rfl (hb hby at_131) rfl k) ?_
    show ownEnds _ _ _ _ (T64.setTop (mkF m 133 #[.val (.int xx), .val (.int (1 : Int32)), .val (.ref b1), .val (.ref A_THREE), .val (.int (0 : Int32))] [(.int (0 : Int32)), (.int (if A_THREE = A_JOKER then 1 else if A_THREE = A_TWO then 1 else 0))]))
    have hc133 : (if A_THREE = A_JOKER then 1 else if A_THREE = A_TWO then 1 else 0) = (0 : Int32) := by rw [if_neg nj_THREE, if_neg nt_THREE]
    refine ownEnds.law (fun t => XS.icmpNo X64.here hx rfl (hb hby at_133) rfl (teq hc133).2) ?_
    show ownEnds _ _ _ _ (T64.setTop (mkF m 136 #[.val (.int xx), .val (.int (1 : Int32)), .val (.ref b1), .val (.ref A_THREE), .val (.int (0 : Int32))] []))
    refine ownEnds.law (fun t k => XS.iconst X64.here hx rfl (hb hby at_136) (XS.goto X64.here hx rfl (pc0 := 137) (pc' := 141) rfl (hb hby at_137) (by decide) (by decide) k)) ?_
    show ownEnds _ _ _ _ (T64.setTop (mkF m 141 #[.val (.int xx), .val (.int (1 : Int32)), .val (.ref b1), .val (.ref A_THREE), .val (.int (0 : Int32))] [(.int (1 : Int32))]))
    refine ownRetN X64 hlk hx (t := .boolean) hret (by simp) (hb hby at_141) (by decide) (by decide) ?_
    exact ⟨rfl, N56⟩
  · show ownEnds _ _ _ _ (T56.setTop (mkF m 106 #[.val (.int xx), .val (.int (2 : Int32)), .val (.ref b1), .unset, .unset] []))
    refine ownEnds.law (fun t k => XS.aloadN X56.here hx rfl (hb hby at_106) rfl rfl (XS.iloadN X56.here hx rfl (hb hby at_107) rfl k)) ?_
    show ownEnds _ _ _ _ (T56.setTop (mkF m 108 #[.val (.int xx), .val (.int (2 : Int32)), .val (.ref b1), .unset, .unset] [(.int (2 : Int32)), (.ref b1)]))
    obtain ⟨cl68, Ar68, q68, S68, N68, H68, G68⟩ := V56
    have hi68 := inb_of (j := (2 : Int32)) S68 ⟨by decide, by decide⟩
    have hv68 : cl68.slots[((2 : Int32)).toNatClampNeg]? = some (.ref A_FOUR) := H68.at hi68 rfl
    refine ownEnds.law (fun t k => X56.aaload hx (j := (2 : Int32)) (v := (.ref A_FOUR)) (by rw [e56]; exact Ar68.1) (State.isArrayOf_alike hZ.alike Ar68.2.1) rfl Ar68.2.2 hi68 hv68 (g := (mkF m 108 #[.val (.int xx), .val (.int (2 : Int32)), .val (.ref b1), .unset, .unset] [(.int (2 : Int32)), (.ref b1)])) rfl rfl (hb hby at_108) _ (XS.astoreN X56.here hx rfl (hb hby at_109) rfl rfl (l' := #[.val (.int xx), .val (.int (2 : Int32)), .val (.ref b1), .val (.ref A_FOUR), .unset]) rfl (XS.iloadN X56.here hx rfl (hb hby at_110) rfl k))) ?_
    show ownEnds _ _ _ _ (T56.setTop (mkF m 111 #[.val (.int xx), .val (.int (2 : Int32)), .val (.ref b1), .val (.ref A_FOUR), .unset] [(.int (2 : Int32))]))
    refine ownEnds.law (fun t => XS.ifNo X56.here hx rfl (hb hby at_111) rfl ((if0 _ _).trans (feq (by decide : ¬ ((2 : Int32) = (0 : Int32)))).1)) ?_
    show ownEnds _ _ _ _ (T56.setTop (mkF m 114 #[.val (.int xx), .val (.int (2 : Int32)), .val (.ref b1), .val (.ref A_FOUR), .unset] []))
    refine ownEnds.law (fun t k => XS.iloadN X56.here hx rfl (hb hby at_114) rfl (XS.bipush X56.here hx rfl (hb hby at_115) k)) ?_
    show ownEnds _ _ _ _ (T56.setTop (mkF m 117 #[.val (.int xx), .val (.int (2 : Int32)), .val (.ref b1), .val (.ref A_FOUR), .unset] [(.int (13 : Int32)), (.int (2 : Int32))]))
    refine ownEnds.law (fun t => XS.icmpYes X56.here hx rfl (pc0 := 117) (pc' := 124) rfl (hb hby at_117) rfl (feq (by decide : ¬ ((2 : Int32) = (13 : Int32)))).2 (by decide) (by decide)) ?_
    show ownEnds _ _ _ _ (T56.setTop (mkF m 124 #[.val (.int xx), .val (.int (2 : Int32)), .val (.ref b1), .val (.ref A_FOUR), .unset] []))
    refine ownEnds.law (fun t k => XS.iconst X56.here hx rfl (hb hby at_124) (XS.istore X56.here hx rfl (hb hby at_125) rfl (l' := #[.val (.int xx), .val (.int (2 : Int32)), .val (.ref b1), .val (.ref A_FOUR), .val (.int (0 : Int32))]) rfl (XS.aloadN X56.here hx rfl (hb hby at_127) rfl rfl k))) ?_
    show ownEnds _ _ _ _ (T56.setTop (mkF m 128 #[.val (.int xx), .val (.int (2 : Int32)), .val (.ref b1), .val (.ref A_FOUR), .val (.int (0 : Int32))] [(.ref A_FOUR)]))
    have f70 := (Sta.wr W56 f54)
    have f71 := (Sta.wr W56 (Sta.wr W52 (Sta.wr W48 (Sta.wr W44 (Sta.wr W40 (Sta.wr W36 (Sta.wr W32 (Sta.wr W28 (Sta.wr W24 (Sta.wr W20 (Sta.wr W16 (Sta.wr W12 (Sta.wr W8 (Sta.wr W4 f2))))))))))))))
    have f72 := (Exa.wr W56 (Exa.wr W52 (Exa.wr W48 (Exa.wr W44 (Exa.wr W40 (Exa.wr W36 (Exa.wr W32 (Exa.wr W28 (Exa.wr W24 (Exa.wr W20 (Exa.wr W16 (Exa.wr W12 f13))))))))))))
    obtain ⟨v69, T69, L69, X69, hQ69, st69⟩ := ownCallV X56 hx hZ hown (y := (⟨"com/example/meldwork/meldwork/Rank", "isWild", "()Z"⟩ : MethodName)) (z := (⟨"com/example/meldwork/meldwork/Rank", "isWild", "()Z"⟩ : MethodName)) (a := A_FOUR) (as := []) (wd_33 hw) (wd_34 hw) (notFace_of_selects (args := #[]) (mvT hZ (wd_36 hw))) (wd_36 hw) (wd_35 hw) (wd_4 hw) (wd_37 hw) (by decide) (rm1 l Z a0 hw A_FOUR A_JOKER A_TWO h56 n0 Z56 f70 f71) e56 f72 0 (by decide) (by decide) (by decide) (by decide) (g := (mkF m 128 #[.val (.int xx), .val (.int (2 : Int32)), .val (.ref b1), .val (.ref A_FOUR), .val (.int (0 : Int32))] [(.ref A_FOUR)])) rfl (by rw [hml]; rfl) (rest := []) pd_0 rfl rfl (by show 2 * 0 + _ ≤ _; exact Nat.le_of_eq rfl) (hb hby at_128)
    obtain ⟨rfl, rfl, e69⟩ := hQ69
    rw [List.append_nil] at X69
    refine ownEnds.law st69 ?_
    show ownEnds _ _ _ _ (T69.setTop (mkF m 131 #[.val (.int xx), .val (.int (2 : Int32)), .val (.ref b1), .val (.ref A_FOUR), .val (.int (0 : Int32))] [(.int (if A_FOUR = A_JOKER then 1 else if A_FOUR = A_TWO then 1 else 0))]))
    refine ownEnds.law (fun t k => XS.iload X69.here hx rfl (hb hby at_131) rfl k) ?_
    show ownEnds _ _ _ _ (T69.setTop (mkF m 133 #[.val (.int xx), .val (.int (2 : Int32)), .val (.ref b1), .val (.ref A_FOUR), .val (.int (0 : Int32))] [(.int (0 : Int32)), (.int (if A_FOUR = A_JOKER then 1 else if A_FOUR = A_TWO then 1 else 0))]))
    have hc133 : (if A_FOUR = A_JOKER then 1 else if A_FOUR = A_TWO then 1 else 0) = (0 : Int32) := by rw [if_neg nj_FOUR, if_neg nt_FOUR]
    refine ownEnds.law (fun t => XS.icmpNo X69.here hx rfl (hb hby at_133) rfl (teq hc133).2) ?_
    show ownEnds _ _ _ _ (T69.setTop (mkF m 136 #[.val (.int xx), .val (.int (2 : Int32)), .val (.ref b1), .val (.ref A_FOUR), .val (.int (0 : Int32))] []))
    refine ownEnds.law (fun t k => XS.iconst X69.here hx rfl (hb hby at_136) (XS.goto X69.here hx rfl (pc0 := 137) (pc' := 141) rfl (hb hby at_137) (by decide) (by decide) k)) ?_
    show ownEnds _ _ _ _ (T69.setTop (mkF m 141 #[.val (.int xx), .val (.int (2 : Int32)), .val (.ref b1), .val (.ref A_FOUR), .val (.int (0 : Int32))] [(.int (1 : Int32))]))
    refine ownRetN X69 hlk hx (t := .boolean) hret (by simp) (hb hby at_141) (by decide) (by decide) ?_
    exact ⟨rfl, N56⟩
  · show ownEnds _ _ _ _ (T56.setTop (mkF m 106 #[.val (.int xx), .val (.int (3 : Int32)), .val (.ref b1), .unset, .unset] []))
    refine ownEnds.law (fun t k => XS.aloadN X56.here hx rfl (hb hby at_106) rfl rfl (XS.iloadN X56.here hx rfl (hb hby at_107) rfl k)) ?_
    show ownEnds _ _ _ _ (T56.setTop (mkF m 108 #[.val (.int xx), .val (.int (3 : Int32)), .val (.ref b1), .unset, .unset] [(.int (3 : Int32)), (.ref b1)]))
    obtain ⟨cl73, Ar73, q73, S73, N73, H73, G73⟩ := V56
    have hi73 := inb_of (j := (3 : Int32)) S73 ⟨by decide, by decide⟩
    have hv73 : cl73.slots[((3 : Int32)).toNatClampNeg]? = some (.ref A_FIVE) := H73.at hi73 rfl
    refine ownEnds.law (fun t k => X56.aaload hx (j := (3 : Int32)) (v := (.ref A_FIVE)) (by rw [e56]; exact Ar73.1) (State.isArrayOf_alike hZ.alike Ar73.2.1) rfl Ar73.2.2 hi73 hv73 (g := (mkF m 108 #[.val (.int xx), .val (.int (3 : Int32)), .val (.ref b1), .unset, .unset] [(.int (3 : Int32)), (.ref b1)])) rfl rfl (hb hby at_108) _ (XS.astoreN X56.here hx rfl (hb hby at_109) rfl rfl (l' := #[.val (.int xx), .val (.int (3 : Int32)), .val (.ref b1), .val (.ref A_FIVE), .unset]) rfl (XS.iloadN X56.here hx rfl (hb hby at_110) rfl k))) ?_
    show ownEnds _ _ _ _ (T56.setTop (mkF m 111 #[.val (.int xx), .val (.int (3 : Int32)), .val (.ref b1), .val (.ref A_FIVE), .unset] [(.int (3 : Int32))]))
    refine ownEnds.law (fun t => XS.ifNo X56.here hx rfl (hb hby at_111) rfl ((if0 _ _).trans (feq (by decide : ¬ ((3 : Int32) = (0 : Int32)))).1)) ?_
    show ownEnds _ _ _ _ (T56.setTop (mkF m 114 #[.val (.int xx), .val (.int (3 : Int32)), .val (.ref b1), .val (.ref A_FIVE), .unset] []))
    refine ownEnds.law (fun t k => XS.iloadN X56.here hx rfl (hb hby at_114) rfl (XS.bipush X56.here hx rfl (hb hby at_115) k)) ?_
    show ownEnds _ _ _ _ (T56.setTop (mkF m 117 #[.val (.int xx), .val (.int (3 : Int32)), .val (.ref b1), .val (.ref A_FIVE), .unset] [(.int (13 : Int32)), (.int (3 : Int32))]))
    refine ownEnds.law (fun t => XS.icmpYes X56.here hx rfl (pc0 := 117) (pc' := 124) rfl (hb hby at_117) rfl (feq (by decide : ¬ ((3 : Int32) = (13 : Int32)))).2 (by decide) (by decide)) ?_
    show ownEnds _ _ _ _ (T56.setTop (mkF m 124 #[.val (.int xx), .val (.int (3 : Int32)), .val (.ref b1), .val (.ref A_FIVE), .unset] []))
    refine ownEnds.law (fun t k => XS.iconst X56.here hx rfl (hb hby at_124) (XS.istore X56.here hx rfl (hb hby at_125) rfl (l' := #[.val (.int xx), .val (.int (3 : Int32)), .val (.ref b1), .val (.ref A_FIVE), .val (.int (0 : Int32))]) rfl (XS.aloadN X56.here hx rfl (hb hby at_127) rfl rfl k))) ?_
    show ownEnds _ _ _ _ (T56.setTop (mkF m 128 #[.val (.int xx), .val (.int (3 : Int32)), .val (.ref b1), .val (.ref A_FIVE), .val (.int (0 : Int32))] [(.ref A_FIVE)]))
    have f75 := (Sta.wr W56 f54)
    have f76 := (Sta.wr W56 (Sta.wr W52 (Sta.wr W48 (Sta.wr W44 (Sta.wr W40 (Sta.wr W36 (Sta.wr W32 (Sta.wr W28 (Sta.wr W24 (Sta.wr W20 (Sta.wr W16 (Sta.wr W12 (Sta.wr W8 (Sta.wr W4 f2))))))))))))))
    have f77 := (Exa.wr W56 (Exa.wr W52 (Exa.wr W48 (Exa.wr W44 (Exa.wr W40 (Exa.wr W36 (Exa.wr W32 (Exa.wr W28 (Exa.wr W24 (Exa.wr W20 (Exa.wr W16 f17)))))))))))
    obtain ⟨v74, T74, L74, X74, hQ74, st74⟩ := ownCallV X56 hx hZ hown (y := (⟨"com/example/meldwork/meldwork/Rank", "isWild", "()Z"⟩ : MethodName)) (z := (⟨"com/example/meldwork/meldwork/Rank", "isWild", "()Z"⟩ : MethodName)) (a := A_FIVE) (as := []) (wd_33 hw) (wd_34 hw) (notFace_of_selects (args := #[]) (mvT hZ (wd_36 hw))) (wd_36 hw) (wd_35 hw) (wd_4 hw) (wd_37 hw) (by decide) (rm1 l Z a0 hw A_FIVE A_JOKER A_TWO h56 n0 Z56 f75 f76) e56 f77 0 (by decide) (by decide) (by decide) (by decide) (g := (mkF m 128 #[.val (.int xx), .val (.int (3 : Int32)), .val (.ref b1), .val (.ref A_FIVE), .val (.int (0 : Int32))] [(.ref A_FIVE)])) rfl (by rw [hml]; rfl) (rest := []) pd_0 rfl rfl (by show 2 * 0 + _ ≤ _; exact Nat.le_of_eq rfl) (hb hby at_128)
    obtain ⟨rfl, rfl, e74⟩ := hQ74
    rw [List.append_nil] at X74
    refine ownEnds.law st74 ?_
    show ownEnds _ _ _ _ (T74.setTop (mkF m 131 #[.val (.int xx), .val (.int (3 : Int32)), .val (.ref b1), .val (.ref A_FIVE), .val (.int (0 : Int32))] [(.int (if A_FIVE = A_JOKER then 1 else if A_FIVE = A_TWO then 1 else 0))]))
    refine ownEnds.law (fun t k => XS.iload X74.here hx rfl (hb hby at_131) rfl k) ?_
    show ownEnds _ _ _ _ (T74.setTop (mkF m 133 #[.val (.int xx), .val (.int (3 : Int32)), .val (.ref b1), .val (.ref A_FIVE), .val (.int (0 : Int32))] [(.int (0 : Int32)), (.int (if A_FIVE = A_JOKER then 1 else if A_FIVE = A_TWO then 1 else 0))]))
    have hc133 : (if A_FIVE = A_JOKER then 1 else if A_FIVE = A_TWO then 1 else 0) = (0 : Int32) := by rw [if_neg nj_FIVE, if_neg nt_FIVE]
    refine ownEnds.law (fun t => XS.icmpNo X74.here hx rfl (hb hby at_133) rfl (teq hc133).2) ?_
    show ownEnds _ _ _ _ (T74.setTop (mkF m 136 #[.val (.int xx), .val (.int (3 : Int32)), .val (.ref b1), .val (.ref A_FIVE), .val (.int (0 : Int32))] []))
    refine ownEnds.law (fun t k => XS.iconst X74.here hx rfl (hb hby at_136) (XS.goto X74.here hx rfl (pc0 := 137) (pc' := 141) rfl (hb hby at_137) (by decide) (by decide) k)) ?_
    show ownEnds _ _ _ _ (T74.setTop (mkF m 141 #[.val (.int xx), .val (.int (3 : Int32)), .val (.ref b1), .val (.ref A_FIVE), .val (.int (0 : Int32))] [(.int (1 : Int32))]))
    refine ownRetN X74 hlk hx (t := .boolean) hret (by simp) (hb hby at_141) (by decide) (by decide) ?_
    exact ⟨rfl, N56⟩
  · show ownEnds _ _ _ _ (T56.setTop (mkF m 106 #[.val (.int xx), .val (.int (4 : Int32)), .val (.ref b1), .unset, .unset] []))
    refine ownEnds.law (fun t k => XS.aloadN X56.here hx rfl (hb hby at_106) rfl rfl (XS.iloadN X56.here hx rfl (hb hby at_107) rfl k)) ?_
    show ownEnds _ _ _ _ (T56.setTop (mkF m 108 #[.val (.int xx), .val (.int (4 : Int32)), .val (.ref b1), .unset, .unset] [(.int (4 : Int32)), (.ref b1)]))
    obtain ⟨cl78, Ar78, q78, S78, N78, H78, G78⟩ := V56
    have hi78 := inb_of (j := (4 : Int32)) S78 ⟨by decide, by decide⟩
    have hv78 : cl78.slots[((4 : Int32)).toNatClampNeg]? = some (.ref A_SIX) := H78.at hi78 rfl
    refine ownEnds.law (fun t k => X56.aaload hx (j := (4 : Int32)) (v := (.ref A_SIX)) (by rw [e56]; exact Ar78.1) (State.isArrayOf_alike hZ.alike Ar78.2.1) rfl Ar78.2.2 hi78 hv78 (g := (mkF m 108 #[.val (.int xx), .val (.int (4 : Int32)), .val (.ref b1), .unset, .unset] [(.int (4 : Int32)), (.ref b1)])) rfl rfl (hb hby at_108) _ (XS.astoreN X56.here hx rfl (hb hby at_109) rfl rfl (l' := #[.val (.int xx), .val (.int (4 : Int32)), .val (.ref b1), .val (.ref A_SIX), .unset]) rfl (XS.iloadN X56.here hx rfl (hb hby at_110) rfl k))) ?_
    show ownEnds _ _ _ _ (T56.setTop (mkF m 111 #[.val (.int xx), .val (.int (4 : Int32)), .val (.ref b1), .val (.ref A_SIX), .unset] [(.int (4 : Int32))]))
    refine ownEnds.law (fun t => XS.ifNo X56.here hx rfl (hb hby at_111) rfl ((if0 _ _).trans (feq (by decide : ¬ ((4 : Int32) = (0 : Int32)))).1)) ?_
    show ownEnds _ _ _ _ (T56.setTop (mkF m 114 #[.val (.int xx), .val (.int (4 : Int32)), .val (.ref b1), .val (.ref A_SIX), .unset] []))
    refine ownEnds.law (fun t k => XS.iloadN X56.here hx rfl (hb hby at_114) rfl (XS.bipush X56.here hx rfl (hb hby at_115) k)) ?_
    show ownEnds _ _ _ _ (T56.setTop (mkF m 117 #[.val (.int xx), .val (.int (4 : Int32)), .val (.ref b1), .val (.ref A_SIX), .unset] [(.int (13 : Int32)), (.int (4 : Int32))]))
    refine ownEnds.law (fun t => XS.icmpYes X56.here hx rfl (pc0 := 117) (pc' := 124) rfl (hb hby at_117) rfl (feq (by decide : ¬ ((4 : Int32) = (13 : Int32)))).2 (by decide) (by decide)) ?_
    show ownEnds _ _ _ _ (T56.setTop (mkF m 124 #[.val (.int xx), .val (.int (4 : Int32)), .val (.ref b1), .val (.ref A_SIX), .unset] []))
    refine ownEnds.law (fun t k => XS.iconst X56.here hx rfl (hb hby at_124) (XS.istore X56.here hx rfl (hb hby at_125) rfl (l' := #[.val (.int xx), .val (.int (4 : Int32)), .val (.ref b1), .val (.ref A_SIX), .val (.int (0 : Int32))]) rfl (XS.aloadN X56.here hx rfl (hb hby at_127) rfl rfl k))) ?_
    show ownEnds _ _ _ _ (T56.setTop (mkF m 128 #[.val (.int xx), .val (.int (4 : Int32)), .val (.ref b1), .val (.ref A_SIX), .val (.int (0 : Int32))] [(.ref A_SIX)]))
    have f80 := (Sta.wr W56 f54)
    have f81 := (Sta.wr W56 (Sta.wr W52 (Sta.wr W48 (Sta.wr W44 (Sta.wr W40 (Sta.wr W36 (Sta.wr W32 (Sta.wr W28 (Sta.wr W24 (Sta.wr W20 (Sta.wr W16 (Sta.wr W12 (Sta.wr W8 (Sta.wr W4 f2))))))))))))))
    have f82 := (Exa.wr W56 (Exa.wr W52 (Exa.wr W48 (Exa.wr W44 (Exa.wr W40 (Exa.wr W36 (Exa.wr W32 (Exa.wr W28 (Exa.wr W24 (Exa.wr W20 f21))))))))))
    obtain ⟨v79, T79, L79, X79, hQ79, st79⟩ := ownCallV X56 hx hZ hown (y := (⟨"com/example/meldwork/meldwork/Rank", "isWild", "()Z"⟩ : MethodName)) (z := (⟨"com/example/meldwork/meldwork/Rank", "isWild", "()Z"⟩ : MethodName)) (a := A_SIX) (as := []) (wd_33 hw) (wd_34 hw) (notFace_of_selects (args := #[]) (mvT hZ (wd_36 hw))) (wd_36 hw) (wd_35 hw) (wd_4 hw) (wd_37 hw) (by decide) (rm1 l Z a0 hw A_SIX A_JOKER A_TWO h56 n0 Z56 f80 f81) e56 f82 0 (by decide) (by decide) (by decide) (by decide) (g := (mkF m 128 #[.val (.int xx), .val (.int (4 : Int32)), .val (.ref b1), .val (.ref A_SIX), .val (.int (0 : Int32))] [(.ref A_SIX)])) rfl (by rw [hml]; rfl) (rest := []) pd_0 rfl rfl (by show 2 * 0 + _ ≤ _; exact Nat.le_of_eq rfl) (hb hby at_128)
    obtain ⟨rfl, rfl, e79⟩ := hQ79
    rw [List.append_nil] at X79
    refine ownEnds.law st79 ?_
    show ownEnds _ _ _ _ (T79.setTop (mkF m 131 #[.val (.int xx), .val (.int (4 : Int32)), .val (.ref b1), .val (.ref A_SIX), .val (.int (0 : Int32))] [(.int (if A_SIX = A_JOKER then 1 else if A_SIX = A_TWO then 1 else 0))]))
    refine ownEnds.law (fun t k => XS.iload X79.here hx rfl (hb hby at_131) rfl k) ?_
    show ownEnds _ _ _ _ (T79.setTop (mkF m 133 #[.val (.int xx), .val (.int (4 : Int32)), .val (.ref b1), .val (.ref A_SIX), .val (.int (0 : Int32))] [(.int (0 : Int32)), (.int (if A_SIX = A_JOKER then 1 else if A_SIX = A_TWO then 1 else 0))]))
    have hc133 : (if A_SIX = A_JOKER then 1 else if A_SIX = A_TWO then 1 else 0) = (0 : Int32) := by rw [if_neg nj_SIX, if_neg nt_SIX]
    refine ownEnds.law (fun t => XS.icmpNo X79.here hx rfl (hb hby at_133) rfl (teq hc133).2) ?_
    show ownEnds _ _ _ _ (T79.setTop (mkF m 136 #[.val (.int xx), .val (.int (4 : Int32)), .val (.ref b1), .val (.ref A_SIX), .val (.int (0 : Int32))] []))
    refine ownEnds.law (fun t k => XS.iconst X79.here hx rfl (hb hby at_136) (XS.goto X79.here hx rfl (pc0 := 137) (pc' := 141) rfl (hb hby at_137) (by decide) (by decide) k)) ?_
    show ownEnds _ _ _ _ (T79.setTop (mkF m 141 #[.val (.int xx), .val (.int (4 : Int32)), .val (.ref b1), .val (.ref A_SIX), .val (.int (0 : Int32))] [(.int (1 : Int32))]))
    refine ownRetN X79 hlk hx (t := .boolean) hret (by simp) (hb hby at_141) (by decide) (by decide) ?_
    exact ⟨rfl, N56⟩
  · show ownEnds _ _ _ _ (T56.setTop (mkF m 106 #[.val (.int xx), .val (.int (5 : Int32)), .val (.ref b1), .unset, .unset] []))
    refine ownEnds.law (fun t k => XS.aloadN X56.here hx rfl (hb hby at_106) rfl rfl (XS.iloadN X56.here hx rfl (hb hby at_107) rfl k)) ?_
    show ownEnds _ _ _ _ (T56.setTop (mkF m 108 #[.val (.int xx), .val (.int (5 : Int32)), .val (.ref b1), .unset, .unset] [(.int (5 : Int32)), (.ref b1)]))
    obtain ⟨cl83, Ar83, q83, S83, N83, H83, G83⟩ := V56
    have hi83 := inb_of (j := (5 : Int32)) S83 ⟨by decide, by decide⟩
    have hv83 : cl83.slots[((5 : Int32)).toNatClampNeg]? = some (.ref A_SEVEN) := H83.at hi83 rfl
    refine ownEnds.law (fun t k => X56.aaload hx (j := (5 : Int32)) (v := (.ref A_SEVEN)) (by rw [e56]; exact Ar83.1) (State.isArrayOf_alike hZ.alike Ar83.2.1) rfl Ar83.2.2 hi83 hv83 (g := (mkF m 108 #[.val (.int xx), .val (.int (5 : Int32)), .val (.ref b1), .unset, .unset] [(.int (5 : Int32)), (.ref b1)])) rfl rfl (hb hby at_108) _ (XS.astoreN X56.here hx rfl (hb hby at_109) rfl rfl (l' := #[.val (.int xx), .val (.int (5 : Int32)), .val (.ref b1), .val (.ref A_SEVEN), .unset]) rfl (XS.iloadN X56.here hx rfl (hb hby at_110) rfl k))) ?_
    show ownEnds _ _ _ _ (T56.setTop (mkF m 111 #[.val (.int xx), .val (.int (5 : Int32)), .val (.ref b1), .val (.ref A_SEVEN), .unset] [(.int (5 : Int32))]))
    refine ownEnds.law (fun t => XS.ifNo X56.here hx rfl (hb hby at_111) rfl ((if0 _ _).trans (feq (by decide : ¬ ((5 : Int32) = (0 : Int32)))).1)) ?_
    show ownEnds _ _ _ _ (T56.setTop (mkF m 114 #[.val (.int xx), .val (.int (5 : Int32)), .val (.ref b1), .val (.ref A_SEVEN), .unset] []))
    refine ownEnds.law (fun t k => XS.iloadN X56.here hx rfl (hb hby at_114) rfl (XS.bipush X56.here hx rfl (hb hby at_115) k)) ?_
    show ownEnds _ _ _ _ (T56.setTop (mkF m 117 #[.val (.int xx), .val (.int (5 : Int32)), .val (.ref b1), .val (.ref A_SEVEN), .unset] [(.int (13 : Int32)), (.int (5 : Int32))]))
    refine ownEnds.law (fun t => XS.icmpYes X56.here hx rfl (pc0 := 117) (pc' := 124) rfl (hb hby at_117) rfl (feq (by decide : ¬ ((5 : Int32) = (13 : Int32)))).2 (by decide) (by decide)) ?_
    show ownEnds _ _ _ _ (T56.setTop (mkF m 124 #[.val (.int xx), .val (.int (5 : Int32)), .val (.ref b1), .val (.ref A_SEVEN), .unset] []))
    refine ownEnds.law (fun t k => XS.iconst X56.here hx rfl (hb hby at_124) (XS.istore X56.here hx rfl (hb hby at_125) rfl (l' := #[.val (.int xx), .val (.int (5 : Int32)), .val (.ref b1), .val (.ref A_SEVEN), .val (.int (0 : Int32))]) rfl (XS.aloadN X56.here hx rfl (hb hby at_127) rfl rfl k))) ?_
    show ownEnds _ _ _ _ (T56.setTop (mkF m 128 #[.val (.int xx), .val (.int (5 : Int32)), .val (.ref b1), .val (.ref A_SEVEN), .val (.int (0 : Int32))] [(.ref A_SEVEN)]))
    have f85 := (Sta.wr W56 f54)
    have f86 := (Sta.wr W56 (Sta.wr W52 (Sta.wr W48 (Sta.wr W44 (Sta.wr W40 (Sta.wr W36 (Sta.wr W32 (Sta.wr W28 (Sta.wr W24 (Sta.wr W20 (Sta.wr W16 (Sta.wr W12 (Sta.wr W8 (Sta.wr W4 f2))))))))))))))
    have f87 := (Exa.wr W56 (Exa.wr W52 (Exa.wr W48 (Exa.wr W44 (Exa.wr W40 (Exa.wr W36 (Exa.wr W32 (Exa.wr W28 (Exa.wr W24 f25)))))))))
    obtain ⟨v84, T84, L84, X84, hQ84, st84⟩ := ownCallV X56 hx hZ hown (y := (⟨"com/example/meldwork/meldwork/Rank", "isWild", "()Z"⟩ : MethodName)) (z := (⟨"com/example/meldwork/meldwork/Rank", "isWild", "()Z"⟩ : MethodName)) (a := A_SEVEN) (as := []) (wd_33 hw) (wd_34 hw) (notFace_of_selects (args := #[]) (mvT hZ (wd_36 hw))) (wd_36 hw) (wd_35 hw) (wd_4 hw) (wd_37 hw) (by decide) (rm1 l Z a0 hw A_SEVEN A_JOKER A_TWO h56 n0 Z56 f85 f86) e56 f87 0 (by decide) (by decide) (by decide) (by decide) (g := (mkF m 128 #[.val (.int xx), .val (.int (5 : Int32)), .val (.ref b1), .val (.ref A_SEVEN), .val (.int (0 : Int32))] [(.ref A_SEVEN)])) rfl (by rw [hml]; rfl) (rest := []) pd_0 rfl rfl (by show 2 * 0 + _ ≤ _; exact Nat.le_of_eq rfl) (hb hby at_128)
    obtain ⟨rfl, rfl, e84⟩ := hQ84
    rw [List.append_nil] at X84
    refine ownEnds.law st84 ?_
    show ownEnds _ _ _ _ (T84.setTop (mkF m 131 #[.val (.int xx), .val (.int (5 : Int32)), .val (.ref b1), .val (.ref A_SEVEN), .val (.int (0 : Int32))] [(.int (if A_SEVEN = A_JOKER then 1 else if A_SEVEN = A_TWO then 1 else 0))]))
    refine ownEnds.law (fun t k => XS.iload X84.here hx rfl (hb hby at_131) rfl k) ?_
    show ownEnds _ _ _ _ (T84.setTop (mkF m 133 #[.val (.int xx), .val (.int (5 : Int32)), .val (.ref b1), .val (.ref A_SEVEN), .val (.int (0 : Int32))] [(.int (0 : Int32)), (.int (if A_SEVEN = A_JOKER then 1 else if A_SEVEN = A_TWO then 1 else 0))]))
    have hc133 : (if A_SEVEN = A_JOKER then 1 else if A_SEVEN = A_TWO then 1 else 0) = (0 : Int32) := by rw [if_neg nj_SEVEN, if_neg nt_SEVEN]
    refine ownEnds.law (fun t => XS.icmpNo X84.here hx rfl (hb hby at_133) rfl (teq hc133).2) ?_
    show ownEnds _ _ _ _ (T84.setTop (mkF m 136 #[.val (.int xx), .val (.int (5 : Int32)), .val (.ref b1), .val (.ref A_SEVEN), .val (.int (0 : Int32))] []))
    refine ownEnds.law (fun t k => XS.iconst X84.here hx rfl (hb hby at_136) (XS.goto X84.here hx rfl (pc0 := 137) (pc' := 141) rfl (hb hby at_137) (by decide) (by decide) k)) ?_
    show ownEnds _ _ _ _ (T84.setTop (mkF m 141 #[.val (.int xx), .val (.int (5 : Int32)), .val (.ref b1), .val (.ref A_SEVEN), .val (.int (0 : Int32))] [(.int (1 : Int32))]))
    refine ownRetN X84 hlk hx (t := .boolean) hret (by simp) (hb hby at_141) (by decide) (by decide) ?_
    exact ⟨rfl, N56⟩
  · show ownEnds _ _ _ _ (T56.setTop (mkF m 106 #[.val (.int xx), .val (.int (6 : Int32)), .val (.ref b1), .unset, .unset] []))
    refine ownEnds.law (fun t k => XS.aloadN X56.here hx rfl (hb hby at_106) rfl rfl (XS.iloadN X56.here hx rfl (hb hby at_107) rfl k)) ?_
    show ownEnds _ _ _ _ (T56.setTop (mkF m 108 #[.val (.int xx), .val (.int (6 : Int32)), .val (.ref b1), .unset, .unset] [(.int (6 : Int32)), (.ref b1)]))
    obtain ⟨cl88, Ar88, q88, S88, N88, H88, G88⟩ := V56
    have hi88 := inb_of (j := (6 : Int32)) S88 ⟨by decide, by decide⟩
    have hv88 : cl88.slots[((6 : Int32)).toNatClampNeg]? = some (.ref A_EIGHT) := H88.at hi88 rfl
    refine ownEnds.law (fun t k => X56.aaload hx (j := (6 : Int32)) (v := (.ref A_EIGHT)) (by rw [e56]; exact Ar88.1) (State.isArrayOf_alike hZ.alike Ar88.2.1) rfl Ar88.2.2 hi88 hv88 (g := (mkF m 108 #[.val (.int xx), .val (.int (6 : Int32)), .val (.ref b1), .unset, .unset] [(.int (6 : Int32)), (.ref b1)])) rfl rfl (hb hby at_108) _ (XS.astoreN X56.here hx rfl (hb hby at_109) rfl rfl (l' := #[.val (.int xx), .val (.int (6 : Int32)), .val (.ref b1), .val (.ref A_EIGHT), .unset]) rfl (XS.iloadN X56.here hx rfl (hb hby at_110) rfl k))) ?_
    show ownEnds _ _ _ _ (T56.setTop (mkF m 111 #[.val (.int xx), .val (.int (6 : Int32)), .val (.ref b1), .val (.ref A_EIGHT), .unset] [(.int (6 : Int32))]))
    refine ownEnds.law (fun t => XS.ifNo X56.here hx rfl (hb hby at_111) rfl ((if0 _ _).trans (feq (by decide : ¬ ((6 : Int32) = (0 : Int32)))).1)) ?_
    show ownEnds _ _ _ _ (T56.setTop (mkF m 114 #[.val (.int xx), .val (.int (6 : Int32)), .val (.ref b1), .val (.ref A_EIGHT), .unset] []))
    refine ownEnds.law (fun t k => XS.iloadN X56.here hx rfl (hb hby at_114) rfl (XS.bipush X56.here hx rfl (hb hby at_115) k)) ?_
    show ownEnds _ _ _ _ (T56.setTop (mkF m 117 #[.val (.int xx), .val (.int (6 : Int32)), .val (.ref b1), .val (.ref A_EIGHT), .unset] [(.int (13 : Int32)), (.int (6 : Int32))]))
    refine ownEnds.law (fun t => XS.icmpYes X56.here hx rfl (pc0 := 117) (pc' := 124) rfl (hb hby at_117) rfl (feq (by decide : ¬ ((6 : Int32) = (13 : Int32)))).2 (by decide) (by decide)) ?_
    show ownEnds _ _ _ _ (T56.setTop (mkF m 124 #[.val (.int xx), .val (.int (6 : Int32)), .val (.ref b1), .val (.ref A_EIGHT), .unset] []))
    refine ownEnds.law (fun t k => XS.iconst X56.here hx rfl (hb hby at_124) (XS.istore X56.here hx rfl (hb hby at_125) rfl (l' := #[.val (.int xx), .val (.int (6 : Int32)), .val (.ref b1), .val (.ref A_EIGHT), .val (.int (0 : Int32))]) rfl (XS.aloadN X56.here hx rfl (hb hby at_127) rfl rfl k))) ?_
    show ownEnds _ _ _ _ (T56.setTop (mkF m 128 #[.val (.int xx), .val (.int (6 : Int32)), .val (.ref b1), .val (.ref A_EIGHT), .val (.int (0 : Int32))] [(.ref A_EIGHT)]))
    have f90 := (Sta.wr W56 f54)
    have f91 := (Sta.wr W56 (Sta.wr W52 (Sta.wr W48 (Sta.wr W44 (Sta.wr W40 (Sta.wr W36 (Sta.wr W32 (Sta.wr W28 (Sta.wr W24 (Sta.wr W20 (Sta.wr W16 (Sta.wr W12 (Sta.wr W8 (Sta.wr W4 f2))))))))))))))
    have f92 := (Exa.wr W56 (Exa.wr W52 (Exa.wr W48 (Exa.wr W44 (Exa.wr W40 (Exa.wr W36 (Exa.wr W32 (Exa.wr W28 f29))))))))
    obtain ⟨v89, T89, L89, X89, hQ89, st89⟩ := ownCallV X56 hx hZ hown (y := (⟨"com/example/meldwork/meldwork/Rank", "isWild", "()Z"⟩ : MethodName)) (z := (⟨"com/example/meldwork/meldwork/Rank", "isWild", "()Z"⟩ : MethodName)) (a := A_EIGHT) (as := []) (wd_33 hw) (wd_34 hw) (notFace_of_selects (args := #[]) (mvT hZ (wd_36 hw))) (wd_36 hw) (wd_35 hw) (wd_4 hw) (wd_37 hw) (by decide) (rm1 l Z a0 hw A_EIGHT A_JOKER A_TWO h56 n0 Z56 f90 f91) e56 f92 0 (by decide) (by decide) (by decide) (by decide) (g := (mkF m 128 #[.val (.int xx), .val (.int (6 : Int32)), .val (.ref b1), .val (.ref A_EIGHT), .val (.int (0 : Int32))] [(.ref A_EIGHT)])) rfl (by rw [hml]; rfl) (rest := []) pd_0 rfl rfl (by show 2 * 0 + _ ≤ _; exact Nat.le_of_eq rfl) (hb hby at_128)
    obtain ⟨rfl, rfl, e89⟩ := hQ89
    rw [List.append_nil] at X89
    refine ownEnds.law st89 ?_
    show ownEnds _ _ _ _ (T89.setTop (mkF m 131 #[.val (.int xx), .val (.int (6 : Int32)), .val (.ref b1), .val (.ref A_EIGHT), .val (.int (0 : Int32))] [(.int (if A_EIGHT = A_JOKER then 1 else if A_EIGHT = A_TWO then 1 else 0))]))
    refine ownEnds.law (fun t k => XS.iload X89.here hx rfl (hb hby at_131) rfl k) ?_
    show ownEnds _ _ _ _ (T89.setTop (mkF m 133 #[.val (.int xx), .val (.int (6 : Int32)), .val (.ref b1), .val (.ref A_EIGHT), .val (.int (0 : Int32))] [(.int (0 : Int32)), (.int (if A_EIGHT = A_JOKER then 1 else if A_EIGHT = A_TWO then 1 else 0))]))
    have hc133 : (if A_EIGHT = A_JOKER then 1 else if A_EIGHT = A_TWO then 1 else 0) = (0 : Int32) := by rw [if_neg nj_EIGHT, if_neg nt_EIGHT]
    refine ownEnds.law (fun t => XS.icmpNo X89.here hx rfl (hb hby at_133) rfl (teq hc133).2) ?_
    show ownEnds _ _ _ _ (T89.setTop (mkF m 136 #[.val (.int xx), .val (.int (6 : Int32)), .val (.ref b1), .val (.ref A_EIGHT), .val (.int (0 : Int32))] []))
    refine ownEnds.law (fun t k => XS.iconst X89.here hx rfl (hb hby at_136) (XS.goto X89.here hx rfl (pc0 := 137) (pc' := 141) rfl (hb hby at_137) (by decide) (by decide) k)) ?_
    show ownEnds _ _ _ _ (T89.setTop (mkF m 141 #[.val (.int xx), .val (.int (6 : Int32)), .val (.ref b1), .val (.ref A_EIGHT), .val (.int (0 : Int32))] [(.int (1 : Int32))]))
    refine ownRetN X89 hlk hx (t := .boolean) hret (by simp) (hb hby at_141) (by decide) (by decide) ?_
    exact ⟨rfl, N56⟩
  · show ownEnds _ _ _ _ (T56.setTop (mkF m 106 #[.val (.int xx), .val (.int (7 : Int32)), .val (.ref b1), .unset, .unset] []))
    refine ownEnds.law (fun t k => XS.aloadN X56.here hx rfl (hb hby at_106) rfl rfl (XS.iloadN X56.here hx rfl (hb hby at_107) rfl k)) ?_
    show ownEnds _ _ _ _ (T56.setTop (mkF m 108 #[.val (.int xx), .val (.int (7 : Int32)), .val (.ref b1), .unset, .unset] [(.int (7 : Int32)), (.ref b1)]))
    obtain ⟨cl93, Ar93, q93, S93, N93, H93, G93⟩ := V56
    have hi93 := inb_of (j := (7 : Int32)) S93 ⟨by decide, by decide⟩
    have hv93 : cl93.slots[((7 : Int32)).toNatClampNeg]? = some (.ref A_NINE) := H93.at hi93 rfl
    refine ownEnds.law (fun t k => X56.aaload hx (j := (7 : Int32)) (v := (.ref A_NINE)) (by rw [e56]; exact Ar93.1) (State.isArrayOf_alike hZ.alike Ar93.2.1) rfl Ar93.2.2 hi93 hv93 (g := (mkF m 108 #[.val (.int xx), .val (.int (7 : Int32)), .val (.ref b1), .unset, .unset] [(.int (7 : Int32)), (.ref b1)])) rfl rfl (hb hby at_108) _ (XS.astoreN X56.here hx rfl (hb hby at_109) rfl rfl (l' := #[.val (.int xx), .val (.int (7 : Int32)), .val (.ref b1), .val (.ref A_NINE), .unset]) rfl (XS.iloadN X56.here hx rfl (hb hby at_110) rfl k))) ?_
    show ownEnds _ _ _ _ (T56.setTop (mkF m 111 #[.val (.int xx), .val (.int (7 : Int32)), .val (.ref b1), .val (.ref A_NINE), .unset] [(.int (7 : Int32))]))
    refine ownEnds.law (fun t => XS.ifNo X56.here hx rfl (hb hby at_111) rfl ((if0 _ _).trans (feq (by decide : ¬ ((7 : Int32) = (0 : Int32)))).1)) ?_
    show ownEnds _ _ _ _ (T56.setTop (mkF m 114 #[.val (.int xx), .val (.int (7 : Int32)), .val (.ref b1), .val (.ref A_NINE), .unset] []))
    refine ownEnds.law (fun t k => XS.iloadN X56.here hx rfl (hb hby at_114) rfl (XS.bipush X56.here hx rfl (hb hby at_115) k)) ?_
    show ownEnds _ _ _ _ (T56.setTop (mkF m 117 #[.val (.int xx), .val (.int (7 : Int32)), .val (.ref b1), .val (.ref A_NINE), .unset] [(.int (13 : Int32)), (.int (7 : Int32))]))
    refine ownEnds.law (fun t => XS.icmpYes X56.here hx rfl (pc0 := 117) (pc' := 124) rfl (hb hby at_117) rfl (feq (by decide : ¬ ((7 : Int32) = (13 : Int32)))).2 (by decide) (by decide)) ?_
    show ownEnds _ _ _ _ (T56.setTop (mkF m 124 #[.val (.int xx), .val (.int (7 : Int32)), .val (.ref b1), .val (.ref A_NINE), .unset] []))
    refine ownEnds.law (fun t k => XS.iconst X56.here hx rfl (hb hby at_124) (XS.istore X56.here hx rfl (hb hby at_125) rfl (l' := #[.val (.int xx), .val (.int (7 : Int32)), .val (.ref b1), .val (.ref A_NINE), .val (.int (0 : Int32))]) rfl (XS.aloadN X56.here hx rfl (hb hby at_127) rfl rfl k))) ?_
    show ownEnds _ _ _ _ (T56.setTop (mkF m 128 #[.val (.int xx), .val (.int (7 : Int32)), .val (.ref b1), .val (.ref A_NINE), .val (.int (0 : Int32))] [(.ref A_NINE)]))
    have f95 := (Sta.wr W56 f54)
    have f96 := (Sta.wr W56 (Sta.wr W52 (Sta.wr W48 (Sta.wr W44 (Sta.wr W40 (Sta.wr W36 (Sta.wr W32 (Sta.wr W28 (Sta.wr W24 (Sta.wr W20 (Sta.wr W16 (Sta.wr W12 (Sta.wr W8 (Sta.wr W4 f2))))))))))))))
    have f97 := (Exa.wr W56 (Exa.wr W52 (Exa.wr W48 (Exa.wr W44 (Exa.wr W40 (Exa.wr W36 (Exa.wr W32 f33)))))))
    obtain ⟨v94, T94, L94, X94, hQ94, st94⟩ := ownCallV X56 hx hZ hown (y := (⟨"com/example/meldwork/meldwork/Rank", "isWild", "()Z"⟩ : MethodName)) (z := (⟨"com/example/meldwork/meldwork/Rank", "isWild", "()Z"⟩ : MethodName)) (a := A_NINE) (as := []) (wd_33 hw) (wd_34 hw) (notFace_of_selects (args := #[]) (mvT hZ (wd_36 hw))) (wd_36 hw) (wd_35 hw) (wd_4 hw) (wd_37 hw) (by decide) (rm1 l Z a0 hw A_NINE A_JOKER A_TWO h56 n0 Z56 f95 f96) e56 f97 0 (by decide) (by decide) (by decide) (by decide) (g := (mkF m 128 #[.val (.int xx), .val (.int (7 : Int32)), .val (.ref b1), .val (.ref A_NINE), .val (.int (0 : Int32))] [(.ref A_NINE)])) rfl (by rw [hml]; rfl) (rest := []) pd_0 rfl rfl (by show 2 * 0 + _ ≤ _; exact Nat.le_of_eq rfl) (hb hby at_128)
    obtain ⟨rfl, rfl, e94⟩ := hQ94
    rw [List.append_nil] at X94
    refine ownEnds.law st94 ?_
    show ownEnds _ _ _ _ (T94.setTop (mkF m 131 #[.val (.int xx), .val (.int (7 : Int32)), .val (.ref b1), .val (.ref A_NINE), .val (.int (0 : Int32))] [(.int (if A_NINE = A_JOKER then 1 else if A_NINE = A_TWO then 1 else 0))]))
    refine ownEnds.law (fun t k => XS.iload X94.here hx rfl (hb hby at_131) rfl k) ?_
    show ownEnds _ _ _ _ (T94.setTop (mkF m 133 #[.val (.int xx), .val (.int (7 : Int32)), .val (.ref b1), .val (.ref A_NINE), .val (.int (0 : Int32))] [(.int (0 : Int32)), (.int (if A_NINE = A_JOKER then 1 else if A_NINE = A_TWO then 1 else 0))]))
    have hc133 : (if A_NINE = A_JOKER then 1 else if A_NINE = A_TWO then 1 else 0) = (0 : Int32) := by rw [if_neg nj_NINE, if_neg nt_NINE]
    refine ownEnds.law (fun t => XS.icmpNo X94.here hx rfl (hb hby at_133) rfl (teq hc133).2) ?_
    show ownEnds _ _ _ _ (T94.setTop (mkF m 136 #[.val (.int xx), .val (.int (7 : Int32)), .val (.ref b1), .val (.ref A_NINE), .val (.int (0 : Int32))] []))
    refine ownEnds.law (fun t k => XS.iconst X94.here hx rfl (hb hby at_136) (XS.goto X94.here hx rfl (pc0 := 137) (pc' := 141) rfl (hb hby at_137) (by decide) (by decide) k)) ?_
    show ownEnds _ _ _ _ (T94.setTop (mkF m 141 #[.val (.int xx), .val (.int (7 : Int32)), .val (.ref b1), .val (.ref A_NINE), .val (.int (0 : Int32))] [(.int (1 : Int32))]))
    refine ownRetN X94 hlk hx (t := .boolean) hret (by simp) (hb hby at_141) (by decide) (by decide) ?_
    exact ⟨rfl, N56⟩
  · show ownEnds _ _ _ _ (T56.setTop (mkF m 106 #[.val (.int xx), .val (.int (8 : Int32)), .val (.ref b1), .unset, .unset] []))
    refine ownEnds.law (fun t k => XS.aloadN X56.here hx rfl (hb hby at_106) rfl rfl (XS.iloadN X56.here hx rfl (hb hby at_107) rfl k)) ?_
    show ownEnds _ _ _ _ (T56.setTop (mkF m 108 #[.val (.int xx), .val (.int (8 : Int32)), .val (.ref b1), .unset, .unset] [(.int (8 : Int32)), (.ref b1)]))
    obtain ⟨cl98, Ar98, q98, S98, N98, H98, G98⟩ := V56
    have hi98 := inb_of (j := (8 : Int32)) S98 ⟨by decide, by decide⟩
    have hv98 : cl98.slots[((8 : Int32)).toNatClampNeg]? = some (.ref A_TEN) := H98.at hi98 rfl
    refine ownEnds.law (fun t k => X56.aaload hx (j := (8 : Int32)) (v := (.ref A_TEN)) (by rw [e56]; exact Ar98.1) (State.isArrayOf_alike hZ.alike Ar98.2.1) rfl Ar98.2.2 hi98 hv98 (g := (mkF m 108 #[.val (.int xx), .val (.int (8 : Int32)), .val (.ref b1), .unset, .unset] [(.int (8 : Int32)), (.ref b1)])) rfl rfl (hb hby at_108) _ (XS.astoreN X56.here hx rfl (hb hby at_109) rfl rfl (l' := #[.val (.int xx), .val (.int (8 : Int32)), .val (.ref b1), .val (.ref A_TEN), .unset]) rfl (XS.iloadN X56.here hx rfl (hb hby at_110) rfl k))) ?_
    show ownEnds _ _ _ _ (T56.setTop (mkF m 111 #[.val (.int xx), .val (.int (8 : Int32)), .val (.ref b1), .val (.ref A_TEN), .unset] [(.int (8 : Int32))]))
    refine ownEnds.law (fun t => XS.ifNo X56.here hx rfl (hb hby at_111) rfl ((if0 _ _).trans (feq (by decide : ¬ ((8 : Int32) = (0 : Int32)))).1)) ?_
    show ownEnds _ _ _ _ (T56.setTop (mkF m 114 #[.val (.int xx), .val (.int (8 : Int32)), .val (.ref b1), .val (.ref A_TEN), .unset] []))
    refine ownEnds.law (fun t k => XS.iloadN X56.here hx rfl (hb hby at_114) rfl (XS.bipush X56.here hx rfl (hb hby at_115) k)) ?_
    show ownEnds _ _ _ _ (T56.setTop (mkF m 117 #[.val (.int xx), .val (.int (8 : Int32)), .val (.ref b1), .val (.ref A_TEN), .unset] [(.int (13 : Int32)), (.int (8 : Int32))]))
    refine ownEnds.law (fun t => XS.icmpYes X56.here hx rfl (pc0 := 117) (pc' := 124) rfl (hb hby at_117) rfl (feq (by decide : ¬ ((8 : Int32) = (13 : Int32)))).2 (by decide) (by decide)) ?_
    show ownEnds _ _ _ _ (T56.setTop (mkF m 124 #[.val (.int xx), .val (.int (8 : Int32)), .val (.ref b1), .val (.ref A_TEN), .unset] []))
    refine ownEnds.law (fun t k => XS.iconst X56.here hx rfl (hb hby at_124) (XS.istore X56.here hx rfl (hb hby at_125) rfl (l' := #[.val (.int xx), .val (.int (8 : Int32)), .val (.ref b1), .val (.ref A_TEN), .val (.int (0 : Int32))]) rfl (XS.aloadN X56.here hx rfl (hb hby at_127) rfl rfl k))) ?_
    show ownEnds _ _ _ _ (T56.setTop (mkF m 128 #[.val (.int xx), .val (.int (8 : Int32)), .val (.ref b1), .val (.ref A_TEN), .val (.int (0 : Int32))] [(.ref A_TEN)]))
    have f100 := (Sta.wr W56 f54)
    have f101 := (Sta.wr W56 (Sta.wr W52 (Sta.wr W48 (Sta.wr W44 (Sta.wr W40 (Sta.wr W36 (Sta.wr W32 (Sta.wr W28 (Sta.wr W24 (Sta.wr W20 (Sta.wr W16 (Sta.wr W12 (Sta.wr W8 (Sta.wr W4 f2))))))))))))))
    have f102 := (Exa.wr W56 (Exa.wr W52 (Exa.wr W48 (Exa.wr W44 (Exa.wr W40 (Exa.wr W36 f37))))))
    obtain ⟨v99, T99, L99, X99, hQ99, st99⟩ := ownCallV X56 hx hZ hown (y := (⟨"com/example/meldwork/meldwork/Rank", "isWild", "()Z"⟩ : MethodName)) (z := (⟨"com/example/meldwork/meldwork/Rank", "isWild", "()Z"⟩ : MethodName)) (a := A_TEN) (as := []) (wd_33 hw) (wd_34 hw) (notFace_of_selects (args := #[]) (mvT hZ (wd_36 hw))) (wd_36 hw) (wd_35 hw) (wd_4 hw) (wd_37 hw) (by decide) (rm1 l Z a0 hw A_TEN A_JOKER A_TWO h56 n0 Z56 f100 f101) e56 f102 0 (by decide) (by decide) (by decide) (by decide) (g := (mkF m 128 #[.val (.int xx), .val (.int (8 : Int32)), .val (.ref b1), .val (.ref A_TEN), .val (.int (0 : Int32))] [(.ref A_TEN)])) rfl (by rw [hml]; rfl) (rest := []) pd_0 rfl rfl (by show 2 * 0 + _ ≤ _; exact Nat.le_of_eq rfl) (hb hby at_128)
    obtain ⟨rfl, rfl, e99⟩ := hQ99
    rw [List.append_nil] at X99
    refine ownEnds.law st99 ?_
    show ownEnds _ _ _ _ (T99.setTop (mkF m 131 #[.val (.int xx), .val (.int (8 : Int32)), .val (.ref b1), .val (.ref A_TEN), .val (.int (0 : Int32))] [(.int (if A_TEN = A_JOKER then 1 else if A_TEN = A_TWO then 1 else 0))]))
    refine ownEnds.law (fun t k => XS.iload X99.here hx rfl (hb hby at_131) rfl k) ?_
    show ownEnds _ _ _ _ (T99.setTop (mkF m 133 #[.val (.int xx), .val (.int (8 : Int32)), .val (.ref b1), .val (.ref A_TEN), .val (.int (0 : Int32))] [(.int (0 : Int32)), (.int (if A_TEN = A_JOKER then 1 else if A_TEN = A_TWO then 1 else 0))]))
    have hc133 : (if A_TEN = A_JOKER then 1 else if A_TEN = A_TWO then 1 else 0) = (0 : Int32) := by rw [if_neg nj_TEN, if_neg nt_TEN]
    refine ownEnds.law (fun t => XS.icmpNo X99.here hx rfl (hb hby at_133) rfl (teq hc133).2) ?_
    show ownEnds _ _ _ _ (T99.setTop (mkF m 136 #[.val (.int xx), .val (.int (8 : Int32)), .val (.ref b1), .val (.ref A_TEN), .val (.int (0 : Int32))] []))
    refine ownEnds.law (fun t k => XS.iconst X99.here hx rfl (hb hby at_136) (XS.goto X99.here hx rfl (pc0 := 137) (pc' := 141) rfl (hb hby at_137) (by decide) (by decide) k)) ?_
    show ownEnds _ _ _ _ (T99.setTop (mkF m 141 #[.val (.int xx), .val (.int (8 : Int32)), .val (.ref b1), .val (.ref A_TEN), .val (.int (0 : Int32))] [(.int (1 : Int32))]))
    refine ownRetN X99 hlk hx (t := .boolean) hret (by simp) (hb hby at_141) (by decide) (by decide) ?_
    exact ⟨rfl, N56⟩
  · show ownEnds _ _ _ _ (T56.setTop (mkF m 106 #[.val (.int xx), .val (.int (9 : Int32)), .val (.ref b1), .unset, .unset] []))
    refine ownEnds.law (fun t k => XS.aloadN X56.here hx rfl (hb hby at_106) rfl rfl (XS.iloadN X56.here hx rfl (hb hby at_107) rfl k)) ?_
    show ownEnds _ _ _ _ (T56.setTop (mkF m 108 #[.val (.int xx), .val (.int (9 : Int32)), .val (.ref b1), .unset, .unset] [(.int (9 : Int32)), (.ref b1)]))
    obtain ⟨cl103, Ar103, q103, S103, N103, H103, G103⟩ := V56
    have hi103 := inb_of (j := (9 : Int32)) S103 ⟨by decide, by decide⟩
    have hv103 : cl103.slots[((9 : Int32)).toNatClampNeg]? = some (.ref A_JACK) := H103.at hi103 rfl
    refine ownEnds.law (fun t k => X56.aaload hx (j := (9 : Int32)) (v := (.ref A_JACK)) (by rw [e56]; exact Ar103.1) (State.isArrayOf_alike hZ.alike Ar103.2.1) rfl Ar103.2.2 hi103 hv103 (g := (mkF m 108 #[.val (.int xx), .val (.int (9 : Int32)), .val (.ref b1), .unset, .unset] [(.int (9 : Int32)), (.ref b1)])) rfl rfl (hb hby at_108) _ (XS.astoreN X56.here hx rfl (hb hby at_109) rfl rfl (l' := #[.val (.int xx), .val (.int (9 : Int32)), .val (.ref b1), .val (.ref A_JACK), .unset]) rfl (XS.iloadN X56.here hx rfl (hb hby at_110) rfl k))) ?_
    show ownEnds _ _ _ _ (T56.setTop (mkF m 111 #[.val (.int xx), .val (.int (9 : Int32)), .val (.ref b1), .val (.ref A_JACK), .unset] [(.int (9 : Int32))]))
    refine ownEnds.law (fun t => XS.ifNo X56.here hx rfl (hb hby at_111) rfl ((if0 _ _).trans (feq (by decide : ¬ ((9 : Int32) = (0 : Int32)))).1)) ?_
    show ownEnds _ _ _ _ (T56.setTop (mkF m 114 #[.val (.int xx), .val (.int (9 : Int32)), .val (.ref b1), .val (.ref A_JACK), .unset] []))
    refine ownEnds.law (fun t k => XS.iloadN X56.here hx rfl (hb hby at_114) rfl (XS.bipush X56.here hx rfl (hb hby at_115) k)) ?_
    show ownEnds _ _ _ _ (T56.setTop (mkF m 117 #[.val (.int xx), .val (.int (9 : Int32)), .val (.ref b1), .val (.ref A_JACK), .unset] [(.int (13 : Int32)), (.int (9 : Int32))]))
    refine ownEnds.law (fun t => XS.icmpYes X56.here hx rfl (pc0 := 117) (pc' := 124) rfl (hb hby at_117) rfl (feq (by decide : ¬ ((9 : Int32) = (13 : Int32)))).2 (by decide) (by decide)) ?_
    show ownEnds _ _ _ _ (T56.setTop (mkF m 124 #[.val (.int xx), .val (.int (9 : Int32)), .val (.ref b1), .val (.ref A_JACK), .unset] []))
    refine ownEnds.law (fun t k => XS.iconst X56.here hx rfl (hb hby at_124) (XS.istore X56.here hx rfl (hb hby at_125) rfl (l' := #[.val (.int xx), .val (.int (9 : Int32)), .val (.ref b1), .val (.ref A_JACK), .val (.int (0 : Int32))]) rfl (XS.aloadN X56.here hx rfl (hb hby at_127) rfl rfl k))) ?_
    show ownEnds _ _ _ _ (T56.setTop (mkF m 128 #[.val (.int xx), .val (.int (9 : Int32)), .val (.ref b1), .val (.ref A_JACK), .val (.int (0 : Int32))] [(.ref A_JACK)]))
    have f105 := (Sta.wr W56 f54)
    have f106 := (Sta.wr W56 (Sta.wr W52 (Sta.wr W48 (Sta.wr W44 (Sta.wr W40 (Sta.wr W36 (Sta.wr W32 (Sta.wr W28 (Sta.wr W24 (Sta.wr W20 (Sta.wr W16 (Sta.wr W12 (Sta.wr W8 (Sta.wr W4 f2))))))))))))))
    have f107 := (Exa.wr W56 (Exa.wr W52 (Exa.wr W48 (Exa.wr W44 (Exa.wr W40 f41)))))
    obtain ⟨v104, T104, L104, X104, hQ104, st104⟩ := ownCallV X56 hx hZ hown (y := (⟨"com/example/meldwork/meldwork/Rank", "isWild", "()Z"⟩ : MethodName)) (z := (⟨"com/example/meldwork/meldwork/Rank", "isWild", "()Z"⟩ : MethodName)) (a := A_JACK) (as := []) (wd_33 hw) (wd_34 hw) (notFace_of_selects (args := #[]) (mvT hZ (wd_36 hw))) (wd_36 hw) (wd_35 hw) (wd_4 hw) (wd_37 hw) (by decide) (rm1 l Z a0 hw A_JACK A_JOKER A_TWO h56 n0 Z56 f105 f106) e56 f107 0 (by decide) (by decide) (by decide) (by decide) (g := (mkF m 128 #[.val (.int xx), .val (.int (9 : Int32)), .val (.ref b1), .val (.ref A_JACK), .val (.int (0 : Int32))] [(.ref A_JACK)])) rfl (by rw [hml]; rfl) (rest := []) pd_0 rfl rfl (by show 2 * 0 + _ ≤ _; exact Nat.le_of_eq rfl) (hb hby at_128)
    obtain ⟨rfl, rfl, e104⟩ := hQ104
    rw [List.append_nil] at X104
    refine ownEnds.law st104 ?_
    show ownEnds _ _ _ _ (T104.setTop (mkF m 131 #[.val (.int xx), .val (.int (9 : Int32)), .val (.ref b1), .val (.ref A_JACK), .val (.int (0 : Int32))] [(.int (if A_JACK = A_JOKER then 1 else if A_JACK = A_TWO then 1 else 0))]))
    refine ownEnds.law (fun t k => XS.iload X104.here hx rfl (hb hby at_131) rfl k) ?_
    show ownEnds _ _ _ _ (T104.setTop (mkF m 133 #[.val (.int xx), .val (.int (9 : Int32)), .val (.ref b1), .val (.ref A_JACK), .val (.int (0 : Int32))] [(.int (0 : Int32)), (.int (if A_JACK = A_JOKER then 1 else if A_JACK = A_TWO then 1 else 0))]))
    have hc133 : (if A_JACK = A_JOKER then 1 else if A_JACK = A_TWO then 1 else 0) = (0 : Int32) := by rw [if_neg nj_JACK, if_neg nt_JACK]
    refine ownEnds.law (fun t => XS.icmpNo X104.here hx rfl (hb hby at_133) rfl (teq hc133).2) ?_
    show ownEnds _ _ _ _ (T104.setTop (mkF m 136 #[.val (.int xx), .val (.int (9 : Int32)), .val (.ref b1), .val (.ref A_JACK), .val (.int (0 : Int32))] []))
    refine ownEnds.law (fun t k => XS.iconst X104.here hx rfl (hb hby at_136) (XS.goto X104.here hx rfl (pc0 := 137) (pc' := 141) rfl (hb hby at_137) (by decide) (by decide) k)) ?_
    show ownEnds _ _ _ _ (T104.setTop (mkF m 141 #[.val (.int xx), .val (.int (9 : Int32)), .val (.ref b1), .val (.ref A_JACK), .val (.int (0 : Int32))] [(.int (1 : Int32))]))
    refine ownRetN X104 hlk hx (t := .boolean) hret (by simp) (hb hby at_141) (by decide) (by decide) ?_
    exact ⟨rfl, N56⟩
  · show ownEnds _ _ _ _ (T56.setTop (mkF m 106 #[.val (.int xx), .val (.int (10 : Int32)), .val (.ref b1), .unset, .unset] []))
    refine ownEnds.law (fun t k => XS.aloadN X56.here hx rfl (hb hby at_106) rfl rfl (XS.iloadN X56.here hx rfl (hb hby at_107) rfl k)) ?_
    show ownEnds _ _ _ _ (T56.setTop (mkF m 108 #[.val (.int xx), .val (.int (10 : Int32)), .val (.ref b1), .unset, .unset] [(.int (10 : Int32)), (.ref b1)]))
    obtain ⟨cl108, Ar108, q108, S108, N108, H108, G108⟩ := V56
    have hi108 := inb_of (j := (10 : Int32)) S108 ⟨by decide, by decide⟩
    have hv108 : cl108.slots[((10 : Int32)).toNatClampNeg]? = some (.ref A_QUEEN) := H108.at hi108 rfl
    refine ownEnds.law (fun t k => X56.aaload hx (j := (10 : Int32)) (v := (.ref A_QUEEN)) (by rw [e56]; exact Ar108.1) (State.isArrayOf_alike hZ.alike Ar108.2.1) rfl Ar108.2.2 hi108 hv108 (g := (mkF m 108 #[.val (.int xx), .val (.int (10 : Int32)), .val (.ref b1), .unset, .unset] [(.int (10 : Int32)), (.ref b1)])) rfl rfl (hb hby at_108) _ (XS.astoreN X56.here hx rfl (hb hby at_109) rfl rfl (l' := #[.val (.int xx), .val (.int (10 : Int32)), .val (.ref b1), .val (.ref A_QUEEN), .unset]) rfl (XS.iloadN X56.here hx rfl (hb hby at_110) rfl k))) ?_
    show ownEnds _ _ _ _ (T56.setTop (mkF m 111 #[.val (.int xx), .val (.int (10 : Int32)), .val (.ref b1), .val (.ref A_QUEEN), .unset] [(.int (10 : Int32))]))
    refine ownEnds.law (fun t => XS.ifNo X56.here hx rfl (hb hby at_111) rfl ((if0 _ _).trans (feq (by decide : ¬ ((10 : Int32) = (0 : Int32)))).1)) ?_
    show ownEnds _ _ _ _ (T56.setTop (mkF m 114 #[.val (.int xx), .val (.int (10 : Int32)), .val (.ref b1), .val (.ref A_QUEEN), .unset] []))
    refine ownEnds.law (fun t k => XS.iloadN X56.here hx rfl (hb hby at_114) rfl (XS.bipush X56.here hx rfl (hb hby at_115) k)) ?_
    show ownEnds _ _ _ _ (T56.setTop (mkF m 117 #[.val (.int xx), .val (.int (10 : Int32)), .val (.ref b1), .val (.ref A_QUEEN), .unset] [(.int (13 : Int32)), (.int (10 : Int32))]))
    refine ownEnds.law (fun t => XS.icmpYes X56.here hx rfl (pc0 := 117) (pc' := 124) rfl (hb hby at_117) rfl (feq (by decide : ¬ ((10 : Int32) = (13 : Int32)))).2 (by decide) (by decide)) ?_
    show ownEnds _ _ _ _ (T56.setTop (mkF m 124 #[.val (.int xx), .val (.int (10 : Int32)), .val (.ref b1), .val (.ref A_QUEEN), .unset] []))
    refine ownEnds.law (fun t k => XS.iconst X56.here hx rfl (hb hby at_124) (XS.istore X56.here hx rfl (hb hby at_125) rfl (l' := #[.val (.int xx), .val (.int (10 : Int32)), .val (.ref b1), .val (.ref A_QUEEN), .val (.int (0 : Int32))]) rfl (XS.aloadN X56.here hx rfl (hb hby at_127) rfl rfl k))) ?_
    show ownEnds _ _ _ _ (T56.setTop (mkF m 128 #[.val (.int xx), .val (.int (10 : Int32)), .val (.ref b1), .val (.ref A_QUEEN), .val (.int (0 : Int32))] [(.ref A_QUEEN)]))
    have f110 := (Sta.wr W56 f54)
    have f111 := (Sta.wr W56 (Sta.wr W52 (Sta.wr W48 (Sta.wr W44 (Sta.wr W40 (Sta.wr W36 (Sta.wr W32 (Sta.wr W28 (Sta.wr W24 (Sta.wr W20 (Sta.wr W16 (Sta.wr W12 (Sta.wr W8 (Sta.wr W4 f2))))))))))))))
    have f112 := (Exa.wr W56 (Exa.wr W52 (Exa.wr W48 (Exa.wr W44 f45))))
    obtain ⟨v109, T109, L109, X109, hQ109, st109⟩ := ownCallV X56 hx hZ hown (y := (⟨"com/example/meldwork/meldwork/Rank", "isWild", "()Z"⟩ : MethodName)) (z := (⟨"com/example/meldwork/meldwork/Rank", "isWild", "()Z"⟩ : MethodName)) (a := A_QUEEN) (as := []) (wd_33 hw) (wd_34 hw) (notFace_of_selects (args := #[]) (mvT hZ (wd_36 hw))) (wd_36 hw) (wd_35 hw) (wd_4 hw) (wd_37 hw) (by decide) (rm1 l Z a0 hw A_QUEEN A_JOKER A_TWO h56 n0 Z56 f110 f111) e56 f112 0 (by decide) (by decide) (by decide) (by decide) (g := (mkF m 128 #[.val (.int xx), .val (.int (10 : Int32)), .val (.ref b1), .val (.ref A_QUEEN), .val (.int (0 : Int32))] [(.ref A_QUEEN)])) rfl (by rw [hml]; rfl) (rest := []) pd_0 rfl rfl (by show 2 * 0 + _ ≤ _; exact Nat.le_of_eq rfl) (hb hby at_128)
    obtain ⟨rfl, rfl, e109⟩ := hQ109
    rw [List.append_nil] at X109
    refine ownEnds.law st109 ?_
    show ownEnds _ _ _ _ (T109.setTop (mkF m 131 #[.val (.int xx), .val (.int (10 : Int32)), .val (.ref b1), .val (.ref A_QUEEN), .val (.int (0 : Int32))] [(.int (if A_QUEEN = A_JOKER then 1 else if A_QUEEN = A_TWO then 1 else 0))]))
    refine ownEnds.law (fun t k => XS.iload X109.here hx rfl (hb hby at_131) rfl k) ?_
    show ownEnds _ _ _ _ (T109.setTop (mkF m 133 #[.val (.int xx), .val (.int (10 : Int32)), .val (.ref b1), .val (.ref A_QUEEN), .val (.int (0 : Int32))] [(.int (0 : Int32)), (.int (if A_QUEEN = A_JOKER then 1 else if A_QUEEN = A_TWO then 1 else 0))]))
    have hc133 : (if A_QUEEN = A_JOKER then 1 else if A_QUEEN = A_TWO then 1 else 0) = (0 : Int32) := by rw [if_neg nj_QUEEN, if_neg nt_QUEEN]
    refine ownEnds.law (fun t => XS.icmpNo X109.here hx rfl (hb hby at_133) rfl (teq hc133).2) ?_
    show ownEnds _ _ _ _ (T109.setTop (mkF m 136 #[.val (.int xx), .val (.int (10 : Int32)), .val (.ref b1), .val (.ref A_QUEEN), .val (.int (0 : Int32))] []))
    refine ownEnds.law (fun t k => XS.iconst X109.here hx rfl (hb hby at_136) (XS.goto X109.here hx rfl (pc0 := 137) (pc' := 141) rfl (hb hby at_137) (by decide) (by decide) k)) ?_
    show ownEnds _ _ _ _ (T109.setTop (mkF m 141 #[.val (.int xx), .val (.int (10 : Int32)), .val (.ref b1), .val (.ref A_QUEEN), .val (.int (0 : Int32))] [(.int (1 : Int32))]))
    refine ownRetN X109 hlk hx (t := .boolean) hret (by simp) (hb hby at_141) (by decide) (by decide) ?_
    exact ⟨rfl, N56⟩
  · show ownEnds _ _ _ _ (T56.setTop (mkF m 106 #[.val (.int xx), .val (.int (11 : Int32)), .val (.ref b1), .unset, .unset] []))
    refine ownEnds.law (fun t k => XS.aloadN X56.here hx rfl (hb hby at_106) rfl rfl (XS.iloadN X56.here hx rfl (hb hby at_107) rfl k)) ?_
    show ownEnds _ _ _ _ (T56.setTop (mkF m 108 #[.val (.int xx), .val (.int (11 : Int32)), .val (.ref b1), .unset, .unset] [(.int (11 : Int32)), (.ref b1)]))
    obtain ⟨cl113, Ar113, q113, S113, N113, H113, G113⟩ := V56
    have hi113 := inb_of (j := (11 : Int32)) S113 ⟨by decide, by decide⟩
    have hv113 : cl113.slots[((11 : Int32)).toNatClampNeg]? = some (.ref A_KING) := H113.at hi113 rfl
    refine ownEnds.law (fun t k => X56.aaload hx (j := (11 : Int32)) (v := (.ref A_KING)) (by rw [e56]; exact Ar113.1) (State.isArrayOf_alike hZ.alike Ar113.2.1) rfl Ar113.2.2 hi113 hv113 (g := (mkF m 108 #[.val (.int xx), .val (.int (11 : Int32)), .val (.ref b1), .unset, .unset] [(.int (11 : Int32)), (.ref b1)])) rfl rfl (hb hby at_108) _ (XS.astoreN X56.here hx rfl (hb hby at_109) rfl rfl (l' := #[.val (.int xx), .val (.int (11 : Int32)), .val (.ref b1), .val (.ref A_KING), .unset]) rfl (XS.iloadN X56.here hx rfl (hb hby at_110) rfl k))) ?_
    show ownEnds _ _ _ _ (T56.setTop (mkF m 111 #[.val (.int xx), .val (.int (11 : Int32)), .val (.ref b1), .val (.ref A_KING), .unset] [(.int (11 : Int32))]))
    refine ownEnds.law (fun t => XS.ifNo X56.here hx rfl (hb hby at_111) rfl ((if0 _ _).trans (feq (by decide : ¬ ((11 : Int32) = (0 : Int32)))).1)) ?_
    show ownEnds _ _ _ _ (T56.setTop (mkF m 114 #[.val (.int xx), .val (.int (11 : Int32)), .val (.ref b1), .val (.ref A_KING), .unset] []))
    refine ownEnds.law (fun t k => XS.iloadN X56.here hx rfl (hb hby at_114) rfl (XS.bipush X56.here hx rfl (hb hby at_115) k)) ?_
    show ownEnds _ _ _ _ (T56.setTop (mkF m 117 #[.val (.int xx), .val (.int (11 : Int32)), .val (.ref b1), .val (.ref A_KING), .unset] [(.int (13 : Int32)), (.int (11 : Int32))]))
    refine ownEnds.law (fun t => XS.icmpYes X56.here hx rfl (pc0 := 117) (pc' := 124) rfl (hb hby at_117) rfl (feq (by decide : ¬ ((11 : Int32) = (13 : Int32)))).2 (by decide) (by decide)) ?_
    show ownEnds _ _ _ _ (T56.setTop (mkF m 124 #[.val (.int xx), .val (.int (11 : Int32)), .val (.ref b1), .val (.ref A_KING), .unset] []))
    refine ownEnds.law (fun t k => XS.iconst X56.here hx rfl (hb hby at_124) (XS.istore X56.here hx rfl (hb hby at_125) rfl (l' := #[.val (.int xx), .val (.int (11 : Int32)), .val (.ref b1), .val (.ref A_KING), .val (.int (0 : Int32))]) rfl (XS.aloadN X56.here hx rfl (hb hby at_127) rfl rfl k))) ?_
    show ownEnds _ _ _ _ (T56.setTop (mkF m 128 #[.val (.int xx), .val (.int (11 : Int32)), .val (.ref b1), .val (.ref A_KING), .val (.int (0 : Int32))] [(.ref A_KING)]))
    have f115 := (Sta.wr W56 f54)
    have f116 := (Sta.wr W56 (Sta.wr W52 (Sta.wr W48 (Sta.wr W44 (Sta.wr W40 (Sta.wr W36 (Sta.wr W32 (Sta.wr W28 (Sta.wr W24 (Sta.wr W20 (Sta.wr W16 (Sta.wr W12 (Sta.wr W8 (Sta.wr W4 f2))))))))))))))
    have f117 := (Exa.wr W56 (Exa.wr W52 (Exa.wr W48 f49)))
    obtain ⟨v114, T114, L114, X114, hQ114, st114⟩ := ownCallV X56 hx hZ hown (y := (⟨"com/example/meldwork/meldwork/Rank", "isWild", "()Z"⟩ : MethodName)) (z := (⟨"com/example/meldwork/meldwork/Rank", "isWild", "()Z"⟩ : MethodName)) (a := A_KING) (as := []) (wd_33 hw) (wd_34 hw) (notFace_of_selects (args := #[]) (mvT hZ (wd_36 hw))) (wd_36 hw) (wd_35 hw) (wd_4 hw) (wd_37 hw) (by decide) (rm1 l Z a0 hw A_KING A_JOKER A_TWO h56 n0 Z56 f115 f116) e56 f117 0 (by decide) (by decide) (by decide) (by decide) (g := (mkF m 128 #[.val (.int xx), .val (.int (11 : Int32)), .val (.ref b1), .val (.ref A_KING), .val (.int (0 : Int32))] [(.ref A_KING)])) rfl (by rw [hml]; rfl) (rest := []) pd_0 rfl rfl (by show 2 * 0 + _ ≤ _; exact Nat.le_of_eq rfl) (hb hby at_128)
    obtain ⟨rfl, rfl, e114⟩ := hQ114
    rw [List.append_nil] at X114
    refine ownEnds.law st114 ?_
    show ownEnds _ _ _ _ (T114.setTop (mkF m 131 #[.val (.int xx), .val (.int (11 : Int32)), .val (.ref b1), .val (.ref A_KING), .val (.int (0 : Int32))] [(.int (if A_KING = A_JOKER then 1 else if A_KING = A_TWO then 1 else 0))]))
    refine ownEnds.law (fun t k => XS.iload X114.here hx rfl (hb hby at_131) rfl k) ?_
    show ownEnds _ _ _ _ (T114.setTop (mkF m 133 #[.val (.int xx), .val (.int (11 : Int32)), .val (.ref b1), .val (.ref A_KING), .val (.int (0 : Int32))] [(.int (0 : Int32)), (.int (if A_KING = A_JOKER then 1 else if A_KING = A_TWO then 1 else 0))]))
    have hc133 : (if A_KING = A_JOKER then 1 else if A_KING = A_TWO then 1 else 0) = (0 : Int32) := by rw [if_neg nj_KING, if_neg nt_KING]
    refine ownEnds.law (fun t => XS.icmpNo X114.here hx rfl (hb hby at_133) rfl (teq hc133).2) ?_
    show ownEnds _ _ _ _ (T114.setTop (mkF m 136 #[.val (.int xx), .val (.int (11 : Int32)), .val (.ref b1), .val (.ref A_KING), .val (.int (0 : Int32))] []))
    refine ownEnds.law (fun t k => XS.iconst X114.here hx rfl (hb hby at_136) (XS.goto X114.here hx rfl (pc0 := 137) (pc' := 141) rfl (hb hby at_137) (by decide) (by decide) k)) ?_
    show ownEnds _ _ _ _ (T114.setTop (mkF m 141 #[.val (.int xx), .val (.int (11 : Int32)), .val (.ref b1), .val (.ref A_KING), .val (.int (0 : Int32))] [(.int (1 : Int32))]))
    refine ownRetN X114 hlk hx (t := .boolean) hret (by simp) (hb hby at_141) (by decide) (by decide) ?_
    exact ⟨rfl, N56⟩
  · show ownEnds _ _ _ _ (T56.setTop (mkF m 106 #[.val (.int xx), .val (.int (12 : Int32)), .val (.ref b1), .unset, .unset] []))
    refine ownEnds.law (fun t k => XS.aloadN X56.here hx rfl (hb hby at_106) rfl rfl (XS.iloadN X56.here hx rfl (hb hby at_107) rfl k)) ?_
    show ownEnds _ _ _ _ (T56.setTop (mkF m 108 #[.val (.int xx), .val (.int (12 : Int32)), .val (.ref b1), .unset, .unset] [(.int (12 : Int32)), (.ref b1)]))
    obtain ⟨cl118, Ar118, q118, S118, N118, H118, G118⟩ := V56
    have hi118 := inb_of (j := (12 : Int32)) S118 ⟨by decide, by decide⟩
    have hv118 : cl118.slots[((12 : Int32)).toNatClampNeg]? = some (.ref A_ACE) := H118.at hi118 rfl
    refine ownEnds.law (fun t k => X56.aaload hx (j := (12 : Int32)) (v := (.ref A_ACE)) (by rw [e56]; exact Ar118.1) (State.isArrayOf_alike hZ.alike Ar118.2.1) rfl Ar118.2.2 hi118 hv118 (g := (mkF m 108 #[.val (.int xx), .val (.int (12 : Int32)), .val (.ref b1), .unset, .unset] [(.int (12 : Int32)), (.ref b1)])) rfl rfl (hb hby at_108) _ (XS.astoreN X56.here hx rfl (hb hby at_109) rfl rfl (l' := #[.val (.int xx), .val (.int (12 : Int32)), .val (.ref b1), .val (.ref A_ACE), .unset]) rfl (XS.iloadN X56.here hx rfl (hb hby at_110) rfl k))) ?_
    show ownEnds _ _ _ _ (T56.setTop (mkF m 111 #[.val (.int xx), .val (.int (12 : Int32)), .val (.ref b1), .val (.ref A_ACE), .unset] [(.int (12 : Int32))]))
    refine ownEnds.law (fun t => XS.ifNo X56.here hx rfl (hb hby at_111) rfl ((if0 _ _).trans (feq (by decide : ¬ ((12 : Int32) = (0 : Int32)))).1)) ?_
    show ownEnds _ _ _ _ (T56.setTop (mkF m 114 #[.val (.int xx), .val (.int (12 : Int32)), .val (.ref b1), .val (.ref A_ACE), .unset] []))
    refine ownEnds.law (fun t k => XS.iloadN X56.here hx rfl (hb hby at_114) rfl (XS.bipush X56.here hx rfl (hb hby at_115) k)) ?_
    show ownEnds _ _ _ _ (T56.setTop (mkF m 117 #[.val (.int xx), .val (.int (12 : Int32)), .val (.ref b1), .val (.ref A_ACE), .unset] [(.int (13 : Int32)), (.int (12 : Int32))]))
    refine ownEnds.law (fun t => XS.icmpYes X56.here hx rfl (pc0 := 117) (pc' := 124) rfl (hb hby at_117) rfl (feq (by decide : ¬ ((12 : Int32) = (13 : Int32)))).2 (by decide) (by decide)) ?_
    show ownEnds _ _ _ _ (T56.setTop (mkF m 124 #[.val (.int xx), .val (.int (12 : Int32)), .val (.ref b1), .val (.ref A_ACE), .unset] []))
    refine ownEnds.law (fun t k => XS.iconst X56.here hx rfl (hb hby at_124) (XS.istore X56.here hx rfl (hb hby at_125) rfl (l' := #[.val (.int xx), .val (.int (12 : Int32)), .val (.ref b1), .val (.ref A_ACE), .val (.int (0 : Int32))]) rfl (XS.aloadN X56.here hx rfl (hb hby at_127) rfl rfl k))) ?_
    show ownEnds _ _ _ _ (T56.setTop (mkF m 128 #[.val (.int xx), .val (.int (12 : Int32)), .val (.ref b1), .val (.ref A_ACE), .val (.int (0 : Int32))] [(.ref A_ACE)]))
    have f120 := (Sta.wr W56 f54)
    have f121 := (Sta.wr W56 (Sta.wr W52 (Sta.wr W48 (Sta.wr W44 (Sta.wr W40 (Sta.wr W36 (Sta.wr W32 (Sta.wr W28 (Sta.wr W24 (Sta.wr W20 (Sta.wr W16 (Sta.wr W12 (Sta.wr W8 (Sta.wr W4 f2))))))))))))))
    have f122 := (Exa.wr W56 (Exa.wr W52 f53))
    obtain ⟨v119, T119, L119, X119, hQ119, st119⟩ := ownCallV X56 hx hZ hown (y := (⟨"com/example/meldwork/meldwork/Rank", "isWild", "()Z"⟩ : MethodName)) (z := (⟨"com/example/meldwork/meldwork/Rank", "isWild", "()Z"⟩ : MethodName)) (a := A_ACE) (as := []) (wd_33 hw) (wd_34 hw) (notFace_of_selects (args := #[]) (mvT hZ (wd_36 hw))) (wd_36 hw) (wd_35 hw) (wd_4 hw) (wd_37 hw) (by decide) (rm1 l Z a0 hw A_ACE A_JOKER A_TWO h56 n0 Z56 f120 f121) e56 f122 0 (by decide) (by decide) (by decide) (by decide) (g := (mkF m 128 #[.val (.int xx), .val (.int (12 : Int32)), .val (.ref b1), .val (.ref A_ACE), .val (.int (0 : Int32))] [(.ref A_ACE)])) rfl (by rw [hml]; rfl) (rest := []) pd_0 rfl rfl (by show 2 * 0 + _ ≤ _; exact Nat.le_of_eq rfl) (hb hby at_128)
    obtain ⟨rfl, rfl, e119⟩ := hQ119
    rw [List.append_nil] at X119
    refine ownEnds.law st119 ?_
    show ownEnds _ _ _ _ (T119.setTop (mkF m 131 #[.val (.int xx), .val (.int (12 : Int32)), .val (.ref b1), .val (.ref A_ACE), .val (.int (0 : Int32))] [(.int (if A_ACE = A_JOKER then 1 else if A_ACE = A_TWO then 1 else 0))]))
    refine ownEnds.law (fun t k => XS.iload X119.here hx rfl (hb hby at_131) rfl k) ?_
    show ownEnds _ _ _ _ (T119.setTop (mkF m 133 #[.val (.int xx), .val (.int (12 : Int32)), .val (.ref b1), .val (.ref A_ACE), .val (.int (0 : Int32))] [(.int (0 : Int32)), (.int (if A_ACE = A_JOKER then 1 else if A_ACE = A_TWO then 1 else 0))]))
    have hc133 : (if A_ACE = A_JOKER then 1 else if A_ACE = A_TWO then 1 else 0) = (0 : Int32) := by rw [if_neg nj_ACE, if_neg nt_ACE]
    refine ownEnds.law (fun t => XS.icmpNo X119.here hx rfl (hb hby at_133) rfl (teq hc133).2) ?_
    show ownEnds _ _ _ _ (T119.setTop (mkF m 136 #[.val (.int xx), .val (.int (12 : Int32)), .val (.ref b1), .val (.ref A_ACE), .val (.int (0 : Int32))] []))
    refine ownEnds.law (fun t k => XS.iconst X119.here hx rfl (hb hby at_136) (XS.goto X119.here hx rfl (pc0 := 137) (pc' := 141) rfl (hb hby at_137) (by decide) (by decide) k)) ?_
    show ownEnds _ _ _ _ (T119.setTop (mkF m 141 #[.val (.int xx), .val (.int (12 : Int32)), .val (.ref b1), .val (.ref A_ACE), .val (.int (0 : Int32))] [(.int (1 : Int32))]))
    refine ownRetN X119 hlk hx (t := .boolean) hret (by simp) (hb hby at_141) (by decide) (by decide) ?_
    exact ⟨rfl, N56⟩
  · show ownEnds _ _ _ _ (T56.setTop (mkF m 106 #[.val (.int xx), .val (.int (13 : Int32)), .val (.ref b1), .unset, .unset] []))
    refine ownEnds.law (fun t k => XS.aloadN X56.here hx rfl (hb hby at_106) rfl rfl (XS.iloadN X56.here hx rfl (hb hby at_107) rfl k)) ?_
    show ownEnds _ _ _ _ (T56.setTop (mkF m 108 #[.val (.int xx), .val (.int (13 : Int32)), .val (.ref b1), .unset, .unset] [(.int (13 : Int32)), (.ref b1)]))
    obtain ⟨cl123, Ar123, q123, S123, N123, H123, G123⟩ := V56
    have hi123 := inb_of (j := (13 : Int32)) S123 ⟨by decide, by decide⟩
    have hv123 : cl123.slots[((13 : Int32)).toNatClampNeg]? = some (.ref A_JOKER) := H123.at hi123 rfl
    refine ownEnds.law (fun t k => X56.aaload hx (j := (13 : Int32)) (v := (.ref A_JOKER)) (by rw [e56]; exact Ar123.1) (State.isArrayOf_alike hZ.alike Ar123.2.1) rfl Ar123.2.2 hi123 hv123 (g := (mkF m 108 #[.val (.int xx), .val (.int (13 : Int32)), .val (.ref b1), .unset, .unset] [(.int (13 : Int32)), (.ref b1)])) rfl rfl (hb hby at_108) _ (XS.astoreN X56.here hx rfl (hb hby at_109) rfl rfl (l' := #[.val (.int xx), .val (.int (13 : Int32)), .val (.ref b1), .val (.ref A_JOKER), .unset]) rfl (XS.iloadN X56.here hx rfl (hb hby at_110) rfl k))) ?_
    show ownEnds _ _ _ _ (T56.setTop (mkF m 111 #[.val (.int xx), .val (.int (13 : Int32)), .val (.ref b1), .val (.ref A_JOKER), .unset] [(.int (13 : Int32))]))
    refine ownEnds.law (fun t => XS.ifNo X56.here hx rfl (hb hby at_111) rfl ((if0 _ _).trans (feq (by decide : ¬ ((13 : Int32) = (0 : Int32)))).1)) ?_
    show ownEnds _ _ _ _ (T56.setTop (mkF m 114 #[.val (.int xx), .val (.int (13 : Int32)), .val (.ref b1), .val (.ref A_JOKER), .unset] []))
    refine ownEnds.law (fun t k => XS.iloadN X56.here hx rfl (hb hby at_114) rfl (XS.bipush X56.here hx rfl (hb hby at_115) k)) ?_
    show ownEnds _ _ _ _ (T56.setTop (mkF m 117 #[.val (.int xx), .val (.int (13 : Int32)), .val (.ref b1), .val (.ref A_JOKER), .unset] [(.int (13 : Int32)), (.int (13 : Int32))]))
    refine ownEnds.law (fun t => XS.icmpNo X56.here hx rfl (hb hby at_117) rfl (teq (rfl : (13 : Int32) = (13 : Int32))).2) ?_
    show ownEnds _ _ _ _ (T56.setTop (mkF m 120 #[.val (.int xx), .val (.int (13 : Int32)), .val (.ref b1), .val (.ref A_JOKER), .unset] []))
    refine ownEnds.law (fun t k => XS.iconst X56.here hx rfl (hb hby at_120) (XS.goto X56.here hx rfl (pc0 := 121) (pc' := 125) rfl (hb hby at_121) (by decide) (by decide) (XS.istore X56.here hx rfl (hb hby at_125) rfl (l' := #[.val (.int xx), .val (.int (13 : Int32)), .val (.ref b1), .val (.ref A_JOKER), .val (.int (1 : Int32))]) rfl (XS.aloadN X56.here hx rfl (hb hby at_127) rfl rfl k)))) ?_
    show ownEnds _ _ _ _ (T56.setTop (mkF m 128 #[.val (.int xx), .val (.int (13 : Int32)), .val (.ref b1), .val (.ref A_JOKER), .val (.int (1 : Int32))] [(.ref A_JOKER)]))
    have f125 := (Sta.wr W56 f54)
    have f126 := (Sta.wr W56 (Sta.wr W52 (Sta.wr W48 (Sta.wr W44 (Sta.wr W40 (Sta.wr W36 (Sta.wr W32 (Sta.wr W28 (Sta.wr W24 (Sta.wr W20 (Sta.wr W16 (Sta.wr W12 (Sta.wr W8 (Sta.wr W4 f2))))))))))))))
    have f127 := (Exa.wr W56 f57)
    obtain ⟨v124, T124, L124, X124, hQ124, st124⟩ := ownCallV X56 hx hZ hown (y := (⟨"com/example/meldwork/meldwork/Rank", "isWild", "()Z"⟩ : MethodName)) (z := (⟨"com/example/meldwork/meldwork/Rank", "isWild", "()Z"⟩ : MethodName)) (a := A_JOKER) (as := []) (wd_33 hw) (wd_34 hw) (notFace_of_selects (args := #[]) (mvT hZ (wd_36 hw))) (wd_36 hw) (wd_35 hw) (wd_4 hw) (wd_37 hw) (by decide) (rm1 l Z a0 hw A_JOKER A_JOKER A_TWO h56 n0 Z56 f125 f126) e56 f127 0 (by decide) (by decide) (by decide) (by decide) (g := (mkF m 128 #[.val (.int xx), .val (.int (13 : Int32)), .val (.ref b1), .val (.ref A_JOKER), .val (.int (1 : Int32))] [(.ref A_JOKER)])) rfl (by rw [hml]; rfl) (rest := []) pd_0 rfl rfl (by show 2 * 0 + _ ≤ _; exact Nat.le_of_eq rfl) (hb hby at_128)
    obtain ⟨rfl, rfl, e124⟩ := hQ124
    rw [List.append_nil] at X124
    refine ownEnds.law st124 ?_
    show ownEnds _ _ _ _ (T124.setTop (mkF m 131 #[.val (.int xx), .val (.int (13 : Int32)), .val (.ref b1), .val (.ref A_JOKER), .val (.int (1 : Int32))] [(.int (if A_JOKER = A_JOKER then 1 else if A_JOKER = A_TWO then 1 else 0))]))
    refine ownEnds.law (fun t k => XS.iload X124.here hx rfl (hb hby at_131) rfl k) ?_
    show ownEnds _ _ _ _ (T124.setTop (mkF m 133 #[.val (.int xx), .val (.int (13 : Int32)), .val (.ref b1), .val (.ref A_JOKER), .val (.int (1 : Int32))] [(.int (1 : Int32)), (.int (if A_JOKER = A_JOKER then 1 else if A_JOKER = A_TWO then 1 else 0))]))
    have hc133 : (if A_JOKER = A_JOKER then 1 else if A_JOKER = A_TWO then 1 else 0) = (1 : Int32) := by simp
    refine ownEnds.law (fun t => XS.icmpNo X124.here hx rfl (hb hby at_133) rfl (teq hc133).2) ?_
    show ownEnds _ _ _ _ (T124.setTop (mkF m 136 #[.val (.int xx), .val (.int (13 : Int32)), .val (.ref b1), .val (.ref A_JOKER), .val (.int (1 : Int32))] []))
    refine ownEnds.law (fun t k => XS.iconst X124.here hx rfl (hb hby at_136) (XS.goto X124.here hx rfl (pc0 := 137) (pc' := 141) rfl (hb hby at_137) (by decide) (by decide) k)) ?_
    show ownEnds _ _ _ _ (T124.setTop (mkF m 141 #[.val (.int xx), .val (.int (13 : Int32)), .val (.ref b1), .val (.ref A_JOKER), .val (.int (1 : Int32))] [(.int (1 : Int32))]))
    refine ownRetN X124 hlk hx (t := .boolean) hret (by simp) (hb hby at_141) (by decide) (by decide) ?_
    exact ⟨rfl, N56⟩
set_option maxRecDepth 65536 in
set_option maxHeartbeats 40000000 in
theorem comes_1 {Post : Tables → Env → Array Value → State → Outcome → State → Prop} (hpost : ∀ tb e args s v u, (limb_1_1.after args s (.returned v) u = true ∧ limb_1_2.after args s (.returned v) u = true ∧ True) → FrameEnd s (.returned v) u (Jvm.fieldLocs frame_1_writes args s ++ Jvm.arrayLocs frame_1_arrays args s ++ Jvm.staticLocs frame_1_statics s) 16 128 → Post tb e args s (.returned v) u) :
    ArmFor flags0 classFile x code maxLocals ret World_1 tables_1 room_1 Calls_1 rest_1 Pre_1 Post := by
  intro l hfl _ _ p e ha hc hk s m args below hf hA hF happ hP
  obtain ⟨hcalls, hrest, hpre⟩ := hP
  obtain ⟨-, -, -, hnamed, -, -, -, hat⟩ := (Spec.applies_iff hf).mp happ
  obtain ⟨hg, hn⟩ := and_e (Cond.before_iff.mp (show (Jvm.Cond.and given_1 narrow_1).before args s = true from hpre))
  obtain ⟨gg1, gg2⟩ := and_e hg
  obtain ⟨w0, rfl⟩ : ∃ w0 : Value, args = #[w0] := by
    have hs : args.size = 1 := by simpa [Cond.value, given_1] using gg1
    obtain ⟨L⟩ := args
    match L, hs with
    | [w0], _ => exact ⟨w0, rfl⟩
  have hw := fun d (hd : d ∈ tables_1) => atoms_spec (ws := Jvm.Cond.code x code maxLocals ret :: tables_1) hat d (List.mem_cons_of_mem _ hd)
  have hfit : Fit s := fun {y c} hc i hi => by
    obtain ⟨ha, rfl⟩ := Array.getElem?_eq_some_iff.mp hc
    have q := List.all_eq_true.mp ((Array.all_eq_true_iff_forall_mem.mp hF) _ (Array.getElem_mem ha)) i (List.mem_range.mpr hi)
    simpa [Array.getElem?_eq_getElem hi] using q
  obtain ⟨i0, ei0⟩ := is_v gg2
  obtain rfl : w0 = (.int i0) := Option.some.inj ei0
  obtain ⟨na1, nb1⟩ := and_e hn
  obtain ⟨na2, nb2⟩ := and_e nb1
  obtain ⟨na3, nb3⟩ := and_e nb2
  obtain ⟨na4, nb4⟩ := and_e nb3
  obtain ⟨na5, nb5⟩ := and_e nb4
  obtain ⟨na6, nb6⟩ := and_e nb5
  obtain ⟨na7, nb7⟩ := and_e nb6
  obtain ⟨na8, nb8⟩ := and_e nb7
  obtain ⟨na9, nb9⟩ := and_e nb8
  obtain ⟨na10, nb10⟩ := and_e nb9
  obtain ⟨na11, nb11⟩ := and_e nb10
  obtain ⟨na12, nb12⟩ := and_e nb11
  obtain ⟨na13, nb13⟩ := and_e nb12
  obtain ⟨na14, nb14⟩ := and_e nb13
  obtain ⟨na15, nb15⟩ := and_e nb14
  obtain ⟨na16, nb16⟩ := and_e nb15
  obtain ⟨na17, nb17⟩ := and_e nb16
  obtain ⟨na18, nb18⟩ := and_e nb17
  obtain ⟨na19, nb19⟩ := and_e nb18
  obtain ⟨na20, nb20⟩ := and_e nb19
  obtain ⟨na21, nb21⟩ := and_e nb20
  obtain ⟨na22, nb22⟩ := and_e nb21
  obtain ⟨na23, nb23⟩ := and_e nb22
  obtain ⟨na24, nb24⟩ := and_e nb23
  obtain ⟨na25, nb25⟩ := and_e nb24
  obtain ⟨na26, nb26⟩ := and_e nb25
  obtain ⟨na27, nb27⟩ := and_e nb26
  obtain ⟨A_TWO, ev_TWO⟩ := exa_v na1
  have S_TWO := Sta.start ev_TWO (Or.inr ⟨(wd_4 hw), (wd_5 hw)⟩)
  have E_TWO := Exa.start ev_TWO na1
  obtain ⟨A_THREE, ev_THREE⟩ := exa_v na2
  have S_THREE := Sta.start ev_THREE (Or.inr ⟨(wd_4 hw), (wd_8 hw)⟩)
  have E_THREE := Exa.start ev_THREE na2
  obtain ⟨A_FOUR, ev_FOUR⟩ := exa_v na3
  have S_FOUR := Sta.start ev_FOUR (Or.inr ⟨(wd_4 hw), (wd_10 hw)⟩)
  have E_FOUR := Exa.start ev_FOUR na3
  obtain ⟨A_FIVE, ev_FIVE⟩ := exa_v na4
  have S_FIVE := Sta.start ev_FIVE (Or.inr ⟨(wd_4 hw), (wd_12 hw)⟩)
  have E_FIVE := Exa.start ev_FIVE na4
  obtain ⟨A_SIX, ev_SIX⟩ := exa_v na5
  have S_SIX := Sta.start ev_SIX (Or.inr ⟨(wd_4 hw), (wd_14 hw)⟩)
  have E_SIX := Exa.start ev_SIX na5
  obtain ⟨A_SEVEN, ev_SEVEN⟩ := exa_v na6
  have S_SEVEN := Sta.start ev_SEVEN (Or.inr ⟨(wd_4 hw), (wd_16 hw)⟩)
  have E_SEVEN := Exa.start ev_SEVEN na6
  obtain ⟨A_EIGHT, ev_EIGHT⟩ := exa_v na7
  have S_EIGHT := Sta.start ev_EIGHT (Or.inr ⟨(wd_4 hw), (wd_18 hw)⟩)
  have E_EIGHT := Exa.start ev_EIGHT na7
  obtain ⟨A_NINE, ev_NINE⟩ := exa_v na8
  have S_NINE := Sta.start ev_NINE (Or.inr ⟨(wd_4 hw), (wd_20 hw)⟩)
  have E_NINE := Exa.start ev_NINE na8
  obtain ⟨A_TEN, ev_TEN⟩ := exa_v na9
  have S_TEN := Sta.start ev_TEN (Or.inr ⟨(wd_4 hw), (wd_22 hw)⟩)
  have E_TEN := Exa.start ev_TEN na9
  obtain ⟨A_JACK, ev_JACK⟩ := exa_v na10
  have S_JACK := Sta.start ev_JACK (Or.inr ⟨(wd_4 hw), (wd_24 hw)⟩)
  have E_JACK := Exa.start ev_JACK na10
  obtain ⟨A_QUEEN, ev_QUEEN⟩ := exa_v na11
  have S_QUEEN := Sta.start ev_QUEEN (Or.inr ⟨(wd_4 hw), (wd_26 hw)⟩)
  have E_QUEEN := Exa.start ev_QUEEN na11
  obtain ⟨A_KING, ev_KING⟩ := exa_v na12
  have S_KING := Sta.start ev_KING (Or.inr ⟨(wd_4 hw), (wd_28 hw)⟩)
  have E_KING := Exa.start ev_KING na12
  obtain ⟨A_ACE, ev_ACE⟩ := exa_v na13
  have S_ACE := Sta.start ev_ACE (Or.inr ⟨(wd_4 hw), (wd_30 hw)⟩)
  have E_ACE := Exa.start ev_ACE na13
  obtain ⟨A_JOKER, ev_JOKER⟩ := exa_v na14
  have S_JOKER := Sta.start ev_JOKER (Or.inr ⟨(wd_4 hw), (wd_32 hw)⟩)
  have E_JOKER := Exa.start ev_JOKER na14
  have F_TWO_ordinal := Fld.start ((ownFieldAt ev_TWO).symm.trans (ownEqV na15 rfl))
  have F_JOKER_ordinal := Fld.start ((ownFieldAt ev_JOKER).symm.trans (ownEqV na16 rfl))
  have F_FIVE_ordinal := Fld.start ((ownFieldAt ev_FIVE).symm.trans (ownEqV na17 rfl))
  have F_ACE_ordinal := Fld.start ((ownFieldAt ev_ACE).symm.trans (ownEqV na18 rfl))
  have F_SIX_ordinal := Fld.start ((ownFieldAt ev_SIX).symm.trans (ownEqV na19 rfl))
  have F_NINE_ordinal := Fld.start ((ownFieldAt ev_NINE).symm.trans (ownEqV na20 rfl))
  have F_FOUR_ordinal := Fld.start ((ownFieldAt ev_FOUR).symm.trans (ownEqV na21 rfl))
  have F_KING_ordinal := Fld.start ((ownFieldAt ev_KING).symm.trans (ownEqV na22 rfl))
  have F_QUEEN_ordinal := Fld.start ((ownFieldAt ev_QUEEN).symm.trans (ownEqV na23 rfl))
  have F_TEN_ordinal := Fld.start ((ownFieldAt ev_TEN).symm.trans (ownEqV na24 rfl))
  have F_THREE_ordinal := Fld.start ((ownFieldAt ev_THREE).symm.trans (ownEqV na25 rfl))
  have F_JACK_ordinal := Fld.start ((ownFieldAt ev_JACK).symm.trans (ownEqV na26 rfl))
  have F_SEVEN_ordinal := Fld.start ((ownFieldAt ev_SEVEN).symm.trans (ownEqV na27 rfl))
  have F_EIGHT_ordinal := Fld.start ((ownFieldAt ev_EIGHT).symm.trans (ownEqV nb27 rfl))
  have nj_THREE : A_THREE ≠ A_JOKER := Fld.ne F_THREE_ordinal F_JOKER_ordinal (by decide)
  have nt_THREE : A_THREE ≠ A_TWO := Fld.ne F_THREE_ordinal F_TWO_ordinal (by decide)
  have nj_FOUR : A_FOUR ≠ A_JOKER := Fld.ne F_FOUR_ordinal F_JOKER_ordinal (by decide)
  have nt_FOUR : A_FOUR ≠ A_TWO := Fld.ne F_FOUR_ordinal F_TWO_ordinal (by decide)
  have nj_FIVE : A_FIVE ≠ A_JOKER := Fld.ne F_FIVE_ordinal F_JOKER_ordinal (by decide)
  have nt_FIVE : A_FIVE ≠ A_TWO := Fld.ne F_FIVE_ordinal F_TWO_ordinal (by decide)
  have nj_SIX : A_SIX ≠ A_JOKER := Fld.ne F_SIX_ordinal F_JOKER_ordinal (by decide)
  have nt_SIX : A_SIX ≠ A_TWO := Fld.ne F_SIX_ordinal F_TWO_ordinal (by decide)
  have nj_SEVEN : A_SEVEN ≠ A_JOKER := Fld.ne F_SEVEN_ordinal F_JOKER_ordinal (by decide)
  have nt_SEVEN : A_SEVEN ≠ A_TWO := Fld.ne F_SEVEN_ordinal F_TWO_ordinal (by decide)
  have nj_EIGHT : A_EIGHT ≠ A_JOKER := Fld.ne F_EIGHT_ordinal F_JOKER_ordinal (by decide)
  have nt_EIGHT : A_EIGHT ≠ A_TWO := Fld.ne F_EIGHT_ordinal F_TWO_ordinal (by decide)
  have nj_NINE : A_NINE ≠ A_JOKER := Fld.ne F_NINE_ordinal F_JOKER_ordinal (by decide)
  have nt_NINE : A_NINE ≠ A_TWO := Fld.ne F_NINE_ordinal F_TWO_ordinal (by decide)
  have nj_TEN : A_TEN ≠ A_JOKER := Fld.ne F_TEN_ordinal F_JOKER_ordinal (by decide)
  have nt_TEN : A_TEN ≠ A_TWO := Fld.ne F_TEN_ordinal F_TWO_ordinal (by decide)
  have nj_JACK : A_JACK ≠ A_JOKER := Fld.ne F_JACK_ordinal F_JOKER_ordinal (by decide)
  have nt_JACK : A_JACK ≠ A_TWO := Fld.ne F_JACK_ordinal F_TWO_ordinal (by decide)
  have nj_QUEEN : A_QUEEN ≠ A_JOKER := Fld.ne F_QUEEN_ordinal F_JOKER_ordinal (by decide)
  have nt_QUEEN : A_QUEEN ≠ A_TWO := Fld.ne F_QUEEN_ordinal F_TWO_ordinal (by decide)
  have nj_KING : A_KING ≠ A_JOKER := Fld.ne F_KING_ordinal F_JOKER_ordinal (by decide)
  have nt_KING : A_KING ≠ A_TWO := Fld.ne F_KING_ordinal F_TWO_ordinal (by decide)
  have nj_ACE : A_ACE ≠ A_JOKER := Fld.ne F_ACE_ordinal F_JOKER_ordinal (by decide)
  have nt_ACE : A_ACE ≠ A_TWO := Fld.ne F_ACE_ordinal F_TWO_ordinal (by decide)
  obtain ⟨n, o, h1, h2, h3, _, L, rfl, ⟨rfl, N⟩, hq⟩ := rm0 l s _ hw i0 A_TWO A_THREE A_FOUR A_FIVE A_SIX A_SEVEN A_EIGHT A_NINE A_TEN A_JACK A_QUEEN A_KING A_ACE A_JOKER s.heap s.heap.size (Nat.le_refl _) S_TWO E_TWO S_THREE E_THREE S_FOUR E_FOUR S_FIVE E_FIVE S_SIX E_SIX S_SEVEN E_SEVEN S_EIGHT E_EIGHT S_NINE E_NINE S_TEN E_TEN S_JACK E_JACK S_QUEEN E_QUEEN S_KING E_KING S_ACE E_ACE S_JOKER E_JOKER nj_THREE nt_THREE nj_FOUR nt_FOUR nj_FIVE nt_FIVE nj_SIX nt_SIX nj_SEVEN nt_SEVEN nj_EIGHT nt_EIGHT nj_NINE nt_NINE nj_TEN nt_TEN nj_JACK nt_JACK nj_QUEEN nt_QUEEN nj_KING nt_KING nj_ACE nt_ACE p e ha hc hk s m _ below hf ((Spec.applies_iff_loose hf).mp happ).1 ⟨rfl, State.Warmed39.refl s, rfl⟩ trivial
  refine ⟨n, _, h1, h2, h3, hpost _ _ _ _ _ _ ⟨Cond.after_iff.mpr rfl, Cond.after_iff.mpr (eq_i res_at (Term.int_eval (1)) rfl), trivial⟩ ⟨hq.1, hq.2.1, (hq.2.2.sift fun y hy => Or.inr (N y hy)).mono (by decide) (by decide)⟩⟩
theorem main_1_1 : Claimed_1_1 := comes_1 fun _ _ _ _ _ _ h hF => ⟨h.1, hF⟩
theorem main_1_2 : Claimed_1_2 := comes_1 fun _ _ _ _ _ _ h hF => ⟨h.2.1, hF⟩
end Jvm.Pilot.@@N@@
namespace Jvm.Pilot.@@N@@
open Jvm Jvm.ClassFile Sem Op Lib Jvm.Free Jvm.Stand Jvm.Pilot.@@N@@.Jvm.D
/-! MADE BY PROGRAM (witnessworld.py) out of the Statement's table words and the real class files: 13 classes; the members and pool entries that the words name. The judged class is class 1, her method 1. -/
namespace start1
open Jvm.ClassFile
def u (s : String) : CpInfo := .utf8 (stringToUtf16 s)
/-- a pool by its gaps: so many unusable entries, then the entry; so many at the end -/
def gap : Nat → List CpInfo → List CpInfo
  | 0, r => r
  | n + 1, r => .unusable :: gap n r
def poolList (es : List (Nat × CpInfo)) (last : Nat) : List CpInfo := es.foldr (fun e r => gap e.1 (e.2 :: r)) (gap last [])
def pool (es : List (Nat × CpInfo)) (last : Nat) : Array CpInfo := ⟨poolList es last⟩
def fileOf (pool : Array CpInfo) (this : Nat) (attrs : Array Attribute := #[]) (ms : Array MethodInfo := #[]) (fl : Nat := 33) (sup : Nat := 0) (ifs : Array Nat := #[]) (fds : Array FieldInfo := #[]) : ClassFile where
  minorVersion := 0
  majorVersion := 65
  constantPool := pool
  accessFlags := fl
  thisClass := this
  superClass := sup
  interfaces := ifs
  fields := fds
  methods := ms
  attributes := attrs
def plain (name : String) (sup : Option ClassId) : Class where
  name := name
  kind := .ordinary
  loader := none
  accessFlags := 33
  super := sup
  interfaces := #[]
  cf := none
  fields := #[]
  methods := #[]
  instanceTypes := #[]
  staticTypes := #[]
  resolved := #[]
  callSites := []
  init := .initialized
  statics := none
  mirror := none

def pool0 : Array CpInfo := pool [(5, u "<init>"), (0, u "()V"), (1, .class_ 10), (1, u "java/lang/Object")] 113

def k0m0 : Method := { name := "<init>", desc := "()V", sig := { parameters := [], returnType := none }, accessFlags := 1, code := none }
/-- java/lang/Object -/
def k0 : Class := { plain "java/lang/Object" none with
  accessFlags := 33
  interfaces := #[]
  cf := some (fileOf pool0 8 #[] #[{ accessFlags := 1, nameIndex := 5, descriptorIndex := 6, attributes := #[] }] 33 0 #[] #[])
  fields := #[]
  methods := #[k0m0]
  instanceTypes := #[]
  staticTypes := #[]
  resolved := Array.replicate 124 none
  statics := none }

def pool1 : Array CpInfo := pool [(2, .class_ 4), (1, u "java/lang/Object"), (0, u "<init>"), (0, u "()V"), (0, .integer 2147483647), (0, .class_ 9), (0, u "com/example/meldwork/meldwork/Rank"), (0, .fieldref 8 11), (0, .nameAndType 12 13), (0, u "TWO"), (0, u "Lcom/example/meldwork/meldwork/Rank;"), (0, .fieldref 8 15), (0, .nameAndType 16 13), (0, u "THREE"), (0, .fieldref 8 18), (0, .nameAndType 19 13), (0, u "FOUR"), (0, .fieldref 8 21), (0, .nameAndType 22 13), (0, u "FIVE"), (0, .fieldref 8 24), (0, .nameAndType 25 13), (0, u "SIX"), (0, .fieldref 8 27), (0, .nameAndType 28 13), (0, u "SEVEN"), (0, .fieldref 8 30), (0, .nameAndType 31 13), (0, u "EIGHT"), (0, .fieldref 8 33), (0, .nameAndType 34 13), (0, u "NINE"), (0, .fieldref 8 36), (0, .nameAndType 37 13), (0, u "TEN"), (0, .fieldref 8 39), (0, .nameAndType 40 13), (0, u "JACK"), (0, .fieldref 8 42), (0, .nameAndType 43 13), (0, u "QUEEN"), (0, .fieldref 8 45), (0, .nameAndType 46 13), (0, u "KING"), (0, .fieldref 8 48), (0, .nameAndType 49 13), (0, u "ACE"), (0, .fieldref 8 51), (0, .nameAndType 52 13), (0, u "JOKER"), (0, .methodref 8 54), (0, .nameAndType 55 56), (0, u "isWild"), (0, u "()Z"), (0, .class_ 58), (0, u "com/example/meldwork/meldwork/RankIsWildPinLaw"), (2, u "law"), (0, u "(I)Z")] 5

def k1m0 : Method := { name := "<init>", desc := "()V", sig := { parameters := [], returnType := none }, accessFlags := 2, code := none }
def k1c1 : Code := { maxStack := 4, maxLocals := 5, code := code, exceptionTable := #[], attributes := #[] }
def k1m1 : Method := { name := "law", desc := "(I)Z", sig := { parameters := [.int], returnType := some .boolean }, accessFlags := 9, code := some k1c1 }
/-- com/example/meldwork/meldwork/RankIsWildPinLaw -/
def k1 : Class := { plain "com/example/meldwork/meldwork/RankIsWildPinLaw" (some 0) with
  accessFlags := 49
  interfaces := #[]
  cf := some (fileOf pool1 57 #[] #[{ accessFlags := 2, nameIndex := 5, descriptorIndex := 6, attributes := #[] }, { accessFlags := 9, nameIndex := 61, descriptorIndex := 62, attributes := #[] }] 49 2 #[] #[])
  fields := #[]
  methods := #[k1m0, k1m1]
  instanceTypes := #[]
  staticTypes := #[]
  resolved := Array.replicate 68 none
  statics := none }

def pool2 : Array CpInfo := pool [(1, .class_ 2), (0, u "java/lang/constant/Constable"), (0, .class_ 4), (0, u "java/lang/Object")] 6

/-- java/lang/constant/Constable -/
def k2 : Class := { plain "java/lang/constant/Constable" (some 0) with
  accessFlags := 1537
  interfaces := #[]
  cf := some (fileOf pool2 1 #[] #[] 1537 3 #[] #[])
  fields := #[]
  methods := #[]
  instanceTypes := #[]
  staticTypes := #[]
  resolved := Array.replicate 11 none
  statics := none }

def pool3 : Array CpInfo := pool [(1, .class_ 2), (0, u "java/lang/Comparable"), (0, .class_ 4), (0, u "java/lang/Object")] 7

/-- java/lang/Comparable -/
def k3 : Class := { plain "java/lang/Comparable" (some 0) with
  accessFlags := 1537
  interfaces := #[]
  cf := some (fileOf pool3 1 #[] #[] 1537 3 #[] #[])
  fields := #[]
  methods := #[]
  instanceTypes := #[]
  staticTypes := #[]
  resolved := Array.replicate 12 none
  statics := none }

def pool4 : Array CpInfo := pool [(1, .class_ 2), (0, u "java/io/Serializable"), (0, .class_ 4), (0, u "java/lang/Object")] 2

/-- java/io/Serializable -/
def k4 : Class := { plain "java/io/Serializable" (some 0) with
  accessFlags := 1537
  interfaces := #[]
  cf := some (fileOf pool4 1 #[] #[] 1537 3 #[] #[])
  fields := #[]
  methods := #[]
  instanceTypes := #[]
  staticTypes := #[]
  resolved := Array.replicate 7 none
  statics := none }

def pool5 : Array CpInfo := pool [(2, .class_ 4), (1, u "java/lang/Enum"), (0, u "name"), (0, u "Ljava/lang/String;"), (2, u "ordinal"), (0, u "I"), (1, .class_ 14), (1, u "java/lang/Object"), (4, u "hash"), (86, .class_ 108), (1, u "java/lang/Enum$EnumDesc"), (2, .class_ 112), (0, u "java/lang/constant/Constable"), (0, .class_ 114), (0, u "java/lang/Comparable"), (0, .class_ 116), (0, u "java/io/Serializable")] 87

/-- java/lang/Enum -/
def k5 : Class := { plain "java/lang/Enum" (some 0) with
  accessFlags := 1057
  interfaces := #[2, 3, 4]
  cf := some (fileOf pool5 2 #[.nestMembers #[106]] #[] 1057 12 #[111, 113, 115] #[{ accessFlags := 18, nameIndex := 5, descriptorIndex := 6, attributes := #[] }, { accessFlags := 18, nameIndex := 9, descriptorIndex := 10, attributes := #[] }, { accessFlags := 2, nameIndex := 19, descriptorIndex := 10, attributes := #[] }])
  fields := #[{ name := "name", type := (.object "java/lang/String"), accessFlags := 18, slot := 0, constantValue := 0 }, { name := "ordinal", type := .int, accessFlags := 18, slot := 1, constantValue := 0 }, { name := "hash", type := .int, accessFlags := 2, slot := 2, constantValue := 0 }]
  methods := #[]
  instanceTypes := #[(.object "java/lang/String"), .int, .int]
  staticTypes := #[]
  resolved := Array.replicate 204 none
  statics := none }

def pool6 : Array CpInfo := pool [(1, .class_ 2), (0, u "com/example/meldwork/meldwork/Rank"), (0, .fieldref 1 4), (0, .nameAndType 5 6), (0, u "TWO"), (0, u "Lcom/example/meldwork/meldwork/Rank;"), (2, u "THREE"), (2, u "FOUR"), (2, u "FIVE"), (2, u "SIX"), (2, u "SEVEN"), (2, u "EIGHT"), (2, u "NINE"), (2, u "TEN"), (2, u "JACK"), (2, u "QUEEN"), (2, u "KING"), (2, u "ACE"), (0, .fieldref 1 44), (0, .nameAndType 45 6), (0, u "JOKER"), (2, u "$VALUES"), (0, u "[Lcom/example/meldwork/meldwork/Rank;"), (6, .class_ 58), (1, u "java/lang/Enum"), (8, u "symbol"), (0, u "C"), (2, u "plural"), (0, u "Ljava/lang/String;"), (2, u "value"), (0, u "I"), (7, u "()Z"), (82, u "isWild")] 7

def k6c0 : Code := { maxStack := 2, maxLocals := 1, code := prog_47_method_5_code, exceptionTable := #[], attributes := #[] }
def k6m0 : Method := { name := "isWild", desc := "()Z", sig := { parameters := [], returnType := some .boolean }, accessFlags := 1, code := some k6c0 }
/-- com/example/meldwork/meldwork/Rank -/
def k6 : Class := { plain "com/example/meldwork/meldwork/Rank" (some 5) with
  accessFlags := 16433
  interfaces := #[]
  cf := some (fileOf pool6 1 #[] #[{ accessFlags := 1, nameIndex := 167, descriptorIndex := 84, attributes := #[] }] 16433 56 #[] #[{ accessFlags := 16409, nameIndex := 5, descriptorIndex := 6, attributes := #[] }, { accessFlags := 16409, nameIndex := 9, descriptorIndex := 6, attributes := #[] }, { accessFlags := 16409, nameIndex := 12, descriptorIndex := 6, attributes := #[] }, { accessFlags := 16409, nameIndex := 15, descriptorIndex := 6, attributes := #[] }, { accessFlags := 16409, nameIndex := 18, descriptorIndex := 6, attributes := #[] }, { accessFlags := 16409, nameIndex := 21, descriptorIndex := 6, attributes := #[] }, { accessFlags := 16409, nameIndex := 24, descriptorIndex := 6, attributes := #[] }, { accessFlags := 16409, nameIndex := 27, descriptorIndex := 6, attributes := #[] }, { accessFlags := 16409, nameIndex := 30, descriptorIndex := 6, attributes := #[] }, { accessFlags := 16409, nameIndex := 33, descriptorIndex := 6, attributes := #[] }, { accessFlags := 16409, nameIndex := 36, descriptorIndex := 6, attributes := #[] }, { accessFlags := 16409, nameIndex := 39, descriptorIndex := 6, attributes := #[] }, { accessFlags := 16409, nameIndex := 42, descriptorIndex := 6, attributes := #[] }, { accessFlags := 16409, nameIndex := 45, descriptorIndex := 6, attributes := #[] }, { accessFlags := 18, nameIndex := 67, descriptorIndex := 68, attributes := #[] }, { accessFlags := 18, nameIndex := 71, descriptorIndex := 72, attributes := #[] }, { accessFlags := 18, nameIndex := 75, descriptorIndex := 76, attributes := #[] }, { accessFlags := 4122, nameIndex := 48, descriptorIndex := 49, attributes := #[] }])
  fields := #[{ name := "TWO", type := (.object "com/example/meldwork/meldwork/Rank"), accessFlags := 16409, slot := 0, constantValue := 0 }, { name := "THREE", type := (.object "com/example/meldwork/meldwork/Rank"), accessFlags := 16409, slot := 1, constantValue := 0 }, { name := "FOUR", type := (.object "com/example/meldwork/meldwork/Rank"), accessFlags := 16409, slot := 2, constantValue := 0 }, { name := "FIVE", type := (.object "com/example/meldwork/meldwork/Rank"), accessFlags := 16409, slot := 3, constantValue := 0 }, { name := "SIX", type := (.object "com/example/meldwork/meldwork/Rank"), accessFlags := 16409, slot := 4, constantValue := 0 }, { name := "SEVEN", type := (.object "com/example/meldwork/meldwork/Rank"), accessFlags := 16409, slot := 5, constantValue := 0 }, { name := "EIGHT", type := (.object "com/example/meldwork/meldwork/Rank"), accessFlags := 16409, slot := 6, constantValue := 0 }, { name := "NINE", type := (.object "com/example/meldwork/meldwork/Rank"), accessFlags := 16409, slot := 7, constantValue := 0 }, { name := "TEN", type := (.object "com/example/meldwork/meldwork/Rank"), accessFlags := 16409, slot := 8, constantValue := 0 }, { name := "JACK", type := (.object "com/example/meldwork/meldwork/Rank"), accessFlags := 16409, slot := 9, constantValue := 0 }, { name := "QUEEN", type := (.object "com/example/meldwork/meldwork/Rank"), accessFlags := 16409, slot := 10, constantValue := 0 }, { name := "KING", type := (.object "com/example/meldwork/meldwork/Rank"), accessFlags := 16409, slot := 11, constantValue := 0 }, { name := "ACE", type := (.object "com/example/meldwork/meldwork/Rank"), accessFlags := 16409, slot := 12, constantValue := 0 }, { name := "JOKER", type := (.object "com/example/meldwork/meldwork/Rank"), accessFlags := 16409, slot := 13, constantValue := 0 }, { name := "symbol", type := .char, accessFlags := 18, slot := 3, constantValue := 0 }, { name := "plural", type := (.object "java/lang/String"), accessFlags := 18, slot := 4, constantValue := 0 }, { name := "value", type := .int, accessFlags := 18, slot := 5, constantValue := 0 }, { name := "$VALUES", type := (.array (.object "com/example/meldwork/meldwork/Rank")), accessFlags := 4122, slot := 14, constantValue := 0 }]
  methods := #[k6m0]
  instanceTypes := #[(.object "java/lang/String"), .int, .int, .char, (.object "java/lang/String"), .int]
  staticTypes := #[(.object "com/example/meldwork/meldwork/Rank"), (.object "com/example/meldwork/meldwork/Rank"), (.object "com/example/meldwork/meldwork/Rank"), (.object "com/example/meldwork/meldwork/Rank"), (.object "com/example/meldwork/meldwork/Rank"), (.object "com/example/meldwork/meldwork/Rank"), (.object "com/example/meldwork/meldwork/Rank"), (.object "com/example/meldwork/meldwork/Rank"), (.object "com/example/meldwork/meldwork/Rank"), (.object "com/example/meldwork/meldwork/Rank"), (.object "com/example/meldwork/meldwork/Rank"), (.object "com/example/meldwork/meldwork/Rank"), (.object "com/example/meldwork/meldwork/Rank"), (.object "com/example/meldwork/meldwork/Rank"), (.array (.object "com/example/meldwork/meldwork/Rank"))]
  resolved := Array.replicate 175 none
  statics := some 0 }

def pool7 : Array CpInfo := pool [(1, u "java/lang/Cloneable"), (0, .class_ 1), (0, u "java/lang/Object"), (0, .class_ 3)] 3

/-- java/lang/Cloneable -/
def k7 : Class := { plain "java/lang/Cloneable" (some 0) with
  accessFlags := 1537
  interfaces := #[]
  cf := some (fileOf pool7 2 #[] #[] 1537 4 #[] #[])
  fields := #[]
  methods := #[]
  instanceTypes := #[]
  staticTypes := #[]
  resolved := Array.replicate 8 none
  statics := none }

/-- the primitive byte -/
def k8 : Class := { plain "byte" none with kind := .primitive 'B', accessFlags := 0x411 }
/-- [B -/
def k9 : Class := { plain "[B" (some 0) with kind := .array 8 .byte, interfaces := #[7, 4], accessFlags := 1041 }

/-- the primitive int -/
def k10 : Class := { plain "int" none with kind := .primitive 'I', accessFlags := 0x411 }
/-- [I -/
def k11 : Class := { plain "[I" (some 0) with kind := .array 10 .int, interfaces := #[7, 4], accessFlags := 1041 }

/-- [Lcom/example/meldwork/meldwork/Rank; -/
def k12 : Class := { plain "[Lcom/example/meldwork/meldwork/Rank;" (some 0) with kind := .array 6 (.object "com/example/meldwork/meldwork/Rank"), interfaces := #[7, 4], accessFlags := 1041 }

def heap : Heap := #[{ cls := 6, slots := #[.ref 1, .ref 2, .ref 3, .ref 4, .ref 5, .ref 6, .ref 7, .ref 8, .ref 9, .ref 10, .ref 11, .ref 12, .ref 13, .ref 14, .null], vm := .statics 6 },
  { cls := 6, slots := #[.null, .int 0, .int 0, .int 65, .null, .int 5], vm := .none },
  { cls := 6, slots := #[.null, .int 1, .int 0, .int 65, .null, .int 5], vm := .none },
  { cls := 6, slots := #[.null, .int 2, .int 0, .int 65, .null, .int 5], vm := .none },
  { cls := 6, slots := #[.null, .int 3, .int 0, .int 65, .null, .int 5], vm := .none },
  { cls := 6, slots := #[.null, .int 4, .int 0, .int 65, .null, .int 5], vm := .none },
  { cls := 6, slots := #[.null, .int 5, .int 0, .int 65, .null, .int 5], vm := .none },
  { cls := 6, slots := #[.null, .int 6, .int 0, .int 65, .null, .int 5], vm := .none },
  { cls := 6, slots := #[.null, .int 7, .int 0, .int 65, .null, .int 5], vm := .none },
  { cls := 6, slots := #[.null, .int 8, .int 0, .int 65, .null, .int 5], vm := .none },
  { cls := 6, slots := #[.null, .int 9, .int 0, .int 65, .null, .int 5], vm := .none },
  { cls := 6, slots := #[.null, .int 10, .int 0, .int 65, .null, .int 5], vm := .none },
  { cls := 6, slots := #[.null, .int 11, .int 0, .int 65, .null, .int 5], vm := .none },
  { cls := 6, slots := #[.null, .int 12, .int 0, .int 65, .null, .int 5], vm := .none },
  { cls := 6, slots := #[.null, .int 13, .int 0, .int 65, .null, .int 5], vm := .none }]
def classes : Array Class := #[k0, k1, k2, k3, k4, k5, k6, k7, k8, k9, k10, k11, k12]
def interned : List (Array UInt16 × Addr) := []
def slotsUsed : Nat := 99
def theMethod : MethodId := ⟨1, 1⟩
def args0 : Array Value := #[.int 5]
def aboutOver (below : List Frame) : State where
  vm := { classes := classes, interned := interned.toArray }
  heap := heap
  slotsUsed := slotsUsed
  threads := #[{ frames := .invoking theMethod args0 :: below }]
def below0 : List Frame := [.native { method := ⟨0, 0⟩, args := #[] }]
def about1 : State := aboutOver below0
def p0 : Program := .bare "" "" ""
def e0 : Env := launch0.env 0 0 0
theorem w_frames : about1.frames = Frame.invoking theMethod args0 :: below0 := rfl
set_option maxRecDepth 65536 in
theorem w_args : argsFit about1.vm theMethod args0 = true := by decide +kernel
set_option maxRecDepth 65536 in
theorem w_heap : heapFits about1 = true := by decide +kernel
set_option maxRecDepth 65536 in
theorem w_runnable : about1.curStatus? = some .runnable := by decide +kernel
set_option maxRecDepth 65536 in
theorem w_alone : about1.alone = true := by decide +kernel
set_option maxRecDepth 65536 in
theorem w_named : about1.methodNamed? x = some theMethod := by decide +kernel
set_option maxRecDepth 65536 in
theorem w_hears : about1.hears theMethod below0 = true := by decide +kernel
set_option maxRecDepth 65536 in
theorem w_ripe : about1.ripe theMethod args0 below0 = true := by decide +kernel
theorem w_running : about1.status = .running := rfl
set_option maxRecDepth 65536 in
theorem w_room : about1.hasRoom e0.platform room_1 = true :=
  launch0.hasRoom_least _ room_1 (by decide +kernel) (by decide +kernel) (by decide +kernel) (by decide +kernel) (by decide +kernel) (by decide +kernel)
theorem allAtoms_all (ts : List Jvm.Cond) (a : Array Jvm.Value) (st : Jvm.State) : (allAtoms ts).before a st = ts.all (fun c => c.before a st) := by
  induction ts with
  | nil => rfl
  | cons c t ih =>
    show (Jvm.Cond.and c (allAtoms t)).before a st = _
    rw [Jvm.Cond.before_and, ih, List.all_cons]
def words1 : List Jvm.Cond := Jvm.Cond.code x code maxLocals ret :: tables_1
/-- a 'code' word, met by the world's own term for the bytes: nothing is compared byte by byte -/
theorem code_word {y : MethodName} {bytes : ByteArray} {mx : Nat} {rt : Option FieldType} {a : Array Value} {s : State} {m : MethodId} {meth : Method} {c : Code} (h1 : s.methodNamed? y = some m) (h2 : s.vm.method? m = some meth) (h3 : meth.code = some c) (h4 : c.code = bytes)
    (h5 : (c.maxLocals == mx && c.exceptionTable.isEmpty && decide (c.maxStack ≤ mostOperands) && decide (meth.sig.returnType = rt) && !meth.locks && decide (parseMethodDescriptor y.desc = some meth.sig)) = true) : (Jvm.Cond.code y bytes mx rt).before a s = true := by
  simp only [Bool.and_eq_true, beq_iff_eq, Bool.not_eq_true', decide_eq_true_eq] at h5
  obtain ⟨⟨⟨⟨⟨g1, g2⟩, g3⟩, g4⟩, g5⟩, g6⟩ := h5
  simp [Cond.before, Cond.holds, Cond.value, h1, h2, h3, h4, g1, g2, g3, g4, g5, g6]
def isCode : Jvm.Cond → Bool
  | .code _ _ _ _ => true
  | _ => false
theorem all_split {L : List Jvm.Cond} {P : Jvm.Cond → Bool} (h1 : L.all (fun c => isCode c || P c) = true) (h2 : ∀ c ∈ L.filter isCode, P c = true) : L.all P = true := by
  refine List.all_eq_true.mpr fun c hc => ?_
  have h := List.all_eq_true.mp h1 c hc
  rcases Bool.eq_false_or_eq_true (isCode c) with hi | hi
  · exact h2 c (List.mem_filter.mpr ⟨hc, hi⟩)
  · simpa [hi] using h
set_option maxRecDepth 65536 in
theorem w_c0 : (Jvm.Cond.code x code maxLocals ret).before args0 about1 = true := code_word (m := ⟨1, 1⟩) (meth := k1m1) (c := k1c1) (by decide +kernel) rfl rfl rfl (by decide +kernel)
set_option maxRecDepth 65536 in
theorem w_c1 : (Jvm.Cond.code ({ cls := "com/example/meldwork/meldwork/Rank", name := "isWild", desc := "()Z" } : Jvm.MethodName) prog_47_method_5_code (1 : Nat) (Option.some Jvm.ClassFile.FieldType.boolean)).before args0 about1 = true := code_word (m := ⟨6, 0⟩) (meth := k6m0) (c := k6c0) (by decide +kernel) rfl rfl rfl (by decide +kernel)
def codes1 : List Jvm.Cond := [Jvm.Cond.code x code maxLocals ret, Jvm.Cond.code ({ cls := "com/example/meldwork/meldwork/Rank", name := "isWild", desc := "()Z" } : Jvm.MethodName) prog_47_method_5_code (1 : Nat) (Option.some Jvm.ClassFile.FieldType.boolean)]
set_option maxRecDepth 65536 in
theorem codes_eq : words1.filter isCode = codes1 := rfl
theorem w_codes : ∀ c ∈ words1.filter isCode, c.before args0 about1 = true := by
  rw [codes_eq]
  intro c hc
  simp only [codes1, List.mem_cons, List.not_mem_nil, or_false] at hc
  rcases hc with rfl | rfl
  · exact w_c0
  · exact w_c1
set_option maxRecDepth 65536 in
theorem w_t1 : (words1.take 24).all (fun c => isCode c || c.before args0 about1) = true := by decide +kernel
set_option maxRecDepth 65536 in
theorem w_t2 : (words1.drop 24).all (fun c => isCode c || c.before args0 about1) = true := by decide +kernel
theorem w_tables : (allAtoms (Jvm.Cond.code x code maxLocals ret :: tables_1)).before args0 about1 = true := by
  rw [allAtoms_all]
  show words1.all (fun c => c.before args0 about1) = true
  refine all_split ?_ w_codes
  rw [← List.take_append_drop 24 words1, List.all_append, w_t1, w_t2]
  rfl
set_option maxRecDepth 65536 in
theorem w_case : (Jvm.Cond.and given_1 narrow_1).before args0 about1 = true := by decide +kernel
theorem w_applies : (headSpec (Jvm.Cond.code x code maxLocals ret :: tables_1) room_1).applies x e0.platform about1 = true :=
  (Spec.applies_iff w_frames).mpr ⟨w_running, w_runnable, w_alone, w_named, w_hears, w_ripe, w_room, w_tables⟩
theorem atStart : AtStart classFile x code maxLocals ret World_1 tables_1 room_1 Calls_1 rest_1 Pre_1 launch0 p0 e0 about1 theMethod args0 below0 :=
  ⟨lists_1, trivial, launch0.admits_env _ _ _, launch0.least_env, fairChoices_fair.cas, fairChoices_fair.clock, w_frames, w_args, w_heap, w_applies, trivial, trivial, w_case⟩
end start1
theorem witness_1 : WitnessClaimed_1 := ⟨start1.p0, start1.e0, start1.about1, start1.theMethod, start1.args0, start1.below0, start1.atStart⟩
end Jvm.Pilot.@@N@@
