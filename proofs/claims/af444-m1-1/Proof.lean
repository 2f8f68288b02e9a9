import JvmDerived
import JvmDerived.Pilot.@@N@@Statement
import JvmDerived.Pilot.@@N@@Code
set_option linter.unusedVariables false
set_option linter.unusedSimpArgs false
namespace Jvm.Pilot.@@N@@
open Jvm Jvm.ClassFile Sem Op Lib Jvm.Free Jvm.Stand Jvm.LawKit Jvm.RoadKit Bundle Jvm.Pilot.@@N@@.Jvm.D
def ownEnds (tb : Tables) (e : Env) (below : List Frame) (Φ : State → Outcome → Prop) (A : State) : Prop :=
  ∃ s₂ o, Steps tb e below A s₂ ∧ s₂.status = .running ∧ Ended s₂ below o ∧ Φ s₂ o
theorem ownEnds.law {tb : Tables} {e : Env} {below : List Frame} {Φ : State → Outcome → Prop} {A B : State} (k : ∀ t, Steps tb e below B t → Steps tb e below A t) (h : ownEnds tb e below Φ B) : ownEnds tb e below Φ A := by
  obtain ⟨s2, o, h1, h2⟩ := h
  exact ⟨s2, o, k _ h1, h2⟩
theorem ownEnds.tr {tb : Tables} {e : Env} {below : List Frame} {Φ : State → Outcome → Prop} {A B : State} (k : Steps tb e below A B) (h : ownEnds tb e below Φ B) : ownEnds tb e below Φ A := by
  obtain ⟨s2, o, h1, h2⟩ := h
  exact ⟨s2, o, k.trans h1, h2⟩
theorem ownEnds.cast {tb : Tables} {e : Env} {below : List Frame} {Φ : State → Outcome → Prop} {T : State} {g g' : JFrame} (q : g = g') (h : ownEnds tb e below Φ (T.setTop g')) : ownEnds tb e below Φ (T.setTop g) := q ▸ h
def ownPost (s : State) (Q : Option Value → Heap → List Loc → Prop) (C S : Nat) : State → Outcome → Prop := fun U o => ∃ v L, o = .returned v ∧ Q v U.heap L ∧ FrameEnd s o U L C S
abbrev ownMet (l : Launch) (Z : State) (y : MethodName) (bytes : ByteArray) (maxL : Nat) (rt : Option FieldType) (ws : List Jvm.Cond) (rm : Room) (as : Array Value) (h0 : Heap) (Q : Option Value → Heap → List Loc → Prop) : Prop :=
  MetFree l y (head1 (Jvm.Cond.code y bytes maxL rt :: ws) rm) (fun a U => a = as ∧ Z.Warmed39 U.vm ∧ U.heap = h0) (fun _ _ _ _ _ => True) (fun _ U o U' => ∃ v L, o = .returned v ∧ Q v U'.heap L ∧ FrameEnd U o U' L rm.cells rm.slots)
theorem ownMet.of {l : Launch} {Z : State} {y : MethodName} {bytes : ByteArray} {maxL : Nat} {rt : Option FieldType} {ws : List Jvm.Cond} {rm : Room} {as : Array Value} {h0 : Heap} {Q : Option Value → Heap → List Loc → Prop} (hpl : plainFor y = true)
    (body : ∀ (p : Program) (e : Env) (s : State) (m : MethodId) (below : List Frame) (meth : Method) (c : Code) (T0 : State), p.tables.exec = Jvm.exec → c.code = bytes → c.maxLocals = maxL → Z.Warmed39 s.vm → s.vm.findClass y.cls = some m.cls → meth.name = y.name → meth.sig.returnType = rt → meth.locks = false →
      Stand p l e rm s m as below meth c T0 [] 0 0 → T0.heap = h0 → ownEnds p.tables e below (ownPost s Q rm.cells rm.slots) (T0.setTop (entryFrame m as maxL))) : ownMet l Z y bytes maxL rt ws rm as h0 Q := by
  refine MetFree.of_bodySF hpl hisR ?_
  intro p e s m args below meth c s₁ Bd hml0 hP hK
  obtain ⟨rfl, hZ, hh⟩ := hP
  exact body p e s m below meth c s₁ Bd.exec Bd.bytes hml0 hZ (findClass_of_methodNamed Bd.named) (name_of_methodNamed Bd.named Bd.method).1 Bd.returns Bd.notSynchronized (Stand.of_body Bd) (by rw [← hh, Bd.state]; rfl)
theorem ownEqV {args : Array Value} {first s : State} {o : Option Outcome} {idx : List Nat} {a b : Term} {v : Value} (h : (Cond.eq a b).value args first o s idx = some true) (hb : b.eval args first o idx s = some v) : a.eval args first o idx s = some v := by
  simp only [Cond.value, hb] at h
  cases ha : a.eval args first o idx s with
  | none => simp [ha] at h
  | some x => cases x <;> cases v <;> simp_all
theorem ownFieldAt {args : Array Value} {first s : State} {o : Option Outcome} {idx : List Nat} {t : Term} {a : Addr} {C n d : String} (ev : t.eval args first o idx s = some (.ref a)) : (Term.field t C n d).eval args first o idx s = s.fieldOf? a C n d := by
  simp [Term.eval, ev]
theorem ownLen {s : State} {args : Array Value} {t : Term} {a : Addr} {cl : Cell} {ty : FieldType} {z : Int32} (ev : t.eval args s none [] s = some (.ref a)) (A : Arr s s.heap a cl ty) (h : (Term.length t).eval args s none [] s = some (.int z)) : cl.slots.size < 2 ^ 31 ∧ cl.slots.size.toInt32 = z := by
  have q := A.fin (Vm.Alike.refl _)
  simp only [Term.eval, ev, q, Option.bind_eq_bind, Option.bind_some, Option.pure_def] at h
  split at h
  · rename_i hs
    exact ⟨hs, by simpa using h⟩
  · cases h
theorem ownEl {s : State} {args : Array Value} {t i : Term} {a : Addr} {cl : Cell} {ty : FieldType} {j : Int32} {v : Value} (ev : t.eval args s none [] s = some (.ref a)) (A : Arr s s.heap a cl ty) (ej : i.eval args s none [] s = some (.int j)) (h : (Term.elem t i).eval args s none [] s = some v) : cl.slots[j.toNatClampNeg]? = some v := by
  have q := A.fin (Vm.Alike.refl _)
  simp only [Term.eval, ev, ej, q, Option.bind_eq_bind, Option.bind_some] at h
  split at h
  · cases h
  · exact h
section OwnKit
variable {p : Program} {l : Launch} {e : Env} {R : Room} {s : State} {m : MethodId} {args : Array Value} {below : List Frame} {meth : Method} {c : Code} {T : State} {locs : List Loc} {cells slots : Nat} {Z : State} {a0 : Array Value} {h : Heap}
theorem ownRet (X : Stand p l e R s m args below meth c T locs cells slots) (hlk : meth.locks = false) {v : Option Value} (hv : meth.sig.returnType = none → v = none) {g : JFrame} {Q : Option Value → Heap → List Loc → Prop} {C S : Nat}
    (hst : ∀ fs, (∀ (f : JFrame) (acts : List Action), f.method = m → f.locked = none → f.entered = [] → (doReturn e (T.setTop f) acts v).1 = T.setFrames fs) → Steps p.tables e below (T.setTop g) (T.setFrames fs))
    (hc : cells ≤ C) (hs : slots ≤ S) (hQ : Q v T.heap locs) : ownEnds p.tables e below (ownPost s Q C S) (T.setTop g) := by
  obtain ⟨fs, hr, hrun, hended, hW, hsame⟩ := X.leave (v := v) hv hlk
  exact ⟨_, _, hst fs hr, hrun, hended, v, locs, rfl, hQ, ⟨_, rfl⟩, hW, hsame.mono hc hs⟩
theorem ownRetN (X : Stand p l e R s m args below meth c T locs cells slots) (hlk : meth.locks = false) (hx : p.tables.exec = Jvm.exec) {pc : Nat} {Ls : Array Slot} {z : Int32} {t : FieldType} {rest : List Value} (hret : meth.sig.returnType = some t) (ht : t = .boolean ∨ t = .byte ∨ t = .char ∨ t = .short)
    (hd : decode c.code pc = .ok (.ireturn, 1)) {Q : Option Value → Heap → List Loc → Prop} {C S : Nat} (hc : cells ≤ C) (hs : slots ≤ S) (hQ : Q (some (.int (nar t z))) T.heap locs) : ownEnds p.tables e below (ownPost s Q C S) (T.setTop (mkF m pc Ls (.int z :: rest))) :=
  ownRet X hlk (fun h => by rw [hret] at h; cases h) (fun fs hr => retN X hx hret ht hd hr) hc hs hQ
theorem ownRetI (X : Stand p l e R s m args below meth c T locs cells slots) (hlk : meth.locks = false) (hx : p.tables.exec = Jvm.exec) {pc : Nat} {Ls : Array Slot} {z : Int32} {rest : List Value} (hret : meth.sig.returnType = some .int)
    (hd : decode c.code pc = .ok (.ireturn, 1)) {Q : Option Value → Heap → List Loc → Prop} {C S : Nat} (hc : cells ≤ C) (hs : slots ≤ S) (hQ : Q (some (.int z)) T.heap locs) : ownEnds p.tables e below (ownPost s Q C S) (T.setTop (mkF m pc Ls (.int z :: rest))) :=
  ownRet X hlk (fun h => by rw [hret] at h; cases h) (fun fs hr => retOut X hx hret rfl (Or.inl ⟨rfl, Or.inl rfl, z, rfl⟩) hd hr) hc hs hQ
theorem ownRetL (X : Stand p l e R s m args below meth c T locs cells slots) (hlk : meth.locks = false) (hx : p.tables.exec = Jvm.exec) {pc : Nat} {Ls : Array Slot} {z : Int64} {rest : List Value} (hret : meth.sig.returnType = some .long)
    (hd : decode c.code pc = .ok (.lreturn, 1)) {Q : Option Value → Heap → List Loc → Prop} {C S : Nat} (hc : cells ≤ C) (hs : slots ≤ S) (hQ : Q (some (.long z)) T.heap locs) : ownEnds p.tables e below (ownPost s Q C S) (T.setTop (mkF m pc Ls (.long z :: rest))) :=
  ownRet X hlk (fun h => by rw [hret] at h; cases h) (fun fs hr => retOut X hx hret rfl (Or.inr (Or.inl ⟨rfl, rfl, z, rfl⟩)) hd hr) hc hs hQ
theorem ownRetA (X : Stand p l e R s m args below meth c T locs cells slots) (hlk : meth.locks = false) (hx : p.tables.exec = Jvm.exec) {pc : Nat} {Ls : Array Slot} {w : Value} {t : FieldType} {rest : List Value} (hret : meth.sig.returnType = some t) (ht : t.isReference = true) (hw : w.isRef = true)
    (hd : decode c.code pc = .ok (.areturn, 1)) {Q : Option Value → Heap → List Loc → Prop} {C S : Nat} (hc : cells ≤ C) (hs : slots ≤ S) (hQ : Q (some w) T.heap locs) : ownEnds p.tables e below (ownPost s Q C S) (T.setTop (mkF m pc Ls (w :: rest))) :=
  ownRet X hlk (fun h => by rw [hret] at h; cases h) (fun fs hr => retOut X hx hret (by rcases ref_cases hw with rfl | ⟨a, rfl⟩ <;> cases t <;> first | rfl | (simp [FieldType.isReference] at ht)) (Or.inr (Or.inr (Or.inr (Or.inr ⟨rfl, ht, hw⟩)))) hd hr) hc hs hQ
theorem ownRetV (X : Stand p l e R s m args below meth c T locs cells slots) (hlk : meth.locks = false) (hx : p.tables.exec = Jvm.exec) {pc : Nat} {Ls : Array Slot} (hret : meth.sig.returnType = none)
    (hd : decode c.code pc = .ok (.return_, 1)) {Q : Option Value → Heap → List Loc → Prop} {C S : Nat} (hc : cells ≤ C) (hs : slots ≤ S) (hQ : Q none T.heap locs) : ownEnds p.tables e below (ownPost s Q C S) (T.setTop (mkF m pc Ls [])) :=
  ownRet X hlk (fun _ => rfl) (fun fs hr => X.returnOut hx hret hd hr) hc hs hQ
theorem ownCallS (X : Stand p l e R s m args below meth c T locs cells slots) (hx : p.tables.exec = Jvm.exec) (hZ : Z.Warmed39 s.vm) {own : String} {index : Nat} (hown : s.vm.findClass own = some m.cls) {y : MethodName} {bytes : ByteArray} {maxL : Nat} {rt : Option FieldType} {rm : Room} {as : List Value} {Q : Option Value → Heap → List Loc → Prop}
    (w1 : (Cond.methodLink own index y).before a0 Z = true) (w2 : (Cond.static y).before a0 Z = true) (w3 : (Cond.initialized y.cls).before a0 Z = true) (w4 : (Cond.code y bytes maxL rt).before a0 Z = true) (hy : y.cls ≠ "java/lang/invoke/MethodHandle" ∧ y.cls ≠ "java/lang/invoke/VarHandle")
    (hM : ownMet l Z y bytes maxL rt [] rm as.toArray h Q) (eT : T.heap = h) (W : Nat) (hf : rm.frames + 1 ≤ R.frames) (hl : W + (maxL + 11) + rm.locals ≤ R.locals) (hc : cells + rm.cells ≤ R.cells) (hs : slots + rm.slots ≤ R.slots)
    {g : JFrame} (hg : g.method = m) (hsize : g.locals.size = c.maxLocals) {rest : List Value} {ps : List FieldType} {r : Option FieldType} (hd : parseMethodDescriptor y.desc = some ⟨ps, r⟩) (hlen : as.length = ps.length) (hstack : g.stack = as.reverse ++ rest) (hW : 2 * g.monitorRoom + (rest.map fun v => v.category).sum ≤ W)
    (hdg : decode c.code g.pc = .ok (.invokestatic index, 3)) :
    ∃ v T' L, Stand p l e R s m args below meth c T' (locs ++ L) (cells + rm.cells) (slots + rm.slots) ∧ Q v T'.heap L ∧ ∀ t, Steps p.tables e below (T'.setTop { g with pc := g.pc + 3, stack := v.toList ++ rest }) t → Steps p.tables e below (T.setTop g) t := by
  obtain ⟨v, _, ⟨T1, L1, k1, n1⟩, -, X1, ⟨Lc, hQ, l1, y1, z1⟩, st⟩ := Jvm.LawKit.callS X hx (y := y) hown (mvT hZ w1) (mvT hZ w2) (mvT hZ w3) (mvT hZ w4) hy (backOf (W := W) hM hZ w4 w3 hf hl) hg hsize (argsL := as) (rest := rest) (lenOf hd hlen) hstack hW hdg (fun _ _ => ⟨rfl, eT, hc, hs⟩)
  dsimp only [Pt.U, Pt.locs, Pt.cells, Pt.slots] at X1 l1 y1 z1 st hQ
  subst l1 y1 z1
  exact ⟨v, T1, Lc, X1, hQ, st⟩
theorem ownCallC (X : Stand p l e R s m args below meth c T locs cells slots) (hx : p.tables.exec = Jvm.exec) (hZ : Z.Warmed39 s.vm) {own : String} {index : Nat} (hown : s.vm.findClass own = some m.cls) {y : MethodName} (hy1 : y.name = "<init>") {bytes : ByteArray} {maxL : Nat} {rm : Room} {a : Addr} {as : List Value} {Q : Option Value → Heap → List Loc → Prop}
    (w1 : (Cond.methodLink own index y).before a0 Z = true) (w2 : (Cond.instanceMethod y).before a0 Z = true) (w3 : (Cond.initialized y.cls).before a0 Z = true) (w4 : (Cond.code y bytes maxL none).before a0 Z = true) (hy : y.cls ≠ "java/lang/invoke/MethodHandle" ∧ y.cls ≠ "java/lang/invoke/VarHandle")
    (hM : ownMet l Z y bytes maxL none [] rm (.ref a :: as).toArray h Q) (eT : T.heap = h) (W : Nat) (hf : rm.frames + 1 ≤ R.frames) (hl : W + (maxL + 11) + rm.locals ≤ R.locals) (hc : cells + rm.cells ≤ R.cells) (hs : slots + rm.slots ≤ R.slots)
    {g : JFrame} (hg : g.method = m) (hsize : g.locals.size = c.maxLocals) {rest : List Value} {ps : List FieldType} {r : Option FieldType} (hd : parseMethodDescriptor y.desc = some ⟨ps, r⟩) (hlen : as.length = ps.length) (hstack : g.stack = as.reverse ++ .ref a :: rest) (hW : 2 * g.monitorRoom + (rest.map fun v => v.category).sum ≤ W)
    (hdg : decode c.code g.pc = .ok (.invokespecial index, 3)) :
    ∃ v T' L, Stand p l e R s m args below meth c T' (locs ++ L) (cells + rm.cells) (slots + rm.slots) ∧ Q v T'.heap L ∧ ∀ t, Steps p.tables e below (T'.setTop { g with pc := g.pc + 3, stack := v.toList ++ rest }) t → Steps p.tables e below (T.setTop g) t := by
  obtain ⟨v, _, ⟨T1, L1, k1, n1⟩, -, X1, ⟨Lc, hQ, l1, y1, z1⟩, st⟩ := X.specialBack hx (y := y) hy1 hown (mvT hZ w1) (mvT hZ w2) (mvT hZ w4) hy (backOf (W := W) hM hZ w4 w3 hf hl) hg hsize (Steps.refl _) (a := a) (argsL := as) (rest := rest) (lenOf hd hlen) hstack hW hdg (fun _ _ => ⟨rfl, eT, hc, hs⟩)
  dsimp only [Pt.U, Pt.locs, Pt.cells, Pt.slots] at X1 l1 y1 z1 st hQ
  subst l1 y1 z1
  exact ⟨v, T1, Lc, X1, hQ, fun t k => st.trans k⟩
theorem ownCallV (X : Stand p l e R s m args below meth c T locs cells slots) (hx : p.tables.exec = Jvm.exec) (hZ : Z.Warmed39 s.vm) {own C : String} {index : Nat} (hown : s.vm.findClass own = some m.cls) {y z : MethodName} {bytes : ByteArray} {maxL : Nat} {rt : Option FieldType} {rm : Room} {a : Addr} {as : List Value} {Q : Option Value → Heap → List Loc → Prop}
    (w1 : (Cond.methodLink own index y).before a0 Z = true) (w2 : (Cond.declares y).before a0 Z = true) (hnf : NotFace s y) (w5 : (Cond.selects C y z).before a0 Z = true) (w6 : (Cond.instanceMethod z).before a0 Z = true) (w3 : (Cond.initialized z.cls).before a0 Z = true) (w4 : (Cond.code z bytes maxL rt).before a0 Z = true) (hy : y.cls ≠ "java/lang/invoke/MethodHandle" ∧ y.cls ≠ "java/lang/invoke/VarHandle")
    (hM : ownMet l Z z bytes maxL rt [] rm (.ref a :: as).toArray h Q) (eT : T.heap = h) (E : Exa Z h a C) (W : Nat) (hf : rm.frames + 1 ≤ R.frames) (hl : W + (maxL + 11) + rm.locals ≤ R.locals) (hc : cells + rm.cells ≤ R.cells) (hs : slots + rm.slots ≤ R.slots)
    {g : JFrame} (hg : g.method = m) (hsize : g.locals.size = c.maxLocals) {rest : List Value} {ps : List FieldType} {r : Option FieldType} (hd : parseMethodDescriptor y.desc = some ⟨ps, r⟩) (hlen : as.length = ps.length) (hstack : g.stack = as.reverse ++ .ref a :: rest) (hW : 2 * g.monitorRoom + (rest.map fun v => v.category).sum ≤ W)
    (hdg : decode c.code g.pc = .ok (.invokevirtual index, 3)) :
    ∃ v T' L, Stand p l e R s m args below meth c T' (locs ++ L) (cells + rm.cells) (slots + rm.slots) ∧ Q v T'.heap L ∧ ∀ t, Steps p.tables e below (T'.setTop { g with pc := g.pc + 3, stack := v.toList ++ rest }) t → Steps p.tables e below (T.setTop g) t := by
  obtain ⟨cq, kq, qa, qb, qc⟩ := isOf hZ eT E
  obtain ⟨v, _, ⟨T1, L1, k1, n1⟩, -, X1, ⟨Lc, hQ, l1, y1, z1⟩, st⟩ := X.virtualBack hx (y := y) (z := z) hown (mvT hZ w1) (mvT hZ w2) hnf (mvT hZ w5) (mvT hZ w6) hy (backOf (W := W) hM hZ w4 w3 hf hl) qa qc hg hsize (Steps.refl _) (argsL := as) (rest := rest) (lenOf hd hlen) hstack hW hdg (fun _ _ => ⟨rfl, eT, hc, hs⟩)
  dsimp only [Pt.U, Pt.locs, Pt.cells, Pt.slots] at X1 l1 y1 z1 st hQ
  subst l1 y1 z1
  exact ⟨v, T1, Lc, X1, hQ, fun t k => st.trans k⟩
theorem ownSelfSel {y z : MethodName} {C : String} (hz : z.cls = y.cls) (wz : (Cond.selects C z z).before args s = true) (hinst : (Cond.instanceMethod y).before args s = true) (hpriv : s.PrivateAt y) (hy : y.cls ≠ "java/lang/invoke/MethodHandle" ∧ y.cls ≠ "java/lang/invoke/VarHandle") : (Cond.selects y.cls y y).before args s = true := by
  obtain ⟨c2, r2, m2, q1, q2, q3, q4, kP, hkP, hkPi⟩ := Cond.selects_spec wz
  exact selects_self_of_private (by rw [← hz]; exact findClass_of_methodNamed q3) hkP hkPi hpriv hinst hy
theorem ownCallP (X : Stand p l e R s m args below meth c T locs cells slots) (hx : p.tables.exec = Jvm.exec) (hZ : Z.Warmed39 s.vm) {own C D : String} {index : Nat} (hown : s.vm.findClass own = some m.cls) {y z : MethodName} {bytes : ByteArray} {maxL : Nat} {rt : Option FieldType} {rm : Room} {a : Addr} {as : List Value} {Q : Option Value → Heap → List Loc → Prop}
    (w1 : (Cond.methodLink own index y).before a0 Z = true) (hz : z.cls = y.cls) (w5 : (Cond.selects C z z).before a0 Z = true) (w6 : (Cond.instanceMethod y).before a0 Z = true) (w7 : (Cond.privateMethod y).before a0 Z = true) (w3 : (Cond.initialized y.cls).before a0 Z = true) (w4 : (Cond.code y bytes maxL rt).before a0 Z = true) (hy : y.cls ≠ "java/lang/invoke/MethodHandle" ∧ y.cls ≠ "java/lang/invoke/VarHandle")
    (hM : ownMet l Z y bytes maxL rt [] rm (.ref a :: as).toArray h Q) (eT : T.heap = h) (E : Exa Z h a D) (W : Nat) (hf : rm.frames + 1 ≤ R.frames) (hl : W + (maxL + 11) + rm.locals ≤ R.locals) (hc : cells + rm.cells ≤ R.cells) (hs : slots + rm.slots ≤ R.slots)
    {g : JFrame} (hg : g.method = m) (hsize : g.locals.size = c.maxLocals) {rest : List Value} {ps : List FieldType} {r : Option FieldType} (hd : parseMethodDescriptor y.desc = some ⟨ps, r⟩) (hlen : as.length = ps.length) (hstack : g.stack = as.reverse ++ .ref a :: rest) (hW : 2 * g.monitorRoom + (rest.map fun v => v.category).sum ≤ W)
    (hdg : decode c.code g.pc = .ok (.invokevirtual index, 3)) :
    ∃ v T' L, Stand p l e R s m args below meth c T' (locs ++ L) (cells + rm.cells) (slots + rm.slots) ∧ Q v T'.heap L ∧ ∀ t, Steps p.tables e below (T'.setTop { g with pc := g.pc + 3, stack := v.toList ++ rest }) t → Steps p.tables e below (T.setTop g) t := by
  obtain ⟨cq, q1, q2⟩ := E.cell
  have hpv : s.PrivateAt y := Cond.privateMethod_at (mvP hZ w7 (args := #[]))
  obtain ⟨v, _, ⟨T1, L1, k1, n1⟩, -, X1, ⟨Lc, hQ, l1, y1, z1⟩, st⟩ := X.privateBack hx (y := y) hown (mvT hZ w1) (mvT hZ w6) (ownSelfSel hz (mvT hZ w5) (mvT hZ w6) hpv hy) hpv (mvT hZ w4) hy (backOf (W := W) hM hZ w4 w3 hf hl) hg hsize (Steps.refl _) (a := a) (by rw [eT]; exact q1) q2 (argsL := as) (rest := rest) (lenOf hd hlen) hstack hW hdg (fun _ _ => ⟨rfl, eT, hc, hs⟩)
  dsimp only [Pt.U, Pt.locs, Pt.cells, Pt.slots] at X1 l1 y1 z1 st hQ
  subst l1 y1 z1
  exact ⟨v, T1, Lc, X1, hQ, fun t k => st.trans k⟩
end OwnKit
theorem wd_0 {Z : State} {a0 : Array Value} (hw : ∀ d ∈ tables_1, d.before a0 Z = true) : (Jvm.Cond.constant "com/example/seven_bit_codecs/sevenbitcodecs/EightBytesWriteAsCharsPinLaw" (7 : Nat) (2147483647 : Int32)).before a0 Z = true := hw _ (List.mem_of_getElem? (i := 0) rfl)
theorem wd_1 {Z : State} {a0 : Array Value} (hw : ∀ d ∈ tables_1, d.before a0 Z = true) : (Jvm.Cond.arrayClass Jvm.ClassFile.FieldType.char).before a0 Z = true := hw _ (List.mem_of_getElem? (i := 1) rfl)
theorem wd_2 {Z : State} {a0 : Array Value} (hw : ∀ d ∈ tables_1, d.before a0 Z = true) : (Jvm.Cond.methodLink "com/example/seven_bit_codecs/sevenbitcodecs/EightBytesWriteAsCharsPinLaw" (8 : Nat) ({ cls := "com/example/seven_bit_codecs/sevenbitcodecs/EightBytes", name := "writeAsChars", desc := "(J[CI)V" } : Jvm.MethodName)).before a0 Z = true := hw _ (List.mem_of_getElem? (i := 2) rfl)
theorem wd_3 {Z : State} {a0 : Array Value} (hw : ∀ d ∈ tables_1, d.before a0 Z = true) : (Jvm.Cond.static ({ cls := "com/example/seven_bit_codecs/sevenbitcodecs/EightBytes", name := "writeAsChars", desc := "(J[CI)V" } : Jvm.MethodName)).before a0 Z = true := hw _ (List.mem_of_getElem? (i := 3) rfl)
theorem wd_4 {Z : State} {a0 : Array Value} (hw : ∀ d ∈ tables_1, d.before a0 Z = true) : (Jvm.Cond.initialized "com/example/seven_bit_codecs/sevenbitcodecs/EightBytes").before a0 Z = true := hw _ (List.mem_of_getElem? (i := 4) rfl)
theorem wd_5 {Z : State} {a0 : Array Value} (hw : ∀ d ∈ tables_1, d.before a0 Z = true) : (Jvm.Cond.code ({ cls := "com/example/seven_bit_codecs/sevenbitcodecs/EightBytes", name := "writeAsChars", desc := "(J[CI)V" } : Jvm.MethodName) prog_8_method_8_code (4 : Nat) (Option.none : Option Jvm.ClassFile.FieldType)).before a0 Z = true := hw _ (List.mem_of_getElem? (i := 5) rfl)
theorem wd_6 {Z : State} {a0 : Array Value} (hw : ∀ d ∈ tables_1, d.before a0 Z = true) : (Jvm.Cond.constantLong "com/example/seven_bit_codecs/sevenbitcodecs/EightBytes" (33 : Nat) (255 : Int64)).before a0 Z = true := hw _ (List.mem_of_getElem? (i := 6) rfl)
theorem wd_7 {Z : State} {a0 : Array Value} (hw : ∀ d ∈ tables_1, d.before a0 Z = true) : (Jvm.Cond.methodLink "com/example/seven_bit_codecs/sevenbitcodecs/EightBytesWriteAsCharsPinLaw" (14 : Nat) ({ cls := "com/example/seven_bit_codecs/sevenbitcodecs/EightBytesWriteAsCharsPinLaw", name := "keeps", desc := "([CIIC)Z" } : Jvm.MethodName)).before a0 Z = true := hw _ (List.mem_of_getElem? (i := 7) rfl)
theorem wd_8 {Z : State} {a0 : Array Value} (hw : ∀ d ∈ tables_1, d.before a0 Z = true) : (Jvm.Cond.static ({ cls := "com/example/seven_bit_codecs/sevenbitcodecs/EightBytesWriteAsCharsPinLaw", name := "keeps", desc := "([CIIC)Z" } : Jvm.MethodName)).before a0 Z = true := hw _ (List.mem_of_getElem? (i := 8) rfl)
theorem wd_9 {Z : State} {a0 : Array Value} (hw : ∀ d ∈ tables_1, d.before a0 Z = true) : (Jvm.Cond.initialized "com/example/seven_bit_codecs/sevenbitcodecs/EightBytesWriteAsCharsPinLaw").before a0 Z = true := hw _ (List.mem_of_getElem? (i := 9) rfl)
theorem wd_10 {Z : State} {a0 : Array Value} (hw : ∀ d ∈ tables_1, d.before a0 Z = true) : (Jvm.Cond.code ({ cls := "com/example/seven_bit_codecs/sevenbitcodecs/EightBytesWriteAsCharsPinLaw", name := "keeps", desc := "([CIIC)Z" } : Jvm.MethodName) method_3_code (4 : Nat) (Option.some Jvm.ClassFile.FieldType.boolean)).before a0 Z = true := hw _ (List.mem_of_getElem? (i := 10) rfl)
theorem ef_rm1_0 : ∀ (m : MethodId) (qe : Int64) (oa : Addr), entryFrame m #[(.long qe), (.ref oa), (.int (0 : Int32))] 4 = mkF m 0 #[.val (.long qe), .second, .val (.ref oa), .val (.int (0 : Int32))] [] := by intros; first | (simp [entryFrame, mkF, argsToLocals, Value.category]; done) | rfl
theorem d1_0 : decode prog_8_method_8_code 0 = .ok (.aload_n 2, 1) := by decide +kernel
theorem d1_1 : decode prog_8_method_8_code 1 = .ok (.iload_n 3, 1) := by decide +kernel
theorem d1_2 : decode prog_8_method_8_code 2 = .ok (.lload_n 0, 1) := by decide +kernel
theorem d1_3 : decode prog_8_method_8_code 3 = .ok (.ldc2_w 33, 3) := by decide +kernel
theorem d1_6 : decode prog_8_method_8_code 6 = .ok (.land, 1) := by decide +kernel
theorem d1_7 : decode prog_8_method_8_code 7 = .ok (.l2i, 1) := by decide +kernel
theorem d1_8 : decode prog_8_method_8_code 8 = .ok (.i2c, 1) := by decide +kernel
theorem d1_9 : decode prog_8_method_8_code 9 = .ok (.castore, 1) := by decide +kernel
theorem d1_10 : decode prog_8_method_8_code 10 = .ok (.aload_n 2, 1) := by decide +kernel
theorem d1_11 : decode prog_8_method_8_code 11 = .ok (.iload_n 3, 1) := by decide +kernel
theorem d1_12 : decode prog_8_method_8_code 12 = .ok (.iconst 1, 1) := by decide +kernel
theorem d1_13 : decode prog_8_method_8_code 13 = .ok (.iadd, 1) := by decide +kernel
theorem d1_14 : decode prog_8_method_8_code 14 = .ok (.lload_n 0, 1) := by decide +kernel
theorem d1_15 : decode prog_8_method_8_code 15 = .ok (.bipush 8, 2) := by decide +kernel
theorem d1_17 : decode prog_8_method_8_code 17 = .ok (.lushr, 1) := by decide +kernel
theorem d1_18 : decode prog_8_method_8_code 18 = .ok (.ldc2_w 33, 3) := by decide +kernel
theorem d1_21 : decode prog_8_method_8_code 21 = .ok (.land, 1) := by decide +kernel
theorem d1_22 : decode prog_8_method_8_code 22 = .ok (.l2i, 1) := by decide +kernel
theorem d1_23 : decode prog_8_method_8_code 23 = .ok (.i2c, 1) := by decide +kernel
theorem d1_24 : decode prog_8_method_8_code 24 = .ok (.castore, 1) := by decide +kernel
theorem d1_25 : decode prog_8_method_8_code 25 = .ok (.aload_n 2, 1) := by decide +kernel
theorem d1_26 : decode prog_8_method_8_code 26 = .ok (.iload_n 3, 1) := by decide +kernel
theorem d1_27 : decode prog_8_method_8_code 27 = .ok (.iconst 2, 1) := by decide +kernel
theorem d1_28 : decode prog_8_method_8_code 28 = .ok (.iadd, 1) := by decide +kernel
theorem d1_29 : decode prog_8_method_8_code 29 = .ok (.lload_n 0, 1) := by decide +kernel
theorem d1_30 : decode prog_8_method_8_code 30 = .ok (.bipush 16, 2) := by decide +kernel
theorem d1_32 : decode prog_8_method_8_code 32 = .ok (.lushr, 1) := by decide +kernel
theorem d1_33 : decode prog_8_method_8_code 33 = .ok (.ldc2_w 33, 3) := by decide +kernel
theorem d1_36 : decode prog_8_method_8_code 36 = .ok (.land, 1) := by decide +kernel
theorem d1_37 : decode prog_8_method_8_code 37 = .ok (.l2i, 1) := by decide +kernel
theorem d1_38 : decode prog_8_method_8_code 38 = .ok (.i2c, 1) := by decide +kernel
theorem d1_39 : decode prog_8_method_8_code 39 = .ok (.castore, 1) := by decide +kernel
theorem d1_40 : decode prog_8_method_8_code 40 = .ok (.aload_n 2, 1) := by decide +kernel
theorem d1_41 : decode prog_8_method_8_code 41 = .ok (.iload_n 3, 1) := by decide +kernel
theorem d1_42 : decode prog_8_method_8_code 42 = .ok (.iconst 3, 1) := by decide +kernel
theorem d1_43 : decode prog_8_method_8_code 43 = .ok (.iadd, 1) := by decide +kernel
theorem d1_44 : decode prog_8_method_8_code 44 = .ok (.lload_n 0, 1) := by decide +kernel
theorem d1_45 : decode prog_8_method_8_code 45 = .ok (.bipush 24, 2) := by decide +kernel
theorem d1_47 : decode prog_8_method_8_code 47 = .ok (.lushr, 1) := by decide +kernel
theorem d1_48 : decode prog_8_method_8_code 48 = .ok (.ldc2_w 33, 3) := by decide +kernel
theorem d1_51 : decode prog_8_method_8_code 51 = .ok (.land, 1) := by decide +kernel
theorem d1_52 : decode prog_8_method_8_code 52 = .ok (.l2i, 1) := by decide +kernel
theorem d1_53 : decode prog_8_method_8_code 53 = .ok (.i2c, 1) := by decide +kernel
theorem d1_54 : decode prog_8_method_8_code 54 = .ok (.castore, 1) := by decide +kernel
theorem d1_55 : decode prog_8_method_8_code 55 = .ok (.aload_n 2, 1) := by decide +kernel
theorem d1_56 : decode prog_8_method_8_code 56 = .ok (.iload_n 3, 1) := by decide +kernel
theorem d1_57 : decode prog_8_method_8_code 57 = .ok (.iconst 4, 1) := by decide +kernel
theorem d1_58 : decode prog_8_method_8_code 58 = .ok (.iadd, 1) := by decide +kernel
theorem d1_59 : decode prog_8_method_8_code 59 = .ok (.lload_n 0, 1) := by decide +kernel
theorem d1_60 : decode prog_8_method_8_code 60 = .ok (.bipush 32, 2) := by decide +kernel
theorem d1_62 : decode prog_8_method_8_code 62 = .ok (.lushr, 1) := by decide +kernel
theorem d1_63 : decode prog_8_method_8_code 63 = .ok (.ldc2_w 33, 3) := by decide +kernel
theorem d1_66 : decode prog_8_method_8_code 66 = .ok (.land, 1) := by decide +kernel
theorem d1_67 : decode prog_8_method_8_code 67 = .ok (.l2i, 1) := by decide +kernel
theorem d1_68 : decode prog_8_method_8_code 68 = .ok (.i2c, 1) := by decide +kernel
theorem d1_69 : decode prog_8_method_8_code 69 = .ok (.castore, 1) := by decide +kernel
theorem d1_70 : decode prog_8_method_8_code 70 = .ok (.aload_n 2, 1) := by decide +kernel
theorem d1_71 : decode prog_8_method_8_code 71 = .ok (.iload_n 3, 1) := by decide +kernel
theorem d1_72 : decode prog_8_method_8_code 72 = .ok (.iconst 5, 1) := by decide +kernel
theorem d1_73 : decode prog_8_method_8_code 73 = .ok (.iadd, 1) := by decide +kernel
theorem d1_74 : decode prog_8_method_8_code 74 = .ok (.lload_n 0, 1) := by decide +kernel
theorem d1_75 : decode prog_8_method_8_code 75 = .ok (.bipush 40, 2) := by decide +kernel
theorem d1_77 : decode prog_8_method_8_code 77 = .ok (.lushr, 1) := by decide +kernel
theorem d1_78 : decode prog_8_method_8_code 78 = .ok (.ldc2_w 33, 3) := by decide +kernel
theorem d1_81 : decode prog_8_method_8_code 81 = .ok (.land, 1) := by decide +kernel
theorem d1_82 : decode prog_8_method_8_code 82 = .ok (.l2i, 1) := by decide +kernel
theorem d1_83 : decode prog_8_method_8_code 83 = .ok (.i2c, 1) := by decide +kernel
theorem d1_84 : decode prog_8_method_8_code 84 = .ok (.castore, 1) := by decide +kernel
theorem d1_85 : decode prog_8_method_8_code 85 = .ok (.aload_n 2, 1) := by decide +kernel
theorem d1_86 : decode prog_8_method_8_code 86 = .ok (.iload_n 3, 1) := by decide +kernel
theorem d1_87 : decode prog_8_method_8_code 87 = .ok (.bipush 6, 2) := by decide +kernel
theorem d1_89 : decode prog_8_method_8_code 89 = .ok (.iadd, 1) := by decide +kernel
theorem d1_90 : decode prog_8_method_8_code 90 = .ok (.lload_n 0, 1) := by decide +kernel
theorem d1_91 : decode prog_8_method_8_code 91 = .ok (.bipush 48, 2) := by decide +kernel
theorem d1_93 : decode prog_8_method_8_code 93 = .ok (.lushr, 1) := by decide +kernel
theorem d1_94 : decode prog_8_method_8_code 94 = .ok (.ldc2_w 33, 3) := by decide +kernel
theorem d1_97 : decode prog_8_method_8_code 97 = .ok (.land, 1) := by decide +kernel
theorem d1_98 : decode prog_8_method_8_code 98 = .ok (.l2i, 1) := by decide +kernel
theorem d1_99 : decode prog_8_method_8_code 99 = .ok (.i2c, 1) := by decide +kernel
theorem d1_100 : decode prog_8_method_8_code 100 = .ok (.castore, 1) := by decide +kernel
theorem d1_101 : decode prog_8_method_8_code 101 = .ok (.aload_n 2, 1) := by decide +kernel
theorem d1_102 : decode prog_8_method_8_code 102 = .ok (.iload_n 3, 1) := by decide +kernel
theorem d1_103 : decode prog_8_method_8_code 103 = .ok (.bipush 7, 2) := by decide +kernel
theorem d1_105 : decode prog_8_method_8_code 105 = .ok (.iadd, 1) := by decide +kernel
theorem d1_106 : decode prog_8_method_8_code 106 = .ok (.lload_n 0, 1) := by decide +kernel
theorem d1_107 : decode prog_8_method_8_code 107 = .ok (.bipush 56, 2) := by decide +kernel
theorem d1_109 : decode prog_8_method_8_code 109 = .ok (.lushr, 1) := by decide +kernel
theorem d1_110 : decode prog_8_method_8_code 110 = .ok (.l2i, 1) := by decide +kernel
theorem d1_111 : decode prog_8_method_8_code 111 = .ok (.i2c, 1) := by decide +kernel
theorem d1_112 : decode prog_8_method_8_code 112 = .ok (.castore, 1) := by decide +kernel
theorem d1_113 : decode prog_8_method_8_code 113 = .ok (.return_, 1) := by decide +kernel
theorem pn_1 : plainName "com/example/seven_bit_codecs/sevenbitcodecs/EightBytes" = true := by first | (simp [plainName, overriddenIn]; done) | decide +kernel
theorem ef_rm1_1 : ∀ (m : MethodId) (qe : Int64) (oa : Addr), entryFrame m #[(.long qe), (.ref oa), (.int (1 : Int32))] 4 = mkF m 0 #[.val (.long qe), .second, .val (.ref oa), .val (.int (1 : Int32))] [] := by intros; first | (simp [entryFrame, mkF, argsToLocals, Value.category]; done) | rfl
theorem ef_rm1_2 : ∀ (m : MethodId) (qe : Int64) (oa : Addr), entryFrame m #[(.long qe), (.ref oa), (.int (2 : Int32))] 4 = mkF m 0 #[.val (.long qe), .second, .val (.ref oa), .val (.int (2 : Int32))] [] := by intros; first | (simp [entryFrame, mkF, argsToLocals, Value.category]; done) | rfl
theorem ef_rm1_3 : ∀ (m : MethodId) (qe : Int64) (oa : Addr), entryFrame m #[(.long qe), (.ref oa), (.int (3 : Int32))] 4 = mkF m 0 #[.val (.long qe), .second, .val (.ref oa), .val (.int (3 : Int32))] [] := by intros; first | (simp [entryFrame, mkF, argsToLocals, Value.category]; done) | rfl
theorem ef_rm2 : ∀ (m : MethodId) (oa : Addr) (xi : Int32) (xat : Int32) (s0 : Int32), entryFrame m #[(.ref oa), (.int xi), (.int xat), (.int s0)] 4 = mkF m 0 #[.val (.ref oa), .val (.int xi), .val (.int xat), .val (.int s0)] [] := by intros; first | (simp [entryFrame, mkF, argsToLocals, Value.category]; done) | rfl
theorem d2_0 : decode method_3_code 0 = .ok (.iload_n 1, 1) := by decide +kernel
theorem d2_1 : decode method_3_code 1 = .ok (.iload_n 2, 1) := by decide +kernel
theorem d2_2 : decode method_3_code 2 = .ok (.if_icmp .lt 11, 3) := by decide +kernel
theorem d2_13 : decode method_3_code 13 = .ok (.aload_n 0, 1) := by decide +kernel
theorem d2_14 : decode method_3_code 14 = .ok (.iload_n 1, 1) := by decide +kernel
theorem d2_15 : decode method_3_code 15 = .ok (.caload, 1) := by decide +kernel
theorem d2_16 : decode method_3_code 16 = .ok (.iload_n 3, 1) := by decide +kernel
theorem d2_17 : decode method_3_code 17 = .ok (.if_icmp .ne 7, 3) := by decide +kernel
theorem d2_20 : decode method_3_code 20 = .ok (.iconst 1, 1) := by decide +kernel
theorem d2_21 : decode method_3_code 21 = .ok (.goto 4, 3) := by decide +kernel
theorem d2_25 : decode method_3_code 25 = .ok (.ireturn, 1) := by decide +kernel
theorem d2_5 : decode method_3_code 5 = .ok (.iload_n 1, 1) := by decide +kernel
theorem d2_6 : decode method_3_code 6 = .ok (.iload_n 2, 1) := by decide +kernel
theorem d2_7 : decode method_3_code 7 = .ok (.bipush 8, 2) := by decide +kernel
theorem d2_9 : decode method_3_code 9 = .ok (.iadd, 1) := by decide +kernel
theorem d2_10 : decode method_3_code 10 = .ok (.if_icmp .lt 10, 3) := by decide +kernel
theorem pn_2 : plainName "com/example/seven_bit_codecs/sevenbitcodecs/EightBytesWriteAsCharsPinLaw" = true := by first | (simp [plainName, overriddenIn]; done) | decide +kernel
theorem ef_rm0 : ∀ (m : MethodId) (qe : Int64) (xw : Int32) (xf : Int32), entryFrame m #[(.long qe), (.int xw), (.int xf)] maxLocals = mkF m 0 #[.val (.long qe), .second, .val (.int xw), .val (.int xf), .unset, .unset, .unset, .unset, .unset, .unset, .unset] [] := by intros; first | (simp [entryFrame, mkF, argsToLocals, Value.category, maxLocals]; done) | rfl
theorem pd_0 : parseMethodDescriptor "(J[CI)V" = some ⟨[.long, (.array .char), .int], none⟩ := by decide +kernel
theorem pd_1 : parseMethodDescriptor "([CIIC)Z" = some ⟨[(.array .char), .int, .int, .char], some .boolean⟩ := by decide +kernel
theorem pn_0 : plainName "com/example/seven_bit_codecs/sevenbitcodecs/EightBytesWriteAsCharsPinLaw" = true := by first | (simp [plainName, overriddenIn]; done) | decide +kernel
def BC0 (e : Int64) : Int32 := nar .char (((e &&& (255 : Int64)).toInt32).toUInt32.toUInt16.toUInt32.toInt32)
def BC1 (e : Int64) : Int32 := nar .char (((((e.toUInt64 >>> ((8 : Int32) &&& 0x3f).toInt64.toUInt64).toInt64) &&& (255 : Int64)).toInt32).toUInt32.toUInt16.toUInt32.toInt32)
def BC2 (e : Int64) : Int32 := nar .char (((((e.toUInt64 >>> ((16 : Int32) &&& 0x3f).toInt64.toUInt64).toInt64) &&& (255 : Int64)).toInt32).toUInt32.toUInt16.toUInt32.toInt32)
def BC3 (e : Int64) : Int32 := nar .char (((((e.toUInt64 >>> ((24 : Int32) &&& 0x3f).toInt64.toUInt64).toInt64) &&& (255 : Int64)).toInt32).toUInt32.toUInt16.toUInt32.toInt32)
def BC4 (e : Int64) : Int32 := nar .char (((((e.toUInt64 >>> ((32 : Int32) &&& 0x3f).toInt64.toUInt64).toInt64) &&& (255 : Int64)).toInt32).toUInt32.toUInt16.toUInt32.toInt32)
def BC5 (e : Int64) : Int32 := nar .char (((((e.toUInt64 >>> ((40 : Int32) &&& 0x3f).toInt64.toUInt64).toInt64) &&& (255 : Int64)).toInt32).toUInt32.toUInt16.toUInt32.toInt32)
def BC6 (e : Int64) : Int32 := nar .char (((((e.toUInt64 >>> ((48 : Int32) &&& 0x3f).toInt64.toUInt64).toInt64) &&& (255 : Int64)).toInt32).toUInt32.toUInt16.toUInt32.toInt32)
def BC7 (e : Int64) : Int32 := nar .char ((((e.toUInt64 >>> ((56 : Int32) &&& 0x3f).toInt64.toUInt64).toInt64).toInt32).toUInt32.toUInt16.toUInt32.toInt32)
theorem own_nc2 (x : Int32) : (nar .char (x.toUInt32.toUInt16.toUInt32.toInt32)).toInt = x.toInt % 65536 := by
  have h1 := c_i2c x
  have h2 := c_i2c (x.toUInt32.toUInt16.toUInt32.toInt32)
  have h3 : nar .char (x.toUInt32.toUInt16.toUInt32.toInt32) = (x.toUInt32.toUInt16.toUInt32.toInt32).toUInt32.toUInt16.toUInt32.toInt32 := rfl
  rw [h3]
  omega
theorem own_nc (x : Int32) : nar .char (x.toUInt32.toUInt16.toUInt32.toInt32) = x.toUInt32.toUInt16.toUInt32.toInt32 := by
  apply Int32.toInt_inj.mp
  have h1 := c_i2c x
  rw [own_nc2]
  omega
theorem own_bc0 (e : Int64) : (BC0 e).toInt = (e.toInt % 18446744073709551616) / 1 % 256 := by
  have h2 : (e &&& (255 : Int64)).toInt = e.toInt % (2 ^ 8 : Nat) := c_maskL e 255 8 (by decide) (by decide)
  have h3 := c_l2i (e &&& (255 : Int64))
  have h4 := rng32 ((e &&& (255 : Int64)).toInt32)
  rw [BC0, own_nc2]
  simp only [Nat.reducePow] at *
  omega
theorem own_bc1 (e : Int64) : (BC1 e).toInt = (e.toInt % 18446744073709551616) / 256 % 256 := by
  have h1 : ((e.toUInt64 >>> ((8 : Int32) &&& 0x3f).toInt64.toUInt64).toInt64).toInt = (e.toInt % 18446744073709551616) / (2 ^ 8 : Nat) := c_lushr e 8 8 (by decide) (by decide)
  have h2 : (((e.toUInt64 >>> ((8 : Int32) &&& 0x3f).toInt64.toUInt64).toInt64) &&& (255 : Int64)).toInt = ((e.toUInt64 >>> ((8 : Int32) &&& 0x3f).toInt64.toUInt64).toInt64).toInt % (2 ^ 8 : Nat) := c_maskL ((e.toUInt64 >>> ((8 : Int32) &&& 0x3f).toInt64.toUInt64).toInt64) 255 8 (by decide) (by decide)
  have h3 := c_l2i (((e.toUInt64 >>> ((8 : Int32) &&& 0x3f).toInt64.toUInt64).toInt64) &&& (255 : Int64))
  have h4 := rng32 ((((e.toUInt64 >>> ((8 : Int32) &&& 0x3f).toInt64.toUInt64).toInt64) &&& (255 : Int64)).toInt32)
  rw [BC1, own_nc2]
  generalize ((e.toUInt64 >>> ((8 : Int32) &&& 0x3f).toInt64.toUInt64).toInt64) = z at *
  simp only [Nat.reducePow] at *
  omega
theorem own_bc2 (e : Int64) : (BC2 e).toInt = (e.toInt % 18446744073709551616) / 65536 % 256 := by
  have h1 : ((e.toUInt64 >>> ((16 : Int32) &&& 0x3f).toInt64.toUInt64).toInt64).toInt = (e.toInt % 18446744073709551616) / (2 ^ 16 : Nat) := c_lushr e 16 16 (by decide) (by decide)
  have h2 : (((e.toUInt64 >>> ((16 : Int32) &&& 0x3f).toInt64.toUInt64).toInt64) &&& (255 : Int64)).toInt = ((e.toUInt64 >>> ((16 : Int32) &&& 0x3f).toInt64.toUInt64).toInt64).toInt % (2 ^ 8 : Nat) := c_maskL ((e.toUInt64 >>> ((16 : Int32) &&& 0x3f).toInt64.toUInt64).toInt64) 255 8 (by decide) (by decide)
  have h3 := c_l2i (((e.toUInt64 >>> ((16 : Int32) &&& 0x3f).toInt64.toUInt64).toInt64) &&& (255 : Int64))
  have h4 := rng32 ((((e.toUInt64 >>> ((16 : Int32) &&& 0x3f).toInt64.toUInt64).toInt64) &&& (255 : Int64)).toInt32)
  rw [BC2, own_nc2]
  generalize ((e.toUInt64 >>> ((16 : Int32) &&& 0x3f).toInt64.toUInt64).toInt64) = z at *
  simp only [Nat.reducePow] at *
  omega
theorem own_bc3 (e : Int64) : (BC3 e).toInt = (e.toInt % 18446744073709551616) / 16777216 % 256 := by
  have h1 : ((e.toUInt64 >>> ((24 : Int32) &&& 0x3f).toInt64.toUInt64).toInt64).toInt = (e.toInt % 18446744073709551616) / (2 ^ 24 : Nat) := c_lushr e 24 24 (by decide) (by decide)
  have h2 : (((e.toUInt64 >>> ((24 : Int32) &&& 0x3f).toInt64.toUInt64).toInt64) &&& (255 : Int64)).toInt = ((e.toUInt64 >>> ((24 : Int32) &&& 0x3f).toInt64.toUInt64).toInt64).toInt % (2 ^ 8 : Nat) := c_maskL ((e.toUInt64 >>> ((24 : Int32) &&& 0x3f).toInt64.toUInt64).toInt64) 255 8 (by decide) (by decide)
  have h3 := c_l2i (((e.toUInt64 >>> ((24 : Int32) &&& 0x3f).toInt64.toUInt64).toInt64) &&& (255 : Int64))
  have h4 := rng32 ((((e.toUInt64 >>> ((24 : Int32) &&& 0x3f).toInt64.toUInt64).toInt64) &&& (255 : Int64)).toInt32)
  rw [BC3, own_nc2]
  generalize ((e.toUInt64 >>> ((24 : Int32) &&& 0x3f).toInt64.toUInt64).toInt64) = z at *
  simp only [Nat.reducePow] at *
  omega
theorem own_bc4 (e : Int64) : (BC4 e).toInt = (e.toInt % 18446744073709551616) / 4294967296 % 256 := by
  have h1 : ((e.toUInt64 >>> ((32 : Int32) &&& 0x3f).toInt64.toUInt64).toInt64).toInt = (e.toInt % 18446744073709551616) / (2 ^ 32 : Nat) := c_lushr e 32 32 (by decide) (by decide)
  have h2 : (((e.toUInt64 >>> ((32 : Int32) &&& 0x3f).toInt64.toUInt64).toInt64) &&& (255 : Int64)).toInt = ((e.toUInt64 >>> ((32 : Int32) &&& 0x3f).toInt64.toUInt64).toInt64).toInt % (2 ^ 8 : Nat) := c_maskL ((e.toUInt64 >>> ((32 : Int32) &&& 0x3f).toInt64.toUInt64).toInt64) 255 8 (by decide) (by decide)
  have h3 := c_l2i (((e.toUInt64 >>> ((32 : Int32) &&& 0x3f).toInt64.toUInt64).toInt64) &&& (255 : Int64))
  have h4 := rng32 ((((e.toUInt64 >>> ((32 : Int32) &&& 0x3f).toInt64.toUInt64).toInt64) &&& (255 : Int64)).toInt32)
  rw [BC4, own_nc2]
  generalize ((e.toUInt64 >>> ((32 : Int32) &&& 0x3f).toInt64.toUInt64).toInt64) = z at *
  simp only [Nat.reducePow] at *
  omega
theorem own_bc5 (e : Int64) : (BC5 e).toInt = (e.toInt % 18446744073709551616) / 1099511627776 % 256 := by
  have h1 : ((e.toUInt64 >>> ((40 : Int32) &&& 0x3f).toInt64.toUInt64).toInt64).toInt = (e.toInt % 18446744073709551616) / (2 ^ 40 : Nat) := c_lushr e 40 40 (by decide) (by decide)
  have h2 : (((e.toUInt64 >>> ((40 : Int32) &&& 0x3f).toInt64.toUInt64).toInt64) &&& (255 : Int64)).toInt = ((e.toUInt64 >>> ((40 : Int32) &&& 0x3f).toInt64.toUInt64).toInt64).toInt % (2 ^ 8 : Nat) := c_maskL ((e.toUInt64 >>> ((40 : Int32) &&& 0x3f).toInt64.toUInt64).toInt64) 255 8 (by decide) (by decide)
  have h3 := c_l2i (((e.toUInt64 >>> ((40 : Int32) &&& 0x3f).toInt64.toUInt64).toInt64) &&& (255 : Int64))
  have h4 := rng32 ((((e.toUInt64 >>> ((40 : Int32) &&& 0x3f).toInt64.toUInt64).toInt64) &&& (255 : Int64)).toInt32)
  rw [BC5, own_nc2]
  generalize ((e.toUInt64 >>> ((40 : Int32) &&& 0x3f).toInt64.toUInt64).toInt64) = z at *
  simp only [Nat.reducePow] at *
  omega
theorem own_bc6 (e : Int64) : (BC6 e).toInt = (e.toInt % 18446744073709551616) / 281474976710656 % 256 := by
  have h1 : ((e.toUInt64 >>> ((48 : Int32) &&& 0x3f).toInt64.toUInt64).toInt64).toInt = (e.toInt % 18446744073709551616) / (2 ^ 48 : Nat) := c_lushr e 48 48 (by decide) (by decide)
  have h2 : (((e.toUInt64 >>> ((48 : Int32) &&& 0x3f).toInt64.toUInt64).toInt64) &&& (255 : Int64)).toInt = ((e.toUInt64 >>> ((48 : Int32) &&& 0x3f).toInt64.toUInt64).toInt64).toInt % (2 ^ 8 : Nat) := c_maskL ((e.toUInt64 >>> ((48 : Int32) &&& 0x3f).toInt64.toUInt64).toInt64) 255 8 (by decide) (by decide)
  have h3 := c_l2i (((e.toUInt64 >>> ((48 : Int32) &&& 0x3f).toInt64.toUInt64).toInt64) &&& (255 : Int64))
  have h4 := rng32 ((((e.toUInt64 >>> ((48 : Int32) &&& 0x3f).toInt64.toUInt64).toInt64) &&& (255 : Int64)).toInt32)
  rw [BC6, own_nc2]
  generalize ((e.toUInt64 >>> ((48 : Int32) &&& 0x3f).toInt64.toUInt64).toInt64) = z at *
  simp only [Nat.reducePow] at *
  omega
theorem own_bc7 (e : Int64) : (BC7 e).toInt = (e.toInt % 18446744073709551616) / 72057594037927936 % 256 := by
  have h1 : ((e.toUInt64 >>> ((56 : Int32) &&& 0x3f).toInt64.toUInt64).toInt64).toInt = (e.toInt % 18446744073709551616) / (2 ^ 56 : Nat) := c_lushr e 56 56 (by decide) (by decide)
  have h3 := c_l2i ((e.toUInt64 >>> ((56 : Int32) &&& 0x3f).toInt64.toUInt64).toInt64)
  have h4 := rng32 (((e.toUInt64 >>> ((56 : Int32) &&& 0x3f).toInt64.toUInt64).toInt64).toInt32)
  rw [BC7, own_nc2]
  generalize ((e.toUInt64 >>> ((56 : Int32) &&& 0x3f).toInt64.toUInt64).toInt64) = z at *
  simp only [Nat.reducePow] at *
  omega
theorem own_s1 (A b : Int64) (hA0 : 0 ≤ A.toInt) (hA1 : A.toInt < 256) (hb0 : 0 ≤ b.toInt) (hb1 : b.toInt < 256) : (A ||| (b <<< ((8 : Int32) &&& 0x3f).toInt64)).toInt = A.toInt + b.toInt * 256 := by
  have s := c_lshl b 8 8 (by decide)
  have r := rng64 (b <<< ((8 : Int32) &&& 0x3f).toInt64)
  have o := c_orL' A (b <<< ((8 : Int32) &&& 0x3f).toInt64) 8 (by decide) 256 (by decide)
  have q := rng64 (A ||| (b <<< ((8 : Int32) &&& 0x3f).toInt64))
  simp only [Nat.reducePow] at s
  generalize (b <<< ((8 : Int32) &&& 0x3f).toInt64) = t at *
  have o' := o (by omega) (by omega) (by omega)
  omega
theorem own_s2 (A b : Int64) (hA0 : 0 ≤ A.toInt) (hA1 : A.toInt < 65536) (hb0 : 0 ≤ b.toInt) (hb1 : b.toInt < 256) : (A ||| (b <<< ((16 : Int32) &&& 0x3f).toInt64)).toInt = A.toInt + b.toInt * 65536 := by
  have s := c_lshl b 16 16 (by decide)
  have r := rng64 (b <<< ((16 : Int32) &&& 0x3f).toInt64)
  have o := c_orL' A (b <<< ((16 : Int32) &&& 0x3f).toInt64) 16 (by decide) 65536 (by decide)
  have q := rng64 (A ||| (b <<< ((16 : Int32) &&& 0x3f).toInt64))
  simp only [Nat.reducePow] at s
  generalize (b <<< ((16 : Int32) &&& 0x3f).toInt64) = t at *
  have o' := o (by omega) (by omega) (by omega)
  omega
theorem own_s3 (A b : Int64) (hA0 : 0 ≤ A.toInt) (hA1 : A.toInt < 16777216) (hb0 : 0 ≤ b.toInt) (hb1 : b.toInt < 256) : (A ||| (b <<< ((24 : Int32) &&& 0x3f).toInt64)).toInt = A.toInt + b.toInt * 16777216 := by
  have s := c_lshl b 24 24 (by decide)
  have r := rng64 (b <<< ((24 : Int32) &&& 0x3f).toInt64)
  have o := c_orL' A (b <<< ((24 : Int32) &&& 0x3f).toInt64) 24 (by decide) 16777216 (by decide)
  have q := rng64 (A ||| (b <<< ((24 : Int32) &&& 0x3f).toInt64))
  simp only [Nat.reducePow] at s
  generalize (b <<< ((24 : Int32) &&& 0x3f).toInt64) = t at *
  have o' := o (by omega) (by omega) (by omega)
  omega
theorem own_s4 (A b : Int64) (hA0 : 0 ≤ A.toInt) (hA1 : A.toInt < 4294967296) (hb0 : 0 ≤ b.toInt) (hb1 : b.toInt < 256) : (A ||| (b <<< ((32 : Int32) &&& 0x3f).toInt64)).toInt = A.toInt + b.toInt * 4294967296 := by
  have s := c_lshl b 32 32 (by decide)
  have r := rng64 (b <<< ((32 : Int32) &&& 0x3f).toInt64)
  have o := c_orL' A (b <<< ((32 : Int32) &&& 0x3f).toInt64) 32 (by decide) 4294967296 (by decide)
  have q := rng64 (A ||| (b <<< ((32 : Int32) &&& 0x3f).toInt64))
  simp only [Nat.reducePow] at s
  generalize (b <<< ((32 : Int32) &&& 0x3f).toInt64) = t at *
  have o' := o (by omega) (by omega) (by omega)
  omega
theorem own_s5 (A b : Int64) (hA0 : 0 ≤ A.toInt) (hA1 : A.toInt < 1099511627776) (hb0 : 0 ≤ b.toInt) (hb1 : b.toInt < 256) : (A ||| (b <<< ((40 : Int32) &&& 0x3f).toInt64)).toInt = A.toInt + b.toInt * 1099511627776 := by
  have s := c_lshl b 40 40 (by decide)
  have r := rng64 (b <<< ((40 : Int32) &&& 0x3f).toInt64)
  have o := c_orL' A (b <<< ((40 : Int32) &&& 0x3f).toInt64) 40 (by decide) 1099511627776 (by decide)
  have q := rng64 (A ||| (b <<< ((40 : Int32) &&& 0x3f).toInt64))
  simp only [Nat.reducePow] at s
  generalize (b <<< ((40 : Int32) &&& 0x3f).toInt64) = t at *
  have o' := o (by omega) (by omega) (by omega)
  omega
theorem own_s6 (A b : Int64) (hA0 : 0 ≤ A.toInt) (hA1 : A.toInt < 281474976710656) (hb0 : 0 ≤ b.toInt) (hb1 : b.toInt < 256) : (A ||| (b <<< ((48 : Int32) &&& 0x3f).toInt64)).toInt = A.toInt + b.toInt * 281474976710656 := by
  have s := c_lshl b 48 48 (by decide)
  have r := rng64 (b <<< ((48 : Int32) &&& 0x3f).toInt64)
  have o := c_orL' A (b <<< ((48 : Int32) &&& 0x3f).toInt64) 48 (by decide) 281474976710656 (by decide)
  have q := rng64 (A ||| (b <<< ((48 : Int32) &&& 0x3f).toInt64))
  simp only [Nat.reducePow] at s
  generalize (b <<< ((48 : Int32) &&& 0x3f).toInt64) = t at *
  have o' := o (by omega) (by omega) (by omega)
  omega
theorem own_s7 (A b : Int64) (hA0 : 0 ≤ A.toInt) (hA1 : A.toInt < 72057594037927936) (hb0 : 0 ≤ b.toInt) (hb1 : b.toInt < 256) : ((A ||| (b <<< ((56 : Int32) &&& 0x3f).toInt64)).toInt - (A.toInt + b.toInt * 72057594037927936)) % 18446744073709551616 = 0 := by
  have s := c_lshl b 56 56 (by decide)
  have r := rng64 (b <<< ((56 : Int32) &&& 0x3f).toInt64)
  have o := c_orL' A (b <<< ((56 : Int32) &&& 0x3f).toInt64) 56 (by decide) 72057594037927936 (by decide)
  have q := rng64 (A ||| (b <<< ((56 : Int32) &&& 0x3f).toInt64))
  simp only [Nat.reducePow] at s
  generalize (b <<< ((56 : Int32) &&& 0x3f).toInt64) = t at *
  have o' := o (by omega) (by omega) (by omega)
  omega
theorem own_r (e : Int64) : ((((((((BC0 e).toInt64 ||| ((BC1 e).toInt64 <<< ((8 : Int32) &&& 0x3f).toInt64)) ||| ((BC2 e).toInt64 <<< ((16 : Int32) &&& 0x3f).toInt64)) ||| ((BC3 e).toInt64 <<< ((24 : Int32) &&& 0x3f).toInt64)) ||| ((BC4 e).toInt64 <<< ((32 : Int32) &&& 0x3f).toInt64)) ||| ((BC5 e).toInt64 <<< ((40 : Int32) &&& 0x3f).toInt64)) ||| ((BC6 e).toInt64 <<< ((48 : Int32) &&& 0x3f).toInt64)) ||| ((BC7 e).toInt64 <<< ((56 : Int32) &&& 0x3f).toInt64)) = e := by
  have re := rng64 e
  apply Int64.toInt_inj.mp
  have b0 : (BC0 e).toInt64.toInt = (e.toInt % 18446744073709551616) / 1 % 256 := by rw [c_i2l, own_bc0]
  generalize (BC0 e).toInt64 = c0 at *
  have b1 : (BC1 e).toInt64.toInt = (e.toInt % 18446744073709551616) / 256 % 256 := by rw [c_i2l, own_bc1]
  generalize (BC1 e).toInt64 = c1 at *
  have b2 : (BC2 e).toInt64.toInt = (e.toInt % 18446744073709551616) / 65536 % 256 := by rw [c_i2l, own_bc2]
  generalize (BC2 e).toInt64 = c2 at *
  have b3 : (BC3 e).toInt64.toInt = (e.toInt % 18446744073709551616) / 16777216 % 256 := by rw [c_i2l, own_bc3]
  generalize (BC3 e).toInt64 = c3 at *
  have b4 : (BC4 e).toInt64.toInt = (e.toInt % 18446744073709551616) / 4294967296 % 256 := by rw [c_i2l, own_bc4]
  generalize (BC4 e).toInt64 = c4 at *
  have b5 : (BC5 e).toInt64.toInt = (e.toInt % 18446744073709551616) / 1099511627776 % 256 := by rw [c_i2l, own_bc5]
  generalize (BC5 e).toInt64 = c5 at *
  have b6 : (BC6 e).toInt64.toInt = (e.toInt % 18446744073709551616) / 281474976710656 % 256 := by rw [c_i2l, own_bc6]
  generalize (BC6 e).toInt64 = c6 at *
  have b7 : (BC7 e).toInt64.toInt = (e.toInt % 18446744073709551616) / 72057594037927936 % 256 := by rw [c_i2l, own_bc7]
  generalize (BC7 e).toInt64 = c7 at *
  have e1 := own_s1 c0 c1 (by omega) (by omega) (by omega) (by omega)
  generalize (c0 ||| (c1 <<< ((8 : Int32) &&& 0x3f).toInt64)) = A1 at *
  have e2 := own_s2 A1 c2 (by omega) (by omega) (by omega) (by omega)
  generalize (A1 ||| (c2 <<< ((16 : Int32) &&& 0x3f).toInt64)) = A2 at *
  have e3 := own_s3 A2 c3 (by omega) (by omega) (by omega) (by omega)
  generalize (A2 ||| (c3 <<< ((24 : Int32) &&& 0x3f).toInt64)) = A3 at *
  have e4 := own_s4 A3 c4 (by omega) (by omega) (by omega) (by omega)
  generalize (A3 ||| (c4 <<< ((32 : Int32) &&& 0x3f).toInt64)) = A4 at *
  have e5 := own_s5 A4 c5 (by omega) (by omega) (by omega) (by omega)
  generalize (A4 ||| (c5 <<< ((40 : Int32) &&& 0x3f).toInt64)) = A5 at *
  have e6 := own_s6 A5 c6 (by omega) (by omega) (by omega) (by omega)
  generalize (A5 ||| (c6 <<< ((48 : Int32) &&& 0x3f).toInt64)) = A6 at *
  have e7 := own_s7 A6 c7 (by omega) (by omega) (by omega) (by omega)
  have r7 := rng64 (A6 ||| (c7 <<< ((56 : Int32) &&& 0x3f).toInt64))
  generalize (A6 ||| (c7 <<< ((56 : Int32) &&& 0x3f).toInt64)) = A7 at *
  omega
theorem own_k (a : Int32) : (a &&& 2147483647) % 4 = 0 ∨ (a &&& 2147483647) % 4 = 1 ∨ (a &&& 2147483647) % 4 = 2 ∨ (a &&& 2147483647) % 4 = 3 := by
  have e : (a &&& 2147483647).toInt = a.toInt % (2 ^ 31 : Nat) := c_mask a 2147483647 31 (by decide) (by decide)
  have q := (c_irem (a &&& 2147483647) 4 4 rfl).1 (by rw [e]; omega)
  generalize (a &&& 2147483647) % 4 = r at *
  simp only [← Int32.toInt_inj, Int32.reduceToInt]
  omega
theorem own_lt0 (e : Int64) : BC0 e < 256 := by
  have h := own_bc0 e
  rw [Int32.lt_iff_toInt_lt]
  simp only [Int32.reduceToInt]
  omega
theorem own_lt1 (e : Int64) : BC1 e < 256 := by
  have h := own_bc1 e
  rw [Int32.lt_iff_toInt_lt]
  simp only [Int32.reduceToInt]
  omega
theorem own_lt2 (e : Int64) : BC2 e < 256 := by
  have h := own_bc2 e
  rw [Int32.lt_iff_toInt_lt]
  simp only [Int32.reduceToInt]
  omega
theorem own_lt3 (e : Int64) : BC3 e < 256 := by
  have h := own_bc3 e
  rw [Int32.lt_iff_toInt_lt]
  simp only [Int32.reduceToInt]
  omega
theorem own_lt4 (e : Int64) : BC4 e < 256 := by
  have h := own_bc4 e
  rw [Int32.lt_iff_toInt_lt]
  simp only [Int32.reduceToInt]
  omega
theorem own_lt5 (e : Int64) : BC5 e < 256 := by
  have h := own_bc5 e
  rw [Int32.lt_iff_toInt_lt]
  simp only [Int32.reduceToInt]
  omega
theorem own_lt6 (e : Int64) : BC6 e < 256 := by
  have h := own_bc6 e
  rw [Int32.lt_iff_toInt_lt]
  simp only [Int32.reduceToInt]
  omega
theorem own_lt7 (e : Int64) : BC7 e < 256 := by
  have h := own_bc7 e
  rw [Int32.lt_iff_toInt_lt]
  simp only [Int32.reduceToInt]
  omega
set_option maxRecDepth 65536 in
set_option maxHeartbeats 40000000 in
theorem rm1_0 (l : Launch) (Z : State) (a0 : Array Value) (hw : ∀ d ∈ tables_1, d.before a0 Z = true) (qe : Int64) (oa : Addr) (s0 : Int32) (ka : ClassId) (h0 : Heap) (n0 : Nat) (Z0 : n0 ≤ h0.size) (Va : Arv Z h0 oa ka .char (11 : Int32) [(.int s0), (.int s0), (.int s0), (.int s0), (.int s0), (.int s0), (.int s0), (.int s0), (.int s0), (.int s0), (.int s0)] (.int (0 : Int32))) (g_oa : n0 ≤ oa) :
    ownMet l Z (⟨"com/example/seven_bit_codecs/sevenbitcodecs/EightBytes", "writeAsChars", "(J[CI)V"⟩ : MethodName) prog_8_method_8_code 4 none [] ({ frames := 0, cells := 0, slots := 0, locals := 0 } : Room) #[(.long qe), (.ref oa), (.int (0 : Int32))] h0 (fun v h L => v = none ∧ Fr n0 L ∧ Keep h0 h [oa] ∧ Arv Z h oa ka .char (11 : Int32) [(.int (BC0 qe)), (.int (BC1 qe)), (.int (BC2 qe)), (.int (BC3 qe)), (.int (BC4 qe)), (.int (BC5 qe)), (.int (BC6 qe)), (.int (BC7 qe)), (.int s0), (.int s0), (.int s0)] (.int (0 : Int32))) := by
  refine ownMet.of (plainFor_of_name pn_1) ?_
  intro p e s m below meth c T0 hx hby hml hZ hown hnm hret hlk X0 e0
  refine ownEnds.cast (ef_rm1_0 m qe oa) ?_
  show ownEnds _ _ _ _ (T0.setTop (mkF m 0 #[.val (.long qe), .second, .val (.ref oa), .val (.int (0 : Int32))] []))
  refine ownEnds.law (fun t k => XS.aloadN X0.here hx rfl (hb hby d1_0) rfl rfl (XS.iloadN X0.here hx rfl (hb hby d1_1) rfl (XS.lloadN X0.here hx rfl (hb hby d1_2) rfl (X0.ldc2Long hx hown (mvT hZ (wd_6 hw)) (g := (mkF m 3 #[.val (.long qe), .second, .val (.ref oa), .val (.int (0 : Int32))] [(.long qe), (.int (0 : Int32)), (.ref oa)])) rfl (hb hby d1_3) _ (XS.land X0.here hx rfl (hb hby d1_6) rfl (XS.l2i X0.here hx rfl (hb hby d1_7) rfl (XS.i2c X0.here hx rfl (hb hby d1_8) rfl k))))))) ?_
  show ownEnds _ _ _ _ (T0.setTop (mkF m 9 #[.val (.long qe), .second, .val (.ref oa), .val (.int (0 : Int32))] [(.int (((qe &&& (255 : Int64)).toInt32).toUInt32.toUInt16.toUInt32.toInt32)), (.int (0 : Int32)), (.ref oa)]))
  obtain ⟨cl1, Ar1, q1, S1, N1, H1, G1⟩ := id Va
  obtain ⟨T1, h1, X1, e1, W1, st1⟩ := stC X0 hx hZ e0 Ar1 (j := (0 : Int32)) (inb_of S1 ⟨by decide, by decide⟩) (g := (mkF m 9 #[.val (.long qe), .second, .val (.ref oa), .val (.int (0 : Int32))] [(.int (((qe &&& (255 : Int64)).toInt32).toUInt32.toUInt16.toUInt32.toInt32)), (.int (0 : Int32)), (.ref oa)])) rfl rfl (hb hby d1_9)
  refine ownEnds.law st1 ?_
  have V1 : Arv Z h1 oa ka .char (11 : Int32) [(.int (nar .char (((qe &&& (255 : Int64)).toInt32).toUInt32.toUInt16.toUInt32.toInt32))), (.int s0), (.int s0), (.int s0), (.int s0), (.int s0), (.int s0), (.int s0), (.int s0), (.int s0), (.int s0)] (.int (0 : Int32)) := Arv.set Ar1 q1 S1 N1 H1 G1 (fits_nar_char _) W1 0 rfl (Nat.le_of_ble_eq_true rfl)
  have N1 := Fr.snoc X1 (Fr.nil n0) g_oa
  have KK1 : Keep h0 h1 [oa] := (Keep.refl h0 [oa]).wr W1 (Or.inl (List.mem_of_getElem? (i := 0) rfl))
  have Z1 : n0 ≤ h1.size := by rw [W1.size]; exact Z0
  show ownEnds _ _ _ _ (T1.setTop (mkF m 10 #[.val (.long qe), .second, .val (.ref oa), .val (.int (0 : Int32))] []))
  refine ownEnds.law (fun t k => XS.aloadN X1.here hx rfl (hb hby d1_10) rfl rfl (XS.iloadN X1.here hx rfl (hb hby d1_11) rfl (XS.iconst X1.here hx rfl (hb hby d1_12) (XS.iadd X1.here hx rfl (hb hby d1_13) rfl (XS.lloadN X1.here hx rfl (hb hby d1_14) rfl (XS.bipush X1.here hx rfl (hb hby d1_15) (XS.lushr X1.here hx rfl (hb hby d1_17) rfl (X1.ldc2Long hx hown (mvT hZ (wd_6 hw)) (g := (mkF m 18 #[.val (.long qe), .second, .val (.ref oa), .val (.int (0 : Int32))] [(.long ((qe.toUInt64 >>> ((8 : Int32) &&& 0x3f).toInt64.toUInt64).toInt64)), (.int (1 : Int32)), (.ref oa)])) rfl (hb hby d1_18) _ (XS.land X1.here hx rfl (hb hby d1_21) rfl (XS.l2i X1.here hx rfl (hb hby d1_22) rfl k)))))))))) ?_
  show ownEnds _ _ _ _ (T1.setTop (mkF m 23 #[.val (.long qe), .second, .val (.ref oa), .val (.int (0 : Int32))] [(.int ((((qe.toUInt64 >>> ((8 : Int32) &&& 0x3f).toInt64.toUInt64).toInt64) &&& (255 : Int64)).toInt32)), (.int (1 : Int32)), (.ref oa)]))
  refine ownEnds.law (fun t k => XS.i2c X1.here hx rfl (hb hby d1_23) rfl k) ?_
  show ownEnds _ _ _ _ (T1.setTop (mkF m 24 #[.val (.long qe), .second, .val (.ref oa), .val (.int (0 : Int32))] [(.int (((((qe.toUInt64 >>> ((8 : Int32) &&& 0x3f).toInt64.toUInt64).toInt64) &&& (255 : Int64)).toInt32).toUInt32.toUInt16.toUInt32.toInt32)), (.int (1 : Int32)), (.ref oa)]))
  obtain ⟨cl2, Ar2, q2, S2, N2, H2, G2⟩ := id V1
  obtain ⟨T2, h2, X2, e2, W2, st2⟩ := stC X1 hx hZ e1 Ar2 (j := (1 : Int32)) (inb_of S2 ⟨by decide, by decide⟩) (g := (mkF m 24 #[.val (.long qe), .second, .val (.ref oa), .val (.int (0 : Int32))] [(.int (((((qe.toUInt64 >>> ((8 : Int32) &&& 0x3f).toInt64.toUInt64).toInt64) &&& (255 : Int64)).toInt32).toUInt32.toUInt16.toUInt32.toInt32)), (.int (1 : Int32)), (.ref oa)])) rfl rfl (hb hby d1_24)
  refine ownEnds.law st2 ?_
  have V2 : Arv Z h2 oa ka .char (11 : Int32) [(.int (nar .char (((qe &&& (255 : Int64)).toInt32).toUInt32.toUInt16.toUInt32.toInt32))), (.int (nar .char (((((qe.toUInt64 >>> ((8 : Int32) &&& 0x3f).toInt64.toUInt64).toInt64) &&& (255 : Int64)).toInt32).toUInt32.toUInt16.toUInt32.toInt32))), (.int s0), (.int s0), (.int s0), (.int s0), (.int s0), (.int s0), (.int s0), (.int s0), (.int s0)] (.int (0 : Int32)) := Arv.set Ar2 q2 S2 N2 H2 G2 (fits_nar_char _) W2 1 rfl (Nat.le_of_ble_eq_true rfl)
  have N2 := Fr.snoc X2 N1 g_oa
  have KK2 : Keep h0 h2 [oa] := (KK1).wr W2 (Or.inl (List.mem_of_getElem? (i := 0) rfl))
  have Z2 : n0 ≤ h2.size := by rw [W2.size]; exact Z1
  show ownEnds _ _ _ _ (T2.setTop (mkF m 25 #[.val (.long qe), .second, .val (.ref oa), .val (.int (0 : Int32))] []))
  refine ownEnds.law (fun t k => XS.aloadN X2.here hx rfl (hb hby d1_25) rfl rfl (XS.iloadN X2.here hx rfl (hb hby d1_26) rfl (XS.iconst X2.here hx rfl (hb hby d1_27) (XS.iadd X2.here hx rfl (hb hby d1_28) rfl (XS.lloadN X2.here hx rfl (hb hby d1_29) rfl (XS.bipush X2.here hx rfl (hb hby d1_30) (XS.lushr X2.here hx rfl (hb hby d1_32) rfl (X2.ldc2Long hx hown (mvT hZ (wd_6 hw)) (g := (mkF m 33 #[.val (.long qe), .second, .val (.ref oa), .val (.int (0 : Int32))] [(.long ((qe.toUInt64 >>> ((16 : Int32) &&& 0x3f).toInt64.toUInt64).toInt64)), (.int (2 : Int32)), (.ref oa)])) rfl (hb hby d1_33) _ (XS.land X2.here hx rfl (hb hby d1_36) rfl (XS.l2i X2.here hx rfl (hb hby d1_37) rfl k)))))))))) ?_
  show ownEnds _ _ _ _ (T2.setTop (mkF m 38 #[.val (.long qe), .second, .val (.ref oa), .val (.int (0 : Int32))] [(.int ((((qe.toUInt64 >>> ((16 : Int32) &&& 0x3f).toInt64.toUInt64).toInt64) &&& (255 : Int64)).toInt32)), (.int (2 : Int32)), (.ref oa)]))
  refine ownEnds.law (fun t k => XS.i2c X2.here hx rfl (hb hby d1_38) rfl k) ?_
  show ownEnds _ _ _ _ (T2.setTop (mkF m 39 #[.val (.long qe), .second, .val (.ref oa), .val (.int (0 : Int32))] [(.int (((((qe.toUInt64 >>> ((16 : Int32) &&& 0x3f).toInt64.toUInt64).toInt64) &&& (255 : Int64)).toInt32).toUInt32.toUInt16.toUInt32.toInt32)), (.int (2 : Int32)), (.ref oa)]))
  obtain ⟨cl3, Ar3, q3, S3, N3, H3, G3⟩ := id V2
  obtain ⟨T3, h3, X3, e3, W3, st3⟩ := stC X2 hx hZ e2 Ar3 (j := (2 : Int32)) (inb_of S3 ⟨by decide, by decide⟩) (g := (mkF m 39 #[.val (.long qe), .second, .val (.ref oa), .val (.int (0 : Int32))] [(.int (((((qe.toUInt64 >>> ((16 : Int32) &&& 0x3f).toInt64.toUInt64).toInt64) &&& (255 : Int64)).toInt32).toUInt32.toUInt16.toUInt32.toInt32)), (.int (2 : Int32)), (.ref oa)])) rfl rfl (hb hby d1_39)
  refine ownEnds.law st3 ?_
  have V3 : Arv Z h3 oa ka .char (11 : Int32) [(.int (nar .char (((qe &&& (255 : Int64)).toInt32).toUInt32.toUInt16.toUInt32.toInt32))), (.int (nar .char (((((qe.toUInt64 >>> ((8 : Int32) &&& 0x3f).toInt64.toUInt64).toInt64) &&& (255 : Int64)).toInt32).toUInt32.toUInt16.toUInt32.toInt32))), (.int (nar .char (((((qe.toUInt64 >>> ((16 : Int32) &&& 0x3f).toInt64.toUInt64).toInt64) &&& (255 : Int64)).toInt32).toUInt32.toUInt16.toUInt32.toInt32))), (.int s0), (.int s0), (.int s0), (.int s0), (.int s0), (.int s0), (.int s0), (.int s0)] (.int (0 : Int32)) := Arv.set Ar3 q3 S3 N3 H3 G3 (fits_nar_char _) W3 2 rfl (Nat.le_of_ble_eq_true rfl)
  have N3 := Fr.snoc X3 N2 g_oa
  have KK3 : Keep h0 h3 [oa] := (KK2).wr W3 (Or.inl (List.mem_of_getElem? (i := 0) rfl))
  have Z3 : n0 ≤ h3.size := by rw [W3.size]; exact Z2
  show ownEnds _ _ _ _ (T3.setTop (mkF m 40 #[.val (.long qe), .second, .val (.ref oa), .val (.int (0 : Int32))] []))
  refine ownEnds.law (fun t k => XS.aloadN X3.here hx rfl (hb hby d1_40) rfl rfl (XS.iloadN X3.here hx rfl (hb hby d1_41) rfl (XS.iconst X3.here hx rfl (hb hby d1_42) (XS.iadd X3.here hx rfl (hb hby d1_43) rfl (XS.lloadN X3.here hx rfl (hb hby d1_44) rfl (XS.bipush X3.here hx rfl (hb hby d1_45) (XS.lushr X3.here hx rfl (hb hby d1_47) rfl (X3.ldc2Long hx hown (mvT hZ (wd_6 hw)) (g := (mkF m 48 #[.val (.long qe), .second, .val (.ref oa), .val (.int (0 : Int32))] [(.long ((qe.toUInt64 >>> ((24 : Int32) &&& 0x3f).toInt64.toUInt64).toInt64)), (.int (3 : Int32)), (.ref oa)])) rfl (hb hby d1_48) _ (XS.land X3.here hx rfl (hb hby d1_51) rfl (XS.l2i X3.here hx rfl (hb hby d1_52) rfl k)))))))))) ?_
  show ownEnds _ _ _ _ (T3.setTop (mkF m 53 #[.val (.long qe), .second, .val (.ref oa), .val (.int (0 : Int32))] [(.int ((((qe.toUInt64 >>> ((24 : Int32) &&& 0x3f).toInt64.toUInt64).toInt64) &&& (255 : Int64)).toInt32)), (.int (3 : Int32)), (.ref oa)]))
  refine ownEnds.law (fun t k => XS.i2c X3.here hx rfl (hb hby d1_53) rfl k) ?_
  show ownEnds _ _ _ _ (T3.setTop (mkF m 54 #[.val (.long qe), .second, .val (.ref oa), .val (.int (0 : Int32))] [(.int (((((qe.toUInt64 >>> ((24 : Int32) &&& 0x3f).toInt64.toUInt64).toInt64) &&& (255 : Int64)).toInt32).toUInt32.toUInt16.toUInt32.toInt32)), (.int (3 : Int32)), (.ref oa)]))
  obtain ⟨cl4, Ar4, q4, S4, N4, H4, G4⟩ := id V3
  obtain ⟨T4, h4, X4, e4, W4, st4⟩ := stC X3 hx hZ e3 Ar4 (j := (3 : Int32)) (inb_of S4 ⟨by decide, by decide⟩) (g := (mkF m 54 #[.val (.long qe), .second, .val (.ref oa), .val (.int (0 : Int32))] [(.int (((((qe.toUInt64 >>> ((24 : Int32) &&& 0x3f).toInt64.toUInt64).toInt64) &&& (255 : Int64)).toInt32).toUInt32.toUInt16.toUInt32.toInt32)), (.int (3 : Int32)), (.ref oa)])) rfl rfl (hb hby d1_54)
  refine ownEnds.law st4 ?_
  have V4 : Arv Z h4 oa ka .char (11 : Int32) [(.int (nar .char (((qe &&& (255 : Int64)).toInt32).toUInt32.toUInt16.toUInt32.toInt32))), (.int (nar .char (((((qe.toUInt64 >>> ((8 : Int32) &&& 0x3f).toInt64.toUInt64).toInt64) &&& (255 : Int64)).toInt32).toUInt32.toUInt16.toUInt32.toInt32))), (.int (nar .char (((((qe.toUInt64 >>> ((16 : Int32) &&& 0x3f).toInt64.toUInt64).toInt64) &&& (255 : Int64)).toInt32).toUInt32.toUInt16.toUInt32.toInt32))), (.int (nar .char (((((qe.toUInt64 >>> ((24 : Int32) &&& 0x3f).toInt64.toUInt64).toInt64) &&& (255 : Int64)).toInt32).toUInt32.toUInt16.toUInt32.toInt32))), (.int s0), (.int s0), (.int s0), (.int s0), (.int s0), (.int s0), (.int s0)] (.int (0 : Int32)) := Arv.set Ar4 q4 S4 N4 H4 G4 (fits_nar_char _) W4 3 rfl (Nat.le_of_ble_eq_true rfl)
  have N4 := Fr.snoc X4 N3 g_oa
  have KK4 : Keep h0 h4 [oa] := (KK3).wr W4 (Or.inl (List.mem_of_getElem? (i := 0) rfl))
  have Z4 : n0 ≤ h4.size := by rw [W4.size]; exact Z3
  show ownEnds _ _ _ _ (T4.setTop (mkF m 55 #[.val (.long qe), .second, .val (.ref oa), .val (.int (0 : Int32))] []))
  refine ownEnds.law (fun t k => XS.aloadN X4.here hx rfl (hb hby d1_55) rfl rfl (XS.iloadN X4.here hx rfl (hb hby d1_56) rfl (XS.iconst X4.here hx rfl (hb hby d1_57) (XS.iadd X4.here hx rfl (hb hby d1_58) rfl (XS.lloadN X4.here hx rfl (hb hby d1_59) rfl (XS.bipush X4.here hx rfl (hb hby d1_60) (XS.lushr X4.here hx rfl (hb hby d1_62) rfl (X4.ldc2Long hx hown (mvT hZ (wd_6 hw)) (g := (mkF m 63 #[.val (.long qe), .second, .val (.ref oa), .val (.int (0 : Int32))] [(.long ((qe.toUInt64 >>> ((32 : Int32) &&& 0x3f).toInt64.toUInt64).toInt64)), (.int (4 : Int32)), (.ref oa)])) rfl (hb hby d1_63) _ (XS.land X4.here hx rfl (hb hby d1_66) rfl (XS.l2i X4.here hx rfl (hb hby d1_67) rfl k)))))))))) ?_
  show ownEnds _ _ _ _ (T4.setTop (mkF m 68 #[.val (.long qe), .second, .val (.ref oa), .val (.int (0 : Int32))] [(.int ((((qe.toUInt64 >>> ((32 : Int32) &&& 0x3f).toInt64.toUInt64).toInt64) &&& (255 : Int64)).toInt32)), (.int (4 : Int32)), (.ref oa)]))
  refine ownEnds.law (fun t k => XS.i2c X4.here hx rfl (hb hby d1_68) rfl k) ?_
  show ownEnds _ _ _ _ (T4.setTop (mkF m 69 #[.val (.long qe), .second, .val (.ref oa), .val (.int (0 : Int32))] [(.int (((((qe.toUInt64 >>> ((32 : Int32) &&& 0x3f).toInt64.toUInt64).toInt64) &&& (255 : Int64)).toInt32).toUInt32.toUInt16.toUInt32.toInt32)), (.int (4 : Int32)), (.ref oa)]))
  obtain ⟨cl5, Ar5, q5, S5, N5, H5, G5⟩ := id V4
  obtain ⟨T5, h5, X5, e5, W5, st5⟩ := stC X4 hx hZ e4 Ar5 (j := (4 : Int32)) (inb_of S5 ⟨by decide, by decide⟩) (g := (mkF m 69 #[.val (.long qe), .second, .val (.ref oa), .val (.int (0 : Int32))] [(.int (((((qe.toUInt64 >>> ((32 : Int32) &&& 0x3f).toInt64.toUInt64).toInt64) &&& (255 : Int64)).toInt32).toUInt32.toUInt16.toUInt32.toInt32)), (.int (4 : Int32)), (.ref oa)])) rfl rfl (hb hby d1_69)
  refine ownEnds.law st5 ?_
  have V5 : Arv Z h5 oa ka .char (11 : Int32) [(.int (nar .char (((qe &&& (255 : Int64)).toInt32).toUInt32.toUInt16.toUInt32.toInt32))), (.int (nar .char (((((qe.toUInt64 >>> ((8 : Int32) &&& 0x3f).toInt64.toUInt64).toInt64) &&& (255 : Int64)).toInt32).toUInt32.toUInt16.toUInt32.toInt32))), (.int (nar .char (((((qe.toUInt64 >>> ((16 : Int32) &&& 0x3f).toInt64.toUInt64).toInt64) &&& (255 : Int64)).toInt32).toUInt32.toUInt16.toUInt32.toInt32))), (.int (nar .char (((((qe.toUInt64 >>> ((24 : Int32) &&& 0x3f).toInt64.toUInt64).toInt64) &&& (255 : Int64)).toInt32).toUInt32.toUInt16.toUInt32.toInt32))), (.int (nar .char (((((qe.toUInt64 >>> ((32 : Int32) &&& 0x3f).toInt64.toUInt64).toInt64) &&& (255 : Int64)).toInt32).toUInt32.toUInt16.toUInt32.toInt32))), (.int s0), (.int s0), (.int s0), (.int s0), (.int s0), (.int s0)] (.int (0 : Int32)) := Arv.set Ar5 q5 S5 N5 H5 G5 (fits_nar_char _) W5 4 rfl (Nat.le_of_ble_eq_true rfl)
  have N5 := Fr.snoc X5 N4 g_oa
  have KK5 : Keep h0 h5 [oa] := (KK4).wr W5 (Or.inl (List.mem_of_getElem? (i := 0) rfl))
  have Z5 : n0 ≤ h5.size := by rw [W5.size]; exact Z4
  show ownEnds _ _ _ _ (T5.setTop (mkF m 70 #[.val (.long qe), .second, .val (.ref oa), .val (.int (0 : Int32))] []))
  refine ownEnds.law (fun t k => XS.aloadN X5.here hx rfl (hb hby d1_70) rfl rfl (XS.iloadN X5.here hx rfl (hb hby d1_71) rfl (XS.iconst X5.here hx rfl (hb hby d1_72) (XS.iadd X5.here hx rfl (hb hby d1_73) rfl (XS.lloadN X5.here hx rfl (hb hby d1_74) rfl (XS.bipush X5.here hx rfl (hb hby d1_75) (XS.lushr X5.here hx rfl (hb hby d1_77) rfl (X5.ldc2Long hx hown (mvT hZ (wd_6 hw)) (g := (mkF m 78 #[.val (.long qe), .second, .val (.ref oa), .val (.int (0 : Int32))] [(.long ((qe.toUInt64 >>> ((40 : Int32) &&& 0x3f).toInt64.toUInt64).toInt64)), (.int (5 : Int32)), (.ref oa)])) rfl (hb hby d1_78) _ (XS.land X5.here hx rfl (hb hby d1_81) rfl (XS.l2i X5.here hx rfl (hb hby d1_82) rfl k)))))))))) ?_
  show ownEnds _ _ _ _ (T5.setTop (mkF m 83 #[.val (.long qe), .second, .val (.ref oa), .val (.int (0 : Int32))] [(.int ((((qe.toUInt64 >>> ((40 : Int32) &&& 0x3f).toInt64.toUInt64).toInt64) &&& (255 : Int64)).toInt32)), (.int (5 : Int32)), (.ref oa)]))
  refine ownEnds.law (fun t k => XS.i2c X5.here hx rfl (hb hby d1_83) rfl k) ?_
  show ownEnds _ _ _ _ (T5.setTop (mkF m 84 #[.val (.long qe), .second, .val (.ref oa), .val (.int (0 : Int32))] [(.int (((((qe.toUInt64 >>> ((40 : Int32) &&& 0x3f).toInt64.toUInt64).toInt64) &&& (255 : Int64)).toInt32).toUInt32.toUInt16.toUInt32.toInt32)), (.int (5 : Int32)), (.ref oa)]))
  obtain ⟨cl6, Ar6, q6, S6, N6, H6, G6⟩ := id V5
  obtain ⟨T6, h6, X6, e6, W6, st6⟩ := stC X5 hx hZ e5 Ar6 (j := (5 : Int32)) (inb_of S6 ⟨by decide, by decide⟩) (g := (mkF m 84 #[.val (.long qe), .second, .val (.ref oa), .val (.int (0 : Int32))] [(.int (((((qe.toUInt64 >>> ((40 : Int32) &&& 0x3f).toInt64.toUInt64).toInt64) &&& (255 : Int64)).toInt32).toUInt32.toUInt16.toUInt32.toInt32)), (.int (5 : Int32)), (.ref oa)])) rfl rfl (hb hby d1_84)
  refine ownEnds.law st6 ?_
  have V6 : Arv Z h6 oa ka .char (11 : Int32) [(.int (nar .char (((qe &&& (255 : Int64)).toInt32).toUInt32.toUInt16.toUInt32.toInt32))), (.int (nar .char (((((qe.toUInt64 >>> ((8 : Int32) &&& 0x3f).toInt64.toUInt64).toInt64) &&& (255 : Int64)).toInt32).toUInt32.toUInt16.toUInt32.toInt32))), (.int (nar .char (((((qe.toUInt64 >>> ((16 : Int32) &&& 0x3f).toInt64.toUInt64).toInt64) &&& (255 : Int64)).toInt32).toUInt32.toUInt16.toUInt32.toInt32))), (.int (nar .char (((((qe.toUInt64 >>> ((24 : Int32) &&& 0x3f).toInt64.toUInt64).toInt64) &&& (255 : Int64)).toInt32).toUInt32.toUInt16.toUInt32.toInt32))), (.int (nar .char (((((qe.toUInt64 >>> ((32 : Int32) &&& 0x3f).toInt64.toUInt64).toInt64) &&& (255 : Int64)).toInt32).toUInt32.toUInt16.toUInt32.toInt32))), (.int (nar .char (((((qe.toUInt64 >>> ((40 : Int32) &&& 0x3f).toInt64.toUInt64).toInt64) &&& (255 : Int64)).toInt32).toUInt32.toUInt16.toUInt32.toInt32))), (.int s0), (.int s0), (.int s0), (.int s0), (.int s0)] (.int (0 : Int32)) := Arv.set Ar6 q6 S6 N6 H6 G6 (fits_nar_char _) W6 5 rfl (Nat.le_of_ble_eq_true rfl)
  have N6 := Fr.snoc X6 N5 g_oa
  have KK6 : Keep h0 h6 [oa] := (KK5).wr W6 (Or.inl (List.mem_of_getElem? (i := 0) rfl))
  have Z6 : n0 ≤ h6.size := by rw [W6.size]; exact Z5
  show ownEnds _ _ _ _ (T6.setTop (mkF m 85 #[.val (.long qe), .second, .val (.ref oa), .val (.int (0 : Int32))] []))
  refine ownEnds.law (fun t k => XS.aloadN X6.here hx rfl (hb hby d1_85) rfl rfl (XS.iloadN X6.here hx rfl (hb hby d1_86) rfl (XS.bipush X6.here hx rfl (hb hby d1_87) (XS.iadd X6.here hx rfl (hb hby d1_89) rfl (XS.lloadN X6.here hx rfl (hb hby d1_90) rfl (XS.bipush X6.here hx rfl (hb hby d1_91) (XS.lushr X6.here hx rfl (hb hby d1_93) rfl (X6.ldc2Long hx hown (mvT hZ (wd_6 hw)) (g := (mkF m 94 #[.val (.long qe), .second, .val (.ref oa), .val (.int (0 : Int32))] [(.long ((qe.toUInt64 >>> ((48 : Int32) &&& 0x3f).toInt64.toUInt64).toInt64)), (.int (6 : Int32)), (.ref oa)])) rfl (hb hby d1_94) _ (XS.land X6.here hx rfl (hb hby d1_97) rfl (XS.l2i X6.here hx rfl (hb hby d1_98) rfl k)))))))))) ?_
  show ownEnds _ _ _ _ (T6.setTop (mkF m 99 #[.val (.long qe), .second, .val (.ref oa), .val (.int (0 : Int32))] [(.int ((((qe.toUInt64 >>> ((48 : Int32) &&& 0x3f).toInt64.toUInt64).toInt64) &&& (255 : Int64)).toInt32)), (.int (6 : Int32)), (.ref oa)]))
  refine ownEnds.law (fun t k => XS.i2c X6.here hx rfl (hb hby d1_99) rfl k) ?_
  show ownEnds _ _ _ _ (T6.setTop (mkF m 100 #[.val (.long qe), .second, .val (.ref oa), .val (.int (0 : Int32))] [(.int (((((qe.toUInt64 >>> ((48 : Int32) &&& 0x3f).toInt64.toUInt64).toInt64) &&& (255 : Int64)).toInt32).toUInt32.toUInt16.toUInt32.toInt32)), (.int (6 : Int32)), (.ref oa)]))
  obtain ⟨cl7, Ar7, q7, S7, N7, H7, G7⟩ := id V6
  obtain ⟨T7, h7, X7, e7, W7, st7⟩ := stC X6 hx hZ e6 Ar7 (j := (6 : Int32)) (inb_of S7 ⟨by decide, by decide⟩) (g := (mkF m 100 #[.val (.long qe), .second, .val (.ref oa), .val (.int (0 : Int32))] [(.int (((((qe.toUInt64 >>> ((48 : Int32) &&& 0x3f).toInt64.toUInt64).toInt64) &&& (255 : Int64)).toInt32).toUInt32.toUInt16.toUInt32.toInt32)), (.int (6 : Int32)), (.ref oa)])) rfl rfl (hb hby d1_100)
  refine ownEnds.law st7 ?_
  have V7 : Arv Z h7 oa ka .char (11 : Int32) [(.int (nar .char (((qe &&& (255 : Int64)).toInt32).toUInt32.toUInt16.toUInt32.toInt32))), (.int (nar .char (((((qe.toUInt64 >>> ((8 : Int32) &&& 0x3f).toInt64.toUInt64).toInt64) &&& (255 : Int64)).toInt32).toUInt32.toUInt16.toUInt32.toInt32))), (.int (nar .char (((((qe.toUInt64 >>> ((16 : Int32) &&& 0x3f).toInt64.toUInt64).toInt64) &&& (255 : Int64)).toInt32).toUInt32.toUInt16.toUInt32.toInt32))), (.int (nar .char (((((qe.toUInt64 >>> ((24 : Int32) &&& 0x3f).toInt64.toUInt64).toInt64) &&& (255 : Int64)).toInt32).toUInt32.toUInt16.toUInt32.toInt32))), (.int (nar .char (((((qe.toUInt64 >>> ((32 : Int32) &&& 0x3f).toInt64.toUInt64).toInt64) &&& (255 : Int64)).toInt32).toUInt32.toUInt16.toUInt32.toInt32))), (.int (nar .char (((((qe.toUInt64 >>> ((40 : Int32) &&& 0x3f).toInt64.toUInt64).toInt64) &&& (255 : Int64)).toInt32).toUInt32.toUInt16.toUInt32.toInt32))), (.int (nar .char (((((qe.toUInt64 >>> ((48 : Int32) &&& 0x3f).toInt64.toUInt64).toInt64) &&& (255 : Int64)).toInt32).toUInt32.toUInt16.toUInt32.toInt32))), (.int s0), (.int s0), (.int s0), (.int s0)] (.int (0 : Int32)) := Arv.set Ar7 q7 S7 N7 H7 G7 (fits_nar_char _) W7 6 rfl (Nat.le_of_ble_eq_true rfl)
  have N7 := Fr.snoc X7 N6 g_oa
  have KK7 : Keep h0 h7 [oa] := (KK6).wr W7 (Or.inl (List.mem_of_getElem? (i := 0) rfl))
  have Z7 : n0 ≤ h7.size := by rw [W7.size]; exact Z6
  show ownEnds _ _ _ _ (T7.setTop (mkF m 101 #[.val (.long qe), .second, .val (.ref oa), .val (.int (0 : Int32))] []))
  refine ownEnds.law (fun t k => XS.aloadN X7.here hx rfl (hb hby d1_101) rfl rfl (XS.iloadN X7.here hx rfl (hb hby d1_102) rfl (XS.bipush X7.here hx rfl (hb hby d1_103) (XS.iadd X7.here hx rfl (hb hby d1_105) rfl (XS.lloadN X7.here hx rfl (hb hby d1_106) rfl (XS.bipush X7.here hx rfl (hb hby d1_107) (XS.lushr X7.here hx rfl (hb hby d1_109) rfl (XS.l2i X7.here hx rfl (hb hby d1_110) rfl (XS.i2c X7.here hx rfl (hb hby d1_111) rfl k))))))))) ?_
  show ownEnds _ _ _ _ (T7.setTop (mkF m 112 #[.val (.long qe), .second, .val (.ref oa), .val (.int (0 : Int32))] [(.int ((((qe.toUInt64 >>> ((56 : Int32) &&& 0x3f).toInt64.toUInt64).toInt64).toInt32).toUInt32.toUInt16.toUInt32.toInt32)), (.int (7 : Int32)), (.ref oa)]))
  obtain ⟨cl8, Ar8, q8, S8, N8, H8, G8⟩ := id V7
  obtain ⟨T8, h8, X8, e8, W8, st8⟩ := stC X7 hx hZ e7 Ar8 (j := (7 : Int32)) (inb_of S8 ⟨by decide, by decide⟩) (g := (mkF m 112 #[.val (.long qe), .second, .val (.ref oa), .val (.int (0 : Int32))] [(.int ((((qe.toUInt64 >>> ((56 : Int32) &&& 0x3f).toInt64.toUInt64).toInt64).toInt32).toUInt32.toUInt16.toUInt32.toInt32)), (.int (7 : Int32)), (.ref oa)])) rfl rfl (hb hby d1_112)
  refine ownEnds.law st8 ?_
  have V8 : Arv Z h8 oa ka .char (11 : Int32) [(.int (nar .char (((qe &&& (255 : Int64)).toInt32).toUInt32.toUInt16.toUInt32.toInt32))), (.int (nar .char (((((qe.toUInt64 >>> ((8 : Int32) &&& 0x3f).toInt64.toUInt64).toInt64) &&& (255 : Int64)).toInt32).toUInt32.toUInt16.toUInt32.toInt32))), (.int (nar .char (((((qe.toUInt64 >>> ((16 : Int32) &&& 0x3f).toInt64.toUInt64).toInt64) &&& (255 : Int64)).toInt32).toUInt32.toUInt16.toUInt32.toInt32))), (.int (nar .char (((((qe.toUInt64 >>> ((24 : Int32) &&& 0x3f).toInt64.toUInt64).toInt64) &&& (255 : Int64)).toInt32).toUInt32.toUInt16.toUInt32.toInt32))), (.int (nar .char (((((qe.toUInt64 >>> ((32 : Int32) &&& 0x3f).toInt64.toUInt64).toInt64) &&& (255 : Int64)).toInt32).toUInt32.toUInt16.toUInt32.toInt32))), (.int (nar .char (((((qe.toUInt64 >>> ((40 : Int32) &&& 0x3f).toInt64.toUInt64).toInt64) &&& (255 : Int64)).toInt32).toUInt32.toUInt16.toUInt32.toInt32))), (.int (nar .char (((((qe.toUInt64 >>> ((48 : Int32) &&& 0x3f).toInt64.toUInt64).toInt64) &&& (255 : Int64)).toInt32).toUInt32.toUInt16.toUInt32.toInt32))), (.int (nar .char ((((qe.toUInt64 >>> ((56 : Int32) &&& 0x3f).toInt64.toUInt64).toInt64).toInt32).toUInt32.toUInt16.toUInt32.toInt32))), (.int s0), (.int s0), (.int s0)] (.int (0 : Int32)) := Arv.set Ar8 q8 S8 N8 H8 G8 (fits_nar_char _) W8 7 rfl (Nat.le_of_ble_eq_true rfl)
  have N8 := Fr.snoc X8 N7 g_oa
  have KK8 : Keep h0 h8 [oa] := (KK7).wr W8 (Or.inl (List.mem_of_getElem? (i := 0) rfl))
  have Z8 : n0 ≤ h8.size := by rw [W8.size]; exact Z7
  show ownEnds _ _ _ _ (T8.setTop (mkF m 113 #[.val (.long qe), .second, .val (.ref oa), .val (.int (0 : Int32))] []))
  refine ownRetV X8 hlk hx hret (hb hby d1_113) (by decide) (by decide) ?_
  rw [e8]
  exact ⟨rfl, N8, KK8, V8⟩
set_option maxRecDepth 65536 in
set_option maxHeartbeats 40000000 in
theorem rm1_1 (l : Launch) (Z : State) (a0 : Array Value) (hw : ∀ d ∈ tables_1, d.before a0 Z = true) (qe : Int64) (oa : Addr) (s0 : Int32) (ka : ClassId) (h0 : Heap) (n0 : Nat) (Z0 : n0 ≤ h0.size) (Va : Arv Z h0 oa ka .char (11 : Int32) [(.int s0), (.int s0), (.int s0), (.int s0), (.int s0), (.int s0), (.int s0), (.int s0), (.int s0), (.int s0), (.int s0)] (.int (0 : Int32))) (g_oa : n0 ≤ oa) :
    ownMet l Z (⟨"com/example/seven_bit_codecs/sevenbitcodecs/EightBytes", "writeAsChars", "(J[CI)V"⟩ : MethodName) prog_8_method_8_code 4 none [] ({ frames := 0, cells := 0, slots := 0, locals := 0 } : Room) #[(.long qe), (.ref oa), (.int (1 : Int32))] h0 (fun v h L => v = none ∧ Fr n0 L ∧ Keep h0 h [oa] ∧ Arv Z h oa ka .char (11 : Int32) [(.int s0), (.int (BC0 qe)), (.int (BC1 qe)), (.int (BC2 qe)), (.int (BC3 qe)), (.int (BC4 qe)), (.int (BC5 qe)), (.int (BC6 qe)), (.int (BC7 qe)), (.int s0), (.int s0)] (.int (0 : Int32))) := by
  refine ownMet.of (plainFor_of_name pn_1) ?_
  intro p e s m below meth c T0 hx hby hml hZ hown hnm hret hlk X0 e0
  refine ownEnds.cast (ef_rm1_1 m qe oa) ?_
  show ownEnds _ _ _ _ (T0.setTop (mkF m 0 #[.val (.long qe), .second, .val (.ref oa), .val (.int (1 : Int32))] []))
  refine ownEnds.law (fun t k => XS.aloadN X0.here hx rfl (hb hby d1_0) rfl rfl (XS.iloadN X0.here hx rfl (hb hby d1_1) rfl (XS.lloadN X0.here hx rfl (hb hby d1_2) rfl (X0.ldc2Long hx hown (mvT hZ (wd_6 hw)) (g := (mkF m 3 #[.val (.long qe), .second, .val (.ref oa), .val (.int (1 : Int32))] [(.long qe), (.int (1 : Int32)), (.ref oa)])) rfl (hb hby d1_3) _ (XS.land X0.here hx rfl (hb hby d1_6) rfl (XS.l2i X0.here hx rfl (hb hby d1_7) rfl (XS.i2c X0.here hx rfl (hb hby d1_8) rfl k))))))) ?_
  show ownEnds _ _ _ _ (T0.setTop (mkF m 9 #[.val (.long qe), .second, .val (.ref oa), .val (.int (1 : Int32))] [(.int (((qe &&& (255 : Int64)).toInt32).toUInt32.toUInt16.toUInt32.toInt32)), (.int (1 : Int32)), (.ref oa)]))
  obtain ⟨cl1, Ar1, q1, S1, N1, H1, G1⟩ := id Va
  obtain ⟨T1, h1, X1, e1, W1, st1⟩ := stC X0 hx hZ e0 Ar1 (j := (1 : Int32)) (inb_of S1 ⟨by decide, by decide⟩) (g := (mkF m 9 #[.val (.long qe), .second, .val (.ref oa), .val (.int (1 : Int32))] [(.int (((qe &&& (255 : Int64)).toInt32).toUInt32.toUInt16.toUInt32.toInt32)), (.int (1 : Int32)), (.ref oa)])) rfl rfl (hb hby d1_9)
  refine ownEnds.law st1 ?_
  have V1 : Arv Z h1 oa ka .char (11 : Int32) [(.int s0), (.int (nar .char (((qe &&& (255 : Int64)).toInt32).toUInt32.toUInt16.toUInt32.toInt32))), (.int s0), (.int s0), (.int s0), (.int s0), (.int s0), (.int s0), (.int s0), (.int s0), (.int s0)] (.int (0 : Int32)) := Arv.set Ar1 q1 S1 N1 H1 G1 (fits_nar_char _) W1 1 rfl (Nat.le_of_ble_eq_true rfl)
  have N1 := Fr.snoc X1 (Fr.nil n0) g_oa
  have KK1 : Keep h0 h1 [oa] := (Keep.refl h0 [oa]).wr W1 (Or.inl (List.mem_of_getElem? (i := 0) rfl))
  have Z1 : n0 ≤ h1.size := by rw [W1.size]; exact Z0
  show ownEnds _ _ _ _ (T1.setTop (mkF m 10 #[.val (.long qe), .second, .val (.ref oa), .val (.int (1 : Int32))] []))
  refine ownEnds.law (fun t k => XS.aloadN X1.here hx rfl (hb hby d1_10) rfl rfl (XS.iloadN X1.here hx rfl (hb hby d1_11) rfl (XS.iconst X1.here hx rfl (hb hby d1_12) (XS.iadd X1.here hx rfl (hb hby d1_13) rfl (XS.lloadN X1.here hx rfl (hb hby d1_14) rfl (XS.bipush X1.here hx rfl (hb hby d1_15) (XS.lushr X1.here hx rfl (hb hby d1_17) rfl (X1.ldc2Long hx hown (mvT hZ (wd_6 hw)) (g := (mkF m 18 #[.val (.long qe), .second, .val (.ref oa), .val (.int (1 : Int32))] [(.long ((qe.toUInt64 >>> ((8 : Int32) &&& 0x3f).toInt64.toUInt64).toInt64)), (.int (2 : Int32)), (.ref oa)])) rfl (hb hby d1_18) _ (XS.land X1.here hx rfl (hb hby d1_21) rfl (XS.l2i X1.here hx rfl (hb hby d1_22) rfl k)))))))))) ?_
  show ownEnds _ _ _ _ (T1.setTop (mkF m 23 #[.val (.long qe), .second, .val (.ref oa), .val (.int (1 : Int32))] [(.int ((((qe.toUInt64 >>> ((8 : Int32) &&& 0x3f).toInt64.toUInt64).toInt64) &&& (255 : Int64)).toInt32)), (.int (2 : Int32)), (.ref oa)]))
  refine ownEnds.law (fun t k => XS.i2c X1.here hx rfl (hb hby d1_23) rfl k) ?_
  show ownEnds _ _ _ _ (T1.setTop (mkF m 24 #[.val (.long qe), .second, .val (.ref oa), .val (.int (1 : Int32))] [(.int (((((qe.toUInt64 >>> ((8 : Int32) &&& 0x3f).toInt64.toUInt64).toInt64) &&& (255 : Int64)).toInt32).toUInt32.toUInt16.toUInt32.toInt32)), (.int (2 : Int32)), (.ref oa)]))
  obtain ⟨cl2, Ar2, q2, S2, N2, H2, G2⟩ := id V1
  obtain ⟨T2, h2, X2, e2, W2, st2⟩ := stC X1 hx hZ e1 Ar2 (j := (2 : Int32)) (inb_of S2 ⟨by decide, by decide⟩) (g := (mkF m 24 #[.val (.long qe), .second, .val (.ref oa), .val (.int (1 : Int32))] [(.int (((((qe.toUInt64 >>> ((8 : Int32) &&& 0x3f).toInt64.toUInt64).toInt64) &&& (255 : Int64)).toInt32).toUInt32.toUInt16.toUInt32.toInt32)), (.int (2 : Int32)), (.ref oa)])) rfl rfl (hb hby d1_24)
  refine ownEnds.law st2 ?_
  have V2 : Arv Z h2 oa ka .char (11 : Int32) [(.int s0), (.int (nar .char (((qe &&& (255 : Int64)).toInt32).toUInt32.toUInt16.toUInt32.toInt32))), (.int (nar .char (((((qe.toUInt64 >>> ((8 : Int32) &&& 0x3f).toInt64.toUInt64).toInt64) &&& (255 : Int64)).toInt32).toUInt32.toUInt16.toUInt32.toInt32))), (.int s0), (.int s0), (.int s0), (.int s0), (.int s0), (.int s0), (.int s0), (.int s0)] (.int (0 : Int32)) := Arv.set Ar2 q2 S2 N2 H2 G2 (fits_nar_char _) W2 2 rfl (Nat.le_of_ble_eq_true rfl)
  have N2 := Fr.snoc X2 N1 g_oa
  have KK2 : Keep h0 h2 [oa] := (KK1).wr W2 (Or.inl (List.mem_of_getElem? (i := 0) rfl))
  have Z2 : n0 ≤ h2.size := by rw [W2.size]; exact Z1
  show ownEnds _ _ _ _ (T2.setTop (mkF m 25 #[.val (.long qe), .second, .val (.ref oa), .val (.int (1 : Int32))] []))
  refine ownEnds.law (fun t k => XS.aloadN X2.here hx rfl (hb hby d1_25) rfl rfl (XS.iloadN X2.here hx rfl (hb hby d1_26) rfl (XS.iconst X2.here hx rfl (hb hby d1_27) (XS.iadd X2.here hx rfl (hb hby d1_28) rfl (XS.lloadN X2.here hx rfl (hb hby d1_29) rfl (XS.bipush X2.here hx rfl (hb hby d1_30) (XS.lushr X2.here hx rfl (hb hby d1_32) rfl (X2.ldc2Long hx hown (mvT hZ (wd_6 hw)) (g := (mkF m 33 #[.val (.long qe), .second, .val (.ref oa), .val (.int (1 : Int32))] [(.long ((qe.toUInt64 >>> ((16 : Int32) &&& 0x3f).toInt64.toUInt64).toInt64)), (.int (3 : Int32)), (.ref oa)])) rfl (hb hby d1_33) _ (XS.land X2.here hx rfl (hb hby d1_36) rfl (XS.l2i X2.here hx rfl (hb hby d1_37) rfl k)))))))))) ?_
  show ownEnds _ _ _ _ (T2.setTop (mkF m 38 #[.val (.long qe), .second, .val (.ref oa), .val (.int (1 : Int32))] [(.int ((((qe.toUInt64 >>> ((16 : Int32) &&& 0x3f).toInt64.toUInt64).toInt64) &&& (255 : Int64)).toInt32)), (.int (3 : Int32)), (.ref oa)]))
  refine ownEnds.law (fun t k => XS.i2c X2.here hx rfl (hb hby d1_38) rfl k) ?_
  show ownEnds _ _ _ _ (T2.setTop (mkF m 39 #[.val (.long qe), .second, .val (.ref oa), .val (.int (1 : Int32))] [(.int (((((qe.toUInt64 >>> ((16 : Int32) &&& 0x3f).toInt64.toUInt64).toInt64) &&& (255 : Int64)).toInt32).toUInt32.toUInt16.toUInt32.toInt32)), (.int (3 : Int32)), (.ref oa)]))
  obtain ⟨cl3, Ar3, q3, S3, N3, H3, G3⟩ := id V2
  obtain ⟨T3, h3, X3, e3, W3, st3⟩ := stC X2 hx hZ e2 Ar3 (j := (3 : Int32)) (inb_of S3 ⟨by decide, by decide⟩) (g := (mkF m 39 #[.val (.long qe), .second, .val (.ref oa), .val (.int (1 : Int32))] [(.int (((((qe.toUInt64 >>> ((16 : Int32) &&& 0x3f).toInt64.toUInt64).toInt64) &&& (255 : Int64)).toInt32).toUInt32.toUInt16.toUInt32.toInt32)), (.int (3 : Int32)), (.ref oa)])) rfl rfl (hb hby d1_39)
  refine ownEnds.law st3 ?_
  have V3 : Arv Z h3 oa ka .char (11 : Int32) [(.int s0), (.int (nar .char (((qe &&& (255 : Int64)).toInt32).toUInt32.toUInt16.toUInt32.toInt32))), (.int (nar .char (((((qe.toUInt64 >>> ((8 : Int32) &&& 0x3f).toInt64.toUInt64).toInt64) &&& (255 : Int64)).toInt32).toUInt32.toUInt16.toUInt32.toInt32))), (.int (nar .char (((((qe.toUInt64 >>> ((16 : Int32) &&& 0x3f).toInt64.toUInt64).toInt64) &&& (255 : Int64)).toInt32).toUInt32.toUInt16.toUInt32.toInt32))), (.int s0), (.int s0), (.int s0), (.int s0), (.int s0), (.int s0), (.int s0)] (.int (0 : Int32)) := Arv.set Ar3 q3 S3 N3 H3 G3 (fits_nar_char _) W3 3 rfl (Nat.le_of_ble_eq_true rfl)
  have N3 := Fr.snoc X3 N2 g_oa
  have KK3 : Keep h0 h3 [oa] := (KK2).wr W3 (Or.inl (List.mem_of_getElem? (i := 0) rfl))
  have Z3 : n0 ≤ h3.size := by rw [W3.size]; exact Z2
  show ownEnds _ _ _ _ (T3.setTop (mkF m 40 #[.val (.long qe), .second, .val (.ref oa), .val (.int (1 : Int32))] []))
  refine ownEnds.law (fun t k => XS.aloadN X3.here hx rfl (hb hby d1_40) rfl rfl (XS.iloadN X3.here hx rfl (hb hby d1_41) rfl (XS.iconst X3.here hx rfl (hb hby d1_42) (XS.iadd X3.here hx rfl (hb hby d1_43) rfl (XS.lloadN X3.here hx rfl (hb hby d1_44) rfl (XS.bipush X3.here hx rfl (hb hby d1_45) (XS.lushr X3.here hx rfl (hb hby d1_47) rfl (X3.ldc2Long hx hown (mvT hZ (wd_6 hw)) (g := (mkF m 48 #[.val (.long qe), .second, .val (.ref oa), .val (.int (1 : Int32))] [(.long ((qe.toUInt64 >>> ((24 : Int32) &&& 0x3f).toInt64.toUInt64).toInt64)), (.int (4 : Int32)), (.ref oa)])) rfl (hb hby d1_48) _ (XS.land X3.here hx rfl (hb hby d1_51) rfl (XS.l2i X3.here hx rfl (hb hby d1_52) rfl k)))))))))) ?_
  show ownEnds _ _ _ _ (T3.setTop (mkF m 53 #[.val (.long qe), .second, .val (.ref oa), .val (.int (1 : Int32))] [(.int ((((qe.toUInt64 >>> ((24 : Int32) &&& 0x3f).toInt64.toUInt64).toInt64) &&& (255 : Int64)).toInt32)), (.int (4 : Int32)), (.ref oa)]))
  refine ownEnds.law (fun t k => XS.i2c X3.here hx rfl (hb hby d1_53) rfl k) ?_
  show ownEnds _ _ _ _ (T3.setTop (mkF m 54 #[.val (.long qe), .second, .val (.ref oa), .val (.int (1 : Int32))] [(.int (((((qe.toUInt64 >>> ((24 : Int32) &&& 0x3f).toInt64.toUInt64).toInt64) &&& (255 : Int64)).toInt32).toUInt32.toUInt16.toUInt32.toInt32)), (.int (4 : Int32)), (.ref oa)]))
  obtain ⟨cl4, Ar4, q4, S4, N4, H4, G4⟩ := id V3
  obtain ⟨T4, h4, X4, e4, W4, st4⟩ := stC X3 hx hZ e3 Ar4 (j := (4 : Int32)) (inb_of S4 ⟨by decide, by decide⟩) (g := (mkF m 54 #[.val (.long qe), .second, .val (.ref oa), .val (.int (1 : Int32))] [(.int (((((qe.toUInt64 >>> ((24 : Int32) &&& 0x3f).toInt64.toUInt64).toInt64) &&& (255 : Int64)).toInt32).toUInt32.toUInt16.toUInt32.toInt32)), (.int (4 : Int32)), (.ref oa)])) rfl rfl (hb hby d1_54)
  refine ownEnds.law st4 ?_
  have V4 : Arv Z h4 oa ka .char (11 : Int32) [(.int s0), (.int (nar .char (((qe &&& (255 : Int64)).toInt32).toUInt32.toUInt16.toUInt32.toInt32))), (.int (nar .char (((((qe.toUInt64 >>> ((8 : Int32) &&& 0x3f).toInt64.toUInt64).toInt64) &&& (255 : Int64)).toInt32).toUInt32.toUInt16.toUInt32.toInt32))), (.int (nar .char (((((qe.toUInt64 >>> ((16 : Int32) &&& 0x3f).toInt64.toUInt64).toInt64) &&& (255 : Int64)).toInt32).toUInt32.toUInt16.toUInt32.toInt32))), (.int (nar .char (((((qe.toUInt64 >>> ((24 : Int32) &&& 0x3f).toInt64.toUInt64).toInt64) &&& (255 : Int64)).toInt32).toUInt32.toUInt16.toUInt32.toInt32))), (.int s0), (.int s0), (.int s0), (.int s0), (.int s0), (.int s0)] (.int (0 : Int32)) := Arv.set Ar4 q4 S4 N4 H4 G4 (fits_nar_char _) W4 4 rfl (Nat.le_of_ble_eq_true rfl)
  have N4 := Fr.snoc X4 N3 g_oa
  have KK4 : Keep h0 h4 [oa] := (KK3).wr W4 (Or.inl (List.mem_of_getElem? (i := 0) rfl))
  have Z4 : n0 ≤ h4.size := by rw [W4.size]; exact Z3
  show ownEnds _ _ _ _ (T4.setTop (mkF m 55 #[.val (.long qe), .second, .val (.ref oa), .val (.int (1 : Int32))] []))
  refine ownEnds.law (fun t k => XS.aloadN X4.here hx rfl (hb hby d1_55) rfl rfl (XS.iloadN X4.here hx rfl (hb hby d1_56) rfl (XS.iconst X4.here hx rfl (hb hby d1_57) (XS.iadd X4.here hx rfl (hb hby d1_58) rfl (XS.lloadN X4.here hx rfl (hb hby d1_59) rfl (XS.bipush X4.here hx rfl (hb hby d1_60) (XS.lushr X4.here hx rfl (hb hby d1_62) rfl (X4.ldc2Long hx hown (mvT hZ (wd_6 hw)) (g := (mkF m 63 #[.val (.long qe), .second, .val (.ref oa), .val (.int (1 : Int32))] [(.long ((qe.toUInt64 >>> ((32 : Int32) &&& 0x3f).toInt64.toUInt64).toInt64)), (.int (5 : Int32)), (.ref oa)])) rfl (hb hby d1_63) _ (XS.land X4.here hx rfl (hb hby d1_66) rfl (XS.l2i X4.here hx rfl (hb hby d1_67) rfl k)))))))))) ?_
  show ownEnds _ _ _ _ (T4.setTop (mkF m 68 #[.val (.long qe), .second, .val (.ref oa), .val (.int (1 : Int32))] [(.int ((((qe.toUInt64 >>> ((32 : Int32) &&& 0x3f).toInt64.toUInt64).toInt64) &&& (255 : Int64)).toInt32)), (.int (5 : Int32)), (.ref oa)]))
  refine ownEnds.law (fun t k => XS.i2c X4.here hx rfl (hb hby d1_68) rfl k) ?_
  show ownEnds _ _ _ _ (T4.setTop (mkF m 69 #[.val (.long qe), .second, .val (.ref oa), .val (.int (1 : Int32))] [(.int (((((qe.toUInt64 >>> ((32 : Int32) &&& 0x3f).toInt64.toUInt64).toInt64) &&& (255 : Int64)).toInt32).toUInt32.toUInt16.toUInt32.toInt32)), (.int (5 : Int32)), (.ref oa)]))
  obtain ⟨cl5, Ar5, q5, S5, N5, H5, G5⟩ := id V4
  obtain ⟨T5, h5, X5, e5, W5, st5⟩ := stC X4 hx hZ e4 Ar5 (j := (5 : Int32)) (inb_of S5 ⟨by decide, by decide⟩) (g := (mkF m 69 #[.val (.long qe), .second, .val (.ref oa), .val (.int (1 : Int32))] [(.int (((((qe.toUInt64 >>> ((32 : Int32) &&& 0x3f).toInt64.toUInt64).toInt64) &&& (255 : Int64)).toInt32).toUInt32.toUInt16.toUInt32.toInt32)), (.int (5 : Int32)), (.ref oa)])) rfl rfl (hb hby d1_69)
  refine ownEnds.law st5 ?_
  have V5 : Arv Z h5 oa ka .char (11 : Int32) [(.int s0), (.int (nar .char (((qe &&& (255 : Int64)).toInt32).toUInt32.toUInt16.toUInt32.toInt32))), (.int (nar .char (((((qe.toUInt64 >>> ((8 : Int32) &&& 0x3f).toInt64.toUInt64).toInt64) &&& (255 : Int64)).toInt32).toUInt32.toUInt16.toUInt32.toInt32))), (.int (nar .char (((((qe.toUInt64 >>> ((16 : Int32) &&& 0x3f).toInt64.toUInt64).toInt64) &&& (255 : Int64)).toInt32).toUInt32.toUInt16.toUInt32.toInt32))), (.int (nar .char (((((qe.toUInt64 >>> ((24 : Int32) &&& 0x3f).toInt64.toUInt64).toInt64) &&& (255 : Int64)).toInt32).toUInt32.toUInt16.toUInt32.toInt32))), (.int (nar .char (((((qe.toUInt64 >>> ((32 : Int32) &&& 0x3f).toInt64.toUInt64).toInt64) &&& (255 : Int64)).toInt32).toUInt32.toUInt16.toUInt32.toInt32))), (.int s0), (.int s0), (.int s0), (.int s0), (.int s0)] (.int (0 : Int32)) := Arv.set Ar5 q5 S5 N5 H5 G5 (fits_nar_char _) W5 5 rfl (Nat.le_of_ble_eq_true rfl)
  have N5 := Fr.snoc X5 N4 g_oa
  have KK5 : Keep h0 h5 [oa] := (KK4).wr W5 (Or.inl (List.mem_of_getElem? (i := 0) rfl))
  have Z5 : n0 ≤ h5.size := by rw [W5.size]; exact Z4
  show ownEnds _ _ _ _ (T5.setTop (mkF m 70 #[.val (.long qe), .second, .val (.ref oa), .val (.int (1 : Int32))] []))
  refine ownEnds.law (fun t k => XS.aloadN X5.here hx rfl (hb hby d1_70) rfl rfl (XS.iloadN X5.here hx rfl (hb hby d1_71) rfl (XS.iconst X5.here hx rfl (hb hby d1_72) (XS.iadd X5.here hx rfl (hb hby d1_73) rfl (XS.lloadN X5.here hx rfl (hb hby d1_74) rfl (XS.bipush X5.here hx rfl (hb hby d1_75) (XS.lushr X5.here hx rfl (hb hby d1_77) rfl (X5.ldc2Long hx hown (mvT hZ (wd_6 hw)) (g := (mkF m 78 #[.val (.long qe), .second, .val (.ref oa), .val (.int (1 : Int32))] [(.long ((qe.toUInt64 >>> ((40 : Int32) &&& 0x3f).toInt64.toUInt64).toInt64)), (.int (6 : Int32)), (.ref oa)])) rfl (hb hby d1_78) _ (XS.land X5.here hx rfl (hb hby d1_81) rfl (XS.l2i X5.here hx rfl (hb hby d1_82) rfl k)))))))))) ?_
  show ownEnds _ _ _ _ (T5.setTop (mkF m 83 #[.val (.long qe), .second, .val (.ref oa), .val (.int (1 : Int32))] [(.int ((((qe.toUInt64 >>> ((40 : Int32) &&& 0x3f).toInt64.toUInt64).toInt64) &&& (255 : Int64)).toInt32)), (.int (6 : Int32)), (.ref oa)]))
  refine ownEnds.law (fun t k => XS.i2c X5.here hx rfl (hb hby d1_83) rfl k) ?_
  show ownEnds _ _ _ _ (T5.setTop (mkF m 84 #[.val (.long qe), .second, .val (.ref oa), .val (.int (1 : Int32))] [(.int (((((qe.toUInt64 >>> ((40 : Int32) &&& 0x3f).toInt64.toUInt64).toInt64) &&& (255 : Int64)).toInt32).toUInt32.toUInt16.toUInt32.toInt32)), (.int (6 : Int32)), (.ref oa)]))
  obtain ⟨cl6, Ar6, q6, S6, N6, H6, G6⟩ := id V5
  obtain ⟨T6, h6, X6, e6, W6, st6⟩ := stC X5 hx hZ e5 Ar6 (j := (6 : Int32)) (inb_of S6 ⟨by decide, by decide⟩) (g := (mkF m 84 #[.val (.long qe), .second, .val (.ref oa), .val (.int (1 : Int32))] [(.int (((((qe.toUInt64 >>> ((40 : Int32) &&& 0x3f).toInt64.toUInt64).toInt64) &&& (255 : Int64)).toInt32).toUInt32.toUInt16.toUInt32.toInt32)), (.int (6 : Int32)), (.ref oa)])) rfl rfl (hb hby d1_84)
  refine ownEnds.law st6 ?_
  have V6 : Arv Z h6 oa ka .char (11 : Int32) [(.int s0), (.int (nar .char (((qe &&& (255 : Int64)).toInt32).toUInt32.toUInt16.toUInt32.toInt32))), (.int (nar .char (((((qe.toUInt64 >>> ((8 : Int32) &&& 0x3f).toInt64.toUInt64).toInt64) &&& (255 : Int64)).toInt32).toUInt32.toUInt16.toUInt32.toInt32))), (.int (nar .char (((((qe.toUInt64 >>> ((16 : Int32) &&& 0x3f).toInt64.toUInt64).toInt64) &&& (255 : Int64)).toInt32).toUInt32.toUInt16.toUInt32.toInt32))), (.int (nar .char (((((qe.toUInt64 >>> ((24 : Int32) &&& 0x3f).toInt64.toUInt64).toInt64) &&& (255 : Int64)).toInt32).toUInt32.toUInt16.toUInt32.toInt32))), (.int (nar .char (((((qe.toUInt64 >>> ((32 : Int32) &&& 0x3f).toInt64.toUInt64).toInt64) &&& (255 : Int64)).toInt32).toUInt32.toUInt16.toUInt32.toInt32))), (.int (nar .char (((((qe.toUInt64 >>> ((40 : Int32) &&& 0x3f).toInt64.toUInt64).toInt64) &&& (255 : Int64)).toInt32).toUInt32.toUInt16.toUInt32.toInt32))), (.int s0), (.int s0), (.int s0), (.int s0)] (.int (0 : Int32)) := Arv.set Ar6 q6 S6 N6 H6 G6 (fits_nar_char _) W6 6 rfl (Nat.le_of_ble_eq_true rfl)
  have N6 := Fr.snoc X6 N5 g_oa
  have KK6 : Keep h0 h6 [oa] := (KK5).wr W6 (Or.inl (List.mem_of_getElem? (i := 0) rfl))
  have Z6 : n0 ≤ h6.size := by rw [W6.size]; exact Z5
  show ownEnds _ _ _ _ (T6.setTop (mkF m 85 #[.val (.long qe), .second, .val (.ref oa), .val (.int (1 : Int32))] []))
  refine ownEnds.law (fun t k => XS.aloadN X6.here hx rfl (hb hby d1_85) rfl rfl (XS.iloadN X6.here hx rfl (hb hby d1_86) rfl (XS.bipush X6.here hx rfl (hb hby d1_87) (XS.iadd X6.here hx rfl (hb hby d1_89) rfl (XS.lloadN X6.here hx rfl (hb hby d1_90) rfl (XS.bipush X6.here hx rfl (hb hby d1_91) (XS.lushr X6.here hx rfl (hb hby d1_93) rfl (X6.ldc2Long hx hown (mvT hZ (wd_6 hw)) (g := (mkF m 94 #[.val (.long qe), .second, .val (.ref oa), .val (.int (1 : Int32))] [(.long ((qe.toUInt64 >>> ((48 : Int32) &&& 0x3f).toInt64.toUInt64).toInt64)), (.int (7 : Int32)), (.ref oa)])) rfl (hb hby d1_94) _ (XS.land X6.here hx rfl (hb hby d1_97) rfl (XS.l2i X6.here hx rfl (hb hby d1_98) rfl k)))))))))) ?_
  show ownEnds _ _ _ _ (T6.setTop (mkF m 99 #[.val (.long qe), .second, .val (.ref oa), .val (.int (1 : Int32))] [(.int ((((qe.toUInt64 >>> ((48 : Int32) &&& 0x3f).toInt64.toUInt64).toInt64) &&& (255 : Int64)).toInt32)), (.int (7 : Int32)), (.ref oa)]))
  refine ownEnds.law (fun t k => XS.i2c X6.here hx rfl (hb hby d1_99) rfl k) ?_
  show ownEnds _ _ _ _ (T6.setTop (mkF m 100 #[.val (.long qe), .second, .val (.ref oa), .val (.int (1 : Int32))] [(.int (((((qe.toUInt64 >>> ((48 : Int32) &&& 0x3f).toInt64.toUInt64).toInt64) &&& (255 : Int64)).toInt32).toUInt32.toUInt16.toUInt32.toInt32)), (.int (7 : Int32)), (.ref oa)]))
  obtain ⟨cl7, Ar7, q7, S7, N7, H7, G7⟩ := id V6
  obtain ⟨T7, h7, X7, e7, W7, st7⟩ := stC X6 hx hZ e6 Ar7 (j := (7 : Int32)) (inb_of S7 ⟨by decide, by decide⟩) (g := (mkF m 100 #[.val (.long qe), .second, .val (.ref oa), .val (.int (1 : Int32))] [(.int (((((qe.toUInt64 >>> ((48 : Int32) &&& 0x3f).toInt64.toUInt64).toInt64) &&& (255 : Int64)).toInt32).toUInt32.toUInt16.toUInt32.toInt32)), (.int (7 : Int32)), (.ref oa)])) rfl rfl (hb hby d1_100)
  refine ownEnds.law st7 ?_
  have V7 : Arv Z h7 oa ka .char (11 : Int32) [(.int s0), (.int (nar .char (((qe &&& (255 : Int64)).toInt32).toUInt32.toUInt16.toUInt32.toInt32))), (.int (nar .char (((((qe.toUInt64 >>> ((8 : Int32) &&& 0x3f).toInt64.toUInt64).toInt64) &&& (255 : Int64)).toInt32).toUInt32.toUInt16.toUInt32.toInt32))), (.int (nar .char (((((qe.toUInt64 >>> ((16 : Int32) &&& 0x3f).toInt64.toUInt64).toInt64) &&& (255 : Int64)).toInt32).toUInt32.toUInt16.toUInt32.toInt32))), (.int (nar .char (((((qe.toUInt64 >>> ((24 : Int32) &&& 0x3f).toInt64.toUInt64).toInt64) &&& (255 : Int64)).toInt32).toUInt32.toUInt16.toUInt32.toInt32))), (.int (nar .char (((((qe.toUInt64 >>> ((32 : Int32) &&& 0x3f).toInt64.toUInt64).toInt64) &&& (255 : Int64)).toInt32).toUInt32.toUInt16.toUInt32.toInt32))), (.int (nar .char (((((qe.toUInt64 >>> ((40 : Int32) &&& 0x3f).toInt64.toUInt64).toInt64) &&& (255 : Int64)).toInt32).toUInt32.toUInt16.toUInt32.toInt32))), (.int (nar .char (((((qe.toUInt64 >>> ((48 : Int32) &&& 0x3f).toInt64.toUInt64).toInt64) &&& (255 : Int64)).toInt32).toUInt32.toUInt16.toUInt32.toInt32))), (.int s0), (.int s0), (.int s0)] (.int (0 : Int32)) := Arv.set Ar7 q7 S7 N7 H7 G7 (fits_nar_char _) W7 7 rfl (Nat.le_of_ble_eq_true rfl)
  have N7 := Fr.snoc X7 N6 g_oa
  have KK7 : Keep h0 h7 [oa] := (KK6).wr W7 (Or.inl (List.mem_of_getElem? (i := 0) rfl))
  have Z7 : n0 ≤ h7.size := by rw [W7.size]; exact Z6
  show ownEnds _ _ _ _ (T7.setTop (mkF m 101 #[.val (.long qe), .second, .val (.ref oa), .val (.int (1 : Int32))] []))
  refine ownEnds.law (fun t k => XS.aloadN X7.here hx rfl (hb hby d1_101) rfl rfl (XS.iloadN X7.here hx rfl (hb hby d1_102) rfl (XS.bipush X7.here hx rfl (hb hby d1_103) (XS.iadd X7.here hx rfl (hb hby d1_105) rfl (XS.lloadN X7.here hx rfl (hb hby d1_106) rfl (XS.bipush X7.here hx rfl (hb hby d1_107) (XS.lushr X7.here hx rfl (hb hby d1_109) rfl (XS.l2i X7.here hx rfl (hb hby d1_110) rfl (XS.i2c X7.here hx rfl (hb hby d1_111) rfl k))))))))) ?_
  show ownEnds _ _ _ _ (T7.setTop (mkF m 112 #[.val (.long qe), .second, .val (.ref oa), .val (.int (1 : Int32))] [(.int ((((qe.toUInt64 >>> ((56 : Int32) &&& 0x3f).toInt64.toUInt64).toInt64).toInt32).toUInt32.toUInt16.toUInt32.toInt32)), (.int (8 : Int32)), (.ref oa)]))
  obtain ⟨cl8, Ar8, q8, S8, N8, H8, G8⟩ := id V7
  obtain ⟨T8, h8, X8, e8, W8, st8⟩ := stC X7 hx hZ e7 Ar8 (j := (8 : Int32)) (inb_of S8 ⟨by decide, by decide⟩) (g := (mkF m 112 #[.val (.long qe), .second, .val (.ref oa), .val (.int (1 : Int32))] [(.int ((((qe.toUInt64 >>> ((56 : Int32) &&& 0x3f).toInt64.toUInt64).toInt64).toInt32).toUInt32.toUInt16.toUInt32.toInt32)), (.int (8 : Int32)), (.ref oa)])) rfl rfl (hb hby d1_112)
  refine ownEnds.law st8 ?_
  have V8 : Arv Z h8 oa ka .char (11 : Int32) [(.int s0), (.int (nar .char (((qe &&& (255 : Int64)).toInt32).toUInt32.toUInt16.toUInt32.toInt32))), (.int (nar .char (((((qe.toUInt64 >>> ((8 : Int32) &&& 0x3f).toInt64.toUInt64).toInt64) &&& (255 : Int64)).toInt32).toUInt32.toUInt16.toUInt32.toInt32))), (.int (nar .char (((((qe.toUInt64 >>> ((16 : Int32) &&& 0x3f).toInt64.toUInt64).toInt64) &&& (255 : Int64)).toInt32).toUInt32.toUInt16.toUInt32.toInt32))), (.int (nar .char (((((qe.toUInt64 >>> ((24 : Int32) &&& 0x3f).toInt64.toUInt64).toInt64) &&& (255 : Int64)).toInt32).toUInt32.toUInt16.toUInt32.toInt32))), (.int (nar .char (((((qe.toUInt64 >>> ((32 : Int32) &&& 0x3f).toInt64.toUInt64).toInt64) &&& (255 : Int64)).toInt32).toUInt32.toUInt16.toUInt32.toInt32))), (.int (nar .char (((((qe.toUInt64 >>> ((40 : Int32) &&& 0x3f).toInt64.toUInt64).toInt64) &&& (255 : Int64)).toInt32).toUInt32.toUInt16.toUInt32.toInt32))), (.int (nar .char (((((qe.toUInt64 >>> ((48 : Int32) &&& 0x3f).toInt64.toUInt64).toInt64) &&& (255 : Int64)).toInt32).toUInt32.toUInt16.toUInt32.toInt32))), (.int (nar .char ((((qe.toUInt64 >>> ((56 : Int32) &&& 0x3f).toInt64.toUInt64).toInt64).toInt32).toUInt32.toUInt16.toUInt32.toInt32))), (.int s0), (.int s0)] (.int (0 : Int32)) := Arv.set Ar8 q8 S8 N8 H8 G8 (fits_nar_char _) W8 8 rfl (Nat.le_of_ble_eq_true rfl)
  have N8 := Fr.snoc X8 N7 g_oa
  have KK8 : Keep h0 h8 [oa] := (KK7).wr W8 (Or.inl (List.mem_of_getElem? (i := 0) rfl))
  have Z8 : n0 ≤ h8.size := by rw [W8.size]; exact Z7
  show ownEnds _ _ _ _ (T8.setTop (mkF m 113 #[.val (.long qe), .second, .val (.ref oa), .val (.int (1 : Int32))] []))
  refine ownRetV X8 hlk hx hret (hb hby d1_113) (by decide) (by decide) ?_
  rw [e8]
  exact ⟨rfl, N8, KK8, V8⟩
set_option maxRecDepth 65536 in
set_option maxHeartbeats 40000000 in
theorem rm1_2 (l : Launch) (Z : State) (a0 : Array Value) (hw : ∀ d ∈ tables_1, d.before a0 Z = true) (qe : Int64) (oa : Addr) (s0 : Int32) (ka : ClassId) (h0 : Heap) (n0 : Nat) (Z0 : n0 ≤ h0.size) (Va : Arv Z h0 oa ka .char (11 : Int32) [(.int s0), (.int s0), (.int s0), (.int s0), (.int s0), (.int s0), (.int s0), (.int s0), (.int s0), (.int s0), (.int s0)] (.int (0 : Int32))) (g_oa : n0 ≤ oa) :
    ownMet l Z (⟨"com/example/seven_bit_codecs/sevenbitcodecs/EightBytes", "writeAsChars", "(J[CI)V"⟩ : MethodName) prog_8_method_8_code 4 none [] ({ frames := 0, cells := 0, slots := 0, locals := 0 } : Room) #[(.long qe), (.ref oa), (.int (2 : Int32))] h0 (fun v h L => v = none ∧ Fr n0 L ∧ Keep h0 h [oa] ∧ Arv Z h oa ka .char (11 : Int32) [(.int s0), (.int s0), (.int (BC0 qe)), (.int (BC1 qe)), (.int (BC2 qe)), (.int (BC3 qe)), (.int (BC4 qe)), (.int (BC5 qe)), (.int (BC6 qe)), (.int (BC7 qe)), (.int s0)] (.int (0 : Int32))) := by
  refine ownMet.of (plainFor_of_name pn_1) ?_
  intro p e s m below meth c T0 hx hby hml hZ hown hnm hret hlk X0 e0
  refine ownEnds.cast (ef_rm1_2 m qe oa) ?_
  show ownEnds _ _ _ _ (T0.setTop (mkF m 0 #[.val (.long qe), .second, .val (.ref oa), .val (.int (2 : Int32))] []))
  refine ownEnds.law (fun t k => XS.aloadN X0.here hx rfl (hb hby d1_0) rfl rfl (XS.iloadN X0.here hx rfl (hb hby d1_1) rfl (XS.lloadN X0.here hx rfl (hb hby d1_2) rfl (X0.ldc2Long hx hown (mvT hZ (wd_6 hw)) (g := (mkF m 3 #[.val (.long qe), .second, .val (.ref oa), .val (.int (2 : Int32))] [(.long qe), (.int (2 : Int32)), (.ref oa)])) rfl (hb hby d1_3) _ (XS.land X0.here hx rfl (hb hby d1_6) rfl (XS.l2i X0.here hx rfl (hb hby d1_7) rfl (XS.i2c X0.here hx rfl (hb hby d1_8) rfl k))))))) ?_
  show ownEnds _ _ _ _ (T0.setTop (mkF m 9 #[.val (.long qe), .second, .val (.ref oa), .val (.int (2 : Int32))] [(.int (((qe &&& (255 : Int64)).toInt32).toUInt32.toUInt16.toUInt32.toInt32)), (.int (2 : Int32)), (.ref oa)]))
  obtain ⟨cl1, Ar1, q1, S1, N1, H1, G1⟩ := id Va
  obtain ⟨T1, h1, X1, e1, W1, st1⟩ := stC X0 hx hZ e0 Ar1 (j := (2 : Int32)) (inb_of S1 ⟨by decide, by decide⟩) (g := (mkF m 9 #[.val (.long qe), .second, .val (.ref oa), .val (.int (2 : Int32))] [(.int (((qe &&& (255 : Int64)).toInt32).toUInt32.toUInt16.toUInt32.toInt32)), (.int (2 : Int32)), (.ref oa)])) rfl rfl (hb hby d1_9)
  refine ownEnds.law st1 ?_
  have V1 : Arv Z h1 oa ka .char (11 : Int32) [(.int s0), (.int s0), (.int (nar .char (((qe &&& (255 : Int64)).toInt32).toUInt32.toUInt16.toUInt32.toInt32))), (.int s0), (.int s0), (.int s0), (.int s0), (.int s0), (.int s0), (.int s0), (.int s0)] (.int (0 : Int32)) := Arv.set Ar1 q1 S1 N1 H1 G1 (fits_nar_char _) W1 2 rfl (Nat.le_of_ble_eq_true rfl)
  have N1 := Fr.snoc X1 (Fr.nil n0) g_oa
  have KK1 : Keep h0 h1 [oa] := (Keep.refl h0 [oa]).wr W1 (Or.inl (List.mem_of_getElem? (i := 0) rfl))
  have Z1 : n0 ≤ h1.size := by rw [W1.size]; exact Z0
  show ownEnds _ _ _ _ (T1.setTop (mkF m 10 #[.val (.long qe), .second, .val (.ref oa), .val (.int (2 : Int32))] []))
  refine ownEnds.law (fun t k => XS.aloadN X1.here hx rfl (hb hby d1_10) rfl rfl (XS.iloadN X1.here hx rfl (hb hby d1_11) rfl (XS.iconst X1.here hx rfl (hb hby d1_12) (XS.iadd X1.here hx rfl (hb hby d1_13) rfl (XS.lloadN X1.here hx rfl (hb hby d1_14) rfl (XS.bipush X1.here hx rfl (hb hby d1_15) (XS.lushr X1.here hx rfl (hb hby d1_17) rfl (X1.ldc2Long hx hown (mvT hZ (wd_6 hw)) (g := (mkF m 18 #[.val (.long qe), .second, .val (.ref oa), .val (.int (2 : Int32))] [(.long ((qe.toUInt64 >>> ((8 : Int32) &&& 0x3f).toInt64.toUInt64).toInt64)), (.int (3 : Int32)), (.ref oa)])) rfl (hb hby d1_18) _ (XS.land X1.here hx rfl (hb hby d1_21) rfl (XS.l2i X1.here hx rfl (hb hby d1_22) rfl k)))))))))) ?_
  show ownEnds _ _ _ _ (T1.setTop (mkF m 23 #[.val (.long qe), .second, .val (.ref oa), .val (.int (2 : Int32))] [(.int ((((qe.toUInt64 >>> ((8 : Int32) &&& 0x3f).toInt64.toUInt64).toInt64) &&& (255 : Int64)).toInt32)), (.int (3 : Int32)), (.ref oa)]))
  refine ownEnds.law (fun t k => XS.i2c X1.here hx rfl (hb hby d1_23) rfl k) ?_
  show ownEnds _ _ _ _ (T1.setTop (mkF m 24 #[.val (.long qe), .second, .val (.ref oa), .val (.int (2 : Int32))] [(.int (((((qe.toUInt64 >>> ((8 : Int32) &&& 0x3f).toInt64.toUInt64).toInt64) &&& (255 : Int64)).toInt32).toUInt32.toUInt16.toUInt32.toInt32)), (.int (3 : Int32)), (.ref oa)]))
  obtain ⟨cl2, Ar2, q2, S2, N2, H2, G2⟩ := id V1
  obtain ⟨T2, h2, X2, e2, W2, st2⟩ := stC X1 hx hZ e1 Ar2 (j := (3 : Int32)) (inb_of S2 ⟨by decide, by decide⟩) (g := (mkF m 24 #[.val (.long qe), .second, .val (.ref oa), .val (.int (2 : Int32))] [(.int (((((qe.toUInt64 >>> ((8 : Int32) &&& 0x3f).toInt64.toUInt64).toInt64) &&& (255 : Int64)).toInt32).toUInt32.toUInt16.toUInt32.toInt32)), (.int (3 : Int32)), (.ref oa)])) rfl rfl (hb hby d1_24)
  refine ownEnds.law st2 ?_
  have V2 : Arv Z h2 oa ka .char (11 : Int32) [(.int s0), (.int s0), (.int (nar .char (((qe &&& (255 : Int64)).toInt32).toUInt32.toUInt16.toUInt32.toInt32))), (.int (nar .char (((((qe.toUInt64 >>> ((8 : Int32) &&& 0x3f).toInt64.toUInt64).toInt64) &&& (255 : Int64)).toInt32).toUInt32.toUInt16.toUInt32.toInt32))), (.int s0), (.int s0), (.int s0), (.int s0), (.int s0), (.int s0), (.int s0)] (.int (0 : Int32)) := Arv.set Ar2 q2 S2 N2 H2 G2 (fits_nar_char _) W2 3 rfl (Nat.le_of_ble_eq_true rfl)
  have N2 := Fr.snoc X2 N1 g_oa
  have KK2 : Keep h0 h2 [oa] := (KK1).wr W2 (Or.inl (List.mem_of_getElem? (i := 0) rfl))
  have Z2 : n0 ≤ h2.size := by rw [W2.size]; exact Z1
  show ownEnds _ _ _ _ (T2.setTop (mkF m 25 #[.val (.long qe), .second, .val (.ref oa), .val (.int (2 : Int32))] []))
  refine ownEnds.law (fun t k => XS.aloadN X2.here hx rfl (hb hby d1_25) rfl rfl (XS.iloadN X2.here hx rfl (hb hby d1_26) rfl (XS.iconst X2.here hx rfl (hb hby d1_27) (XS.iadd X2.here hx rfl (hb hby d1_28) rfl (XS.lloadN X2.here hx rfl (hb hby d1_29) rfl (XS.bipush X2.here hx rfl (hb hby d1_30) (XS.lushr X2.here hx rfl (hb hby d1_32) rfl (X2.ldc2Long hx hown (mvT hZ (wd_6 hw)) (g := (mkF m 33 #[.val (.long qe), .second, .val (.ref oa), .val (.int (2 : Int32))] [(.long ((qe.toUInt64 >>> ((16 : Int32) &&& 0x3f).toInt64.toUInt64).toInt64)), (.int (4 : Int32)), (.ref oa)])) rfl (hb hby d1_33) _ (XS.land X2.here hx rfl (hb hby d1_36) rfl (XS.l2i X2.here hx rfl (hb hby d1_37) rfl k)))))))))) ?_
  show ownEnds _ _ _ _ (T2.setTop (mkF m 38 #[.val (.long qe), .second, .val (.ref oa), .val (.int (2 : Int32))] [(.int ((((qe.toUInt64 >>> ((16 : Int32) &&& 0x3f).toInt64.toUInt64).toInt64) &&& (255 : Int64)).toInt32)), (.int (4 : Int32)), (.ref oa)]))
  refine ownEnds.law (fun t k => XS.i2c X2.here hx rfl (hb hby d1_38) rfl k) ?_
  show ownEnds _ _ _ _ (T2.setTop (mkF m 39 #[.val (.long qe), .second, .val (.ref oa), .val (.int (2 : Int32))] [(.int (((((qe.toUInt64 >>> ((16 : Int32) &&& 0x3f).toInt64.toUInt64).toInt64) &&& (255 : Int64)).toInt32).toUInt32.toUInt16.toUInt32.toInt32)), (.int (4 : Int32)), (.ref oa)]))
  obtain ⟨cl3, Ar3, q3, S3, N3, H3, G3⟩ := id V2
  obtain ⟨T3, h3, X3, e3, W3, st3⟩ := stC X2 hx hZ e2 Ar3 (j := (4 : Int32)) (inb_of S3 ⟨by decide, by decide⟩) (g := (mkF m 39 #[.val (.long qe), .second, .val (.ref oa), .val (.int (2 : Int32))] [(.int (((((qe.toUInt64 >>> ((16 : Int32) &&& 0x3f).toInt64.toUInt64).toInt64) &&& (255 : Int64)).toInt32).toUInt32.toUInt16.toUInt32.toInt32)), (.int (4 : Int32)), (.ref oa)])) rfl rfl (hb hby d1_39)
  refine ownEnds.law st3 ?_
  have V3 : Arv Z h3 oa ka .char (11 : Int32) [(.int s0), (.int s0), (.int (nar .char (((qe &&& (255 : Int64)).toInt32).toUInt32.toUInt16.toUInt32.toInt32))), (.int (nar .char (((((qe.toUInt64 >>> ((8 : Int32) &&& 0x3f).toInt64.toUInt64).toInt64) &&& (255 : Int64)).toInt32).toUInt32.toUInt16.toUInt32.toInt32))), (.int (nar .char (((((qe.toUInt64 >>> ((16 : Int32) &&& 0x3f).toInt64.toUInt64).toInt64) &&& (255 : Int64)).toInt32).toUInt32.toUInt16.toUInt32.toInt32))), (.int s0), (.int s0), (.int s0), (.int s0), (.int s0), (.int s0)] (.int (0 : Int32)) := Arv.set Ar3 q3 S3 N3 H3 G3 (fits_nar_char _) W3 4 rfl (Nat.le_of_ble_eq_true rfl)
  have N3 := Fr.snoc X3 N2 g_oa
  have KK3 : Keep h0 h3 [oa] := (KK2).wr W3 (Or.inl (List.mem_of_getElem? (i := 0) rfl))
  have Z3 : n0 ≤ h3.size := by rw [W3.size]; exact Z2
  show ownEnds _ _ _ _ (T3.setTop (mkF m 40 #[.val (.long qe), .second, .val (.ref oa), .val (.int (2 : Int32))] []))
  refine ownEnds.law (fun t k => XS.aloadN X3.here hx rfl (hb hby d1_40) rfl rfl (XS.iloadN X3.here hx rfl (hb hby d1_41) rfl (XS.iconst X3.here hx rfl (hb hby d1_42) (XS.iadd X3.here hx rfl (hb hby d1_43) rfl (XS.lloadN X3.here hx rfl (hb hby d1_44) rfl (XS.bipush X3.here hx rfl (hb hby d1_45) (XS.lushr X3.here hx rfl (hb hby d1_47) rfl (X3.ldc2Long hx hown (mvT hZ (wd_6 hw)) (g := (mkF m 48 #[.val (.long qe), .second, .val (.ref oa), .val (.int (2 : Int32))] [(.long ((qe.toUInt64 >>> ((24 : Int32) &&& 0x3f).toInt64.toUInt64).toInt64)), (.int (5 : Int32)), (.ref oa)])) rfl (hb hby d1_48) _ (XS.land X3.here hx rfl (hb hby d1_51) rfl (XS.l2i X3.here hx rfl (hb hby d1_52) rfl k)))))))))) ?_
  show ownEnds _ _ _ _ (T3.setTop (mkF m 53 #[.val (.long qe), .second, .val (.ref oa), .val (.int (2 : Int32))] [(.int ((((qe.toUInt64 >>> ((24 : Int32) &&& 0x3f).toInt64.toUInt64).toInt64) &&& (255 : Int64)).toInt32)), (.int (5 : Int32)), (.ref oa)]))
  refine ownEnds.law (fun t k => XS.i2c X3.here hx rfl (hb hby d1_53) rfl k) ?_
  show ownEnds _ _ _ _ (T3.setTop (mkF m 54 #[.val (.long qe), .second, .val (.ref oa), .val (.int (2 : Int32))] [(.int (((((qe.toUInt64 >>> ((24 : Int32) &&& 0x3f).toInt64.toUInt64).toInt64) &&& (255 : Int64)).toInt32).toUInt32.toUInt16.toUInt32.toInt32)), (.int (5 : Int32)), (.ref oa)]))
  obtain ⟨cl4, Ar4, q4, S4, N4, H4, G4⟩ := id V3
  obtain ⟨T4, h4, X4, e4, W4, st4⟩ := stC X3 hx hZ e3 Ar4 (j := (5 : Int32)) (inb_of S4 ⟨by decide, by decide⟩) (g := (mkF m 54 #[.val (.long qe), .second, .val (.ref oa), .val (.int (2 : Int32))] [(.int (((((qe.toUInt64 >>> ((24 : Int32) &&& 0x3f).toInt64.toUInt64).toInt64) &&& (255 : Int64)).toInt32).toUInt32.toUInt16.toUInt32.toInt32)), (.int (5 : Int32)), (.ref oa)])) rfl rfl (hb hby d1_54)
  refine ownEnds.law st4 ?_
  have V4 : Arv Z h4 oa ka .char (11 : Int32) [(.int s0), (.int s0), (.int (nar .char (((qe &&& (255 : Int64)).toInt32).toUInt32.toUInt16.toUInt32.toInt32))), (.int (nar .char (((((qe.toUInt64 >>> ((8 : Int32) &&& 0x3f).toInt64.toUInt64).toInt64) &&& (255 : Int64)).toInt32).toUInt32.toUInt16.toUInt32.toInt32))), (.int (nar .char (((((qe.toUInt64 >>> ((16 : Int32) &&& 0x3f).toInt64.toUInt64).toInt64) &&& (255 : Int64)).toInt32).toUInt32.toUInt16.toUInt32.toInt32))), (.int (nar .char (((((qe.toUInt64 >>> ((24 : Int32) &&& 0x3f).toInt64.toUInt64).toInt64) &&& (255 : Int64)).toInt32).toUInt32.toUInt16.toUInt32.toInt32))), (.int s0), (.int s0), (.int s0), (.int s0), (.int s0)] (.int (0 : Int32)) := Arv.set Ar4 q4 S4 N4 H4 G4 (fits_nar_char _) W4 5 rfl (Nat.le_of_ble_eq_true rfl)
  have N4 := Fr.snoc X4 N3 g_oa
  have KK4 : Keep h0 h4 [oa] := (KK3).wr W4 (Or.inl (List.mem_of_getElem? (i := 0) rfl))
  have Z4 : n0 ≤ h4.size := by rw [W4.size]; exact Z3
  show ownEnds _ _ _ _ (T4.setTop (mkF m 55 #[.val (.long qe), .second, .val (.ref oa), .val (.int (2 : Int32))] []))
  refine ownEnds.law (fun t k => XS.aloadN X4.here hx rfl (hb hby d1_55) rfl rfl (XS.iloadN X4.here hx rfl (hb hby d1_56) rfl (XS.iconst X4.here hx rfl (hb hby d1_57) (XS.iadd X4.here hx rfl (hb hby d1_58) rfl (XS.lloadN X4.here hx rfl (hb hby d1_59) rfl (XS.bipush X4.here hx rfl (hb hby d1_60) (XS.lushr X4.here hx rfl (hb hby d1_62) rfl (X4.ldc2Long hx hown (mvT hZ (wd_6 hw)) (g := (mkF m 63 #[.val (.long qe), .second, .val (.ref oa), .val (.int (2 : Int32))] [(.long ((qe.toUInt64 >>> ((32 : Int32) &&& 0x3f).toInt64.toUInt64).toInt64)), (.int (6 : Int32)), (.ref oa)])) rfl (hb hby d1_63) _ (XS.land X4.here hx rfl (hb hby d1_66) rfl (XS.l2i X4.here hx rfl (hb hby d1_67) rfl k)))))))))) ?_
  show ownEnds _ _ _ _ (T4.setTop (mkF m 68 #[.val (.long qe), .second, .val (.ref oa), .val (.int (2 : Int32))] [(.int ((((qe.toUInt64 >>> ((32 : Int32) &&& 0x3f).toInt64.toUInt64).toInt64) &&& (255 : Int64)).toInt32)), (.int (6 : Int32)), (.ref oa)]))
  refine ownEnds.law (fun t k => XS.i2c X4.here hx rfl (hb hby d1_68) rfl k) ?_
  show ownEnds _ _ _ _ (T4.setTop (mkF m 69 #[.val (.long qe), .second, .val (.ref oa), .val (.int (2 : Int32))] [(.int (((((qe.toUInt64 >>> ((32 : Int32) &&& 0x3f).toInt64.toUInt64).toInt64) &&& (255 : Int64)).toInt32).toUInt32.toUInt16.toUInt32.toInt32)), (.int (6 : Int32)), (.ref oa)]))
  obtain ⟨cl5, Ar5, q5, S5, N5, H5, G5⟩ := id V4
  obtain ⟨T5, h5, X5, e5, W5, st5⟩ := stC X4 hx hZ e4 Ar5 (j := (6 : Int32)) (inb_of S5 ⟨by decide, by decide⟩) (g := (mkF m 69 #[.val (.long qe), .second, .val (.ref oa), .val (.int (2 : Int32))] [(.int (((((qe.toUInt64 >>> ((32 : Int32) &&& 0x3f).toInt64.toUInt64).toInt64) &&& (255 : Int64)).toInt32).toUInt32.toUInt16.toUInt32.toInt32)), (.int (6 : Int32)), (.ref oa)])) rfl rfl (hb hby d1_69)
  refine ownEnds.law st5 ?_
  have V5 : Arv Z h5 oa ka .char (11 : Int32) [(.int s0), (.int s0), (.int (nar .char (((qe &&& (255 : Int64)).toInt32).toUInt32.toUInt16.toUInt32.toInt32))), (.int (nar .char (((((qe.toUInt64 >>> ((8 : Int32) &&& 0x3f).toInt64.toUInt64).toInt64) &&& (255 : Int64)).toInt32).toUInt32.toUInt16.toUInt32.toInt32))), (.int (nar .char (((((qe.toUInt64 >>> ((16 : Int32) &&& 0x3f).toInt64.toUInt64).toInt64) &&& (255 : Int64)).toInt32).toUInt32.toUInt16.toUInt32.toInt32))), (.int (nar .char (((((qe.toUInt64 >>> ((24 : Int32) &&& 0x3f).toInt64.toUInt64).toInt64) &&& (255 : Int64)).toInt32).toUInt32.toUInt16.toUInt32.toInt32))), (.int (nar .char (((((qe.toUInt64 >>> ((32 : Int32) &&& 0x3f).toInt64.toUInt64).toInt64) &&& (255 : Int64)).toInt32).toUInt32.toUInt16.toUInt32.toInt32))), (.int s0), (.int s0), (.int s0), (.int s0)] (.int (0 : Int32)) := Arv.set Ar5 q5 S5 N5 H5 G5 (fits_nar_char _) W5 6 rfl (Nat.le_of_ble_eq_true rfl)
  have N5 := Fr.snoc X5 N4 g_oa
  have KK5 : Keep h0 h5 [oa] := (KK4).wr W5 (Or.inl (List.mem_of_getElem? (i := 0) rfl))
  have Z5 : n0 ≤ h5.size := by rw [W5.size]; exact Z4
  show ownEnds _ _ _ _ (T5.setTop (mkF m 70 #[.val (.long qe), .second, .val (.ref oa), .val (.int (2 : Int32))] []))
  refine ownEnds.law (fun t k => XS.aloadN X5.here hx rfl (hb hby d1_70) rfl rfl (XS.iloadN X5.here hx rfl (hb hby d1_71) rfl (XS.iconst X5.here hx rfl (hb hby d1_72) (XS.iadd X5.here hx rfl (hb hby d1_73) rfl (XS.lloadN X5.here hx rfl (hb hby d1_74) rfl (XS.bipush X5.here hx rfl (hb hby d1_75) (XS.lushr X5.here hx rfl (hb hby d1_77) rfl (X5.ldc2Long hx hown (mvT hZ (wd_6 hw)) (g := (mkF m 78 #[.val (.long qe), .second, .val (.ref oa), .val (.int (2 : Int32))] [(.long ((qe.toUInt64 >>> ((40 : Int32) &&& 0x3f).toInt64.toUInt64).toInt64)), (.int (7 : Int32)), (.ref oa)])) rfl (hb hby d1_78) _ (XS.land X5.here hx rfl (hb hby d1_81) rfl (XS.l2i X5.here hx rfl (hb hby d1_82) rfl k)))))))))) ?_
  show ownEnds _ _ _ _ (T5.setTop (mkF m 83 #[.val (.long qe), .second, .val (.ref oa), .val (.int (2 : Int32))] [(.int ((((qe.toUInt64 >>> ((40 : Int32) &&& 0x3f).toInt64.toUInt64).toInt64) &&& (255 : Int64)).toInt32)), (.int (7 : Int32)), (.ref oa)]))
  refine ownEnds.law (fun t k => XS.i2c X5.here hx rfl (hb hby d1_83) rfl k) ?_
  show ownEnds _ _ _ _ (T5.setTop (mkF m 84 #[.val (.long qe), .second, .val (.ref oa), .val (.int (2 : Int32))] [(.int (((((qe.toUInt64 >>> ((40 : Int32) &&& 0x3f).toInt64.toUInt64).toInt64) &&& (255 : Int64)).toInt32).toUInt32.toUInt16.toUInt32.toInt32)), (.int (7 : Int32)), (.ref oa)]))
  obtain ⟨cl6, Ar6, q6, S6, N6, H6, G6⟩ := id V5
  obtain ⟨T6, h6, X6, e6, W6, st6⟩ := stC X5 hx hZ e5 Ar6 (j := (7 : Int32)) (inb_of S6 ⟨by decide, by decide⟩) (g := (mkF m 84 #[.val (.long qe), .second, .val (.ref oa), .val (.int (2 : Int32))] [(.int (((((qe.toUInt64 >>> ((40 : Int32) &&& 0x3f).toInt64.toUInt64).toInt64) &&& (255 : Int64)).toInt32).toUInt32.toUInt16.toUInt32.toInt32)), (.int (7 : Int32)), (.ref oa)])) rfl rfl (hb hby d1_84)
  refine ownEnds.law st6 ?_
  have V6 : Arv Z h6 oa ka .char (11 : Int32) [(.int s0), (.int s0), (.int (nar .char (((qe &&& (255 : Int64)).toInt32).toUInt32.toUInt16.toUInt32.toInt32))), (.int (nar .char (((((qe.toUInt64 >>> ((8 : Int32) &&& 0x3f).toInt64.toUInt64).toInt64) &&& (255 : Int64)).toInt32).toUInt32.toUInt16.toUInt32.toInt32))), (.int (nar .char (((((qe.toUInt64 >>> ((16 : Int32) &&& 0x3f).toInt64.toUInt64).toInt64) &&& (255 : Int64)).toInt32).toUInt32.toUInt16.toUInt32.toInt32))), (.int (nar .char (((((qe.toUInt64 >>> ((24 : Int32) &&& 0x3f).toInt64.toUInt64).toInt64) &&& (255 : Int64)).toInt32).toUInt32.toUInt16.toUInt32.toInt32))), (.int (nar .char (((((qe.toUInt64 >>> ((32 : Int32) &&& 0x3f).toInt64.toUInt64).toInt64) &&& (255 : Int64)).toInt32).toUInt32.toUInt16.toUInt32.toInt32))), (.int (nar .char (((((qe.toUInt64 >>> ((40 : Int32) &&& 0x3f).toInt64.toUInt64).toInt64) &&& (255 : Int64)).toInt32).toUInt32.toUInt16.toUInt32.toInt32))), (.int s0), (.int s0), (.int s0)] (.int (0 : Int32)) := Arv.set Ar6 q6 S6 N6 H6 G6 (fits_nar_char _) W6 7 rfl (Nat.le_of_ble_eq_true rfl)
  have N6 := Fr.snoc X6 N5 g_oa
  have KK6 : Keep h0 h6 [oa] := (KK5).wr W6 (Or.inl (List.mem_of_getElem? (i := 0) rfl))
  have Z6 : n0 ≤ h6.size := by rw [W6.size]; exact Z5
  show ownEnds _ _ _ _ (T6.setTop (mkF m 85 #[.val (.long qe), .second, .val (.ref oa), .val (.int (2 : Int32))] []))
  refine ownEnds.law (fun t k => XS.aloadN X6.here hx rfl (hb hby d1_85) rfl rfl (XS.iloadN X6.here hx rfl (hb hby d1_86) rfl (XS.bipush X6.here hx rfl (hb hby d1_87) (XS.iadd X6.here hx rfl (hb hby d1_89) rfl (XS.lloadN X6.here hx rfl (hb hby d1_90) rfl (XS.bipush X6.here hx rfl (hb hby d1_91) (XS.lushr X6.here hx rfl (hb hby d1_93) rfl (X6.ldc2Long hx hown (mvT hZ (wd_6 hw)) (g := (mkF m 94 #[.val (.long qe), .second, .val (.ref oa), .val (.int (2 : Int32))] [(.long ((qe.toUInt64 >>> ((48 : Int32) &&& 0x3f).toInt64.toUInt64).toInt64)), (.int (8 : Int32)), (.ref oa)])) rfl (hb hby d1_94) _ (XS.land X6.here hx rfl (hb hby d1_97) rfl (XS.l2i X6.here hx rfl (hb hby d1_98) rfl k)))))))))) ?_
  show ownEnds _ _ _ _ (T6.setTop (mkF m 99 #[.val (.long qe), .second, .val (.ref oa), .val (.int (2 : Int32))] [(.int ((((qe.toUInt64 >>> ((48 : Int32) &&& 0x3f).toInt64.toUInt64).toInt64) &&& (255 : Int64)).toInt32)), (.int (8 : Int32)), (.ref oa)]))
  refine ownEnds.law (fun t k => XS.i2c X6.here hx rfl (hb hby d1_99) rfl k) ?_
  show ownEnds _ _ _ _ (T6.setTop (mkF m 100 #[.val (.long qe), .second, .val (.ref oa), .val (.int (2 : Int32))] [(.int (((((qe.toUInt64 >>> ((48 : Int32) &&& 0x3f).toInt64.toUInt64).toInt64) &&& (255 : Int64)).toInt32).toUInt32.toUInt16.toUInt32.toInt32)), (.int (8 : Int32)), (.ref oa)]))
  obtain ⟨cl7, Ar7, q7, S7, N7, H7, G7⟩ := id V6
  obtain ⟨T7, h7, X7, e7, W7, st7⟩ := stC X6 hx hZ e6 Ar7 (j := (8 : Int32)) (inb_of S7 ⟨by decide, by decide⟩) (g := (mkF m 100 #[.val (.long qe), .second, .val (.ref oa), .val (.int (2 : Int32))] [(.int (((((qe.toUInt64 >>> ((48 : Int32) &&& 0x3f).toInt64.toUInt64).toInt64) &&& (255 : Int64)).toInt32).toUInt32.toUInt16.toUInt32.toInt32)), (.int (8 : Int32)), (.ref oa)])) rfl rfl (hb hby d1_100)
  refine ownEnds.law st7 ?_
  have V7 : Arv Z h7 oa ka .char (11 : Int32) [(.int s0), (.int s0), (.int (nar .char (((qe &&& (255 : Int64)).toInt32).toUInt32.toUInt16.toUInt32.toInt32))), (.int (nar .char (((((qe.toUInt64 >>> ((8 : Int32) &&& 0x3f).toInt64.toUInt64).toInt64) &&& (255 : Int64)).toInt32).toUInt32.toUInt16.toUInt32.toInt32))), (.int (nar .char (((((qe.toUInt64 >>> ((16 : Int32) &&& 0x3f).toInt64.toUInt64).toInt64) &&& (255 : Int64)).toInt32).toUInt32.toUInt16.toUInt32.toInt32))), (.int (nar .char (((((qe.toUInt64 >>> ((24 : Int32) &&& 0x3f).toInt64.toUInt64).toInt64) &&& (255 : Int64)).toInt32).toUInt32.toUInt16.toUInt32.toInt32))), (.int (nar .char (((((qe.toUInt64 >>> ((32 : Int32) &&& 0x3f).toInt64.toUInt64).toInt64) &&& (255 : Int64)).toInt32).toUInt32.toUInt16.toUInt32.toInt32))), (.int (nar .char (((((qe.toUInt64 >>> ((40 : Int32) &&& 0x3f).toInt64.toUInt64).toInt64) &&& (255 : Int64)).toInt32).toUInt32.toUInt16.toUInt32.toInt32))), (.int (nar .char (((((qe.toUInt64 >>> ((48 : Int32) &&& 0x3f).toInt64.toUInt64).toInt64) &&& (255 : Int64)).toInt32).toUInt32.toUInt16.toUInt32.toInt32))), (.int s0), (.int s0)] (.int (0 : Int32)) := Arv.set Ar7 q7 S7 N7 H7 G7 (fits_nar_char _) W7 8 rfl (Nat.le_of_ble_eq_true rfl)
  have N7 := Fr.snoc X7 N6 g_oa
  have KK7 : Keep h0 h7 [oa] := (KK6).wr W7 (Or.inl (List.mem_of_getElem? (i := 0) rfl))
  have Z7 : n0 ≤ h7.size := by rw [W7.size]; exact Z6
  show ownEnds _ _ _ _ (T7.setTop (mkF m 101 #[.val (.long qe), .second, .val (.ref oa), .val (.int (2 : Int32))] []))
  refine ownEnds.law (fun t k => XS.aloadN X7.here hx rfl (hb hby d1_101) rfl rfl (XS.iloadN X7.here hx rfl (hb hby d1_102) rfl (XS.bipush X7.here hx rfl (hb hby d1_103) (XS.iadd X7.here hx rfl (hb hby d1_105) rfl (XS.lloadN X7.here hx rfl (hb hby d1_106) rfl (XS.bipush X7.here hx rfl (hb hby d1_107) (XS.lushr X7.here hx rfl (hb hby d1_109) rfl (XS.l2i X7.here hx rfl (hb hby d1_110) rfl (XS.i2c X7.here hx rfl (hb hby d1_111) rfl k))))))))) ?_
  show ownEnds _ _ _ _ (T7.setTop (mkF m 112 #[.val (.long qe), .second, .val (.ref oa), .val (.int (2 : Int32))] [(.int ((((qe.toUInt64 >>> ((56 : Int32) &&& 0x3f).toInt64.toUInt64).toInt64).toInt32).toUInt32.toUInt16.toUInt32.toInt32)), (.int (9 : Int32)), (.ref oa)]))
  obtain ⟨cl8, Ar8, q8, S8, N8, H8, G8⟩ := id V7
  obtain ⟨T8, h8, X8, e8, W8, st8⟩ := stC X7 hx hZ e7 Ar8 (j := (9 : Int32)) (inb_of S8 ⟨by decide, by decide⟩) (g := (mkF m 112 #[.val (.long qe), .second, .val (.ref oa), .val (.int (2 : Int32))] [(.int ((((qe.toUInt64 >>> ((56 : Int32) &&& 0x3f).toInt64.toUInt64).toInt64).toInt32).toUInt32.toUInt16.toUInt32.toInt32)), (.int (9 : Int32)), (.ref oa)])) rfl rfl (hb hby d1_112)
  refine ownEnds.law st8 ?_
  have V8 : Arv Z h8 oa ka .char (11 : Int32) [(.int s0), (.int s0), (.int (nar .char (((qe &&& (255 : Int64)).toInt32).toUInt32.toUInt16.toUInt32.toInt32))), (.int (nar .char (((((qe.toUInt64 >>> ((8 : Int32) &&& 0x3f).toInt64.toUInt64).toInt64) &&& (255 : Int64)).toInt32).toUInt32.toUInt16.toUInt32.toInt32))), (.int (nar .char (((((qe.toUInt64 >>> ((16 : Int32) &&& 0x3f).toInt64.toUInt64).toInt64) &&& (255 : Int64)).toInt32).toUInt32.toUInt16.toUInt32.toInt32))), (.int (nar .char (((((qe.toUInt64 >>> ((24 : Int32) &&& 0x3f).toInt64.toUInt64).toInt64) &&& (255 : Int64)).toInt32).toUInt32.toUInt16.toUInt32.toInt32))), (.int (nar .char (((((qe.toUInt64 >>> ((32 : Int32) &&& 0x3f).toInt64.toUInt64).toInt64) &&& (255 : Int64)).toInt32).toUInt32.toUInt16.toUInt32.toInt32))), (.int (nar .char (((((qe.toUInt64 >>> ((40 : Int32) &&& 0x3f).toInt64.toUInt64).toInt64) &&& (255 : Int64)).toInt32).toUInt32.toUInt16.toUInt32.toInt32))), (.int (nar .char (((((qe.toUInt64 >>> ((48 : Int32) &&& 0x3f).toInt64.toUInt64).toInt64) &&& (255 : Int64)).toInt32).toUInt32.toUInt16.toUInt32.toInt32))), (.int (nar .char ((((qe.toUInt64 >>> ((56 : Int32) &&& 0x3f).toInt64.toUInt64).toInt64).toInt32).toUInt32.toUInt16.toUInt32.toInt32))), (.int s0)] (.int (0 : Int32)) := Arv.set Ar8 q8 S8 N8 H8 G8 (fits_nar_char _) W8 9 rfl (Nat.le_of_ble_eq_true rfl)
  have N8 := Fr.snoc X8 N7 g_oa
  have KK8 : Keep h0 h8 [oa] := (KK7).wr W8 (Or.inl (List.mem_of_getElem? (i := 0) rfl))
  have Z8 : n0 ≤ h8.size := by rw [W8.size]; exact Z7
  show ownEnds _ _ _ _ (T8.setTop (mkF m 113 #[.val (.long qe), .second, .val (.ref oa), .val (.int (2 : Int32))] []))
  refine ownRetV X8 hlk hx hret (hb hby d1_113) (by decide) (by decide) ?_
  rw [e8]
  exact ⟨rfl, N8, KK8, V8⟩
set_option maxRecDepth 65536 in
set_option maxHeartbeats 40000000 in
theorem rm1_3 (l : Launch) (Z : State) (a0 : Array Value) (hw : ∀ d ∈ tables_1, d.before a0 Z = true) (qe : Int64) (oa : Addr) (s0 : Int32) (ka : ClassId) (h0 : Heap) (n0 : Nat) (Z0 : n0 ≤ h0.size) (Va : Arv Z h0 oa ka .char (11 : Int32) [(.int s0), (.int s0), (.int s0), (.int s0), (.int s0), (.int s0), (.int s0), (.int s0), (.int s0), (.int s0), (.int s0)] (.int (0 : Int32))) (g_oa : n0 ≤ oa) :
    ownMet l Z (⟨"com/example/seven_bit_codecs/sevenbitcodecs/EightBytes", "writeAsChars", "(J[CI)V"⟩ : MethodName) prog_8_method_8_code 4 none [] ({ frames := 0, cells := 0, slots := 0, locals := 0 } : Room) #[(.long qe), (.ref oa), (.int (3 : Int32))] h0 (fun v h L => v = none ∧ Fr n0 L ∧ Keep h0 h [oa] ∧ Arv Z h oa ka .char (11 : Int32) [(.int s0), (.int s0), (.int s0), (.int (BC0 qe)), (.int (BC1 qe)), (.int (BC2 qe)), (.int (BC3 qe)), (.int (BC4 qe)), (.int (BC5 qe)), (.int (BC6 qe)), (.int (BC7 qe))] (.int (0 : Int32))) := by
  refine ownMet.of (plainFor_of_name pn_1) ?_
  intro p e s m below meth c T0 hx hby hml hZ hown hnm hret hlk X0 e0
  refine ownEnds.cast (ef_rm1_3 m qe oa) ?_
  show ownEnds _ _ _ _ (T0.setTop (mkF m 0 #[.val (.long qe), .second, .val (.ref oa), .val (.int (3 : Int32))] []))
  refine ownEnds.law (fun t k => XS.aloadN X0.here hx rfl (hb hby d1_0) rfl rfl (XS.iloadN X0.here hx rfl (hb hby d1_1) rfl (XS.lloadN X0.here hx rfl (hb hby d1_2) rfl (X0.ldc2Long hx hown (mvT hZ (wd_6 hw)) (g := (mkF m 3 #[.val (.long qe), .second, .val (.ref oa), .val (.int (3 : Int32))] [(.long qe), (.int (3 : Int32)), (.ref oa)])) rfl (hb hby d1_3) _ (XS.land X0.here hx rfl (hb hby d1_6) rfl (XS.l2i X0.here hx rfl (hb hby d1_7) rfl (XS.i2c X0.here hx rfl (hb hby d1_8) rfl k))))))) ?_
  show ownEnds _ _ _ _ (T0.setTop (mkF m 9 #[.val (.long qe), .second, .val (.ref oa), .val (.int (3 : Int32))] [(.int (((qe &&& (255 : Int64)).toInt32).toUInt32.toUInt16.toUInt32.toInt32)), (.int (3 : Int32)), (.ref oa)]))
  obtain ⟨cl1, Ar1, q1, S1, N1, H1, G1⟩ := id Va
  obtain ⟨T1, h1, X1, e1, W1, st1⟩ := stC X0 hx hZ e0 Ar1 (j := (3 : Int32)) (inb_of S1 ⟨by decide, by decide⟩) (g := (mkF m 9 #[.val (.long qe), .second, .val (.ref oa), .val (.int (3 : Int32))] [(.int (((qe &&& (255 : Int64)).toInt32).toUInt32.toUInt16.toUInt32.toInt32)), (.int (3 : Int32)), (.ref oa)])) rfl rfl (hb hby d1_9)
  refine ownEnds.law st1 ?_
  have V1 : Arv Z h1 oa ka .char (11 : Int32) [(.int s0), (.int s0), (.int s0), (.int (nar .char (((qe &&& (255 : Int64)).toInt32).toUInt32.toUInt16.toUInt32.toInt32))), (.int s0), (.int s0), (.int s0), (.int s0), (.int s0), (.int s0), (.int s0)] (.int (0 : Int32)) := Arv.set Ar1 q1 S1 N1 H1 G1 (fits_nar_char _) W1 3 rfl (Nat.le_of_ble_eq_true rfl)
  have N1 := Fr.snoc X1 (Fr.nil n0) g_oa
  have KK1 : Keep h0 h1 [oa] := (Keep.refl h0 [oa]).wr W1 (Or.inl (List.mem_of_getElem? (i := 0) rfl))
  have Z1 : n0 ≤ h1.size := by rw [W1.size]; exact Z0
  show ownEnds _ _ _ _ (T1.setTop (mkF m 10 #[.val (.long qe), .second, .val (.ref oa), .val (.int (3 : Int32))] []))
  refine ownEnds.law (fun t k => XS.aloadN X1.here hx rfl (hb hby d1_10) rfl rfl (XS.iloadN X1.here hx rfl (hb hby d1_11) rfl (XS.iconst X1.here hx rfl (hb hby d1_12) (XS.iadd X1.here hx rfl (hb hby d1_13) rfl (XS.lloadN X1.here hx rfl (hb hby d1_14) rfl (XS.bipush X1.here hx rfl (hb hby d1_15) (XS.lushr X1.here hx rfl (hb hby d1_17) rfl (X1.ldc2Long hx hown (mvT hZ (wd_6 hw)) (g := (mkF m 18 #[.val (.long qe), .second, .val (.ref oa), .val (.int (3 : Int32))] [(.long ((qe.toUInt64 >>> ((8 : Int32) &&& 0x3f).toInt64.toUInt64).toInt64)), (.int (4 : Int32)), (.ref oa)])) rfl (hb hby d1_18) _ (XS.land X1.here hx rfl (hb hby d1_21) rfl (XS.l2i X1.here hx rfl (hb hby d1_22) rfl k)))))))))) ?_
  show ownEnds _ _ _ _ (T1.setTop (mkF m 23 #[.val (.long qe), .second, .val (.ref oa), .val (.int (3 : Int32))] [(.int ((((qe.toUInt64 >>> ((8 : Int32) &&& 0x3f).toInt64.toUInt64).toInt64) &&& (255 : Int64)).toInt32)), (.int (4 : Int32)), (.ref oa)]))
  refine ownEnds.law (fun t k => XS.i2c X1.here hx rfl (hb hby d1_23) rfl k) ?_
  show ownEnds _ _ _ _ (T1.setTop (mkF m 24 #[.val (.long qe), .second, .val (.ref oa), .val (.int (3 : Int32))] [(.int (((((qe.toUInt64 >>> ((8 : Int32) &&& 0x3f).toInt64.toUInt64).toInt64) &&& (255 : Int64)).toInt32).toUInt32.toUInt16.toUInt32.toInt32)), (.int (4 : Int32)), (.ref oa)]))
  obtain ⟨cl2, Ar2, q2, S2, N2, H2, G2⟩ := id V1
  obtain ⟨T2, h2, X2, e2, W2, st2⟩ := stC X1 hx hZ e1 Ar2 (j := (4 : Int32)) (inb_of S2 ⟨by decide, by decide⟩) (g := (mkF m 24 #[.val (.long qe), .second, .val (.ref oa), .val (.int (3 : Int32))] [(.int (((((qe.toUInt64 >>> ((8 : Int32) &&& 0x3f).toInt64.toUInt64).toInt64) &&& (255 : Int64)).toInt32).toUInt32.toUInt16.toUInt32.toInt32)), (.int (4 : Int32)), (.ref oa)])) rfl rfl (hb hby d1_24)
  refine ownEnds.law st2 ?_
  have V2 : Arv Z h2 oa ka .char (11 : Int32) [(.int s0), (.int s0), (.int s0), (.int (nar .char (((qe &&& (255 : Int64)).toInt32).toUInt32.toUInt16.toUInt32.toInt32))), (.int (nar .char (((((qe.toUInt64 >>> ((8 : Int32) &&& 0x3f).toInt64.toUInt64).toInt64) &&& (255 : Int64)).toInt32).toUInt32.toUInt16.toUInt32.toInt32))), (.int s0), (.int s0), (.int s0), (.int s0), (.int s0), (.int s0)] (.int (0 : Int32)) := Arv.set Ar2 q2 S2 N2 H2 G2 (fits_nar_char _) W2 4 rfl (Nat.le_of_ble_eq_true rfl)
  have N2 := Fr.snoc X2 N1 g_oa
  have KK2 : Keep h0 h2 [oa] := (KK1).wr W2 (Or.inl (List.mem_of_getElem? (i := 0) rfl))
  have Z2 : n0 ≤ h2.size := by rw [W2.size]; exact Z1
  show ownEnds _ _ _ _ (T2.setTop (mkF m 25 #[.val (.long qe), .second, .val (.ref oa), .val (.int (3 : Int32))] []))
  refine ownEnds.law (fun t k => XS.aloadN X2.here hx rfl (hb hby d1_25) rfl rfl (XS.iloadN X2.here hx rfl (hb hby d1_26) rfl (XS.iconst X2.here hx rfl (hb hby d1_27) (XS.iadd X2.here hx rfl (hb hby d1_28) rfl (XS.lloadN X2.here hx rfl (hb hby d1_29) rfl (XS.bipush X2.here hx rfl (hb hby d1_30) (XS.lushr X2.here hx rfl (hb hby d1_32) rfl (X2.ldc2Long hx hown (mvT hZ (wd_6 hw)) (g := (mkF m 33 #[.val (.long qe), .second, .val (.ref oa), .val (.int (3 : Int32))] [(.long ((qe.toUInt64 >>> ((16 : Int32) &&& 0x3f).toInt64.toUInt64).toInt64)), (.int (5 : Int32)), (.ref oa)])) rfl (hb hby d1_33) _ (XS.land X2.here hx rfl (hb hby d1_36) rfl (XS.l2i X2.here hx rfl (hb hby d1_37) rfl k)))))))))) ?_
  show ownEnds _ _ _ _ (T2.setTop (mkF m 38 #[.val (.long qe), .second, .val (.ref oa), .val (.int (3 : Int32))] [(.int ((((qe.toUInt64 >>> ((16 : Int32) &&& 0x3f).toInt64.toUInt64).toInt64) &&& (255 : Int64)).toInt32)), (.int (5 : Int32)), (.ref oa)]))
  refine ownEnds.law (fun t k => XS.i2c X2.here hx rfl (hb hby d1_38) rfl k) ?_
  show ownEnds _ _ _ _ (T2.setTop (mkF m 39 #[.val (.long qe), .second, .val (.ref oa), .val (.int (3 : Int32))] [(.int (((((qe.toUInt64 >>> ((16 : Int32) &&& 0x3f).toInt64.toUInt64).toInt64) &&& (255 : Int64)).toInt32).toUInt32.toUInt16.toUInt32.toInt32)), (.int (5 : Int32)), (.ref oa)]))
  obtain ⟨cl3, Ar3, q3, S3, N3, H3, G3⟩ := id V2
  obtain ⟨T3, h3, X3, e3, W3, st3⟩ := stC X2 hx hZ e2 Ar3 (j := (5 : Int32)) (inb_of S3 ⟨by decide, by decide⟩) (g := (mkF m 39 #[.val (.long qe), .second, .val (.ref oa), .val (.int (3 : Int32))] [(.int (((((qe.toUInt64 >>> ((16 : Int32) &&& 0x3f).toInt64.toUInt64).toInt64) &&& (255 : Int64)).toInt32).toUInt32.toUInt16.toUInt32.toInt32)), (.int (5 : Int32)), (.ref oa)])) rfl rfl (hb hby d1_39)
  refine ownEnds.law st3 ?_
  have V3 : Arv Z h3 oa ka .char (11 : Int32) [(.int s0), (.int s0), (.int s0), (.int (nar .char (((qe &&& (255 : Int64)).toInt32).toUInt32.toUInt16.toUInt32.toInt32))), (.int (nar .char (((((qe.toUInt64 >>> ((8 : Int32) &&& 0x3f).toInt64.toUInt64).toInt64) &&& (255 : Int64)).toInt32).toUInt32.toUInt16.toUInt32.toInt32))), (.int (nar .char (((((qe.toUInt64 >>> ((16 : Int32) &&& 0x3f).toInt64.toUInt64).toInt64) &&& (255 : Int64)).toInt32).toUInt32.toUInt16.toUInt32.toInt32))), (.int s0), (.int s0), (.int s0), (.int s0), (.int s0)] (.int (0 : Int32)) := Arv.set Ar3 q3 S3 N3 H3 G3 (fits_nar_char _) W3 5 rfl (Nat.le_of_ble_eq_true rfl)
  have N3 := Fr.snoc X3 N2 g_oa
  have KK3 : Keep h0 h3 [oa] := (KK2).wr W3 (Or.inl (List.mem_of_getElem? (i := 0) rfl))
  have Z3 : n0 ≤ h3.size := by rw [W3.size]; exact Z2
  show ownEnds _ _ _ _ (T3.setTop (mkF m 40 #[.val (.long qe), .second, .val (.ref oa), .val (.int (3 : Int32))] []))
  refine ownEnds.law (fun t k => XS.aloadN X3.here hx rfl (hb hby d1_40) rfl rfl (XS.iloadN X3.here hx rfl (hb hby d1_41) rfl (XS.iconst X3.here hx rfl (hb hby d1_42) (XS.iadd X3.here hx rfl (hb hby d1_43) rfl (XS.lloadN X3.here hx rfl (hb hby d1_44) rfl (XS.bipush X3.here hx rfl (hb hby d1_45) (XS.lushr X3.here hx rfl (hb hby d1_47) rfl (X3.ldc2Long hx hown (mvT hZ (wd_6 hw)) (g := (mkF m 48 #[.val (.long qe), .second, .val (.ref oa), .val (.int (3 : Int32))] [(.long ((qe.toUInt64 >>> ((24 : Int32) &&& 0x3f).toInt64.toUInt64).toInt64)), (.int (6 : Int32)), (.ref oa)])) rfl (hb hby d1_48) _ (XS.land X3.here hx rfl (hb hby d1_51) rfl (XS.l2i X3.here hx rfl (hb hby d1_52) rfl k)))))))))) ?_
  show ownEnds _ _ _ _ (T3.setTop (mkF m 53 #[.val (.long qe), .second, .val (.ref oa), .val (.int (3 : Int32))] [(.int ((((qe.toUInt64 >>> ((24 : Int32) &&& 0x3f).toInt64.toUInt64).toInt64) &&& (255 : Int64)).toInt32)), (.int (6 : Int32)), (.ref oa)]))
  refine ownEnds.law (fun t k => XS.i2c X3.here hx rfl (hb hby d1_53) rfl k) ?_
  show ownEnds _ _ _ _ (T3.setTop (mkF m 54 #[.val (.long qe), .second, .val (.ref oa), .val (.int (3 : Int32))] [(.int (((((qe.toUInt64 >>> ((24 : Int32) &&& 0x3f).toInt64.toUInt64).toInt64) &&& (255 : Int64)).toInt32).toUInt32.toUInt16.toUInt32.toInt32)), (.int (6 : Int32)), (.ref oa)]))
  obtain ⟨cl4, Ar4, q4, S4, N4, H4, G4⟩ := id V3
  obtain ⟨T4, h4, X4, e4, W4, st4⟩ := stC X3 hx hZ e3 Ar4 (j := (6 : Int32)) (inb_of S4 ⟨by decide, by decide⟩) (g := (mkF m 54 #[.val (.long qe), .second, .val (.ref oa), .val (.int (3 : Int32))] [(.int (((((qe.toUInt64 >>> ((24 : Int32) &&& 0x3f).toInt64.toUInt64).toInt64) &&& (255 : Int64)).toInt32).toUInt32.toUInt16.toUInt32.toInt32)), (.int (6 : Int32)), (.ref oa)])) rfl rfl (hb hby d1_54)
  refine ownEnds.law st4 ?_
  have V4 : Arv Z h4 oa ka .char (11 : Int32) [(.int s0), (.int s0), (.int s0), (.int (nar .char (((qe &&& (255 : Int64)).toInt32).toUInt32.toUInt16.toUInt32.toInt32))), (.int (nar .char (((((qe.toUInt64 >>> ((8 : Int32) &&& 0x3f).toInt64.toUInt64).toInt64) &&& (255 : Int64)).toInt32).toUInt32.toUInt16.toUInt32.toInt32))), (.int (nar .char (((((qe.toUInt64 >>> ((16 : Int32) &&& 0x3f).toInt64.toUInt64).toInt64) &&& (255 : Int64)).toInt32).toUInt32.toUInt16.toUInt32.toInt32))), (.int (nar .char (((((qe.toUInt64 >>> ((24 : Int32) &&& 0x3f).toInt64.toUInt64).toInt64) &&& (255 : Int64)).toInt32).toUInt32.toUInt16.toUInt32.toInt32))), (.int s0), (.int s0), (.int s0), (.int s0)] (.int (0 : Int32)) := Arv.set Ar4 q4 S4 N4 H4 G4 (fits_nar_char _) W4 6 rfl (Nat.le_of_ble_eq_true rfl)
  have N4 := Fr.snoc X4 N3 g_oa
  have KK4 : Keep h0 h4 [oa] := (KK3).wr W4 (Or.inl (List.mem_of_getElem? (i := 0) rfl))
  have Z4 : n0 ≤ h4.size := by rw [W4.size]; exact Z3
  show ownEnds _ _ _ _ (T4.setTop (mkF m 55 #[.val (.long qe), .second, .val (.ref oa), .val (.int (3 : Int32))] []))
  refine ownEnds.law (fun t k => XS.aloadN X4.here hx rfl (hb hby d1_55) rfl rfl (XS.iloadN X4.here hx rfl (hb hby d1_56) rfl (XS.iconst X4.here hx rfl (hb hby d1_57) (XS.iadd X4.here hx rfl (hb hby d1_58) rfl (XS.lloadN X4.here hx rfl (hb hby d1_59) rfl (XS.bipush X4.here hx rfl (hb hby d1_60) (XS.lushr X4.here hx rfl (hb hby d1_62) rfl (X4.ldc2Long hx hown (mvT hZ (wd_6 hw)) (g := (mkF m 63 #[.val (.long qe), .second, .val (.ref oa), .val (.int (3 : Int32))] [(.long ((qe.toUInt64 >>> ((32 : Int32) &&& 0x3f).toInt64.toUInt64).toInt64)), (.int (7 : Int32)), (.ref oa)])) rfl (hb hby d1_63) _ (XS.land X4.here hx rfl (hb hby d1_66) rfl (XS.l2i X4.here hx rfl (hb hby d1_67) rfl k)))))))))) ?_
  show ownEnds _ _ _ _ (T4.setTop (mkF m 68 #[.val (.long qe), .second, .val (.ref oa), .val (.int (3 : Int32))] [(.int ((((qe.toUInt64 >>> ((32 : Int32) &&& 0x3f).toInt64.toUInt64).toInt64) &&& (255 : Int64)).toInt32)), (.int (7 : Int32)), (.ref oa)]))
  refine ownEnds.law (fun t k => XS.i2c X4.here hx rfl (hb hby d1_68) rfl k) ?_
  show ownEnds _ _ _ _ (T4.setTop (mkF m 69 #[.val (.long qe), .second, .val (.ref oa), .val (.int (3 : Int32))] [(.int (((((qe.toUInt64 >>> ((32 : Int32) &&& 0x3f).toInt64.toUInt64).toInt64) &&& (255 : Int64)).toInt32).toUInt32.toUInt16.toUInt32.toInt32)), (.int (7 : Int32)), (.ref oa)]))
  obtain ⟨cl5, Ar5, q5, S5, N5, H5, G5⟩ := id V4
  obtain ⟨T5, h5, X5, e5, W5, st5⟩ := stC X4 hx hZ e4 Ar5 (j := (7 : Int32)) (inb_of S5 ⟨by decide, by decide⟩) (g := (mkF m 69 #[.val (.long qe), .second, .val (.ref oa), .val (.int (3 : Int32))] [(.int (((((qe.toUInt64 >>> ((32 : Int32) &&& 0x3f).toInt64.toUInt64).toInt64) &&& (255 : Int64)).toInt32).toUInt32.toUInt16.toUInt32.toInt32)), (.int (7 : Int32)), (.ref oa)])) rfl rfl (hb hby d1_69)
  refine ownEnds.law st5 ?_
  have V5 : Arv Z h5 oa ka .char (11 : Int32) [(.int s0), (.int s0), (.int s0), (.int (nar .char (((qe &&& (255 : Int64)).toInt32).toUInt32.toUInt16.toUInt32.toInt32))), (.int (nar .char (((((qe.toUInt64 >>> ((8 : Int32) &&& 0x3f).toInt64.toUInt64).toInt64) &&& (255 : Int64)).toInt32).toUInt32.toUInt16.toUInt32.toInt32))), (.int (nar .char (((((qe.toUInt64 >>> ((16 : Int32) &&& 0x3f).toInt64.toUInt64).toInt64) &&& (255 : Int64)).toInt32).toUInt32.toUInt16.toUInt32.toInt32))), (.int (nar .char (((((qe.toUInt64 >>> ((24 : Int32) &&& 0x3f).toInt64.toUInt64).toInt64) &&& (255 : Int64)).toInt32).toUInt32.toUInt16.toUInt32.toInt32))), (.int (nar .char (((((qe.toUInt64 >>> ((32 : Int32) &&& 0x3f).toInt64.toUInt64).toInt64) &&& (255 : Int64)).toInt32).toUInt32.toUInt16.toUInt32.toInt32))), (.int s0), (.int s0), (.int s0)] (.int (0 : Int32)) := Arv.set Ar5 q5 S5 N5 H5 G5 (fits_nar_char _) W5 7 rfl (Nat.le_of_ble_eq_true rfl)
  have N5 := Fr.snoc X5 N4 g_oa
  have KK5 : Keep h0 h5 [oa] := (KK4).wr W5 (Or.inl (List.mem_of_getElem? (i := 0) rfl))
  have Z5 : n0 ≤ h5.size := by rw [W5.size]; exact Z4
  show ownEnds _ _ _ _ (T5.setTop (mkF m 70 #[.val (.long qe), .second, .val (.ref oa), .val (.int (3 : Int32))] []))
  refine ownEnds.law (fun t k => XS.aloadN X5.here hx rfl (hb hby d1_70) rfl rfl (XS.iloadN X5.here hx rfl (hb hby d1_71) rfl (XS.iconst X5.here hx rfl (hb hby d1_72) (XS.iadd X5.here hx rfl (hb hby d1_73) rfl (XS.lloadN X5.here hx rfl (hb hby d1_74) rfl (XS.bipush X5.here hx rfl (hb hby d1_75) (XS.lushr X5.here hx rfl (hb hby d1_77) rfl (X5.ldc2Long hx hown (mvT hZ (wd_6 hw)) (g := (mkF m 78 #[.val (.long qe), .second, .val (.ref oa), .val (.int (3 : Int32))] [(.long ((qe.toUInt64 >>> ((40 : Int32) &&& 0x3f).toInt64.toUInt64).toInt64)), (.int (8 : Int32)), (.ref oa)])) rfl (hb hby d1_78) _ (XS.land X5.here hx rfl (hb hby d1_81) rfl (XS.l2i X5.here hx rfl (hb hby d1_82) rfl k)))))))))) ?_
  show ownEnds _ _ _ _ (T5.setTop (mkF m 83 #[.val (.long qe), .second, .val (.ref oa), .val (.int (3 : Int32))] [(.int ((((qe.toUInt64 >>> ((40 : Int32) &&& 0x3f).toInt64.toUInt64).toInt64) &&& (255 : Int64)).toInt32)), (.int (8 : Int32)), (.ref oa)]))
  refine ownEnds.law (fun t k => XS.i2c X5.here hx rfl (hb hby d1_83) rfl k) ?_
  show ownEnds _ _ _ _ (T5.setTop (mkF m 84 #[.val (.long qe), .second, .val (.ref oa), .val (.int (3 : Int32))] [(.int (((((qe.toUInt64 >>> ((40 : Int32) &&& 0x3f).toInt64.toUInt64).toInt64) &&& (255 : Int64)).toInt32).toUInt32.toUInt16.toUInt32.toInt32)), (.int (8 : Int32)), (.ref oa)]))
  obtain ⟨cl6, Ar6, q6, S6, N6, H6, G6⟩ := id V5
  obtain ⟨T6, h6, X6, e6, W6, st6⟩ := stC X5 hx hZ e5 Ar6 (j := (8 : Int32)) (inb_of S6 ⟨by decide, by decide⟩) (g := (mkF m 84 #[.val (.long qe), .second, .val (.ref oa), .val (.int (3 : Int32))] [(.int (((((qe.toUInt64 >>> ((40 : Int32) &&& 0x3f).toInt64.toUInt64).toInt64) &&& (255 : Int64)).toInt32).toUInt32.toUInt16.toUInt32.toInt32)), (.int (8 : Int32)), (.ref oa)])) rfl rfl (hb hby d1_84)
  refine ownEnds.law st6 ?_
  have V6 : Arv Z h6 oa ka .char (11 : Int32) [(.int s0), (.int s0), (.int s0), (.int (nar .char (((qe &&& (255 : Int64)).toInt32).toUInt32.toUInt16.toUInt32.toInt32))), (.int (nar .char (((((qe.toUInt64 >>> ((8 : Int32) &&& 0x3f).toInt64.toUInt64).toInt64) &&& (255 : Int64)).toInt32).toUInt32.toUInt16.toUInt32.toInt32))), (.int (nar .char (((((qe.toUInt64 >>> ((16 : Int32) &&& 0x3f).toInt64.toUInt64).toInt64) &&& (255 : Int64)).toInt32).toUInt32.toUInt16.toUInt32.toInt32))), (.int (nar .char (((((qe.toUInt64 >>> ((24 : Int32) &&& 0x3f).toInt64.toUInt64).toInt64) &&& (255 : Int64)).toInt32).toUInt32.toUInt16.toUInt32.toInt32))), (.int (nar .char (((((qe.toUInt64 >>> ((32 : Int32) &&& 0x3f).toInt64.toUInt64).toInt64) &&& (255 : Int64)).toInt32).toUInt32.toUInt16.toUInt32.toInt32))), (.int (nar .char (((((qe.toUInt64 >>> ((40 : Int32) &&& 0x3f).toInt64.toUInt64).toInt64) &&& (255 : Int64)).toInt32).toUInt32.toUInt16.toUInt32.toInt32))), (.int s0), (.int s0)] (.int (0 : Int32)) := Arv.set Ar6 q6 S6 N6 H6 G6 (fits_nar_char _) W6 8 rfl (Nat.le_of_ble_eq_true rfl)
  have N6 := Fr.snoc X6 N5 g_oa
  have KK6 : Keep h0 h6 [oa] := (KK5).wr W6 (Or.inl (List.mem_of_getElem? (i := 0) rfl))
  have Z6 : n0 ≤ h6.size := by rw [W6.size]; exact Z5
  show ownEnds _ _ _ _ (T6.setTop (mkF m 85 #[.val (.long qe), .second, .val (.ref oa), .val (.int (3 : Int32))] []))
  refine ownEnds.law (fun t k => XS.aloadN X6.here hx rfl (hb hby d1_85) rfl rfl (XS.iloadN X6.here hx rfl (hb hby d1_86) rfl (XS.bipush X6.here hx rfl (hb hby d1_87) (XS.iadd X6.here hx rfl (hb hby d1_89) rfl (XS.lloadN X6.here hx rfl (hb hby d1_90) rfl (XS.bipush X6.here hx rfl (hb hby d1_91) (XS.lushr X6.here hx rfl (hb hby d1_93) rfl (X6.ldc2Long hx hown (mvT hZ (wd_6 hw)) (g := (mkF m 94 #[.val (.long qe), .second, .val (.ref oa), .val (.int (3 : Int32))] [(.long ((qe.toUInt64 >>> ((48 : Int32) &&& 0x3f).toInt64.toUInt64).toInt64)), (.int (9 : Int32)), (.ref oa)])) rfl (hb hby d1_94) _ (XS.land X6.here hx rfl (hb hby d1_97) rfl (XS.l2i X6.here hx rfl (hb hby d1_98) rfl k)))))))))) ?_
  show ownEnds _ _ _ _ (T6.setTop (mkF m 99 #[.val (.long qe), .second, .val (.ref oa), .val (.int (3 : Int32))] [(.int ((((qe.toUInt64 >>> ((48 : Int32) &&& 0x3f).toInt64.toUInt64).toInt64) &&& (255 : Int64)).toInt32)), (.int (9 : Int32)), (.ref oa)]))
  refine ownEnds.law (fun t k => XS.i2c X6.here hx rfl (hb hby d1_99) rfl k) ?_
  show ownEnds _ _ _ _ (T6.setTop (mkF m 100 #[.val (.long qe), .second, .val (.ref oa), .val (.int (3 : Int32))] [(.int (((((qe.toUInt64 >>> ((48 : Int32) &&& 0x3f).toInt64.toUInt64).toInt64) &&& (255 : Int64)).toInt32).toUInt32.toUInt16.toUInt32.toInt32)), (.int (9 : Int32)), (.ref oa)]))
  obtain ⟨cl7, Ar7, q7, S7, N7, H7, G7⟩ := id V6
  obtain ⟨T7, h7, X7, e7, W7, st7⟩ := stC X6 hx hZ e6 Ar7 (j := (9 : Int32)) (inb_of S7 ⟨by decide, by decide⟩) (g := (mkF m 100 #[.val (.long qe), .second, .val (.ref oa), .val (.int (3 : Int32))] [(.int (((((qe.toUInt64 >>> ((48 : Int32) &&& 0x3f).toInt64.toUInt64).toInt64) &&& (255 : Int64)).toInt32).toUInt32.toUInt16.toUInt32.toInt32)), (.int (9 : Int32)), (.ref oa)])) rfl rfl (hb hby d1_100)
  refine ownEnds.law st7 ?_
  have V7 : Arv Z h7 oa ka .char (11 : Int32) [(.int s0), (.int s0), (.int s0), (.int (nar .char (((qe &&& (255 : Int64)).toInt32).toUInt32.toUInt16.toUInt32.toInt32))), (.int (nar .char (((((qe.toUInt64 >>> ((8 : Int32) &&& 0x3f).toInt64.toUInt64).toInt64) &&& (255 : Int64)).toInt32).toUInt32.toUInt16.toUInt32.toInt32))), (.int (nar .char (((((qe.toUInt64 >>> ((16 : Int32) &&& 0x3f).toInt64.toUInt64).toInt64) &&& (255 : Int64)).toInt32).toUInt32.toUInt16.toUInt32.toInt32))), (.int (nar .char (((((qe.toUInt64 >>> ((24 : Int32) &&& 0x3f).toInt64.toUInt64).toInt64) &&& (255 : Int64)).toInt32).toUInt32.toUInt16.toUInt32.toInt32))), (.int (nar .char (((((qe.toUInt64 >>> ((32 : Int32) &&& 0x3f).toInt64.toUInt64).toInt64) &&& (255 : Int64)).toInt32).toUInt32.toUInt16.toUInt32.toInt32))), (.int (nar .char (((((qe.toUInt64 >>> ((40 : Int32) &&& 0x3f).toInt64.toUInt64).toInt64) &&& (255 : Int64)).toInt32).toUInt32.toUInt16.toUInt32.toInt32))), (.int (nar .char (((((qe.toUInt64 >>> ((48 : Int32) &&& 0x3f).toInt64.toUInt64).toInt64) &&& (255 : Int64)).toInt32).toUInt32.toUInt16.toUInt32.toInt32))), (.int s0)] (.int (0 : Int32)) := Arv.set Ar7 q7 S7 N7 H7 G7 (fits_nar_char _) W7 9 rfl (Nat.le_of_ble_eq_true rfl)
  have N7 := Fr.snoc X7 N6 g_oa
  have KK7 : Keep h0 h7 [oa] := (KK6).wr W7 (Or.inl (List.mem_of_getElem? (i := 0) rfl))
  have Z7 : n0 ≤ h7.size := by rw [W7.size]; exact Z6
  show ownEnds _ _ _ _ (T7.setTop (mkF m 101 #[.val (.long qe), .second, .val (.ref oa), .val (.int (3 : Int32))] []))
  refine ownEnds.law (fun t k => XS.aloadN X7.here hx rfl (hb hby d1_101) rfl rfl (XS.iloadN X7.here hx rfl (hb hby d1_102) rfl (XS.bipush X7.here hx rfl (hb hby d1_103) (XS.iadd X7.here hx rfl (hb hby d1_105) rfl (XS.lloadN X7.here hx rfl (hb hby d1_106) rfl (XS.bipush X7.here hx rfl (hb hby d1_107) (XS.lushr X7.here hx rfl (hb hby d1_109) rfl (XS.l2i X7.here hx rfl (hb hby d1_110) rfl (XS.i2c X7.here hx rfl (hb hby d1_111) rfl k))))))))) ?_
  show ownEnds _ _ _ _ (T7.setTop (mkF m 112 #[.val (.long qe), .second, .val (.ref oa), .val (.int (3 : Int32))] [(.int ((((qe.toUInt64 >>> ((56 : Int32) &&& 0x3f).toInt64.toUInt64).toInt64).toInt32).toUInt32.toUInt16.toUInt32.toInt32)), (.int (10 : Int32)), (.ref oa)]))
  obtain ⟨cl8, Ar8, q8, S8, N8, H8, G8⟩ := id V7
  obtain ⟨T8, h8, X8, e8, W8, st8⟩ := stC X7 hx hZ e7 Ar8 (j := (10 : Int32)) (inb_of S8 ⟨by decide, by decide⟩) (g := (mkF m 112 #[.val (.long qe), .second, .val (.ref oa), .val (.int (3 : Int32))] [(.int ((((qe.toUInt64 >>> ((56 : Int32) &&& 0x3f).toInt64.toUInt64).toInt64).toInt32).toUInt32.toUInt16.toUInt32.toInt32)), (.int (10 : Int32)), (.ref oa)])) rfl rfl (hb hby d1_112)
  refine ownEnds.law st8 ?_
  have V8 : Arv Z h8 oa ka .char (11 : Int32) [(.int s0), (.int s0), (.int s0), (.int (nar .char (((qe &&& (255 : Int64)).toInt32).toUInt32.toUInt16.toUInt32.toInt32))), (.int (nar .char (((((qe.toUInt64 >>> ((8 : Int32) &&& 0x3f).toInt64.toUInt64).toInt64) &&& (255 : Int64)).toInt32).toUInt32.toUInt16.toUInt32.toInt32))), (.int (nar .char (((((qe.toUInt64 >>> ((16 : Int32) &&& 0x3f).toInt64.toUInt64).toInt64) &&& (255 : Int64)).toInt32).toUInt32.toUInt16.toUInt32.toInt32))), (.int (nar .char (((((qe.toUInt64 >>> ((24 : Int32) &&& 0x3f).toInt64.toUInt64).toInt64) &&& (255 : Int64)).toInt32).toUInt32.toUInt16.toUInt32.toInt32))), (.int (nar .char (((((qe.toUInt64 >>> ((32 : Int32) &&& 0x3f).toInt64.toUInt64).toInt64) &&& (255 : Int64)).toInt32).toUInt32.toUInt16.toUInt32.toInt32))), (.int (nar .char (((((qe.toUInt64 >>> ((40 : Int32) &&& 0x3f).toInt64.toUInt64).toInt64) &&& (255 : Int64)).toInt32).toUInt32.toUInt16.toUInt32.toInt32))), (.int (nar .char (((((qe.toUInt64 >>> ((48 : Int32) &&& 0x3f).toInt64.toUInt64).toInt64) &&& (255 : Int64)).toInt32).toUInt32.toUInt16.toUInt32.toInt32))), (.int (nar .char ((((qe.toUInt64 >>> ((56 : Int32) &&& 0x3f).toInt64.toUInt64).toInt64).toInt32).toUInt32.toUInt16.toUInt32.toInt32)))] (.int (0 : Int32)) := Arv.set Ar8 q8 S8 N8 H8 G8 (fits_nar_char _) W8 10 rfl (Nat.le_of_ble_eq_true rfl)
  have N8 := Fr.snoc X8 N7 g_oa
  have KK8 : Keep h0 h8 [oa] := (KK7).wr W8 (Or.inl (List.mem_of_getElem? (i := 0) rfl))
  have Z8 : n0 ≤ h8.size := by rw [W8.size]; exact Z7
  show ownEnds _ _ _ _ (T8.setTop (mkF m 113 #[.val (.long qe), .second, .val (.ref oa), .val (.int (3 : Int32))] []))
  refine ownRetV X8 hlk hx hret (hb hby d1_113) (by decide) (by decide) ?_
  rw [e8]
  exact ⟨rfl, N8, KK8, V8⟩
set_option maxRecDepth 65536 in
set_option maxHeartbeats 40000000 in
theorem rm2 (l : Launch) (Z : State) (a0 : Array Value) (hw : ∀ d ∈ tables_1, d.before a0 Z = true) (oa : Addr) (xi : Int32) (xat : Int32) (s0 : Int32) (ka : ClassId) (vs : List Value) (h0 : Heap) (n0 : Nat) (Z0 : n0 ≤ h0.size) (Va : Arv Z h0 oa ka .char (11 : Int32) vs (.int (0 : Int32))) (hin : ¬ xi < 0 ∧ xi < 11) (hk : (xi < xat ∨ ¬ xi < xat + 8) → vs.getD xi.toNatClampNeg (.int (0 : Int32)) = .int s0) :
    ownMet l Z (⟨"com/example/seven_bit_codecs/sevenbitcodecs/EightBytesWriteAsCharsPinLaw", "keeps", "([CIIC)Z"⟩ : MethodName) method_3_code 4 (some .boolean) [] ({ frames := 0, cells := 0, slots := 0, locals := 0 } : Room) #[(.ref oa), (.int xi), (.int xat), (.int s0)] h0 (fun v h L => v = some (.int 1) ∧ L = [] ∧ h = h0) := by
  refine ownMet.of (plainFor_of_name pn_2) ?_
  intro p e s m below meth c T0 hx hby hml hZ hown hnm hret hlk X0 e0
  refine ownEnds.cast (ef_rm2 m oa xi xat s0) ?_
  show ownEnds _ _ _ _ (T0.setTop (mkF m 0 #[.val (.ref oa), .val (.int xi), .val (.int xat), .val (.int s0)] []))
  refine ownEnds.law (fun t k => XS.iloadN X0.here hx rfl (hb hby d2_0) rfl (XS.iloadN X0.here hx rfl (hb hby d2_1) rfl k)) ?_
  show ownEnds _ _ _ _ (T0.setTop (mkF m 2 #[.val (.ref oa), .val (.int xi), .val (.int xat), .val (.int s0)] [(.int xat), (.int xi)]))
  by_cases hc2 : xi < xat
  · refine ownEnds.law (fun t => XS.icmpYes X0.here hx rfl (pc0 := 2) (pc' := 13) rfl (hb hby d2_2) rfl (tlt hc2).1 (by decide) (by decide)) ?_
    show ownEnds _ _ _ _ (T0.setTop (mkF m 13 #[.val (.ref oa), .val (.int xi), .val (.int xat), .val (.int s0)] []))
    refine ownEnds.law (fun t k => XS.aloadN X0.here hx rfl (hb hby d2_13) rfl rfl (XS.iloadN X0.here hx rfl (hb hby d2_14) rfl k)) ?_
    show ownEnds _ _ _ _ (T0.setTop (mkF m 15 #[.val (.ref oa), .val (.int xi), .val (.int xat), .val (.int s0)] [(.int xi), (.ref oa)]))
    obtain ⟨cl1, Ar1, q1, S1, N1, H1, G1⟩ := id Va
    have hi1 := inb_of (j := xi) S1 hin
    have hv1 : cl1.slots[xi.toNatClampNeg]? = some (.int s0) := H1.at hi1 (hk (Or.inl hc2))
    refine ownEnds.law (X0.caload hx (j := xi) (v := (.int s0)) (by rw [e0]; exact Ar1.1) (State.isArrayOf_alike hZ.alike Ar1.2.1) Ar1.2.2 hi1 hv1 (g := (mkF m 15 #[.val (.ref oa), .val (.int xi), .val (.int xat), .val (.int s0)] [(.int xi), (.ref oa)])) rfl rfl (hb hby d2_15)) ?_
    show ownEnds _ _ _ _ (T0.setTop (mkF m 16 #[.val (.ref oa), .val (.int xi), .val (.int xat), .val (.int s0)] [(.int s0)]))
    refine ownEnds.law (fun t k => XS.iloadN X0.here hx rfl (hb hby d2_16) rfl k) ?_
    show ownEnds _ _ _ _ (T0.setTop (mkF m 17 #[.val (.ref oa), .val (.int xi), .val (.int xat), .val (.int s0)] [(.int s0), (.int s0)]))
    refine ownEnds.law (fun t => XS.icmpNo X0.here hx rfl (hb hby d2_17) rfl (teq (rfl : s0 = s0)).2) ?_
    show ownEnds _ _ _ _ (T0.setTop (mkF m 20 #[.val (.ref oa), .val (.int xi), .val (.int xat), .val (.int s0)] []))
    refine ownEnds.law (fun t k => XS.iconst X0.here hx rfl (hb hby d2_20) (XS.goto X0.here hx rfl (pc0 := 21) (pc' := 25) rfl (hb hby d2_21) (by decide) (by decide) k)) ?_
    show ownEnds _ _ _ _ (T0.setTop (mkF m 25 #[.val (.ref oa), .val (.int xi), .val (.int xat), .val (.int s0)] [(.int (1 : Int32))]))
    refine ownRetN X0 hlk hx (t := .boolean) hret (by simp) (hb hby d2_25) (by decide) (by decide) ?_
    exact ⟨rfl, rfl, e0⟩
  · refine ownEnds.law (fun t => XS.icmpNo X0.here hx rfl (hb hby d2_2) rfl (flt hc2).1) ?_
    show ownEnds _ _ _ _ (T0.setTop (mkF m 5 #[.val (.ref oa), .val (.int xi), .val (.int xat), .val (.int s0)] []))
    refine ownEnds.law (fun t k => XS.iloadN X0.here hx rfl (hb hby d2_5) rfl (XS.iloadN X0.here hx rfl (hb hby d2_6) rfl (XS.bipush X0.here hx rfl (hb hby d2_7) (XS.iadd X0.here hx rfl (hb hby d2_9) rfl k)))) ?_
    show ownEnds _ _ _ _ (T0.setTop (mkF m 10 #[.val (.ref oa), .val (.int xi), .val (.int xat), .val (.int s0)] [(.int (xat + (8 : Int32))), (.int xi)]))
    by_cases hc10 : xi < (xat + (8 : Int32))
    · refine ownEnds.law (fun t => XS.icmpYes X0.here hx rfl (pc0 := 10) (pc' := 20) rfl (hb hby d2_10) rfl (tlt hc10).1 (by decide) (by decide)) ?_
      show ownEnds _ _ _ _ (T0.setTop (mkF m 20 #[.val (.ref oa), .val (.int xi), .val (.int xat), .val (.int s0)] []))
      refine ownEnds.law (fun t k => XS.iconst X0.here hx rfl (hb hby d2_20) (XS.goto X0.here hx rfl (pc0 := 21) (pc' := 25) rfl (hb hby d2_21) (by decide) (by decide) k)) ?_
      show ownEnds _ _ _ _ (T0.setTop (mkF m 25 #[.val (.ref oa), .val (.int xi), .val (.int xat), .val (.int s0)] [(.int (1 : Int32))]))
      refine ownRetN X0 hlk hx (t := .boolean) hret (by simp) (hb hby d2_25) (by decide) (by decide) ?_
      exact ⟨rfl, rfl, e0⟩
    · refine ownEnds.law (fun t => XS.icmpNo X0.here hx rfl (hb hby d2_10) rfl (flt hc10).1) ?_
      show ownEnds _ _ _ _ (T0.setTop (mkF m 13 #[.val (.ref oa), .val (.int xi), .val (.int xat), .val (.int s0)] []))
      refine ownEnds.law (fun t k => XS.aloadN X0.here hx rfl (hb hby d2_13) rfl rfl (XS.iloadN X0.here hx rfl (hb hby d2_14) rfl k)) ?_
      show ownEnds _ _ _ _ (T0.setTop (mkF m 15 #[.val (.ref oa), .val (.int xi), .val (.int xat), .val (.int s0)] [(.int xi), (.ref oa)]))
      obtain ⟨cl2, Ar2, q2, S2, N2, H2, G2⟩ := id Va
      have hi2 := inb_of (j := xi) S2 hin
      have hv2 : cl2.slots[xi.toNatClampNeg]? = some (.int s0) := H2.at hi2 (hk (Or.inr hc10))
      refine ownEnds.law (X0.caload hx (j := xi) (v := (.int s0)) (by rw [e0]; exact Ar2.1) (State.isArrayOf_alike hZ.alike Ar2.2.1) Ar2.2.2 hi2 hv2 (g := (mkF m 15 #[.val (.ref oa), .val (.int xi), .val (.int xat), .val (.int s0)] [(.int xi), (.ref oa)])) rfl rfl (hb hby d2_15)) ?_
      show ownEnds _ _ _ _ (T0.setTop (mkF m 16 #[.val (.ref oa), .val (.int xi), .val (.int xat), .val (.int s0)] [(.int s0)]))
      refine ownEnds.law (fun t k => XS.iloadN X0.here hx rfl (hb hby d2_16) rfl k) ?_
      show ownEnds _ _ _ _ (T0.setTop (mkF m 17 #[.val (.ref oa), .val (.int xi), .val (.int xat), .val (.int s0)] [(.int s0), (.int s0)]))
      refine ownEnds.law (fun t => XS.icmpNo X0.here hx rfl (hb hby d2_17) rfl (teq (rfl : s0 = s0)).2) ?_
      show ownEnds _ _ _ _ (T0.setTop (mkF m 20 #[.val (.ref oa), .val (.int xi), .val (.int xat), .val (.int s0)] []))
      refine ownEnds.law (fun t k => XS.iconst X0.here hx rfl (hb hby d2_20) (XS.goto X0.here hx rfl (pc0 := 21) (pc' := 25) rfl (hb hby d2_21) (by decide) (by decide) k)) ?_
      show ownEnds _ _ _ _ (T0.setTop (mkF m 25 #[.val (.ref oa), .val (.int xi), .val (.int xat), .val (.int s0)] [(.int (1 : Int32))]))
      refine ownRetN X0 hlk hx (t := .boolean) hret (by simp) (hb hby d2_25) (by decide) (by decide) ?_
      exact ⟨rfl, rfl, e0⟩
set_option maxRecDepth 65536 in
set_option maxHeartbeats 40000000 in
theorem rm0 (l : Launch) (Z : State) (a0 : Array Value) (hw : ∀ d ∈ tables_1, d.before a0 Z = true) (qe : Int64) (xw : Int32) (xf : Int32)  (h0 : Heap) (n0 : Nat) (Z0 : n0 ≤ h0.size)  :
    ownMet l Z x code maxLocals ret tables_1 room_1 #[(.long qe), (.int xw), (.int xf)] h0 (fun v h L => v = some (.int 1) ∧ Fr n0 L) := by
  refine ownMet.of (plainFor_of_name pn_0) ?_
  intro p e s m below meth c T0 hx hby hml hZ hown hnm hret hlk X0 e0
  have hown : s.vm.findClass "com/example/seven_bit_codecs/sevenbitcodecs/EightBytesWriteAsCharsPinLaw" = some m.cls := hown
  have hml : c.maxLocals = 11 := hml
  have hret : meth.sig.returnType = some .boolean := hret
  refine ownEnds.cast (ef_rm0 m qe xw xf) ?_
  show ownEnds _ _ _ _ (T0.setTop (mkF m 0 #[.val (.long qe), .second, .val (.int xw), .val (.int xf), .unset, .unset, .unset, .unset, .unset, .unset, .unset] []))
  refine ownEnds.law (fun t k => XS.iloadN X0.here hx rfl (hb hby at_0) rfl (X0.ldcInt hx hown (mvT hZ (wd_0 hw)) (g := (mkF m 1 #[.val (.long qe), .second, .val (.int xw), .val (.int xf), .unset, .unset, .unset, .unset, .unset, .unset, .unset] [(.int xw)])) rfl (hb hby at_1) _ (XS.iand X0.here hx rfl (hb hby at_3) rfl (XS.iconst X0.here hx rfl (hb hby at_4) (iremM X0 hx rfl (hb hby at_5) rfl (by decide) k))))) ?_
  show ownEnds _ _ _ _ (T0.setTop (mkF m 6 #[.val (.long qe), .second, .val (.int xw), .val (.int xf), .unset, .unset, .unset, .unset, .unset, .unset, .unset] [(.int ((xw &&& (2147483647 : Int32)) % (4 : Int32)))]))
  obtain ⟨k0, e_k0⟩ : ∃ z : Int32, z = ((xw &&& (2147483647 : Int32)) % (4 : Int32)) := ⟨_, rfl⟩
  rw [← e_k0]
  show ownEnds _ _ _ _ (T0.setTop (mkF m 6 #[.val (.long qe), .second, .val (.int xw), .val (.int xf), .unset, .unset, .unset, .unset, .unset, .unset, .unset] [(.int k0)]))
  refine ownEnds.law (fun t k => XS.istore X0.here hx rfl (hb hby at_6) rfl (l' := #[.val (.long qe), .second, .val (.int xw), .val (.int xf), .val (.int k0), .unset, .unset, .unset, .unset, .unset, .unset]) rfl (XS.iloadN X0.here hx rfl (hb hby at_8) rfl (XS.i2c X0.here hx rfl (hb hby at_9) rfl k))) ?_
  show ownEnds _ _ _ _ (T0.setTop (mkF m 10 #[.val (.long qe), .second, .val (.int xw), .val (.int xf), .val (.int k0), .unset, .unset, .unset, .unset, .unset, .unset] [(.int (xf.toUInt32.toUInt16.toUInt32.toInt32))]))
  obtain ⟨s0, e_s0⟩ : ∃ z : Int32, z = (xf.toUInt32.toUInt16.toUInt32.toInt32) := ⟨_, rfl⟩
  rw [← e_s0]
  show ownEnds _ _ _ _ (T0.setTop (mkF m 10 #[.val (.long qe), .second, .val (.int xw), .val (.int xf), .val (.int k0), .unset, .unset, .unset, .unset, .unset, .unset] [(.int s0)]))
  refine ownEnds.law (fun t k => XS.istore X0.here hx rfl (hb hby at_10) rfl (l' := #[.val (.long qe), .second, .val (.int xw), .val (.int xf), .val (.int k0), .val (.int s0), .unset, .unset, .unset, .unset, .unset]) rfl (XS.bipush X0.here hx rfl (hb hby at_12) k)) ?_
  show ownEnds _ _ _ _ (T0.setTop (mkF m 14 #[.val (.long qe), .second, .val (.int xw), .val (.int xf), .val (.int k0), .val (.int s0), .unset, .unset, .unset, .unset, .unset] [(.int (11 : Int32))]))
  obtain ⟨T1, h1, k1, X1, e1, E1, A1, st1⟩ := newP X0 hx hZ (aty := .char) (wd_1 hw) e0 (g := (mkF m 14 #[.val (.long qe), .second, .val (.int xw), .val (.int xf), .val (.int k0), .val (.int s0), .unset, .unset, .unset, .unset, .unset] [(.int (11 : Int32))])) rfl (hb hby at_14) rfl (by decide) (cap := 11) (by decide) (by decide) (by decide) (by decide)
  obtain ⟨b1, g1⟩ : ∃ z, z = h0.size := ⟨_, rfl⟩
  rw [← g1] at A1 st1
  refine ownEnds.law st1 ?_
  have V_b1 : Arv Z h1 b1 k1 .char (11 : Int32) [(.int (0 : Int32)), (.int (0 : Int32)), (.int (0 : Int32)), (.int (0 : Int32)), (.int (0 : Int32)), (.int (0 : Int32)), (.int (0 : Int32)), (.int (0 : Int32)), (.int (0 : Int32)), (.int (0 : Int32)), (.int (0 : Int32))] (.int (0 : Int32)) := (Arv.new A1 (by decide)).pad (pad_rep [] (.int (0 : Int32)) 11)
  have g_b1 : n0 ≤ b1 := Nat.le_trans Z0 (Nat.le_of_eq g1.symm)
  have Z1 : n0 ≤ h1.size := Nat.le_trans Z0 E1.1
  show ownEnds _ _ _ _ (T1.setTop (mkF m 16 #[.val (.long qe), .second, .val (.int xw), .val (.int xf), .val (.int k0), .val (.int s0), .unset, .unset, .unset, .unset, .unset] [(.ref b1)]))
  refine ownEnds.law (fun t k => XS.astore X1.here hx rfl (hb hby at_16) rfl rfl (l' := #[.val (.long qe), .second, .val (.int xw), .val (.int xf), .val (.int k0), .val (.int s0), .val (.ref b1), .unset, .unset, .unset, .unset]) rfl (XS.aload X1.here hx rfl (hb hby at_18) rfl rfl (XS.iconst X1.here hx rfl (hb hby at_20) (XS.iload X1.here hx rfl (hb hby at_21) rfl k)))) ?_
  show ownEnds _ _ _ _ (T1.setTop (mkF m 23 #[.val (.long qe), .second, .val (.int xw), .val (.int xf), .val (.int k0), .val (.int s0), .val (.ref b1), .unset, .unset, .unset, .unset] [(.int s0), (.int (0 : Int32)), (.ref b1)]))
  obtain ⟨cl2, Ar2, q2, S2, N2, H2, G2⟩ := id V_b1
  obtain ⟨T2, h2, X2, e2, W2, st2⟩ := stC X1 hx hZ e1 Ar2 (j := (0 : Int32)) (inb_of S2 ⟨by decide, by decide⟩) (g := (mkF m 23 #[.val (.long qe), .second, .val (.int xw), .val (.int xf), .val (.int k0), .val (.int s0), .val (.ref b1), .unset, .unset, .unset, .unset] [(.int s0), (.int (0 : Int32)), (.ref b1)])) rfl rfl (hb hby at_23)
  refine ownEnds.law st2 ?_
  have V2 : Arv Z h2 b1 k1 .char (11 : Int32) [(.int (nar .char s0)), (.int (0 : Int32)), (.int (0 : Int32)), (.int (0 : Int32)), (.int (0 : Int32)), (.int (0 : Int32)), (.int (0 : Int32)), (.int (0 : Int32)), (.int (0 : Int32)), (.int (0 : Int32)), (.int (0 : Int32))] (.int (0 : Int32)) := Arv.set Ar2 q2 S2 N2 H2 G2 (fits_nar_char _) W2 0 rfl (Nat.le_of_ble_eq_true rfl)
  have N2 := Fr.snoc X2 (Fr.nil n0) g_b1
  have Z2 : n0 ≤ h2.size := by rw [W2.size]; exact Z1
  show ownEnds _ _ _ _ (T2.setTop (mkF m 24 #[.val (.long qe), .second, .val (.int xw), .val (.int xf), .val (.int k0), .val (.int s0), .val (.ref b1), .unset, .unset, .unset, .unset] []))
  refine ownEnds.law (fun t k => XS.aload X2.here hx rfl (hb hby at_24) rfl rfl (XS.iconst X2.here hx rfl (hb hby at_26) (XS.iload X2.here hx rfl (hb hby at_27) rfl k))) ?_
  show ownEnds _ _ _ _ (T2.setTop (mkF m 29 #[.val (.long qe), .second, .val (.int xw), .val (.int xf), .val (.int k0), .val (.int s0), .val (.ref b1), .unset, .unset, .unset, .unset] [(.int s0), (.int (1 : Int32)), (.ref b1)]))
  obtain ⟨cl3, Ar3, q3, S3, N3, H3, G3⟩ := id V2
  obtain ⟨T3, h3, X3, e3, W3, st3⟩ := stC X2 hx hZ e2 Ar3 (j := (1 : Int32)) (inb_of S3 ⟨by decide, by decide⟩) (g := (mkF m 29 #[.val (.long qe), .second, .val (.int xw), .val (.int xf), .val (.int k0), .val (.int s0), .val (.ref b1), .unset, .unset, .unset, .unset] [(.int s0), (.int (1 : Int32)), (.ref b1)])) rfl rfl (hb hby at_29)
  refine ownEnds.law st3 ?_
  have V3 : Arv Z h3 b1 k1 .char (11 : Int32) [(.int (nar .char s0)), (.int (nar .char s0)), (.int (0 : Int32)), (.int (0 : Int32)), (.int (0 : Int32)), (.int (0 : Int32)), (.int (0 : Int32)), (.int (0 : Int32)), (.int (0 : Int32)), (.int (0 : Int32)), (.int (0 : Int32))] (.int (0 : Int32)) := Arv.set Ar3 q3 S3 N3 H3 G3 (fits_nar_char _) W3 1 rfl (Nat.le_of_ble_eq_true rfl)
  have N3 := Fr.snoc X3 N2 g_b1
  have Z3 : n0 ≤ h3.size := by rw [W3.size]; exact Z2
  show ownEnds _ _ _ _ (T3.setTop (mkF m 30 #[.val (.long qe), .second, .val (.int xw), .val (.int xf), .val (.int k0), .val (.int s0), .val (.ref b1), .unset, .unset, .unset, .unset] []))
  refine ownEnds.law (fun t k => XS.aload X3.here hx rfl (hb hby at_30) rfl rfl (XS.iconst X3.here hx rfl (hb hby at_32) (XS.iload X3.here hx rfl (hb hby at_33) rfl k))) ?_
  show ownEnds _ _ _ _ (T3.setTop (mkF m 35 #[.val (.long qe), .second, .val (.int xw), .val (.int xf), .val (.int k0), .val (.int s0), .val (.ref b1), .unset, .unset, .unset, .unset] [(.int s0), (.int (2 : Int32)), (.ref b1)]))
  obtain ⟨cl4, Ar4, q4, S4, N4, H4, G4⟩ := id V3
  obtain ⟨T4, h4, X4, e4, W4, st4⟩ := stC X3 hx hZ e3 Ar4 (j := (2 : Int32)) (inb_of S4 ⟨by decide, by decide⟩) (g := (mkF m 35 #[.val (.long qe), .second, .val (.int xw), .val (.int xf), .val (.int k0), .val (.int s0), .val (.ref b1), .unset, .unset, .unset, .unset] [(.int s0), (.int (2 : Int32)), (.ref b1)])) rfl rfl (hb hby at_35)
  refine ownEnds.law st4 ?_
  have V4 : Arv Z h4 b1 k1 .char (11 : Int32) [(.int (nar .char s0)), (.int (nar .char s0)), (.int (nar .char s0)), (.int (0 : Int32)), (.int (0 : Int32)), (.int (0 : Int32)), (.int (0 : Int32)), (.int (0 : Int32)), (.int (0 : Int32)), (.int (0 : Int32)), (.int (0 : Int32))] (.int (0 : Int32)) := Arv.set Ar4 q4 S4 N4 H4 G4 (fits_nar_char _) W4 2 rfl (Nat.le_of_ble_eq_true rfl)
  have N4 := Fr.snoc X4 N3 g_b1
  have Z4 : n0 ≤ h4.size := by rw [W4.size]; exact Z3
  show ownEnds _ _ _ _ (T4.setTop (mkF m 36 #[.val (.long qe), .second, .val (.int xw), .val (.int xf), .val (.int k0), .val (.int s0), .val (.ref b1), .unset, .unset, .unset, .unset] []))
  refine ownEnds.law (fun t k => XS.aload X4.here hx rfl (hb hby at_36) rfl rfl (XS.iconst X4.here hx rfl (hb hby at_38) (XS.iload X4.here hx rfl (hb hby at_39) rfl k))) ?_
  show ownEnds _ _ _ _ (T4.setTop (mkF m 41 #[.val (.long qe), .second, .val (.int xw), .val (.int xf), .val (.int k0), .val (.int s0), .val (.ref b1), .unset, .unset, .unset, .unset] [(.int s0), (.int (3 : Int32)), (.ref b1)]))
  obtain ⟨cl5, Ar5, q5, S5, N5, H5, G5⟩ := id V4
  obtain ⟨T5, h5, X5, e5, W5, st5⟩ := stC X4 hx hZ e4 Ar5 (j := (3 : Int32)) (inb_of S5 ⟨by decide, by decide⟩) (g := (mkF m 41 #[.val (.long qe), .second, .val (.int xw), .val (.int xf), .val (.int k0), .val (.int s0), .val (.ref b1), .unset, .unset, .unset, .unset] [(.int s0), (.int (3 : Int32)), (.ref b1)])) rfl rfl (hb hby at_41)
  refine ownEnds.law st5 ?_
  have V5 : Arv Z h5 b1 k1 .char (11 : Int32) [(.int (nar .char s0)), (.int (nar .char s0)), (.int (nar .char s0)), (.int (nar .char s0)), (.int (0 : Int32)), (.int (0 : Int32)), (.int (0 : Int32)), (.int (0 : Int32)), (.int (0 : Int32)), (.int (0 : Int32)), (.int (0 : Int32))] (.int (0 : Int32)) := Arv.set Ar5 q5 S5 N5 H5 G5 (fits_nar_char _) W5 3 rfl (Nat.le_of_ble_eq_true rfl)
  have N5 := Fr.snoc X5 N4 g_b1
  have Z5 : n0 ≤ h5.size := by rw [W5.size]; exact Z4
  show ownEnds _ _ _ _ (T5.setTop (mkF m 42 #[.val (.long qe), .second, .val (.int xw), .val (.int xf), .val (.int k0), .val (.int s0), .val (.ref b1), .unset, .unset, .unset, .unset] []))
  refine ownEnds.law (fun t k => XS.aload X5.here hx rfl (hb hby at_42) rfl rfl (XS.iconst X5.here hx rfl (hb hby at_44) (XS.iload X5.here hx rfl (hb hby at_45) rfl k))) ?_
  show ownEnds _ _ _ _ (T5.setTop (mkF m 47 #[.val (.long qe), .second, .val (.int xw), .val (.int xf), .val (.int k0), .val (.int s0), .val (.ref b1), .unset, .unset, .unset, .unset] [(.int s0), (.int (4 : Int32)), (.ref b1)]))
  obtain ⟨cl6, Ar6, q6, S6, N6, H6, G6⟩ := id V5
  obtain ⟨T6, h6, X6, e6, W6, st6⟩ := stC X5 hx hZ e5 Ar6 (j := (4 : Int32)) (inb_of S6 ⟨by decide, by decide⟩) (g := (mkF m 47 #[.val (.long qe), .second, .val (.int xw), .val (.int xf), .val (.int k0), .val (.int s0), .val (.ref b1), .unset, .unset, .unset, .unset] [(.int s0), (.int (4 : Int32)), (.ref b1)])) rfl rfl (hb hby at_47)
  refine ownEnds.law st6 ?_
  have V6 : Arv Z h6 b1 k1 .char (11 : Int32) [(.int (nar .char s0)), (.int (nar .char s0)), (.int (nar .char s0)), (.int (nar .char s0)), (.int (nar .char s0)), (.int (0 : Int32)), (.int (0 : Int32)), (.int (0 : Int32)), (.int (0 : Int32)), (.int (0 : Int32)), (.int (0 : Int32))] (.int (0 : Int32)) := Arv.set Ar6 q6 S6 N6 H6 G6 (fits_nar_char _) W6 4 rfl (Nat.le_of_ble_eq_true rfl)
  have N6 := Fr.snoc X6 N5 g_b1
  have Z6 : n0 ≤ h6.size := by rw [W6.size]; exact Z5
  show ownEnds _ _ _ _ (T6.setTop (mkF m 48 #[.val (.long qe), .second, .val (.int xw), .val (.int xf), .val (.int k0), .val (.int s0), .val (.ref b1), .unset, .unset, .unset, .unset] []))
  refine ownEnds.law (fun t k => XS.aload X6.here hx rfl (hb hby at_48) rfl rfl (XS.iconst X6.here hx rfl (hb hby at_50) (XS.iload X6.here hx rfl (hb hby at_51) rfl k))) ?_
  show ownEnds _ _ _ _ (T6.setTop (mkF m 53 #[.val (.long qe), .second, .val (.int xw), .val (.int xf), .val (.int k0), .val (.int s0), .val (.ref b1), .unset, .unset, .unset, .unset] [(.int s0), (.int (5 : Int32)), (.ref b1)]))
  obtain ⟨cl7, Ar7, q7, S7, N7, H7, G7⟩ := id V6
  obtain ⟨T7, h7, X7, e7, W7, st7⟩ := stC X6 hx hZ e6 Ar7 (j := (5 : Int32)) (inb_of S7 ⟨by decide, by decide⟩) (g := (mkF m 53 #[.val (.long qe), .second, .val (.int xw), .val (.int xf), .val (.int k0), .val (.int s0), .val (.ref b1), .unset, .unset, .unset, .unset] [(.int s0), (.int (5 : Int32)), (.ref b1)])) rfl rfl (hb hby at_53)
  refine ownEnds.law st7 ?_
  have V7 : Arv Z h7 b1 k1 .char (11 : Int32) [(.int (nar .char s0)), (.int (nar .char s0)), (.int (nar .char s0)), (.int (nar .char s0)), (.int (nar .char s0)), (.int (nar .char s0)), (.int (0 : Int32)), (.int (0 : Int32)), (.int (0 : Int32)), (.int (0 : Int32)), (.int (0 : Int32))] (.int (0 : Int32)) := Arv.set Ar7 q7 S7 N7 H7 G7 (fits_nar_char _) W7 5 rfl (Nat.le_of_ble_eq_true rfl)
  have N7 := Fr.snoc X7 N6 g_b1
  have Z7 : n0 ≤ h7.size := by rw [W7.size]; exact Z6
  show ownEnds _ _ _ _ (T7.setTop (mkF m 54 #[.val (.long qe), .second, .val (.int xw), .val (.int xf), .val (.int k0), .val (.int s0), .val (.ref b1), .unset, .unset, .unset, .unset] []))
  refine ownEnds.law (fun t k => XS.aload X7.here hx rfl (hb hby at_54) rfl rfl (XS.bipush X7.here hx rfl (hb hby at_56) (XS.iload X7.here hx rfl (hb hby at_58) rfl k))) ?_
  show ownEnds _ _ _ _ (T7.setTop (mkF m 60 #[.val (.long qe), .second, .val (.int xw), .val (.int xf), .val (.int k0), .val (.int s0), .val (.ref b1), .unset, .unset, .unset, .unset] [(.int s0), (.int (6 : Int32)), (.ref b1)]))
  obtain ⟨cl8, Ar8, q8, S8, N8, H8, G8⟩ := id V7
  obtain ⟨T8, h8, X8, e8, W8, st8⟩ := stC X7 hx hZ e7 Ar8 (j := (6 : Int32)) (inb_of S8 ⟨by decide, by decide⟩) (g := (mkF m 60 #[.val (.long qe), .second, .val (.int xw), .val (.int xf), .val (.int k0), .val (.int s0), .val (.ref b1), .unset, .unset, .unset, .unset] [(.int s0), (.int (6 : Int32)), (.ref b1)])) rfl rfl (hb hby at_60)
  refine ownEnds.law st8 ?_
  have V8 : Arv Z h8 b1 k1 .char (11 : Int32) [(.int (nar .char s0)), (.int (nar .char s0)), (.int (nar .char s0)), (.int (nar .char s0)), (.int (nar .char s0)), (.int (nar .char s0)), (.int (nar .char s0)), (.int (0 : Int32)), (.int (0 : Int32)), (.int (0 : Int32)), (.int (0 : Int32))] (.int (0 : Int32)) := Arv.set Ar8 q8 S8 N8 H8 G8 (fits_nar_char _) W8 6 rfl (Nat.le_of_ble_eq_true rfl)
  have N8 := Fr.snoc X8 N7 g_b1
  have Z8 : n0 ≤ h8.size := by rw [W8.size]; exact Z7
  show ownEnds _ _ _ _ (T8.setTop (mkF m 61 #[.val (.long qe), .second, .val (.int xw), .val (.int xf), .val (.int k0), .val (.int s0), .val (.ref b1), .unset, .unset, .unset, .unset] []))
  refine ownEnds.law (fun t k => XS.aload X8.here hx rfl (hb hby at_61) rfl rfl (XS.bipush X8.here hx rfl (hb hby at_63) (XS.iload X8.here hx rfl (hb hby at_65) rfl k))) ?_
  show ownEnds _ _ _ _ (T8.setTop (mkF m 67 #[.val (.long qe), .second, .val (.int xw), .val (.int xf), .val (.int k0), .val (.int s0), .val (.ref b1), .unset, .unset, .unset, .unset] [(.int s0), (.int (7 : Int32)), (.ref b1)]))
  obtain ⟨cl9, Ar9, q9, S9, N9, H9, G9⟩ := id V8
  obtain ⟨T9, h9, X9, e9, W9, st9⟩ := stC X8 hx hZ e8 Ar9 (j := (7 : Int32)) (inb_of S9 ⟨by decide, by decide⟩) (g := (mkF m 67 #[.val (.long qe), .second, .val (.int xw), .val (.int xf), .val (.int k0), .val (.int s0), .val (.ref b1), .unset, .unset, .unset, .unset] [(.int s0), (.int (7 : Int32)), (.ref b1)])) rfl rfl (hb hby at_67)
  refine ownEnds.law st9 ?_
  have V9 : Arv Z h9 b1 k1 .char (11 : Int32) [(.int (nar .char s0)), (.int (nar .char s0)), (.int (nar .char s0)), (.int (nar .char s0)), (.int (nar .char s0)), (.int (nar .char s0)), (.int (nar .char s0)), (.int (nar .char s0)), (.int (0 : Int32)), (.int (0 : Int32)), (.int (0 : Int32))] (.int (0 : Int32)) := Arv.set Ar9 q9 S9 N9 H9 G9 (fits_nar_char _) W9 7 rfl (Nat.le_of_ble_eq_true rfl)
  have N9 := Fr.snoc X9 N8 g_b1
  have Z9 : n0 ≤ h9.size := by rw [W9.size]; exact Z8
  show ownEnds _ _ _ _ (T9.setTop (mkF m 68 #[.val (.long qe), .second, .val (.int xw), .val (.int xf), .val (.int k0), .val (.int s0), .val (.ref b1), .unset, .unset, .unset, .unset] []))
  refine ownEnds.law (fun t k => XS.aload X9.here hx rfl (hb hby at_68) rfl rfl (XS.bipush X9.here hx rfl (hb hby at_70) (XS.iload X9.here hx rfl (hb hby at_72) rfl k))) ?_
  show ownEnds _ _ _ _ (T9.setTop (mkF m 74 #[.val (.long qe), .second, .val (.int xw), .val (.int xf), .val (.int k0), .val (.int s0), .val (.ref b1), .unset, .unset, .unset, .unset] [(.int s0), (.int (8 : Int32)), (.ref b1)]))
  obtain ⟨cl10, Ar10, q10, S10, N10, H10, G10⟩ := id V9
  obtain ⟨T10, h10, X10, e10, W10, st10⟩ := stC X9 hx hZ e9 Ar10 (j := (8 : Int32)) (inb_of S10 ⟨by decide, by decide⟩) (g := (mkF m 74 #[.val (.long qe), .second, .val (.int xw), .val (.int xf), .val (.int k0), .val (.int s0), .val (.ref b1), .unset, .unset, .unset, .unset] [(.int s0), (.int (8 : Int32)), (.ref b1)])) rfl rfl (hb hby at_74)
  refine ownEnds.law st10 ?_
  have V10 : Arv Z h10 b1 k1 .char (11 : Int32) [(.int (nar .char s0)), (.int (nar .char s0)), (.int (nar .char s0)), (.int (nar .char s0)), (.int (nar .char s0)), (.int (nar .char s0)), (.int (nar .char s0)), (.int (nar .char s0)), (.int (nar .char s0)), (.int (0 : Int32)), (.int (0 : Int32))] (.int (0 : Int32)) := Arv.set Ar10 q10 S10 N10 H10 G10 (fits_nar_char _) W10 8 rfl (Nat.le_of_ble_eq_true rfl)
  have N10 := Fr.snoc X10 N9 g_b1
  have Z10 : n0 ≤ h10.size := by rw [W10.size]; exact Z9
  show ownEnds _ _ _ _ (T10.setTop (mkF m 75 #[.val (.long qe), .second, .val (.int xw), .val (.int xf), .val (.int k0), .val (.int s0), .val (.ref b1), .unset, .unset, .unset, .unset] []))
  refine ownEnds.law (fun t k => XS.aload X10.here hx rfl (hb hby at_75) rfl rfl (XS.bipush X10.here hx rfl (hb hby at_77) (XS.iload X10.here hx rfl (hb hby at_79) rfl k))) ?_
  show ownEnds _ _ _ _ (T10.setTop (mkF m 81 #[.val (.long qe), .second, .val (.int xw), .val (.int xf), .val (.int k0), .val (.int s0), .val (.ref b1), .unset, .unset, .unset, .unset] [(.int s0), (.int (9 : Int32)), (.ref b1)]))
  obtain ⟨cl11, Ar11, q11, S11, N11, H11, G11⟩ := id V10
  obtain ⟨T11, h11, X11, e11, W11, st11⟩ := stC X10 hx hZ e10 Ar11 (j := (9 : Int32)) (inb_of S11 ⟨by decide, by decide⟩) (g := (mkF m 81 #[.val (.long qe), .second, .val (.int xw), .val (.int xf), .val (.int k0), .val (.int s0), .val (.ref b1), .unset, .unset, .unset, .unset] [(.int s0), (.int (9 : Int32)), (.ref b1)])) rfl rfl (hb hby at_81)
  refine ownEnds.law st11 ?_
  have V11 : Arv Z h11 b1 k1 .char (11 : Int32) [(.int (nar .char s0)), (.int (nar .char s0)), (.int (nar .char s0)), (.int (nar .char s0)), (.int (nar .char s0)), (.int (nar .char s0)), (.int (nar .char s0)), (.int (nar .char s0)), (.int (nar .char s0)), (.int (nar .char s0)), (.int (0 : Int32))] (.int (0 : Int32)) := Arv.set Ar11 q11 S11 N11 H11 G11 (fits_nar_char _) W11 9 rfl (Nat.le_of_ble_eq_true rfl)
  have N11 := Fr.snoc X11 N10 g_b1
  have Z11 : n0 ≤ h11.size := by rw [W11.size]; exact Z10
  show ownEnds _ _ _ _ (T11.setTop (mkF m 82 #[.val (.long qe), .second, .val (.int xw), .val (.int xf), .val (.int k0), .val (.int s0), .val (.ref b1), .unset, .unset, .unset, .unset] []))
  refine ownEnds.law (fun t k => XS.aload X11.here hx rfl (hb hby at_82) rfl rfl (XS.bipush X11.here hx rfl (hb hby at_84) (XS.iload X11.here hx rfl (hb hby at_86) rfl k))) ?_
  show ownEnds _ _ _ _ (T11.setTop (mkF m 88 #[.val (.long qe), .second, .val (.int xw), .val (.int xf), .val (.int k0), .val (.int s0), .val (.ref b1), .unset, .unset, .unset, .unset] [(.int s0), (.int (10 : Int32)), (.ref b1)]))
  obtain ⟨cl12, Ar12, q12, S12, N12, H12, G12⟩ := id V11
  obtain ⟨T12, h12, X12, e12, W12, st12⟩ := stC X11 hx hZ e11 Ar12 (j := (10 : Int32)) (inb_of S12 ⟨by decide, by decide⟩) (g := (mkF m 88 #[.val (.long qe), .second, .val (.int xw), .val (.int xf), .val (.int k0), .val (.int s0), .val (.ref b1), .unset, .unset, .unset, .unset] [(.int s0), (.int (10 : Int32)), (.ref b1)])) rfl rfl (hb hby at_88)
  refine ownEnds.law st12 ?_
  have V12 : Arv Z h12 b1 k1 .char (11 : Int32) [(.int (nar .char s0)), (.int (nar .char s0)), (.int (nar .char s0)), (.int (nar .char s0)), (.int (nar .char s0)), (.int (nar .char s0)), (.int (nar .char s0)), (.int (nar .char s0)), (.int (nar .char s0)), (.int (nar .char s0)), (.int (nar .char s0))] (.int (0 : Int32)) := Arv.set Ar12 q12 S12 N12 H12 G12 (fits_nar_char _) W12 10 rfl (Nat.le_of_ble_eq_true rfl)
  have N12 := Fr.snoc X12 N11 g_b1
  have Z12 : n0 ≤ h12.size := by rw [W12.size]; exact Z11
  have hs0 : nar .char s0 = s0 := by rw [e_s0]; exact own_nc _
  have V89 : Arv Z h12 b1 k1 .char (11 : Int32) [(.int s0), (.int s0), (.int s0), (.int s0), (.int s0), (.int s0), (.int s0), (.int s0), (.int s0), (.int s0), (.int s0)] (.int (0 : Int32)) := by have q := V12; rw [hs0] at q; exact q
  have hk := own_k xw
  rw [← e_k0] at hk
  clear e_k0
  rcases hk with rfl | rfl | rfl | rfl
  · show ownEnds _ _ _ _ (T12.setTop (mkF m 89 #[.val (.long qe), .second, .val (.int xw), .val (.int xf), .val (.int (0 : Int32)), .val (.int s0), .val (.ref b1), .unset, .unset, .unset, .unset] []))
    refine ownEnds.law (fun t k => XS.lloadN X12.here hx rfl (hb hby at_89) rfl (XS.aload X12.here hx rfl (hb hby at_90) rfl rfl (XS.iload X12.here hx rfl (hb hby at_92) rfl k))) ?_
    show ownEnds _ _ _ _ (T12.setTop (mkF m 94 #[.val (.long qe), .second, .val (.int xw), .val (.int xf), .val (.int (0 : Int32)), .val (.int s0), .val (.ref b1), .unset, .unset, .unset, .unset] [(.int (0 : Int32)), (.ref b1), (.long qe)]))
    obtain ⟨v13, T13, L13, X13, hQ13, st13⟩ := ownCallS X12 hx hZ hown (y := (⟨"com/example/seven_bit_codecs/sevenbitcodecs/EightBytes", "writeAsChars", "(J[CI)V"⟩ : MethodName)) (as := [(.long qe), (.ref b1), (.int (0 : Int32))]) (wd_2 hw) (wd_3 hw) (wd_4 hw) (wd_5 hw) (by decide) (rm1_0 l Z a0 hw qe b1 s0 k1 h12 n0 Z12 V89 g_b1) e12 0 (by decide) (by decide) (by decide) (by decide) (g := (mkF m 94 #[.val (.long qe), .second, .val (.int xw), .val (.int xf), .val (.int (0 : Int32)), .val (.int s0), .val (.ref b1), .unset, .unset, .unset, .unset] [(.int (0 : Int32)), (.ref b1), (.long qe)])) rfl (by rw [hml]; rfl) (rest := []) pd_0 rfl rfl (by show 2 * 0 + _ ≤ _; exact Nat.le_of_eq rfl) (hb hby at_94)
    obtain ⟨rfl, Nq13, Kq13, Vq13⟩ := hQ13
    have N13 := Fr.app N12 Nq13
    have Z13 : n0 ≤ T13.heap.size := Nat.le_trans Z12 Kq13.1
    refine ownEnds.law st13 ?_
    show ownEnds _ _ _ _ (T13.setTop (mkF m 97 #[.val (.long qe), .second, .val (.int xw), .val (.int xf), .val (.int (0 : Int32)), .val (.int s0), .val (.ref b1), .unset, .unset, .unset, .unset] []))
    refine ownEnds.law (fun t k => XS.aload X13.here hx rfl (hb hby at_97) rfl rfl (XS.iload X13.here hx rfl (hb hby at_99) rfl k)) ?_
    show ownEnds _ _ _ _ (T13.setTop (mkF m 101 #[.val (.long qe), .second, .val (.int xw), .val (.int xf), .val (.int (0 : Int32)), .val (.int s0), .val (.ref b1), .unset, .unset, .unset, .unset] [(.int (0 : Int32)), (.ref b1)]))
    obtain ⟨cl14, Ar14, q14, S14, N14, H14, G14⟩ := id Vq13
    have hi14 := inb_of (j := (0 : Int32)) S14 ⟨by decide, by decide⟩
    have hv14 : cl14.slots[((0 : Int32)).toNatClampNeg]? = some (.int (BC0 qe)) := H14.at hi14 rfl
    refine ownEnds.law (fun t k => X13.caload hx (j := (0 : Int32)) (v := (.int (BC0 qe))) Ar14.1 (State.isArrayOf_alike hZ.alike Ar14.2.1) Ar14.2.2 hi14 hv14 (g := (mkF m 101 #[.val (.long qe), .second, .val (.int xw), .val (.int xf), .val (.int (0 : Int32)), .val (.int s0), .val (.ref b1), .unset, .unset, .unset, .unset] [(.int (0 : Int32)), (.ref b1)])) rfl rfl (hb hby at_101) _ (XS.sipush X13.here hx rfl (hb hby at_102) k)) ?_
    show ownEnds _ _ _ _ (T13.setTop (mkF m 105 #[.val (.long qe), .second, .val (.int xw), .val (.int xf), .val (.int (0 : Int32)), .val (.int s0), .val (.ref b1), .unset, .unset, .unset, .unset] [(.int (256 : Int32)), (.int (BC0 qe))]))
    have hc105 : (BC0 qe) < (256 : Int32) := own_lt0 _
    refine ownEnds.law (fun t => XS.icmpNo X13.here hx rfl (hb hby at_105) rfl (tlt hc105).2.1) ?_
    show ownEnds _ _ _ _ (T13.setTop (mkF m 108 #[.val (.long qe), .second, .val (.int xw), .val (.int xf), .val (.int (0 : Int32)), .val (.int s0), .val (.ref b1), .unset, .unset, .unset, .unset] []))
    refine ownEnds.law (fun t k => XS.aload X13.here hx rfl (hb hby at_108) rfl rfl (XS.iload X13.here hx rfl (hb hby at_110) rfl (XS.iconst X13.here hx rfl (hb hby at_112) (XS.iadd X13.here hx rfl (hb hby at_113) rfl k)))) ?_
    show ownEnds _ _ _ _ (T13.setTop (mkF m 114 #[.val (.long qe), .second, .val (.int xw), .val (.int xf), .val (.int (0 : Int32)), .val (.int s0), .val (.ref b1), .unset, .unset, .unset, .unset] [(.int (1 : Int32)), (.ref b1)]))
    obtain ⟨cl15, Ar15, q15, S15, N15, H15, G15⟩ := id Vq13
    have hi15 := inb_of (j := (1 : Int32)) S15 ⟨by decide, by decide⟩
    have hv15 : cl15.slots[((1 : Int32)).toNatClampNeg]? = some (.int (BC1 qe)) := H15.at hi15 rfl
    refine ownEnds.law (fun t k => X13.caload hx (j := (1 : Int32)) (v := (.int (BC1 qe))) Ar15.1 (State.isArrayOf_alike hZ.alike Ar15.2.1) Ar15.2.2 hi15 hv15 (g := (mkF m 114 #[.val (.long qe), .second, .val (.int xw), .val (.int xf), .val (.int (0 : Int32)), .val (.int s0), .val (.ref b1), .unset, .unset, .unset, .unset] [(.int (1 : Int32)), (.ref b1)])) rfl rfl (hb hby at_114) _ (XS.sipush X13.here hx rfl (hb hby at_115) k)) ?_
    show ownEnds _ _ _ _ (T13.setTop (mkF m 118 #[.val (.long qe), .second, .val (.int xw), .val (.int xf), .val (.int (0 : Int32)), .val (.int s0), .val (.ref b1), .unset, .unset, .unset, .unset] [(.int (256 : Int32)), (.int (BC1 qe))]))
    have hc118 : (BC1 qe) < (256 : Int32) := own_lt1 _
    refine ownEnds.law (fun t => XS.icmpNo X13.here hx rfl (hb hby at_118) rfl (tlt hc118).2.1) ?_
    show ownEnds _ _ _ _ (T13.setTop (mkF m 121 #[.val (.long qe), .second, .val (.int xw), .val (.int xf), .val (.int (0 : Int32)), .val (.int s0), .val (.ref b1), .unset, .unset, .unset, .unset] []))
    refine ownEnds.law (fun t k => XS.aload X13.here hx rfl (hb hby at_121) rfl rfl (XS.iload X13.here hx rfl (hb hby at_123) rfl (XS.iconst X13.here hx rfl (hb hby at_125) (XS.iadd X13.here hx rfl (hb hby at_126) rfl k)))) ?_
    show ownEnds _ _ _ _ (T13.setTop (mkF m 127 #[.val (.long qe), .second, .val (.int xw), .val (.int xf), .val (.int (0 : Int32)), .val (.int s0), .val (.ref b1), .unset, .unset, .unset, .unset] [(.int (2 : Int32)), (.ref b1)]))
    obtain ⟨cl16, Ar16, q16, S16, N16, H16, G16⟩ := id Vq13
    have hi16 := inb_of (j := (2 : Int32)) S16 ⟨by decide, by decide⟩
    have hv16 : cl16.slots[((2 : Int32)).toNatClampNeg]? = some (.int (BC2 qe)) := H16.at hi16 rfl
    refine ownEnds.law (fun t k => X13.caload hx (j := (2 : Int32)) (v := (.int (BC2 qe))) Ar16.1 (State.isArrayOf_alike hZ.alike Ar16.2.1) Ar16.2.2 hi16 hv16 (g := (mkF m 127 #[.val (.long qe), .second, .val (.int xw), .val (.int xf), .val (.int (0 : Int32)), .val (.int s0), .val (.ref b1), .unset, .unset, .unset, .unset] [(.int (2 : Int32)), (.ref b1)])) rfl rfl (hb hby at_127) _ (XS.sipush X13.here hx rfl (hb hby at_128) k)) ?_
    show ownEnds _ _ _ _ (T13.setTop (mkF m 131 #[.val (.long qe), .second, .val (.int xw), .val (.int xf), .val (.int (0 : Int32)), .val (.int s0), .val (.ref b1), .unset, .unset, .unset, .unset] [(.int (256 : Int32)), (.int (BC2 qe))]))
    have hc131 : (BC2 qe) < (256 : Int32) := own_lt2 _
    refine ownEnds.law (fun t => XS.icmpNo X13.here hx rfl (hb hby at_131) rfl (tlt hc131).2.1) ?_
    show ownEnds _ _ _ _ (T13.setTop (mkF m 134 #[.val (.long qe), .second, .val (.int xw), .val (.int xf), .val (.int (0 : Int32)), .val (.int s0), .val (.ref b1), .unset, .unset, .unset, .unset] []))
    refine ownEnds.law (fun t k => XS.aload X13.here hx rfl (hb hby at_134) rfl rfl (XS.iload X13.here hx rfl (hb hby at_136) rfl (XS.iconst X13.here hx rfl (hb hby at_138) (XS.iadd X13.here hx rfl (hb hby at_139) rfl k)))) ?_
    show ownEnds _ _ _ _ (T13.setTop (mkF m 140 #[.val (.long qe), .second, .val (.int xw), .val (.int xf), .val (.int (0 : Int32)), .val (.int s0), .val (.ref b1), .unset, .unset, .unset, .unset] [(.int (3 : Int32)), (.ref b1)]))
    obtain ⟨cl17, Ar17, q17, S17, N17, H17, G17⟩ := id Vq13
    have hi17 := inb_of (j := (3 : Int32)) S17 ⟨by decide, by decide⟩
    have hv17 : cl17.slots[((3 : Int32)).toNatClampNeg]? = some (.int (BC3 qe)) := H17.at hi17 rfl
    refine ownEnds.law (fun t k => X13.caload hx (j := (3 : Int32)) (v := (.int (BC3 qe))) Ar17.1 (State.isArrayOf_alike hZ.alike Ar17.2.1) Ar17.2.2 hi17 hv17 (g := (mkF m 140 #[.val (.long qe), .second, .val (.int xw), .val (.int xf), .val (.int (0 : Int32)), .val (.int s0), .val (.ref b1), .unset, .unset, .unset, .unset] [(.int (3 : Int32)), (.ref b1)])) rfl rfl (hb hby at_140) _ (XS.sipush X13.here hx rfl (hb hby at_141) k)) ?_
    show ownEnds _ _ _ _ (T13.setTop (mkF m 144 #[.val (.long qe), .second, .val (.int xw), .val (.int xf), .val (.int (0 : Int32)), .val (.int s0), .val (.ref b1), .unset, .unset, .unset, .unset] [(.int (256 : Int32)), (.int (BC3 qe))]))
    have hc144 : (BC3 qe) < (256 : Int32) := own_lt3 _
    refine ownEnds.law (fun t => XS.icmpNo X13.here hx rfl (hb hby at_144) rfl (tlt hc144).2.1) ?_
    show ownEnds _ _ _ _ (T13.setTop (mkF m 147 #[.val (.long qe), .second, .val (.int xw), .val (.int xf), .val (.int (0 : Int32)), .val (.int s0), .val (.ref b1), .unset, .unset, .unset, .unset] []))
    refine ownEnds.law (fun t k => XS.aload X13.here hx rfl (hb hby at_147) rfl rfl (XS.iload X13.here hx rfl (hb hby at_149) rfl (XS.iconst X13.here hx rfl (hb hby at_151) (XS.iadd X13.here hx rfl (hb hby at_152) rfl k)))) ?_
    show ownEnds _ _ _ _ (T13.setTop (mkF m 153 #[.val (.long qe), .second, .val (.int xw), .val (.int xf), .val (.int (0 : Int32)), .val (.int s0), .val (.ref b1), .unset, .unset, .unset, .unset] [(.int (4 : Int32)), (.ref b1)]))
    obtain ⟨cl18, Ar18, q18, S18, N18, H18, G18⟩ := id Vq13
    have hi18 := inb_of (j := (4 : Int32)) S18 ⟨by decide, by decide⟩
    have hv18 : cl18.slots[((4 : Int32)).toNatClampNeg]? = some (.int (BC4 qe)) := H18.at hi18 rfl
    refine ownEnds.law (fun t k => X13.caload hx (j := (4 : Int32)) (v := (.int (BC4 qe))) Ar18.1 (State.isArrayOf_alike hZ.alike Ar18.2.1) Ar18.2.2 hi18 hv18 (g := (mkF m 153 #[.val (.long qe), .second, .val (.int xw), .val (.int xf), .val (.int (0 : Int32)), .val (.int s0), .val (.ref b1), .unset, .unset, .unset, .unset] [(.int (4 : Int32)), (.ref b1)])) rfl rfl (hb hby at_153) _ (XS.sipush X13.here hx rfl (hb hby at_154) k)) ?_
    show ownEnds _ _ _ _ (T13.setTop (mkF m 157 #[.val (.long qe), .second, .val (.int xw), .val (.int xf), .val (.int (0 : Int32)), .val (.int s0), .val (.ref b1), .unset, .unset, .unset, .unset] [(.int (256 : Int32)), (.int (BC4 qe))]))
    have hc157 : (BC4 qe) < (256 : Int32) := own_lt4 _
    refine ownEnds.law (fun t => XS.icmpNo X13.here hx rfl (hb hby at_157) rfl (tlt hc157).2.1) ?_
    show ownEnds _ _ _ _ (T13.setTop (mkF m 160 #[.val (.long qe), .second, .val (.int xw), .val (.int xf), .val (.int (0 : Int32)), .val (.int s0), .val (.ref b1), .unset, .unset, .unset, .unset] []))
    refine ownEnds.law (fun t k => XS.aload X13.here hx rfl (hb hby at_160) rfl rfl (XS.iload X13.here hx rfl (hb hby at_162) rfl (XS.iconst X13.here hx rfl (hb hby at_164) (XS.iadd X13.here hx rfl (hb hby at_165) rfl k)))) ?_
    show ownEnds _ _ _ _ (T13.setTop (mkF m 166 #[.val (.long qe), .second, .val (.int xw), .val (.int xf), .val (.int (0 : Int32)), .val (.int s0), .val (.ref b1), .unset, .unset, .unset, .unset] [(.int (5 : Int32)), (.ref b1)]))
    obtain ⟨cl19, Ar19, q19, S19, N19, H19, G19⟩ := id Vq13
    have hi19 := inb_of (j := (5 : Int32)) S19 ⟨by decide, by decide⟩
    have hv19 : cl19.slots[((5 : Int32)).toNatClampNeg]? = some (.int (BC5 qe)) := H19.at hi19 rfl
    refine ownEnds.law (fun t k => X13.caload hx (j := (5 : Int32)) (v := (.int (BC5 qe))) Ar19.1 (State.isArrayOf_alike hZ.alike Ar19.2.1) Ar19.2.2 hi19 hv19 (g := (mkF m 166 #[.val (.long qe), .second, .val (.int xw), .val (.int xf), .val (.int (0 : Int32)), .val (.int s0), .val (.ref b1), .unset, .unset, .unset, .unset] [(.int (5 : Int32)), (.ref b1)])) rfl rfl (hb hby at_166) _ (XS.sipush X13.here hx rfl (hb hby at_167) k)) ?_
    show ownEnds _ _ _ _ (T13.setTop (mkF m 170 #[.val (.long qe), .second, .val (.int xw), .val (.int xf), .val (.int (0 : Int32)), .val (.int s0), .val (.ref b1), .unset, .unset, .unset, .unset] [(.int (256 : Int32)), (.int (BC5 qe))]))
    have hc170 : (BC5 qe) < (256 : Int32) := own_lt5 _
    refine ownEnds.law (fun t => XS.icmpNo X13.here hx rfl (hb hby at_170) rfl (tlt hc170).2.1) ?_
    show ownEnds _ _ _ _ (T13.setTop (mkF m 173 #[.val (.long qe), .second, .val (.int xw), .val (.int xf), .val (.int (0 : Int32)), .val (.int s0), .val (.ref b1), .unset, .unset, .unset, .unset] []))
    refine ownEnds.law (fun t k => XS.aload X13.here hx rfl (hb hby at_173) rfl rfl (XS.iload X13.here hx rfl (hb hby at_175) rfl (XS.bipush X13.here hx rfl (hb hby at_177) (XS.iadd X13.here hx rfl (hb hby at_179) rfl k)))) ?_
    show ownEnds _ _ _ _ (T13.setTop (mkF m 180 #[.val (.long qe), .second, .val (.int xw), .val (.int xf), .val (.int (0 : Int32)), .val (.int s0), .val (.ref b1), .unset, .unset, .unset, .unset] [(.int (6 : Int32)), (.ref b1)]))
    obtain ⟨cl20, Ar20, q20, S20, N20, H20, G20⟩ := id Vq13
    have hi20 := inb_of (j := (6 : Int32)) S20 ⟨by decide, by decide⟩
    have hv20 : cl20.slots[((6 : Int32)).toNatClampNeg]? = some (.int (BC6 qe)) := H20.at hi20 rfl
    refine ownEnds.law (fun t k => X13.caload hx (j := (6 : Int32)) (v := (.int (BC6 qe))) Ar20.1 (State.isArrayOf_alike hZ.alike Ar20.2.1) Ar20.2.2 hi20 hv20 (g := (mkF m 180 #[.val (.long qe), .second, .val (.int xw), .val (.int xf), .val (.int (0 : Int32)), .val (.int s0), .val (.ref b1), .unset, .unset, .unset, .unset] [(.int (6 : Int32)), (.ref b1)])) rfl rfl (hb hby at_180) _ (XS.sipush X13.here hx rfl (hb hby at_181) k)) ?_
    show ownEnds _ _ _ _ (T13.setTop (mkF m 184 #[.val (.long qe), .second, .val (.int xw), .val (.int xf), .val (.int (0 : Int32)), .val (.int s0), .val (.ref b1), .unset, .unset, .unset, .unset] [(.int (256 : Int32)), (.int (BC6 qe))]))
    have hc184 : (BC6 qe) < (256 : Int32) := own_lt6 _
    refine ownEnds.law (fun t => XS.icmpNo X13.here hx rfl (hb hby at_184) rfl (tlt hc184).2.1) ?_
    show ownEnds _ _ _ _ (T13.setTop (mkF m 187 #[.val (.long qe), .second, .val (.int xw), .val (.int xf), .val (.int (0 : Int32)), .val (.int s0), .val (.ref b1), .unset, .unset, .unset, .unset] []))
    refine ownEnds.law (fun t k => XS.aload X13.here hx rfl (hb hby at_187) rfl rfl (XS.iload X13.here hx rfl (hb hby at_189) rfl (XS.bipush X13.here hx rfl (hb hby at_191) (XS.iadd X13.here hx rfl (hb hby at_193) rfl k)))) ?_
    show ownEnds _ _ _ _ (T13.setTop (mkF m 194 #[.val (.long qe), .second, .val (.int xw), .val (.int xf), .val (.int (0 : Int32)), .val (.int s0), .val (.ref b1), .unset, .unset, .unset, .unset] [(.int (7 : Int32)), (.ref b1)]))
    obtain ⟨cl21, Ar21, q21, S21, N21, H21, G21⟩ := id Vq13
    have hi21 := inb_of (j := (7 : Int32)) S21 ⟨by decide, by decide⟩
    have hv21 : cl21.slots[((7 : Int32)).toNatClampNeg]? = some (.int (BC7 qe)) := H21.at hi21 rfl
    refine ownEnds.law (fun t k => X13.caload hx (j := (7 : Int32)) (v := (.int (BC7 qe))) Ar21.1 (State.isArrayOf_alike hZ.alike Ar21.2.1) Ar21.2.2 hi21 hv21 (g := (mkF m 194 #[.val (.long qe), .second, .val (.int xw), .val (.int xf), .val (.int (0 : Int32)), .val (.int s0), .val (.ref b1), .unset, .unset, .unset, .unset] [(.int (7 : Int32)), (.ref b1)])) rfl rfl (hb hby at_194) _ (XS.sipush X13.here hx rfl (hb hby at_195) k)) ?_
    show ownEnds _ _ _ _ (T13.setTop (mkF m 198 #[.val (.long qe), .second, .val (.int xw), .val (.int xf), .val (.int (0 : Int32)), .val (.int s0), .val (.ref b1), .unset, .unset, .unset, .unset] [(.int (256 : Int32)), (.int (BC7 qe))]))
    have hc198 : (BC7 qe) < (256 : Int32) := own_lt7 _
    refine ownEnds.law (fun t => XS.icmpNo X13.here hx rfl (hb hby at_198) rfl (tlt hc198).2.1) ?_
    show ownEnds _ _ _ _ (T13.setTop (mkF m 201 #[.val (.long qe), .second, .val (.int xw), .val (.int xf), .val (.int (0 : Int32)), .val (.int s0), .val (.ref b1), .unset, .unset, .unset, .unset] []))
    refine ownEnds.law (fun t k => XS.iconst X13.here hx rfl (hb hby at_201) (XS.goto X13.here hx rfl (pc0 := 202) (pc' := 206) rfl (hb hby at_202) (by decide) (by decide) (XS.istore X13.here hx rfl (hb hby at_206) rfl (l' := #[.val (.long qe), .second, .val (.int xw), .val (.int xf), .val (.int (0 : Int32)), .val (.int s0), .val (.ref b1), .val (.int (1 : Int32)), .unset, .unset, .unset]) rfl (XS.aload X13.here hx rfl (hb hby at_208) rfl rfl (XS.iload X13.here hx rfl (hb hby at_210) rfl k))))) ?_
    show ownEnds _ _ _ _ (T13.setTop (mkF m 212 #[.val (.long qe), .second, .val (.int xw), .val (.int xf), .val (.int (0 : Int32)), .val (.int s0), .val (.ref b1), .val (.int (1 : Int32)), .unset, .unset, .unset] [(.int (0 : Int32)), (.ref b1)]))
    obtain ⟨cl22, Ar22, q22, S22, N22, H22, G22⟩ := id Vq13
    have hi22 := inb_of (j := (0 : Int32)) S22 ⟨by decide, by decide⟩
    have hv22 : cl22.slots[((0 : Int32)).toNatClampNeg]? = some (.int (BC0 qe)) := H22.at hi22 rfl
    refine ownEnds.law (fun t k => X13.caload hx (j := (0 : Int32)) (v := (.int (BC0 qe))) Ar22.1 (State.isArrayOf_alike hZ.alike Ar22.2.1) Ar22.2.2 hi22 hv22 (g := (mkF m 212 #[.val (.long qe), .second, .val (.int xw), .val (.int xf), .val (.int (0 : Int32)), .val (.int s0), .val (.ref b1), .val (.int (1 : Int32)), .unset, .unset, .unset] [(.int (0 : Int32)), (.ref b1)])) rfl rfl (hb hby at_212) _ (XS.i2l X13.here hx rfl (hb hby at_213) rfl (XS.aload X13.here hx rfl (hb hby at_214) rfl rfl (XS.iload X13.here hx rfl (hb hby at_216) rfl (XS.iconst X13.here hx rfl (hb hby at_218) (XS.iadd X13.here hx rfl (hb hby at_219) rfl k)))))) ?_
    show ownEnds _ _ _ _ (T13.setTop (mkF m 220 #[.val (.long qe), .second, .val (.int xw), .val (.int xf), .val (.int (0 : Int32)), .val (.int s0), .val (.ref b1), .val (.int (1 : Int32)), .unset, .unset, .unset] [(.int (1 : Int32)), (.ref b1), (.long ((BC0 qe).toInt64))]))
    obtain ⟨cl23, Ar23, q23, S23, N23, H23, G23⟩ := id Vq13
    have hi23 := inb_of (j := (1 : Int32)) S23 ⟨by decide, by decide⟩
    have hv23 : cl23.slots[((1 : Int32)).toNatClampNeg]? = some (.int (BC1 qe)) := H23.at hi23 rfl
    refine ownEnds.law (fun t k => X13.caload hx (j := (1 : Int32)) (v := (.int (BC1 qe))) Ar23.1 (State.isArrayOf_alike hZ.alike Ar23.2.1) Ar23.2.2 hi23 hv23 (g := (mkF m 220 #[.val (.long qe), .second, .val (.int xw), .val (.int xf), .val (.int (0 : Int32)), .val (.int s0), .val (.ref b1), .val (.int (1 : Int32)), .unset, .unset, .unset] [(.int (1 : Int32)), (.ref b1), (.long ((BC0 qe).toInt64))])) rfl rfl (hb hby at_220) _ (XS.i2l X13.here hx rfl (hb hby at_221) rfl (XS.bipush X13.here hx rfl (hb hby at_222) (XS.lshl X13.here hx rfl (hb hby at_224) rfl (XS.lor X13.here hx rfl (hb hby at_225) rfl (XS.aload X13.here hx rfl (hb hby at_226) rfl rfl (XS.iload X13.here hx rfl (hb hby at_228) rfl (XS.iconst X13.here hx rfl (hb hby at_230) (XS.iadd X13.here hx rfl (hb hby at_231) rfl k))))))))) ?_
    show ownEnds _ _ _ _ (T13.setTop (mkF m 232 #[.val (.long qe), .second, .val (.int xw), .val (.int xf), .val (.int (0 : Int32)), .val (.int s0), .val (.ref b1), .val (.int (1 : Int32)), .unset, .unset, .unset] [(.int (2 : Int32)), (.ref b1), (.long (((BC0 qe).toInt64) ||| (((BC1 qe).toInt64) <<< ((8 : Int32) &&& 0x3f).toInt64)))]))
    obtain ⟨cl24, Ar24, q24, S24, N24, H24, G24⟩ := id Vq13
    have hi24 := inb_of (j := (2 : Int32)) S24 ⟨by decide, by decide⟩
    have hv24 : cl24.slots[((2 : Int32)).toNatClampNeg]? = some (.int (BC2 qe)) := H24.at hi24 rfl
    refine ownEnds.law (fun t k => X13.caload hx (j := (2 : Int32)) (v := (.int (BC2 qe))) Ar24.1 (State.isArrayOf_alike hZ.alike Ar24.2.1) Ar24.2.2 hi24 hv24 (g := (mkF m 232 #[.val (.long qe), .second, .val (.int xw), .val (.int xf), .val (.int (0 : Int32)), .val (.int s0), .val (.ref b1), .val (.int (1 : Int32)), .unset, .unset, .unset] [(.int (2 : Int32)), (.ref b1), (.long (((BC0 qe).toInt64) ||| (((BC1 qe).toInt64) <<< ((8 : Int32) &&& 0x3f).toInt64)))])) rfl rfl (hb hby at_232) _ (XS.i2l X13.here hx rfl (hb hby at_233) rfl (XS.bipush X13.here hx rfl (hb hby at_234) (XS.lshl X13.here hx rfl (hb hby at_236) rfl (XS.lor X13.here hx rfl (hb hby at_237) rfl (XS.aload X13.here hx rfl (hb hby at_238) rfl rfl (XS.iload X13.here hx rfl (hb hby at_240) rfl (XS.iconst X13.here hx rfl (hb hby at_242) (XS.iadd X13.here hx rfl (hb hby at_243) rfl k))))))))) ?_
    show ownEnds _ _ _ _ (T13.setTop (mkF m 244 #[.val (.long qe), .second, .val (.int xw), .val (.int xf), .val (.int (0 : Int32)), .val (.int s0), .val (.ref b1), .val (.int (1 : Int32)), .unset, .unset, .unset] [(.int (3 : Int32)), (.ref b1), (.long ((((BC0 qe).toInt64) ||| (((BC1 qe).toInt64) <<< ((8 : Int32) &&& 0x3f).toInt64)) ||| (((BC2 qe).toInt64) <<< ((16 : Int32) &&& 0x3f).toInt64)))]))
    obtain ⟨cl25, Ar25, q25, S25, N25, H25, G25⟩ := id Vq13
    have hi25 := inb_of (j := (3 : Int32)) S25 ⟨by decide, by decide⟩
    have hv25 : cl25.slots[((3 : Int32)).toNatClampNeg]? = some (.int (BC3 qe)) := H25.at hi25 rfl
    refine ownEnds.law (fun t k => X13.caload hx (j := (3 : Int32)) (v := (.int (BC3 qe))) Ar25.1 (State.isArrayOf_alike hZ.alike Ar25.2.1) Ar25.2.2 hi25 hv25 (g := (mkF m 244 #[.val (.long qe), .second, .val (.int xw), .val (.int xf), .val (.int (0 : Int32)), .val (.int s0), .val (.ref b1), .val (.int (1 : Int32)), .unset, .unset, .unset] [(.int (3 : Int32)), (.ref b1), (.long ((((BC0 qe).toInt64) ||| (((BC1 qe).toInt64) <<< ((8 : Int32) &&& 0x3f).toInt64)) ||| (((BC2 qe).toInt64) <<< ((16 : Int32) &&& 0x3f).toInt64)))])) rfl rfl (hb hby at_244) _ (XS.i2l X13.here hx rfl (hb hby at_245) rfl (XS.bipush X13.here hx rfl (hb hby at_246) (XS.lshl X13.here hx rfl (hb hby at_248) rfl (XS.lor X13.here hx rfl (hb hby at_249) rfl (XS.aload X13.here hx rfl (hb hby at_250) rfl rfl (XS.iload X13.here hx rfl (hb hby at_252) rfl (XS.iconst X13.here hx rfl (hb hby at_254) (XS.iadd X13.here hx rfl (hb hby at_255) rfl k))))))))) ?_
    show ownEnds _ _ _ _ (T13.setTop (mkF m 256 #[.val (.long qe), .second, .val (.int xw), .val (.int xf), .val (.int (0 : Int32)), .val (.int s0), .val (.ref b1), .val (.int (1 : Int32)), .unset, .unset, .unset] [(.int (4 : Int32)), (.ref b1), (.long (((((BC0 qe).toInt64) ||| (((BC1 qe).toInt64) <<< ((8 : Int32) &&& 0x3f).toInt64)) ||| (((BC2 qe).toInt64) <<< ((16 : Int32) &&& 0x3f).toInt64)) ||| (((BC3 qe).toInt64) <<< ((24 : Int32) &&& 0x3f).toInt64)))]))
    obtain ⟨cl26, Ar26, q26, S26, N26, H26, G26⟩ := id Vq13
    have hi26 := inb_of (j := (4 : Int32)) S26 ⟨by decide, by decide⟩
    have hv26 : cl26.slots[((4 : Int32)).toNatClampNeg]? = some (.int (BC4 qe)) := H26.at hi26 rfl
    refine ownEnds.law (fun t k => X13.caload hx (j := (4 : Int32)) (v := (.int (BC4 qe))) Ar26.1 (State.isArrayOf_alike hZ.alike Ar26.2.1) Ar26.2.2 hi26 hv26 (g := (mkF m 256 #[.val (.long qe), .second, .val (.int xw), .val (.int xf), .val (.int (0 : Int32)), .val (.int s0), .val (.ref b1), .val (.int (1 : Int32)), .unset, .unset, .unset] [(.int (4 : Int32)), (.ref b1), (.long (((((BC0 qe).toInt64) ||| (((BC1 qe).toInt64) <<< ((8 : Int32) &&& 0x3f).toInt64)) ||| (((BC2 qe).toInt64) <<< ((16 : Int32) &&& 0x3f).toInt64)) ||| (((BC3 qe).toInt64) <<< ((24 : Int32) &&& 0x3f).toInt64)))])) rfl rfl (hb hby at_256) _ (XS.i2l X13.here hx rfl (hb hby at_257) rfl (XS.bipush X13.here hx rfl (hb hby at_258) (XS.lshl X13.here hx rfl (hb hby at_260) rfl (XS.lor X13.here hx rfl (hb hby at_261) rfl (XS.aload X13.here hx rfl (hb hby at_262) rfl rfl (XS.iload X13.here hx rfl (hb hby at_264) rfl (XS.iconst X13.here hx rfl (hb hby at_266) (XS.iadd X13.here hx rfl (hb hby at_267) rfl k))))))))) ?_
    show ownEnds _ _ _ _ (T13.setTop (mkF m 268 #[.val (.long qe), .second, .val (.int xw), .val (.int xf), .val (.int (0 : Int32)), .val (.int s0), .val (.ref b1), .val (.int (1 : Int32)), .unset, .unset, .unset] [(.int (5 : Int32)), (.ref b1), (.long ((((((BC0 qe).toInt64) ||| (((BC1 qe).toInt64) <<< ((8 : Int32) &&& 0x3f).toInt64)) ||| (((BC2 qe).toInt64) <<< ((16 : Int32) &&& 0x3f).toInt64)) ||| (((BC3 qe).toInt64) <<< ((24 : Int32) &&& 0x3f).toInt64)) ||| (((BC4 qe).toInt64) <<< ((32 : Int32) &&& 0x3f).toInt64)))]))
    obtain ⟨cl27, Ar27, q27, S27, N27, H27, G27⟩ := id Vq13
    have hi27 := inb_of (j := (5 : Int32)) S27 ⟨by decide, by decide⟩
    have hv27 : cl27.slots[((5 : Int32)).toNatClampNeg]? = some (.int (BC5 qe)) := H27.at hi27 rfl
    refine ownEnds.law (fun t k => X13.caload hx (j := (5 : Int32)) (v := (.int (BC5 qe))) Ar27.1 (State.isArrayOf_alike hZ.alike Ar27.2.1) Ar27.2.2 hi27 hv27 (g := (mkF m 268 #[.val (.long qe), .second, .val (.int xw), .val (.int xf), .val (.int (0 : Int32)), .val (.int s0), .val (.ref b1), .val (.int (1 : Int32)), .unset, .unset, .unset] [(.int (5 : Int32)), (.ref b1), (.long ((((((BC0 qe).toInt64) ||| (((BC1 qe).toInt64) <<< ((8 : Int32) &&& 0x3f).toInt64)) ||| (((BC2 qe).toInt64) <<< ((16 : Int32) &&& 0x3f).toInt64)) ||| (((BC3 qe).toInt64) <<< ((24 : Int32) &&& 0x3f).toInt64)) ||| (((BC4 qe).toInt64) <<< ((32 : Int32) &&& 0x3f).toInt64)))])) rfl rfl (hb hby at_268) _ (XS.i2l X13.here hx rfl (hb hby at_269) rfl (XS.bipush X13.here hx rfl (hb hby at_270) (XS.lshl X13.here hx rfl (hb hby at_272) rfl (XS.lor X13.here hx rfl (hb hby at_273) rfl (XS.aload X13.here hx rfl (hb hby at_274) rfl rfl (XS.iload X13.here hx rfl (hb hby at_276) rfl (XS.bipush X13.here hx rfl (hb hby at_278) (XS.iadd X13.here hx rfl (hb hby at_280) rfl k))))))))) ?_
    show ownEnds _ _ _ _ (T13.setTop (mkF m 281 #[.val (.long qe), .second, .val (.int xw), .val (.int xf), .val (.int (0 : Int32)), .val (.int s0), .val (.ref b1), .val (.int (1 : Int32)), .unset, .unset, .unset] [(.int (6 : Int32)), (.ref b1), (.long (((((((BC0 qe).toInt64) ||| (((BC1 qe).toInt64) <<< ((8 : Int32) &&& 0x3f).toInt64)) ||| (((BC2 qe).toInt64) <<< ((16 : Int32) &&& 0x3f).toInt64)) ||| (((BC3 qe).toInt64) <<< ((24 : Int32) &&& 0x3f).toInt64)) ||| (((BC4 qe).toInt64) <<< ((32 : Int32) &&& 0x3f).toInt64)) ||| (((BC5 qe).toInt64) <<< ((40 : Int32) &&& 0x3f).toInt64)))]))
    obtain ⟨cl28, Ar28, q28, S28, N28, H28, G28⟩ := id Vq13
    have hi28 := inb_of (j := (6 : Int32)) S28 ⟨by decide, by decide⟩
    have hv28 : cl28.slots[((6 : Int32)).toNatClampNeg]? = some (.int (BC6 qe)) := H28.at hi28 rfl
    refine ownEnds.law (fun t k => X13.caload hx (j := (6 : Int32)) (v := (.int (BC6 qe))) Ar28.1 (State.isArrayOf_alike hZ.alike Ar28.2.1) Ar28.2.2 hi28 hv28 (g := (mkF m 281 #[.val (.long qe), .second, .val (.int xw), .val (.int xf), .val (.int (0 : Int32)), .val (.int s0), .val (.ref b1), .val (.int (1 : Int32)), .unset, .unset, .unset] [(.int (6 : Int32)), (.ref b1), (.long (((((((BC0 qe).toInt64) ||| (((BC1 qe).toInt64) <<< ((8 : Int32) &&& 0x3f).toInt64)) ||| (((BC2 qe).toInt64) <<< ((16 : Int32) &&& 0x3f).toInt64)) ||| (((BC3 qe).toInt64) <<< ((24 : Int32) &&& 0x3f).toInt64)) ||| (((BC4 qe).toInt64) <<< ((32 : Int32) &&& 0x3f).toInt64)) ||| (((BC5 qe).toInt64) <<< ((40 : Int32) &&& 0x3f).toInt64)))])) rfl rfl (hb hby at_281) _ (XS.i2l X13.here hx rfl (hb hby at_282) rfl (XS.bipush X13.here hx rfl (hb hby at_283) (XS.lshl X13.here hx rfl (hb hby at_285) rfl (XS.lor X13.here hx rfl (hb hby at_286) rfl (XS.aload X13.here hx rfl (hb hby at_287) rfl rfl (XS.iload X13.here hx rfl (hb hby at_289) rfl (XS.bipush X13.here hx rfl (hb hby at_291) (XS.iadd X13.here hx rfl (hb hby at_293) rfl k))))))))) ?_
    show ownEnds _ _ _ _ (T13.setTop (mkF m 294 #[.val (.long qe), .second, .val (.int xw), .val (.int xf), .val (.int (0 : Int32)), .val (.int s0), .val (.ref b1), .val (.int (1 : Int32)), .unset, .unset, .unset] [(.int (7 : Int32)), (.ref b1), (.long ((((((((BC0 qe).toInt64) ||| (((BC1 qe).toInt64) <<< ((8 : Int32) &&& 0x3f).toInt64)) ||| (((BC2 qe).toInt64) <<< ((16 : Int32) &&& 0x3f).toInt64)) ||| (((BC3 qe).toInt64) <<< ((24 : Int32) &&& 0x3f).toInt64)) ||| (((BC4 qe).toInt64) <<< ((32 : Int32) &&& 0x3f).toInt64)) ||| (((BC5 qe).toInt64) <<< ((40 : Int32) &&& 0x3f).toInt64)) ||| (((BC6 qe).toInt64) <<< ((48 : Int32) &&& 0x3f).toInt64)))]))
    obtain ⟨cl29, Ar29, q29, S29, N29, H29, G29⟩ := id Vq13
    have hi29 := inb_of (j := (7 : Int32)) S29 ⟨by decide, by decide⟩
    have hv29 : cl29.slots[((7 : Int32)).toNatClampNeg]? = some (.int (BC7 qe)) := H29.at hi29 rfl
    refine ownEnds.law (fun t k => X13.caload hx (j := (7 : Int32)) (v := (.int (BC7 qe))) Ar29.1 (State.isArrayOf_alike hZ.alike Ar29.2.1) Ar29.2.2 hi29 hv29 (g := (mkF m 294 #[.val (.long qe), .second, .val (.int xw), .val (.int xf), .val (.int (0 : Int32)), .val (.int s0), .val (.ref b1), .val (.int (1 : Int32)), .unset, .unset, .unset] [(.int (7 : Int32)), (.ref b1), (.long ((((((((BC0 qe).toInt64) ||| (((BC1 qe).toInt64) <<< ((8 : Int32) &&& 0x3f).toInt64)) ||| (((BC2 qe).toInt64) <<< ((16 : Int32) &&& 0x3f).toInt64)) ||| (((BC3 qe).toInt64) <<< ((24 : Int32) &&& 0x3f).toInt64)) ||| (((BC4 qe).toInt64) <<< ((32 : Int32) &&& 0x3f).toInt64)) ||| (((BC5 qe).toInt64) <<< ((40 : Int32) &&& 0x3f).toInt64)) ||| (((BC6 qe).toInt64) <<< ((48 : Int32) &&& 0x3f).toInt64)))])) rfl rfl (hb hby at_294) _ (XS.i2l X13.here hx rfl (hb hby at_295) rfl (XS.bipush X13.here hx rfl (hb hby at_296) (XS.lshl X13.here hx rfl (hb hby at_298) rfl (XS.lor X13.here hx rfl (hb hby at_299) rfl k))))) ?_
    show ownEnds _ _ _ _ (T13.setTop (mkF m 300 #[.val (.long qe), .second, .val (.int xw), .val (.int xf), .val (.int (0 : Int32)), .val (.int s0), .val (.ref b1), .val (.int (1 : Int32)), .unset, .unset, .unset] [(.long (((((((((BC0 qe).toInt64) ||| (((BC1 qe).toInt64) <<< ((8 : Int32) &&& 0x3f).toInt64)) ||| (((BC2 qe).toInt64) <<< ((16 : Int32) &&& 0x3f).toInt64)) ||| (((BC3 qe).toInt64) <<< ((24 : Int32) &&& 0x3f).toInt64)) ||| (((BC4 qe).toInt64) <<< ((32 : Int32) &&& 0x3f).toInt64)) ||| (((BC5 qe).toInt64) <<< ((40 : Int32) &&& 0x3f).toInt64)) ||| (((BC6 qe).toInt64) <<< ((48 : Int32) &&& 0x3f).toInt64)) ||| (((BC7 qe).toInt64) <<< ((56 : Int32) &&& 0x3f).toInt64)))]))
    obtain ⟨rr, e_rr⟩ : ∃ z : Int64, z = (((((((((BC0 qe).toInt64) ||| (((BC1 qe).toInt64) <<< ((8 : Int32) &&& 0x3f).toInt64)) ||| (((BC2 qe).toInt64) <<< ((16 : Int32) &&& 0x3f).toInt64)) ||| (((BC3 qe).toInt64) <<< ((24 : Int32) &&& 0x3f).toInt64)) ||| (((BC4 qe).toInt64) <<< ((32 : Int32) &&& 0x3f).toInt64)) ||| (((BC5 qe).toInt64) <<< ((40 : Int32) &&& 0x3f).toInt64)) ||| (((BC6 qe).toInt64) <<< ((48 : Int32) &&& 0x3f).toInt64)) ||| (((BC7 qe).toInt64) <<< ((56 : Int32) &&& 0x3f).toInt64)) := ⟨_, rfl⟩
    rw [← e_rr]
    show ownEnds _ _ _ _ (T13.setTop (mkF m 300 #[.val (.long qe), .second, .val (.int xw), .val (.int xf), .val (.int (0 : Int32)), .val (.int s0), .val (.ref b1), .val (.int (1 : Int32)), .unset, .unset, .unset] [(.long rr)]))
    refine ownEnds.law (fun t k => XS.lstore X13.here hx rfl (hb hby at_300) rfl (l' := #[.val (.long qe), .second, .val (.int xw), .val (.int xf), .val (.int (0 : Int32)), .val (.int s0), .val (.ref b1), .val (.int (1 : Int32)), .val (.long rr), .second, .unset]) rfl (XS.aload X13.here hx rfl (hb hby at_302) rfl rfl (XS.iconst X13.here hx rfl (hb hby at_304) (XS.iload X13.here hx rfl (hb hby at_305) rfl (XS.iload X13.here hx rfl (hb hby at_307) rfl k))))) ?_
    show ownEnds _ _ _ _ (T13.setTop (mkF m 309 #[.val (.long qe), .second, .val (.int xw), .val (.int xf), .val (.int (0 : Int32)), .val (.int s0), .val (.ref b1), .val (.int (1 : Int32)), .val (.long rr), .second, .unset] [(.int s0), (.int (0 : Int32)), (.int (0 : Int32)), (.ref b1)]))
    obtain ⟨v30, T30, L30, X30, hQ30, st30⟩ := ownCallS X13 hx hZ hown (y := (⟨"com/example/seven_bit_codecs/sevenbitcodecs/EightBytesWriteAsCharsPinLaw", "keeps", "([CIIC)Z"⟩ : MethodName)) (as := [(.ref b1), (.int (0 : Int32)), (.int (0 : Int32)), (.int s0)]) (wd_7 hw) (wd_8 hw) (wd_9 hw) (wd_10 hw) (by decide) (rm2 l Z a0 hw b1 (0 : Int32) (0 : Int32) s0 k1 _ T13.heap n0 Z13 Vq13 ⟨by decide, by decide⟩ (fun h => absurd h (by decide))) rfl 0 (by decide) (by decide) (by decide) (by decide) (g := (mkF m 309 #[.val (.long qe), .second, .val (.int xw), .val (.int xf), .val (.int (0 : Int32)), .val (.int s0), .val (.ref b1), .val (.int (1 : Int32)), .val (.long rr), .second, .unset] [(.int s0), (.int (0 : Int32)), (.int (0 : Int32)), (.ref b1)])) rfl (by rw [hml]; rfl) (rest := []) pd_1 rfl rfl (by show 2 * 0 + _ ≤ _; exact Nat.le_of_eq rfl) (hb hby at_309)
    obtain ⟨rfl, rfl, e30⟩ := hQ30
    rw [List.append_nil] at X30
    refine ownEnds.law st30 ?_
    show ownEnds _ _ _ _ (T30.setTop (mkF m 312 #[.val (.long qe), .second, .val (.int xw), .val (.int xf), .val (.int (0 : Int32)), .val (.int s0), .val (.ref b1), .val (.int (1 : Int32)), .val (.long rr), .second, .unset] [(.int (1 : Int32))]))
    refine ownEnds.law (fun t => XS.ifNo X30.here hx rfl (hb hby at_312) rfl ((if0 _ _).trans (feq (by decide : ¬ ((1 : Int32) = (0 : Int32)))).1)) ?_
    show ownEnds _ _ _ _ (T30.setTop (mkF m 315 #[.val (.long qe), .second, .val (.int xw), .val (.int xf), .val (.int (0 : Int32)), .val (.int s0), .val (.ref b1), .val (.int (1 : Int32)), .val (.long rr), .second, .unset] []))
    refine ownEnds.law (fun t k => XS.aload X30.here hx rfl (hb hby at_315) rfl rfl (XS.iconst X30.here hx rfl (hb hby at_317) (XS.iload X30.here hx rfl (hb hby at_318) rfl (XS.iload X30.here hx rfl (hb hby at_320) rfl k)))) ?_
    show ownEnds _ _ _ _ (T30.setTop (mkF m 322 #[.val (.long qe), .second, .val (.int xw), .val (.int xf), .val (.int (0 : Int32)), .val (.int s0), .val (.ref b1), .val (.int (1 : Int32)), .val (.long rr), .second, .unset] [(.int s0), (.int (0 : Int32)), (.int (1 : Int32)), (.ref b1)]))
    obtain ⟨v31, T31, L31, X31, hQ31, st31⟩ := ownCallS X30 hx hZ hown (y := (⟨"com/example/seven_bit_codecs/sevenbitcodecs/EightBytesWriteAsCharsPinLaw", "keeps", "([CIIC)Z"⟩ : MethodName)) (as := [(.ref b1), (.int (1 : Int32)), (.int (0 : Int32)), (.int s0)]) (wd_7 hw) (wd_8 hw) (wd_9 hw) (wd_10 hw) (by decide) (rm2 l Z a0 hw b1 (1 : Int32) (0 : Int32) s0 k1 _ T13.heap n0 Z13 Vq13 ⟨by decide, by decide⟩ (fun h => absurd h (by decide))) e30 0 (by decide) (by decide) (by decide) (by decide) (g := (mkF m 322 #[.val (.long qe), .second, .val (.int xw), .val (.int xf), .val (.int (0 : Int32)), .val (.int s0), .val (.ref b1), .val (.int (1 : Int32)), .val (.long rr), .second, .unset] [(.int s0), (.int (0 : Int32)), (.int (1 : Int32)), (.ref b1)])) rfl (by rw [hml]; rfl) (rest := []) pd_1 rfl rfl (by show 2 * 0 + _ ≤ _; exact Nat.le_of_eq rfl) (hb hby at_322)
    obtain ⟨rfl, rfl, e31⟩ := hQ31
    rw [List.append_nil] at X31
    refine ownEnds.law st31 ?_
    show ownEnds _ _ _ _ (T31.setTop (mkF m 325 #[.val (.long qe), .second, .val (.int xw), .val (.int xf), .val (.int (0 : Int32)), .val (.int s0), .val (.ref b1), .val (.int (1 : Int32)), .val (.long rr), .second, .unset] [(.int (1 : Int32))]))
    refine ownEnds.law (fun t => XS.ifNo X31.here hx rfl (hb hby at_325) rfl ((if0 _ _).trans (feq (by decide : ¬ ((1 : Int32) = (0 : Int32)))).1)) ?_
    show ownEnds _ _ _ _ (T31.setTop (mkF m 328 #[.val (.long qe), .second, .val (.int xw), .val (.int xf), .val (.int (0 : Int32)), .val (.int s0), .val (.ref b1), .val (.int (1 : Int32)), .val (.long rr), .second, .unset] []))
    refine ownEnds.law (fun t k => XS.aload X31.here hx rfl (hb hby at_328) rfl rfl (XS.iconst X31.here hx rfl (hb hby at_330) (XS.iload X31.here hx rfl (hb hby at_331) rfl (XS.iload X31.here hx rfl (hb hby at_333) rfl k)))) ?_
    show ownEnds _ _ _ _ (T31.setTop (mkF m 335 #[.val (.long qe), .second, .val (.int xw), .val (.int xf), .val (.int (0 : Int32)), .val (.int s0), .val (.ref b1), .val (.int (1 : Int32)), .val (.long rr), .second, .unset] [(.int s0), (.int (0 : Int32)), (.int (2 : Int32)), (.ref b1)]))
    obtain ⟨v32, T32, L32, X32, hQ32, st32⟩ := ownCallS X31 hx hZ hown (y := (⟨"com/example/seven_bit_codecs/sevenbitcodecs/EightBytesWriteAsCharsPinLaw", "keeps", "([CIIC)Z"⟩ : MethodName)) (as := [(.ref b1), (.int (2 : Int32)), (.int (0 : Int32)), (.int s0)]) (wd_7 hw) (wd_8 hw) (wd_9 hw) (wd_10 hw) (by decide) (rm2 l Z a0 hw b1 (2 : Int32) (0 : Int32) s0 k1 _ T13.heap n0 Z13 Vq13 ⟨by decide, by decide⟩ (fun h => absurd h (by decide))) e31 0 (by decide) (by decide) (by decide) (by decide) (g := (mkF m 335 #[.val (.long qe), .second, .val (.int xw), .val (.int xf), .val (.int (0 : Int32)), .val (.int s0), .val (.ref b1), .val (.int (1 : Int32)), .val (.long rr), .second, .unset] [(.int s0), (.int (0 : Int32)), (.int (2 : Int32)), (.ref b1)])) rfl (by rw [hml]; rfl) (rest := []) pd_1 rfl rfl (by show 2 * 0 + _ ≤ _; exact Nat.le_of_eq rfl) (hb hby at_335)
    obtain ⟨rfl, rfl, e32⟩ := hQ32
    rw [List.append_nil] at X32
    refine ownEnds.law st32 ?_
    show ownEnds _ _ _ _ (T32.setTop (mkF m 338 #[.val (.long qe), .second, .val (.int xw), .val (.int xf), .val (.int (0 : Int32)), .val (.int s0), .val (.ref b1), .val (.int (1 : Int32)), .val (.long rr), .second, .unset] [(.int (1 : Int32))]))
    refine ownEnds.law (fun t => XS.ifNo X32.here hx rfl (hb hby at_338) rfl ((if0 _ _).trans (feq (by decide : ¬ ((1 : Int32) = (0 : Int32)))).1)) ?_
    show ownEnds _ _ _ _ (T32.setTop (mkF m 341 #[.val (.long qe), .second, .val (.int xw), .val (.int xf), .val (.int (0 : Int32)), .val (.int s0), .val (.ref b1), .val (.int (1 : Int32)), .val (.long rr), .second, .unset] []))
    refine ownEnds.law (fun t k => XS.aload X32.here hx rfl (hb hby at_341) rfl rfl (XS.iconst X32.here hx rfl (hb hby at_343) (XS.iload X32.here hx rfl (hb hby at_344) rfl (XS.iload X32.here hx rfl (hb hby at_346) rfl k)))) ?_
    show ownEnds _ _ _ _ (T32.setTop (mkF m 348 #[.val (.long qe), .second, .val (.int xw), .val (.int xf), .val (.int (0 : Int32)), .val (.int s0), .val (.ref b1), .val (.int (1 : Int32)), .val (.long rr), .second, .unset] [(.int s0), (.int (0 : Int32)), (.int (3 : Int32)), (.ref b1)]))
    obtain ⟨v33, T33, L33, X33, hQ33, st33⟩ := ownCallS X32 hx hZ hown (y := (⟨"com/example/seven_bit_codecs/sevenbitcodecs/EightBytesWriteAsCharsPinLaw", "keeps", "([CIIC)Z"⟩ : MethodName)) (as := [(.ref b1), (.int (3 : Int32)), (.int (0 : Int32)), (.int s0)]) (wd_7 hw) (wd_8 hw) (wd_9 hw) (wd_10 hw) (by decide) (rm2 l Z a0 hw b1 (3 : Int32) (0 : Int32) s0 k1 _ T13.heap n0 Z13 Vq13 ⟨by decide, by decide⟩ (fun h => absurd h (by decide))) e32 0 (by decide) (by decide) (by decide) (by decide) (g := (mkF m 348 #[.val (.long qe), .second, .val (.int xw), .val (.int xf), .val (.int (0 : Int32)), .val (.int s0), .val (.ref b1), .val (.int (1 : Int32)), .val (.long rr), .second, .unset] [(.int s0), (.int (0 : Int32)), (.int (3 : Int32)), (.ref b1)])) rfl (by rw [hml]; rfl) (rest := []) pd_1 rfl rfl (by show 2 * 0 + _ ≤ _; exact Nat.le_of_eq rfl) (hb hby at_348)
    obtain ⟨rfl, rfl, e33⟩ := hQ33
    rw [List.append_nil] at X33
    refine ownEnds.law st33 ?_
    show ownEnds _ _ _ _ (T33.setTop (mkF m 351 #[.val (.long qe), .second, .val (.int xw), .val (.int xf), .val (.int (0 : Int32)), .val (.int s0), .val (.ref b1), .val (.int (1 : Int32)), .val (.long rr), .second, .unset] [(.int (1 : Int32))]))
    refine ownEnds.law (fun t => XS.ifNo X33.here hx rfl (hb hby at_351) rfl ((if0 _ _).trans (feq (by decide : ¬ ((1 : Int32) = (0 : Int32)))).1)) ?_
    show ownEnds _ _ _ _ (T33.setTop (mkF m 354 #[.val (.long qe), .second, .val (.int xw), .val (.int xf), .val (.int (0 : Int32)), .val (.int s0), .val (.ref b1), .val (.int (1 : Int32)), .val (.long rr), .second, .unset] []))
    refine ownEnds.law (fun t k => XS.aload X33.here hx rfl (hb hby at_354) rfl rfl (XS.iconst X33.here hx rfl (hb hby at_356) (XS.iload X33.here hx rfl (hb hby at_357) rfl (XS.iload X33.here hx rfl (hb hby at_359) rfl k)))) ?_
    show ownEnds _ _ _ _ (T33.setTop (mkF m 361 #[.val (.long qe), .second, .val (.int xw), .val (.int xf), .val (.int (0 : Int32)), .val (.int s0), .val (.ref b1), .val (.int (1 : Int32)), .val (.long rr), .second, .unset] [(.int s0), (.int (0 : Int32)), (.int (4 : Int32)), (.ref b1)]))
    obtain ⟨v34, T34, L34, X34, hQ34, st34⟩ := ownCallS X33 hx hZ hown (y := (⟨"com/example/seven_bit_codecs/sevenbitcodecs/EightBytesWriteAsCharsPinLaw", "keeps", "([CIIC)Z"⟩ : MethodName)) (as := [(.ref b1), (.int (4 : Int32)), (.int (0 : Int32)), (.int s0)]) (wd_7 hw) (wd_8 hw) (wd_9 hw) (wd_10 hw) (by decide) (rm2 l Z a0 hw b1 (4 : Int32) (0 : Int32) s0 k1 _ T13.heap n0 Z13 Vq13 ⟨by decide, by decide⟩ (fun h => absurd h (by decide))) e33 0 (by decide) (by decide) (by decide) (by decide) (g := (mkF m 361 #[.val (.long qe), .second, .val (.int xw), .val (.int xf), .val (.int (0 : Int32)), .val (.int s0), .val (.ref b1), .val (.int (1 : Int32)), .val (.long rr), .second, .unset] [(.int s0), (.int (0 : Int32)), (.int (4 : Int32)), (.ref b1)])) rfl (by rw [hml]; rfl) (rest := []) pd_1 rfl rfl (by show 2 * 0 + _ ≤ _; exact Nat.le_of_eq rfl) (hb hby at_361)
    obtain ⟨rfl, rfl, e34⟩ := hQ34
    rw [List.append_nil] at X34
    refine ownEnds.law st34 ?_
    show ownEnds _ _ _ _ (T34.setTop (mkF m 364 #[.val (.long qe), .second, .val (.int xw), .val (.int xf), .val (.int (0 : Int32)), .val (.int s0), .val (.ref b1), .val (.int (1 : Int32)), .val (.long rr), .second, .unset] [(.int (1 : Int32))]))
    refine ownEnds.law (fun t => XS.ifNo X34.here hx rfl (hb hby at_364) rfl ((if0 _ _).trans (feq (by decide : ¬ ((1 : Int32) = (0 : Int32)))).1)) ?_
    show ownEnds _ _ _ _ (T34.setTop (mkF m 367 #[.val (.long qe), .second, .val (.int xw), .val (.int xf), .val (.int (0 : Int32)), .val (.int s0), .val (.ref b1), .val (.int (1 : Int32)), .val (.long rr), .second, .unset] []))
    refine ownEnds.law (fun t k => XS.aload X34.here hx rfl (hb hby at_367) rfl rfl (XS.iconst X34.here hx rfl (hb hby at_369) (XS.iload X34.here hx rfl (hb hby at_370) rfl (XS.iload X34.here hx rfl (hb hby at_372) rfl k)))) ?_
    show ownEnds _ _ _ _ (T34.setTop (mkF m 374 #[.val (.long qe), .second, .val (.int xw), .val (.int xf), .val (.int (0 : Int32)), .val (.int s0), .val (.ref b1), .val (.int (1 : Int32)), .val (.long rr), .second, .unset] [(.int s0), (.int (0 : Int32)), (.int (5 : Int32)), (.ref b1)]))
    obtain ⟨v35, T35, L35, X35, hQ35, st35⟩ := ownCallS X34 hx hZ hown (y := (⟨"com/example/seven_bit_codecs/sevenbitcodecs/EightBytesWriteAsCharsPinLaw", "keeps", "([CIIC)Z"⟩ : MethodName)) (as := [(.ref b1), (.int (5 : Int32)), (.int (0 : Int32)), (.int s0)]) (wd_7 hw) (wd_8 hw) (wd_9 hw) (wd_10 hw) (by decide) (rm2 l Z a0 hw b1 (5 : Int32) (0 : Int32) s0 k1 _ T13.heap n0 Z13 Vq13 ⟨by decide, by decide⟩ (fun h => absurd h (by decide))) e34 0 (by decide) (by decide) (by decide) (by decide) (g := (mkF m 374 #[.val (.long qe), .second, .val (.int xw), .val (.int xf), .val (.int (0 : Int32)), .val (.int s0), .val (.ref b1), .val (.int (1 : Int32)), .val (.long rr), .second, .unset] [(.int s0), (.int (0 : Int32)), (.int (5 : Int32)), (.ref b1)])) rfl (by rw [hml]; rfl) (rest := []) pd_1 rfl rfl (by show 2 * 0 + _ ≤ _; exact Nat.le_of_eq rfl) (hb hby at_374)
    obtain ⟨rfl, rfl, e35⟩ := hQ35
    rw [List.append_nil] at X35
    refine ownEnds.law st35 ?_
    show ownEnds _ _ _ _ (T35.setTop (mkF m 377 #[.val (.long qe), .second, .val (.int xw), .val (.int xf), .val (.int (0 : Int32)), .val (.int s0), .val (.ref b1), .val (.int (1 : Int32)), .val (.long rr), .second, .unset] [(.int (1 : Int32))]))
    refine ownEnds.law (fun t => XS.ifNo X35.here hx rfl (hb hby at_377) rfl ((if0 _ _).trans (feq (by decide : ¬ ((1 : Int32) = (0 : Int32)))).1)) ?_
    show ownEnds _ _ _ _ (T35.setTop (mkF m 380 #[.val (.long qe), .second, .val (.int xw), .val (.int xf), .val (.int (0 : Int32)), .val (.int s0), .val (.ref b1), .val (.int (1 : Int32)), .val (.long rr), .second, .unset] []))
    refine ownEnds.law (fun t k => XS.aload X35.here hx rfl (hb hby at_380) rfl rfl (XS.bipush X35.here hx rfl (hb hby at_382) (XS.iload X35.here hx rfl (hb hby at_384) rfl (XS.iload X35.here hx rfl (hb hby at_386) rfl k)))) ?_
    show ownEnds _ _ _ _ (T35.setTop (mkF m 388 #[.val (.long qe), .second, .val (.int xw), .val (.int xf), .val (.int (0 : Int32)), .val (.int s0), .val (.ref b1), .val (.int (1 : Int32)), .val (.long rr), .second, .unset] [(.int s0), (.int (0 : Int32)), (.int (6 : Int32)), (.ref b1)]))
    obtain ⟨v36, T36, L36, X36, hQ36, st36⟩ := ownCallS X35 hx hZ hown (y := (⟨"com/example/seven_bit_codecs/sevenbitcodecs/EightBytesWriteAsCharsPinLaw", "keeps", "([CIIC)Z"⟩ : MethodName)) (as := [(.ref b1), (.int (6 : Int32)), (.int (0 : Int32)), (.int s0)]) (wd_7 hw) (wd_8 hw) (wd_9 hw) (wd_10 hw) (by decide) (rm2 l Z a0 hw b1 (6 : Int32) (0 : Int32) s0 k1 _ T13.heap n0 Z13 Vq13 ⟨by decide, by decide⟩ (fun h => absurd h (by decide))) e35 0 (by decide) (by decide) (by decide) (by decide) (g := (mkF m 388 #[.val (.long qe), .second, .val (.int xw), .val (.int xf), .val (.int (0 : Int32)), .val (.int s0), .val (.ref b1), .val (.int (1 : Int32)), .val (.long rr), .second, .unset] [(.int s0), (.int (0 : Int32)), (.int (6 : Int32)), (.ref b1)])) rfl (by rw [hml]; rfl) (rest := []) pd_1 rfl rfl (by show 2 * 0 + _ ≤ _; exact Nat.le_of_eq rfl) (hb hby at_388)
    obtain ⟨rfl, rfl, e36⟩ := hQ36
    rw [List.append_nil] at X36
    refine ownEnds.law st36 ?_
    show ownEnds _ _ _ _ (T36.setTop (mkF m 391 #[.val (.long qe), .second, .val (.int xw), .val (.int xf), .val (.int (0 : Int32)), .val (.int s0), .val (.ref b1), .val (.int (1 : Int32)), .val (.long rr), .second, .unset] [(.int (1 : Int32))]))
    refine ownEnds.law (fun t => XS.ifNo X36.here hx rfl (hb hby at_391) rfl ((if0 _ _).trans (feq (by decide : ¬ ((1 : Int32) = (0 : Int32)))).1)) ?_
    show ownEnds _ _ _ _ (T36.setTop (mkF m 394 #[.val (.long qe), .second, .val (.int xw), .val (.int xf), .val (.int (0 : Int32)), .val (.int s0), .val (.ref b1), .val (.int (1 : Int32)), .val (.long rr), .second, .unset] []))
    refine ownEnds.law (fun t k => XS.aload X36.here hx rfl (hb hby at_394) rfl rfl (XS.bipush X36.here hx rfl (hb hby at_396) (XS.iload X36.here hx rfl (hb hby at_398) rfl (XS.iload X36.here hx rfl (hb hby at_400) rfl k)))) ?_
    show ownEnds _ _ _ _ (T36.setTop (mkF m 402 #[.val (.long qe), .second, .val (.int xw), .val (.int xf), .val (.int (0 : Int32)), .val (.int s0), .val (.ref b1), .val (.int (1 : Int32)), .val (.long rr), .second, .unset] [(.int s0), (.int (0 : Int32)), (.int (7 : Int32)), (.ref b1)]))
    obtain ⟨v37, T37, L37, X37, hQ37, st37⟩ := ownCallS X36 hx hZ hown (y := (⟨"com/example/seven_bit_codecs/sevenbitcodecs/EightBytesWriteAsCharsPinLaw", "keeps", "([CIIC)Z"⟩ : MethodName)) (as := [(.ref b1), (.int (7 : Int32)), (.int (0 : Int32)), (.int s0)]) (wd_7 hw) (wd_8 hw) (wd_9 hw) (wd_10 hw) (by decide) (rm2 l Z a0 hw b1 (7 : Int32) (0 : Int32) s0 k1 _ T13.heap n0 Z13 Vq13 ⟨by decide, by decide⟩ (fun h => absurd h (by decide))) e36 0 (by decide) (by decide) (by decide) (by decide) (g := (mkF m 402 #[.val (.long qe), .second, .val (.int xw), .val (.int xf), .val (.int (0 : Int32)), .val (.int s0), .val (.ref b1), .val (.int (1 : Int32)), .val (.long rr), .second, .unset] [(.int s0), (.int (0 : Int32)), (.int (7 : Int32)), (.ref b1)])) rfl (by rw [hml]; rfl) (rest := []) pd_1 rfl rfl (by show 2 * 0 + _ ≤ _; exact Nat.le_of_eq rfl) (hb hby at_402)
    obtain ⟨rfl, rfl, e37⟩ := hQ37
    rw [List.append_nil] at X37
    refine ownEnds.law st37 ?_
    show ownEnds _ _ _ _ (T37.setTop (mkF m 405 #[.val (.long qe), .second, .val (.int xw), .val (.int xf), .val (.int (0 : Int32)), .val (.int s0), .val (.ref b1), .val (.int (1 : Int32)), .val (.long rr), .second, .unset] [(.int (1 : Int32))]))
    refine ownEnds.law (fun t => XS.ifNo X37.here hx rfl (hb hby at_405) rfl ((if0 _ _).trans (feq (by decide : ¬ ((1 : Int32) = (0 : Int32)))).1)) ?_
    show ownEnds _ _ _ _ (T37.setTop (mkF m 408 #[.val (.long qe), .second, .val (.int xw), .val (.int xf), .val (.int (0 : Int32)), .val (.int s0), .val (.ref b1), .val (.int (1 : Int32)), .val (.long rr), .second, .unset] []))
    refine ownEnds.law (fun t k => XS.aload X37.here hx rfl (hb hby at_408) rfl rfl (XS.bipush X37.here hx rfl (hb hby at_410) (XS.iload X37.here hx rfl (hb hby at_412) rfl (XS.iload X37.here hx rfl (hb hby at_414) rfl k)))) ?_
    show ownEnds _ _ _ _ (T37.setTop (mkF m 416 #[.val (.long qe), .second, .val (.int xw), .val (.int xf), .val (.int (0 : Int32)), .val (.int s0), .val (.ref b1), .val (.int (1 : Int32)), .val (.long rr), .second, .unset] [(.int s0), (.int (0 : Int32)), (.int (8 : Int32)), (.ref b1)]))
    obtain ⟨v38, T38, L38, X38, hQ38, st38⟩ := ownCallS X37 hx hZ hown (y := (⟨"com/example/seven_bit_codecs/sevenbitcodecs/EightBytesWriteAsCharsPinLaw", "keeps", "([CIIC)Z"⟩ : MethodName)) (as := [(.ref b1), (.int (8 : Int32)), (.int (0 : Int32)), (.int s0)]) (wd_7 hw) (wd_8 hw) (wd_9 hw) (wd_10 hw) (by decide) (rm2 l Z a0 hw b1 (8 : Int32) (0 : Int32) s0 k1 _ T13.heap n0 Z13 Vq13 ⟨by decide, by decide⟩ (fun _ => rfl)) e37 0 (by decide) (by decide) (by decide) (by decide) (g := (mkF m 416 #[.val (.long qe), .second, .val (.int xw), .val (.int xf), .val (.int (0 : Int32)), .val (.int s0), .val (.ref b1), .val (.int (1 : Int32)), .val (.long rr), .second, .unset] [(.int s0), (.int (0 : Int32)), (.int (8 : Int32)), (.ref b1)])) rfl (by rw [hml]; rfl) (rest := []) pd_1 rfl rfl (by show 2 * 0 + _ ≤ _; exact Nat.le_of_eq rfl) (hb hby at_416)
    obtain ⟨rfl, rfl, e38⟩ := hQ38
    rw [List.append_nil] at X38
    refine ownEnds.law st38 ?_
    show ownEnds _ _ _ _ (T38.setTop (mkF m 419 #[.val (.long qe), .second, .val (.int xw), .val (.int xf), .val (.int (0 : Int32)), .val (.int s0), .val (.ref b1), .val (.int (1 : Int32)), .val (.long rr), .second, .unset] [(.int (1 : Int32))]))
    refine ownEnds.law (fun t => XS.ifNo X38.here hx rfl (hb hby at_419) rfl ((if0 _ _).trans (feq (by decide : ¬ ((1 : Int32) = (0 : Int32)))).1)) ?_
    show ownEnds _ _ _ _ (T38.setTop (mkF m 422 #[.val (.long qe), .second, .val (.int xw), .val (.int xf), .val (.int (0 : Int32)), .val (.int s0), .val (.ref b1), .val (.int (1 : Int32)), .val (.long rr), .second, .unset] []))
    refine ownEnds.law (fun t k => XS.aload X38.here hx rfl (hb hby at_422) rfl rfl (XS.bipush X38.here hx rfl (hb hby at_424) (XS.iload X38.here hx rfl (hb hby at_426) rfl (XS.iload X38.here hx rfl (hb hby at_428) rfl k)))) ?_
    show ownEnds _ _ _ _ (T38.setTop (mkF m 430 #[.val (.long qe), .second, .val (.int xw), .val (.int xf), .val (.int (0 : Int32)), .val (.int s0), .val (.ref b1), .val (.int (1 : Int32)), .val (.long rr), .second, .unset] [(.int s0), (.int (0 : Int32)), (.int (9 : Int32)), (.ref b1)]))
    obtain ⟨v39, T39, L39, X39, hQ39, st39⟩ := ownCallS X38 hx hZ hown (y := (⟨"com/example/seven_bit_codecs/sevenbitcodecs/EightBytesWriteAsCharsPinLaw", "keeps", "([CIIC)Z"⟩ : MethodName)) (as := [(.ref b1), (.int (9 : Int32)), (.int (0 : Int32)), (.int s0)]) (wd_7 hw) (wd_8 hw) (wd_9 hw) (wd_10 hw) (by decide) (rm2 l Z a0 hw b1 (9 : Int32) (0 : Int32) s0 k1 _ T13.heap n0 Z13 Vq13 ⟨by decide, by decide⟩ (fun _ => rfl)) e38 0 (by decide) (by decide) (by decide) (by decide) (g := (mkF m 430 #[.val (.long qe), .second, .val (.int xw), .val (.int xf), .val (.int (0 : Int32)), .val (.int s0), .val (.ref b1), .val (.int (1 : Int32)), .val (.long rr), .second, .unset] [(.int s0), (.int (0 : Int32)), (.int (9 : Int32)), (.ref b1)])) rfl (by rw [hml]; rfl) (rest := []) pd_1 rfl rfl (by show 2 * 0 + _ ≤ _; exact Nat.le_of_eq rfl) (hb hby at_430)
    obtain ⟨rfl, rfl, e39⟩ := hQ39
    rw [List.append_nil] at X39
    refine ownEnds.law st39 ?_
    show ownEnds _ _ _ _ (T39.setTop (mkF m 433 #[.val (.long qe), .second, .val (.int xw), .val (.int xf), .val (.int (0 : Int32)), .val (.int s0), .val (.ref b1), .val (.int (1 : Int32)), .val (.long rr), .second, .unset] [(.int (1 : Int32))]))
    refine ownEnds.law (fun t => XS.ifNo X39.here hx rfl (hb hby at_433) rfl ((if0 _ _).trans (feq (by decide : ¬ ((1 : Int32) = (0 : Int32)))).1)) ?_
    show ownEnds _ _ _ _ (T39.setTop (mkF m 436 #[.val (.long qe), .second, .val (.int xw), .val (.int xf), .val (.int (0 : Int32)), .val (.int s0), .val (.ref b1), .val (.int (1 : Int32)), .val (.long rr), .second, .unset] []))
    refine ownEnds.law (fun t k => XS.aload X39.here hx rfl (hb hby at_436) rfl rfl (XS.bipush X39.here hx rfl (hb hby at_438) (XS.iload X39.here hx rfl (hb hby at_440) rfl (XS.iload X39.here hx rfl (hb hby at_442) rfl k)))) ?_
    show ownEnds _ _ _ _ (T39.setTop (mkF m 444 #[.val (.long qe), .second, .val (.int xw), .val (.int xf), .val (.int (0 : Int32)), .val (.int s0), .val (.ref b1), .val (.int (1 : Int32)), .val (.long rr), .second, .unset] [(.int s0), (.int (0 : Int32)), (.int (10 : Int32)), (.ref b1)]))
    obtain ⟨v40, T40, L40, X40, hQ40, st40⟩ := ownCallS X39 hx hZ hown (y := (⟨"com/example/seven_bit_codecs/sevenbitcodecs/EightBytesWriteAsCharsPinLaw", "keeps", "([CIIC)Z"⟩ : MethodName)) (as := [(.ref b1), (.int (10 : Int32)), (.int (0 : Int32)), (.int s0)]) (wd_7 hw) (wd_8 hw) (wd_9 hw) (wd_10 hw) (by decide) (rm2 l Z a0 hw b1 (10 : Int32) (0 : Int32) s0 k1 _ T13.heap n0 Z13 Vq13 ⟨by decide, by decide⟩ (fun _ => rfl)) e39 0 (by decide) (by decide) (by decide) (by decide) (g := (mkF m 444 #[.val (.long qe), .second, .val (.int xw), .val (.int xf), .val (.int (0 : Int32)), .val (.int s0), .val (.ref b1), .val (.int (1 : Int32)), .val (.long rr), .second, .unset] [(.int s0), (.int (0 : Int32)), (.int (10 : Int32)), (.ref b1)])) rfl (by rw [hml]; rfl) (rest := []) pd_1 rfl rfl (by show 2 * 0 + _ ≤ _; exact Nat.le_of_eq rfl) (hb hby at_444)
    obtain ⟨rfl, rfl, e40⟩ := hQ40
    rw [List.append_nil] at X40
    refine ownEnds.law st40 ?_
    show ownEnds _ _ _ _ (T40.setTop (mkF m 447 #[.val (.long qe), .second, .val (.int xw), .val (.int xf), .val (.int (0 : Int32)), .val (.int s0), .val (.ref b1), .val (.int (1 : Int32)), .val (.long rr), .second, .unset] [(.int (1 : Int32))]))
    refine ownEnds.law (fun t => XS.ifNo X40.here hx rfl (hb hby at_447) rfl ((if0 _ _).trans (feq (by decide : ¬ ((1 : Int32) = (0 : Int32)))).1)) ?_
    show ownEnds _ _ _ _ (T40.setTop (mkF m 450 #[.val (.long qe), .second, .val (.int xw), .val (.int xf), .val (.int (0 : Int32)), .val (.int s0), .val (.ref b1), .val (.int (1 : Int32)), .val (.long rr), .second, .unset] []))
    refine ownEnds.law (fun t k => XS.iconst X40.here hx rfl (hb hby at_450) (XS.goto X40.here hx rfl (pc0 := 451) (pc' := 455) rfl (hb hby at_451) (by decide) (by decide) (XS.istore X40.here hx rfl (hb hby at_455) rfl (l' := #[.val (.long qe), .second, .val (.int xw), .val (.int xf), .val (.int (0 : Int32)), .val (.int s0), .val (.ref b1), .val (.int (1 : Int32)), .val (.long rr), .second, .val (.int (1 : Int32))]) rfl (XS.iload X40.here hx rfl (hb hby at_457) rfl k)))) ?_
    show ownEnds _ _ _ _ (T40.setTop (mkF m 459 #[.val (.long qe), .second, .val (.int xw), .val (.int xf), .val (.int (0 : Int32)), .val (.int s0), .val (.ref b1), .val (.int (1 : Int32)), .val (.long rr), .second, .val (.int (1 : Int32))] [(.int (1 : Int32))]))
    refine ownEnds.law (fun t => XS.ifNo X40.here hx rfl (hb hby at_459) rfl ((if0 _ _).trans (feq (by decide : ¬ ((1 : Int32) = (0 : Int32)))).1)) ?_
    show ownEnds _ _ _ _ (T40.setTop (mkF m 462 #[.val (.long qe), .second, .val (.int xw), .val (.int xf), .val (.int (0 : Int32)), .val (.int s0), .val (.ref b1), .val (.int (1 : Int32)), .val (.long rr), .second, .val (.int (1 : Int32))] []))
    refine ownEnds.law (fun t k => XS.lload X40.here hx rfl (hb hby at_462) rfl (XS.lloadN X40.here hx rfl (hb hby at_464) rfl (XS.lcmp X40.here hx rfl (hb hby at_465) rfl k))) ?_
    show ownEnds _ _ _ _ (T40.setTop (mkF m 466 #[.val (.long qe), .second, .val (.int xw), .val (.int xf), .val (.int (0 : Int32)), .val (.int s0), .val (.ref b1), .val (.int (1 : Int32)), .val (.long rr), .second, .val (.int (1 : Int32))] [(.int (lcmpW rr qe))]))
    have hc466 : rr = qe := by rw [e_rr]; exact own_r _
    refine ownEnds.law (fun t => XS.ifNo X40.here hx rfl (hb hby at_466) rfl ((if0 _ _).trans (teq ((lw_eq _ _).mpr hc466)).2)) ?_
    show ownEnds _ _ _ _ (T40.setTop (mkF m 469 #[.val (.long qe), .second, .val (.int xw), .val (.int xf), .val (.int (0 : Int32)), .val (.int s0), .val (.ref b1), .val (.int (1 : Int32)), .val (.long rr), .second, .val (.int (1 : Int32))] []))
    refine ownEnds.law (fun t k => XS.iload X40.here hx rfl (hb hby at_469) rfl k) ?_
    show ownEnds _ _ _ _ (T40.setTop (mkF m 471 #[.val (.long qe), .second, .val (.int xw), .val (.int xf), .val (.int (0 : Int32)), .val (.int s0), .val (.ref b1), .val (.int (1 : Int32)), .val (.long rr), .second, .val (.int (1 : Int32))] [(.int (1 : Int32))]))
    refine ownEnds.law (fun t => XS.ifNo X40.here hx rfl (hb hby at_471) rfl ((if0 _ _).trans (feq (by decide : ¬ ((1 : Int32) = (0 : Int32)))).1)) ?_
    show ownEnds _ _ _ _ (T40.setTop (mkF m 474 #[.val (.long qe), .second, .val (.int xw), .val (.int xf), .val (.int (0 : Int32)), .val (.int s0), .val (.ref b1), .val (.int (1 : Int32)), .val (.long rr), .second, .val (.int (1 : Int32))] []))
    refine ownEnds.law (fun t k => XS.iconst X40.here hx rfl (hb hby at_474) (XS.goto X40.here hx rfl (pc0 := 475) (pc' := 479) rfl (hb hby at_475) (by decide) (by decide) k)) ?_
    show ownEnds _ _ _ _ (T40.setTop (mkF m 479 #[.val (.long qe), .second, .val (.int xw), .val (.int xf), .val (.int (0 : Int32)), .val (.int s0), .val (.ref b1), .val (.int (1 : Int32)), .val (.long rr), .second, .val (.int (1 : Int32))] [(.int (1 : Int32))]))
    refine ownRetN X40 hlk hx (t := .boolean) hret (by simp) (hb hby at_479) (by decide) (by decide) ?_
    exact ⟨rfl, N13⟩
  · show ownEnds _ _ _ _ (T12.setTop (mkF m 89 #[.val (.long qe), .second, .val (.int xw), .val (.int xf), .val (.int (1 : Int32)), .val (.int s0), .val (.ref b1), .unset, .unset, .unset, .unset] []))
    refine ownEnds.law (fun t k => XS.lloadN X12.here hx rfl (hb hby at_89) rfl (XS.aload X12.here hx rfl (hb hby at_90) rfl rfl (XS.iload X12.here hx rfl (hb hby at_92) rfl k))) ?_
    show ownEnds _ _ _ _ (T12.setTop (mkF m 94 #[.val (.long qe), .second, .val (.int xw), .val (.int xf), .val (.int (1 : Int32)), .val (.int s0), .val (.ref b1), .unset, .unset, .unset, .unset] [(.int (1 : Int32)), (.ref b1), (.long qe)]))
    obtain ⟨v41, T41, L41, X41, hQ41, st41⟩ := ownCallS X12 hx hZ hown (y := (⟨"com/example/seven_bit_codecs/sevenbitcodecs/EightBytes", "writeAsChars", "(J[CI)V"⟩ : MethodName)) (as := [(.long qe), (.ref b1), (.int (1 : Int32))]) (wd_2 hw) (wd_3 hw) (wd_4 hw) (wd_5 hw) (by decide) (rm1_1 l Z a0 hw qe b1 s0 k1 h12 n0 Z12 V89 g_b1) e12 0 (by decide) (by decide) (by decide) (by decide) (g := (mkF m 94 #[.val (.long qe), .second, .val (.int xw), .val (.int xf), .val (.int (1 : Int32)), .val (.int s0), .val (.ref b1), .unset, .unset, .unset, .unset] [(.int (1 : Int32)), (.ref b1), (.long qe)])) rfl (by rw [hml]; rfl) (rest := []) pd_0 rfl rfl (by show 2 * 0 + _ ≤ _; exact Nat.le_of_eq rfl) (hb hby at_94)
    obtain ⟨rfl, Nq41, Kq41, Vq41⟩ := hQ41
    have N41 := Fr.app N12 Nq41
    have Z41 : n0 ≤ T41.heap.size := Nat.le_trans Z12 Kq41.1
    refine ownEnds.law st41 ?_
    show ownEnds _ _ _ _ (T41.setTop (mkF m 97 #[.val (.long qe), .second, .val (.int xw), .val (.int xf), .val (.int (1 : Int32)), .val (.int s0), .val (.ref b1), .unset, .unset, .unset, .unset] []))
    refine ownEnds.law (fun t k => XS.aload X41.here hx rfl (hb hby at_97) rfl rfl (XS.iload X41.here hx rfl (hb hby at_99) rfl k)) ?_
    show ownEnds _ _ _ _ (T41.setTop (mkF m 101 #[.val (.long qe), .second, .val (.int xw), .val (.int xf), .val (.int (1 : Int32)), .val (.int s0), .val (.ref b1), .unset, .unset, .unset, .unset] [(.int (1 : Int32)), (.ref b1)]))
    obtain ⟨cl42, Ar42, q42, S42, N42, H42, G42⟩ := id Vq41
    have hi42 := inb_of (j := (1 : Int32)) S42 ⟨by decide, by decide⟩
    have hv42 : cl42.slots[((1 : Int32)).toNatClampNeg]? = some (.int (BC0 qe)) := H42.at hi42 rfl
    refine ownEnds.law (fun t k => X41.caload hx (j := (1 : Int32)) (v := (.int (BC0 qe))) Ar42.1 (State.isArrayOf_alike hZ.alike Ar42.2.1) Ar42.2.2 hi42 hv42 (g := (mkF m 101 #[.val (.long qe), .second, .val (.int xw), .val (.int xf), .val (.int (1 : Int32)), .val (.int s0), .val (.ref b1), .unset, .unset, .unset, .unset] [(.int (1 : Int32)), (.ref b1)])) rfl rfl (hb hby at_101) _ (XS.sipush X41.here hx rfl (hb hby at_102) k)) ?_
    show ownEnds _ _ _ _ (T41.setTop (mkF m 105 #[.val (.long qe), .second, .val (.int xw), .val (.int xf), .val (.int (1 : Int32)), .val (.int s0), .val (.ref b1), .unset, .unset, .unset, .unset] [(.int (256 : Int32)), (.int (BC0 qe))]))
    have hc105 : (BC0 qe) < (256 : Int32) := own_lt0 _
    refine ownEnds.law (fun t => XS.icmpNo X41.here hx rfl (hb hby at_105) rfl (tlt hc105).2.1) ?_
    show ownEnds _ _ _ _ (T41.setTop (mkF m 108 #[.val (.long qe), .second, .val (.int xw), .val (.int xf), .val (.int (1 : Int32)), .val (.int s0), .val (.ref b1), .unset, .unset, .unset, .unset] []))
    refine ownEnds.law (fun t k => XS.aload X41.here hx rfl (hb hby at_108) rfl rfl (XS.iload X41.here hx rfl (hb hby at_110) rfl (XS.iconst X41.here hx rfl (hb hby at_112) (XS.iadd X41.here hx rfl (hb hby at_113) rfl k)))) ?_
    show ownEnds _ _ _ _ (T41.setTop (mkF m 114 #[.val (.long qe), .second, .val (.int xw), .val (.int xf), .val (.int (1 : Int32)), .val (.int s0), .val (.ref b1), .unset, .unset, .unset, .unset] [(.int (2 : Int32)), (.ref b1)]))
    obtain ⟨cl43, Ar43, q43, S43, N43, H43, G43⟩ := id Vq41
    have hi43 := inb_of (j := (2 : Int32)) S43 ⟨by decide, by decide⟩
    have hv43 : cl43.slots[((2 : Int32)).toNatClampNeg]? = some (.int (BC1 qe)) := H43.at hi43 rfl
    refine ownEnds.law (fun t k => X41.caload hx (j := (2 : Int32)) (v := (.int (BC1 qe))) Ar43.1 (State.isArrayOf_alike hZ.alike Ar43.2.1) Ar43.2.2 hi43 hv43 (g := (mkF m 114 #[.val (.long qe), .second, .val (.int xw), .val (.int xf), .val (.int (1 : Int32)), .val (.int s0), .val (.ref b1), .unset, .unset, .unset, .unset] [(.int (2 : Int32)), (.ref b1)])) rfl rfl (hb hby at_114) _ (XS.sipush X41.here hx rfl (hb hby at_115) k)) ?_
    show ownEnds _ _ _ _ (T41.setTop (mkF m 118 #[.val (.long qe), .second, .val (.int xw), .val (.int xf), .val (.int (1 : Int32)), .val (.int s0), .val (.ref b1), .unset, .unset, .unset, .unset] [(.int (256 : Int32)), (.int (BC1 qe))]))
    have hc118 : (BC1 qe) < (256 : Int32) := own_lt1 _
    refine ownEnds.law (fun t => XS.icmpNo X41.here hx rfl (hb hby at_118) rfl (tlt hc118).2.1) ?_
    show ownEnds _ _ _ _ (T41.setTop (mkF m 121 #[.val (.long qe), .second, .val (.int xw), .val (.int xf), .val (.int (1 : Int32)), .val (.int s0), .val (.ref b1), .unset, .unset, .unset, .unset] []))
    refine ownEnds.law (fun t k => XS.aload X41.here hx rfl (hb hby at_121) rfl rfl (XS.iload X41.here hx rfl (hb hby at_123) rfl (XS.iconst X41.here hx rfl (hb hby at_125) (XS.iadd X41.here hx rfl (hb hby at_126) rfl k)))) ?_
    show ownEnds _ _ _ _ (T41.setTop (mkF m 127 #[.val (.long qe), .second, .val (.int xw), .val (.int xf), .val (.int (1 : Int32)), .val (.int s0), .val (.ref b1), .unset, .unset, .unset, .unset] [(.int (3 : Int32)), (.ref b1)]))
    obtain ⟨cl44, Ar44, q44, S44, N44, H44, G44⟩ := id Vq41
    have hi44 := inb_of (j := (3 : Int32)) S44 ⟨by decide, by decide⟩
    have hv44 : cl44.slots[((3 : Int32)).toNatClampNeg]? = some (.int (BC2 qe)) := H44.at hi44 rfl
    refine ownEnds.law (fun t k => X41.caload hx (j := (3 : Int32)) (v := (.int (BC2 qe))) Ar44.1 (State.isArrayOf_alike hZ.alike Ar44.2.1) Ar44.2.2 hi44 hv44 (g := (mkF m 127 #[.val (.long qe), .second, .val (.int xw), .val (.int xf), .val (.int (1 : Int32)), .val (.int s0), .val (.ref b1), .unset, .unset, .unset, .unset] [(.int (3 : Int32)), (.ref b1)])) rfl rfl (hb hby at_127) _ (XS.sipush X41.here hx rfl (hb hby at_128) k)) ?_
    show ownEnds _ _ _ _ (T41.setTop (mkF m 131 #[.val (.long qe), .second, .val (.int xw), .val (.int xf), .val (.int (1 : Int32)), .val (.int s0), .val (.ref b1), .unset, .unset, .unset, .unset] [(.int (256 : Int32)), (.int (BC2 qe))]))
    have hc131 : (BC2 qe) < (256 : Int32) := own_lt2 _
    refine ownEnds.law (fun t => XS.icmpNo X41.here hx rfl (hb hby at_131) rfl (tlt hc131).2.1) ?_
    show ownEnds _ _ _ _ (T41.setTop (mkF m 134 #[.val (.long qe), .second, .val (.int xw), .val (.int xf), .val (.int (1 : Int32)), .val (.int s0), .val (.ref b1), .unset, .unset, .unset, .unset] []))
    refine ownEnds.law (fun t k => XS.aload X41.here hx rfl (hb hby at_134) rfl rfl (XS.iload X41.here hx rfl (hb hby at_136) rfl (XS.iconst X41.here hx rfl (hb hby at_138) (XS.iadd X41.here hx rfl (hb hby at_139) rfl k)))) ?_
    show ownEnds _ _ _ _ (T41.setTop (mkF m 140 #[.val (.long qe), .second, .val (.int xw), .val (.int xf), .val (.int (1 : Int32)), .val (.int s0), .val (.ref b1), .unset, .unset, .unset, .unset] [(.int (4 : Int32)), (.ref b1)]))
    obtain ⟨cl45, Ar45, q45, S45, N45, H45, G45⟩ := id Vq41
    have hi45 := inb_of (j := (4 : Int32)) S45 ⟨by decide, by decide⟩
    have hv45 : cl45.slots[((4 : Int32)).toNatClampNeg]? = some (.int (BC3 qe)) := H45.at hi45 rfl
    refine ownEnds.law (fun t k => X41.caload hx (j := (4 : Int32)) (v := (.int (BC3 qe))) Ar45.1 (State.isArrayOf_alike hZ.alike Ar45.2.1) Ar45.2.2 hi45 hv45 (g := (mkF m 140 #[.val (.long qe), .second, .val (.int xw), .val (.int xf), .val (.int (1 : Int32)), .val (.int s0), .val (.ref b1), .unset, .unset, .unset, .unset] [(.int (4 : Int32)), (.ref b1)])) rfl rfl (hb hby at_140) _ (XS.sipush X41.here hx rfl (hb hby at_141) k)) ?_
    show ownEnds _ _ _ _ (T41.setTop (mkF m 144 #[.val (.long qe), .second, .val (.int xw), .val (.int xf), .val (.int (1 : Int32)), .val (.int s0), .val (.ref b1), .unset, .unset, .unset, .unset] [(.int (256 : Int32)), (.int (BC3 qe))]))
    have hc144 : (BC3 qe) < (256 : Int32) := own_lt3 _
    refine ownEnds.law (fun t => XS.icmpNo X41.here hx rfl (hb hby at_144) rfl (tlt hc144).2.1) ?_
    show ownEnds _ _ _ _ (T41.setTop (mkF m 147 #[.val (.long qe), .second, .val (.int xw), .val (.int xf), .val (.int (1 : Int32)), .val (.int s0), .val (.ref b1), .unset, .unset, .unset, .unset] []))
    refine ownEnds.law (fun t k => XS.aload X41.here hx rfl (hb hby at_147) rfl rfl (XS.iload X41.here hx rfl (hb hby at_149) rfl (XS.iconst X41.here hx rfl (hb hby at_151) (XS.iadd X41.here hx rfl (hb hby at_152) rfl k)))) ?_
    show ownEnds _ _ _ _ (T41.setTop (mkF m 153 #[.val (.long qe), .second, .val (.int xw), .val (.int xf), .val (.int (1 : Int32)), .val (.int s0), .val (.ref b1), .unset, .unset, .unset, .unset] [(.int (5 : Int32)), (.ref b1)]))
    obtain ⟨cl46, Ar46, q46, S46, N46, H46, G46⟩ := id Vq41
    have hi46 := inb_of (j := (5 : Int32)) S46 ⟨by decide, by decide⟩
    have hv46 : cl46.slots[((5 : Int32)).toNatClampNeg]? = some (.int (BC4 qe)) := H46.at hi46 rfl
    refine ownEnds.law (fun t k => X41.caload hx (j := (5 : Int32)) (v := (.int (BC4 qe))) Ar46.1 (State.isArrayOf_alike hZ.alike Ar46.2.1) Ar46.2.2 hi46 hv46 (g := (mkF m 153 #[.val (.long qe), .second, .val (.int xw), .val (.int xf), .val (.int (1 : Int32)), .val (.int s0), .val (.ref b1), .unset, .unset, .unset, .unset] [(.int (5 : Int32)), (.ref b1)])) rfl rfl (hb hby at_153) _ (XS.sipush X41.here hx rfl (hb hby at_154) k)) ?_
    show ownEnds _ _ _ _ (T41.setTop (mkF m 157 #[.val (.long qe), .second, .val (.int xw), .val (.int xf), .val (.int (1 : Int32)), .val (.int s0), .val (.ref b1), .unset, .unset, .unset, .unset] [(.int (256 : Int32)), (.int (BC4 qe))]))
    have hc157 : (BC4 qe) < (256 : Int32) := own_lt4 _
    refine ownEnds.law (fun t => XS.icmpNo X41.here hx rfl (hb hby at_157) rfl (tlt hc157).2.1) ?_
    show ownEnds _ _ _ _ (T41.setTop (mkF m 160 #[.val (.long qe), .second, .val (.int xw), .val (.int xf), .val (.int (1 : Int32)), .val (.int s0), .val (.ref b1), .unset, .unset, .unset, .unset] []))
    refine ownEnds.law (fun t k => XS.aload X41.here hx rfl (hb hby at_160) rfl rfl (XS.iload X41.here hx rfl (hb hby at_162) rfl (XS.iconst X41.here hx rfl (hb hby at_164) (XS.iadd X41.here hx rfl (hb hby at_165) rfl k)))) ?_
    show ownEnds _ _ _ _ (T41.setTop (mkF m 166 #[.val (.long qe), .second, .val (.int xw), .val (.int xf), .val (.int (1 : Int32)), .val (.int s0), .val (.ref b1), .unset, .unset, .unset, .unset] [(.int (6 : Int32)), (.ref b1)]))
    obtain ⟨cl47, Ar47, q47, S47, N47, H47, G47⟩ := id Vq41
    have hi47 := inb_of (j := (6 : Int32)) S47 ⟨by decide, by decide⟩
    have hv47 : cl47.slots[((6 : Int32)).toNatClampNeg]? = some (.int (BC5 qe)) := H47.at hi47 rfl
    refine ownEnds.law (fun t k => X41.caload hx (j := (6 : Int32)) (v := (.int (BC5 qe))) Ar47.1 (State.isArrayOf_alike hZ.alike Ar47.2.1) Ar47.2.2 hi47 hv47 (g := (mkF m 166 #[.val (.long qe), .second, .val (.int xw), .val (.int xf), .val (.int (1 : Int32)), .val (.int s0), .val (.ref b1), .unset, .unset, .unset, .unset] [(.int (6 : Int32)), (.ref b1)])) rfl rfl (hb hby at_166) _ (XS.sipush X41.here hx rfl (hb hby at_167) k)) ?_
    show ownEnds _ _ _ _ (T41.setTop (mkF m 170 #[.val (.long qe), .second, .val (.int xw), .val (.int xf), .val (.int (1 : Int32)), .val (.int s0), .val (.ref b1), .unset, .unset, .unset, .unset] [(.int (256 : Int32)), (.int (BC5 qe))]))
    have hc170 : (BC5 qe) < (256 : Int32) := own_lt5 _
    refine ownEnds.law (fun t => XS.icmpNo X41.here hx rfl (hb hby at_170) rfl (tlt hc170).2.1) ?_
    show ownEnds _ _ _ _ (T41.setTop (mkF m 173 #[.val (.long qe), .second, .val (.int xw), .val (.int xf), .val (.int (1 : Int32)), .val (.int s0), .val (.ref b1), .unset, .unset, .unset, .unset] []))
    refine ownEnds.law (fun t k => XS.aload X41.here hx rfl (hb hby at_173) rfl rfl (XS.iload X41.here hx rfl (hb hby at_175) rfl (XS.bipush X41.here hx rfl (hb hby at_177) (XS.iadd X41.here hx rfl (hb hby at_179) rfl k)))) ?_
    show ownEnds _ _ _ _ (T41.setTop (mkF m 180 #[.val (.long qe), .second, .val (.int xw), .val (.int xf), .val (.int (1 : Int32)), .val (.int s0), .val (.ref b1), .unset, .unset, .unset, .unset] [(.int (7 : Int32)), (.ref b1)]))
    obtain ⟨cl48, Ar48, q48, S48, N48, H48, G48⟩ := id Vq41
    have hi48 := inb_of (j := (7 : Int32)) S48 ⟨by decide, by decide⟩
    have hv48 : cl48.slots[((7 : Int32)).toNatClampNeg]? = some (.int (BC6 qe)) := H48.at hi48 rfl
    refine ownEnds.law (fun t k => X41.caload hx (j := (7 : Int32)) (v := (.int (BC6 qe))) Ar48.1 (State.isArrayOf_alike hZ.alike Ar48.2.1) Ar48.2.2 hi48 hv48 (g := (mkF m 180 #[.val (.long qe), .second, .val (.int xw), .val (.int xf), .val (.int (1 : Int32)), .val (.int s0), .val (.ref b1), .unset, .unset, .unset, .unset] [(.int (7 : Int32)), (.ref b1)])) rfl rfl (hb hby at_180) _ (XS.sipush X41.here hx rfl (hb hby at_181) k)) ?_
    show ownEnds _ _ _ _ (T41.setTop (mkF m 184 #[.val (.long qe), .second, .val (.int xw), .val (.int xf), .val (.int (1 : Int32)), .val (.int s0), .val (.ref b1), .unset, .unset, .unset, .unset] [(.int (256 : Int32)), (.int (BC6 qe))]))
    have hc184 : (BC6 qe) < (256 : Int32) := own_lt6 _
    refine ownEnds.law (fun t => XS.icmpNo X41.here hx rfl (hb hby at_184) rfl (tlt hc184).2.1) ?_
    show ownEnds _ _ _ _ (T41.setTop (mkF m 187 #[.val (.long qe), .second, .val (.int xw), .val (.int xf), .val (.int (1 : Int32)), .val (.int s0), .val (.ref b1), .unset, .unset, .unset, .unset] []))
    refine ownEnds.law (fun t k => XS.aload X41.here hx rfl (hb hby at_187) rfl rfl (XS.iload X41.here hx rfl (hb hby at_189) rfl (XS.bipush X41.here hx rfl (hb hby at_191) (XS.iadd X41.here hx rfl (hb hby at_193) rfl k)))) ?_
    show ownEnds _ _ _ _ (T41.setTop (mkF m 194 #[.val (.long qe), .second, .val (.int xw), .val (.int xf), .val (.int (1 : Int32)), .val (.int s0), .val (.ref b1), .unset, .unset, .unset, .unset] [(.int (8 : Int32)), (.ref b1)]))
    obtain ⟨cl49, Ar49, q49, S49, N49, H49, G49⟩ := id Vq41
    have hi49 := inb_of (j := (8 : Int32)) S49 ⟨by decide, by decide⟩
    have hv49 : cl49.slots[((8 : Int32)).toNatClampNeg]? = some (.int (BC7 qe)) := H49.at hi49 rfl
    refine ownEnds.law (fun t k => X41.caload hx (j := (8 : Int32)) (v := (.int (BC7 qe))) Ar49.1 (State.isArrayOf_alike hZ.alike Ar49.2.1) Ar49.2.2 hi49 hv49 (g := (mkF m 194 #[.val (.long qe), .second, .val (.int xw), .val (.int xf), .val (.int (1 : Int32)), .val (.int s0), .val (.ref b1), .unset, .unset, .unset, .unset] [(.int (8 : Int32)), (.ref b1)])) rfl rfl (hb hby at_194) _ (XS.sipush X41.here hx rfl (hb hby at_195) k)) ?_
    show ownEnds _ _ _ _ (T41.setTop (mkF m 198 #[.val (.long qe), .second, .val (.int xw), .val (.int xf), .val (.int (1 : Int32)), .val (.int s0), .val (.ref b1), .unset, .unset, .unset, .unset] [(.int (256 : Int32)), (.int (BC7 qe))]))
    have hc198 : (BC7 qe) < (256 : Int32) := own_lt7 _
    refine ownEnds.law (fun t => XS.icmpNo X41.here hx rfl (hb hby at_198) rfl (tlt hc198).2.1) ?_
    show ownEnds _ _ _ _ (T41.setTop (mkF m 201 #[.val (.long qe), .second, .val (.int xw), .val (.int xf), .val (.int (1 : Int32)), .val (.int s0), .val (.ref b1), .unset, .unset, .unset, .unset] []))
    refine ownEnds.law (fun t k => XS.iconst X41.here hx rfl (hb hby at_201) (XS.goto X41.here hx rfl (pc0 := 202) (pc' := 206) rfl (hb hby at_202) (by decide) (by decide) (XS.istore X41.here hx rfl (hb hby at_206) rfl (l' := #[.val (.long qe), .second, .val (.int xw), .val (.int xf), .val (.int (1 : Int32)), .val (.int s0), .val (.ref b1), .val (.int (1 : Int32)), .unset, .unset, .unset]) rfl (XS.aload X41.here hx rfl (hb hby at_208) rfl rfl (XS.iload X41.here hx rfl (hb hby at_210) rfl k))))) ?_
    show ownEnds _ _ _ _ (T41.setTop (mkF m 212 #[.val (.long qe), .second, .val (.int xw), .val (.int xf), .val (.int (1 : Int32)), .val (.int s0), .val (.ref b1), .val (.int (1 : Int32)), .unset, .unset, .unset] [(.int (1 : Int32)), (.ref b1)]))
    obtain ⟨cl50, Ar50, q50, S50, N50, H50, G50⟩ := id Vq41
    have hi50 := inb_of (j := (1 : Int32)) S50 ⟨by decide, by decide⟩
    have hv50 : cl50.slots[((1 : Int32)).toNatClampNeg]? = some (.int (BC0 qe)) := H50.at hi50 rfl
    refine ownEnds.law (fun t k => X41.caload hx (j := (1 : Int32)) (v := (.int (BC0 qe))) Ar50.1 (State.isArrayOf_alike hZ.alike Ar50.2.1) Ar50.2.2 hi50 hv50 (g := (mkF m 212 #[.val (.long qe), .second, .val (.int xw), .val (.int xf), .val (.int (1 : Int32)), .val (.int s0), .val (.ref b1), .val (.int (1 : Int32)), .unset, .unset, .unset] [(.int (1 : Int32)), (.ref b1)])) rfl rfl (hb hby at_212) _ (XS.i2l X41.here hx rfl (hb hby at_213) rfl (XS.aload X41.here hx rfl (hb hby at_214) rfl rfl (XS.iload X41.here hx rfl (hb hby at_216) rfl (XS.iconst X41.here hx rfl (hb hby at_218) (XS.iadd X41.here hx rfl (hb hby at_219) rfl k)))))) ?_
    show ownEnds _ _ _ _ (T41.setTop (mkF m 220 #[.val (.long qe), .second, .val (.int xw), .val (.int xf), .val (.int (1 : Int32)), .val (.int s0), .val (.ref b1), .val (.int (1 : Int32)), .unset, .unset, .unset] [(.int (2 : Int32)), (.ref b1), (.long ((BC0 qe).toInt64))]))
    obtain ⟨cl51, Ar51, q51, S51, N51, H51, G51⟩ := id Vq41
    have hi51 := inb_of (j := (2 : Int32)) S51 ⟨by decide, by decide⟩
    have hv51 : cl51.slots[((2 : Int32)).toNatClampNeg]? = some (.int (BC1 qe)) := H51.at hi51 rfl
    refine ownEnds.law (fun t k => X41.caload hx (j := (2 : Int32)) (v := (.int (BC1 qe))) Ar51.1 (State.isArrayOf_alike hZ.alike Ar51.2.1) Ar51.2.2 hi51 hv51 (g := (mkF m 220 #[.val (.long qe), .second, .val (.int xw), .val (.int xf), .val (.int (1 : Int32)), .val (.int s0), .val (.ref b1), .val (.int (1 : Int32)), .unset, .unset, .unset] [(.int (2 : Int32)), (.ref b1), (.long ((BC0 qe).toInt64))])) rfl rfl (hb hby at_220) _ (XS.i2l X41.here hx rfl (hb hby at_221) rfl (XS.bipush X41.here hx rfl (hb hby at_222) (XS.lshl X41.here hx rfl (hb hby at_224) rfl (XS.lor X41.here hx rfl (hb hby at_225) rfl (XS.aload X41.here hx rfl (hb hby at_226) rfl rfl (XS.iload X41.here hx rfl (hb hby at_228) rfl (XS.iconst X41.here hx rfl (hb hby at_230) (XS.iadd X41.here hx rfl (hb hby at_231) rfl k))))))))) ?_
    show ownEnds _ _ _ _ (T41.setTop (mkF m 232 #[.val (.long qe), .second, .val (.int xw), .val (.int xf), .val (.int (1 : Int32)), .val (.int s0), .val (.ref b1), .val (.int (1 : Int32)), .unset, .unset, .unset] [(.int (3 : Int32)), (.ref b1), (.long (((BC0 qe).toInt64) ||| (((BC1 qe).toInt64) <<< ((8 : Int32) &&& 0x3f).toInt64)))]))
    obtain ⟨cl52, Ar52, q52, S52, N52, H52, G52⟩ := id Vq41
    have hi52 := inb_of (j := (3 : Int32)) S52 ⟨by decide, by decide⟩
    have hv52 : cl52.slots[((3 : Int32)).toNatClampNeg]? = some (.int (BC2 qe)) := H52.at hi52 rfl
    refine ownEnds.law (fun t k => X41.caload hx (j := (3 : Int32)) (v := (.int (BC2 qe))) Ar52.1 (State.isArrayOf_alike hZ.alike Ar52.2.1) Ar52.2.2 hi52 hv52 (g := (mkF m 232 #[.val (.long qe), .second, .val (.int xw), .val (.int xf), .val (.int (1 : Int32)), .val (.int s0), .val (.ref b1), .val (.int (1 : Int32)), .unset, .unset, .unset] [(.int (3 : Int32)), (.ref b1), (.long (((BC0 qe).toInt64) ||| (((BC1 qe).toInt64) <<< ((8 : Int32) &&& 0x3f).toInt64)))])) rfl rfl (hb hby at_232) _ (XS.i2l X41.here hx rfl (hb hby at_233) rfl (XS.bipush X41.here hx rfl (hb hby at_234) (XS.lshl X41.here hx rfl (hb hby at_236) rfl (XS.lor X41.here hx rfl (hb hby at_237) rfl (XS.aload X41.here hx rfl (hb hby at_238) rfl rfl (XS.iload X41.here hx rfl (hb hby at_240) rfl (XS.iconst X41.here hx rfl (hb hby at_242) (XS.iadd X41.here hx rfl (hb hby at_243) rfl k))))))))) ?_
    show ownEnds _ _ _ _ (T41.setTop (mkF m 244 #[.val (.long qe), .second, .val (.int xw), .val (.int xf), .val (.int (1 : Int32)), .val (.int s0), .val (.ref b1), .val (.int (1 : Int32)), .unset, .unset, .unset] [(.int (4 : Int32)), (.ref b1), (.long ((((BC0 qe).toInt64) ||| (((BC1 qe).toInt64) <<< ((8 : Int32) &&& 0x3f).toInt64)) ||| (((BC2 qe).toInt64) <<< ((16 : Int32) &&& 0x3f).toInt64)))]))
    obtain ⟨cl53, Ar53, q53, S53, N53, H53, G53⟩ := id Vq41
    have hi53 := inb_of (j := (4 : Int32)) S53 ⟨by decide, by decide⟩
    have hv53 : cl53.slots[((4 : Int32)).toNatClampNeg]? = some (.int (BC3 qe)) := H53.at hi53 rfl
    refine ownEnds.law (fun t k => X41.caload hx (j := (4 : Int32)) (v := (.int (BC3 qe))) Ar53.1 (State.isArrayOf_alike hZ.alike Ar53.2.1) Ar53.2.2 hi53 hv53 (g := (mkF m 244 #[.val (.long qe), .second, .val (.int xw), .val (.int xf), .val (.int (1 : Int32)), .val (.int s0), .val (.ref b1), .val (.int (1 : Int32)), .unset, .unset, .unset] [(.int (4 : Int32)), (.ref b1), (.long ((((BC0 qe).toInt64) ||| (((BC1 qe).toInt64) <<< ((8 : Int32) &&& 0x3f).toInt64)) ||| (((BC2 qe).toInt64) <<< ((16 : Int32) &&& 0x3f).toInt64)))])) rfl rfl (hb hby at_244) _ (XS.i2l X41.here hx rfl (hb hby at_245) rfl (XS.bipush X41.here hx rfl (hb hby at_246) (XS.lshl X41.here hx rfl (hb hby at_248) rfl (XS.lor X41.here hx rfl (hb hby at_249) rfl (XS.aload X41.here hx rfl (hb hby at_250) rfl rfl (XS.iload X41.here hx rfl (hb hby at_252) rfl (XS.iconst X41.here hx rfl (hb hby at_254) (XS.iadd X41.here hx rfl (hb hby at_255) rfl k))))))))) ?_
    show ownEnds _ _ _ _ (T41.setTop (mkF m 256 #[.val (.long qe), .second, .val (.int xw), .val (.int xf), .val (.int (1 : Int32)), .val (.int s0), .val (.ref b1), .val (.int (1 : Int32)), .unset, .unset, .unset] [(.int (5 : Int32)), (.ref b1), (.long (((((BC0 qe).toInt64) ||| (((BC1 qe).toInt64) <<< ((8 : Int32) &&& 0x3f).toInt64)) ||| (((BC2 qe).toInt64) <<< ((16 : Int32) &&& 0x3f).toInt64)) ||| (((BC3 qe).toInt64) <<< ((24 : Int32) &&& 0x3f).toInt64)))]))
    obtain ⟨cl54, Ar54, q54, S54, N54, H54, G54⟩ := id Vq41
    have hi54 := inb_of (j := (5 : Int32)) S54 ⟨by decide, by decide⟩
    have hv54 : cl54.slots[((5 : Int32)).toNatClampNeg]? = some (.int (BC4 qe)) := H54.at hi54 rfl
    refine ownEnds.law (fun t k => X41.caload hx (j := (5 : Int32)) (v := (.int (BC4 qe))) Ar54.1 (State.isArrayOf_alike hZ.alike Ar54.2.1) Ar54.2.2 hi54 hv54 (g := (mkF m 256 #[.val (.long qe), .second, .val (.int xw), .val (.int xf), .val (.int (1 : Int32)), .val (.int s0), .val (.ref b1), .val (.int (1 : Int32)), .unset, .unset, .unset] [(.int (5 : Int32)), (.ref b1), (.long (((((BC0 qe).toInt64) ||| (((BC1 qe).toInt64) <<< ((8 : Int32) &&& 0x3f).toInt64)) ||| (((BC2 qe).toInt64) <<< ((16 : Int32) &&& 0x3f).toInt64)) ||| (((BC3 qe).toInt64) <<< ((24 : Int32) &&& 0x3f).toInt64)))])) rfl rfl (hb hby at_256) _ (XS.i2l X41.here hx rfl (hb hby at_257) rfl (XS.bipush X41.here hx rfl (hb hby at_258) (XS.lshl X41.here hx rfl (hb hby at_260) rfl (XS.lor X41.here hx rfl (hb hby at_261) rfl (XS.aload X41.here hx rfl (hb hby at_262) rfl rfl (XS.iload X41.here hx rfl (hb hby at_264) rfl (XS.iconst X41.here hx rfl (hb hby at_266) (XS.iadd X41.here hx rfl (hb hby at_267) rfl k))))))))) ?_
    show ownEnds _ _ _ _ (T41.setTop (mkF m 268 #[.val (.long qe), .second, .val (.int xw), .val (.int xf), .val (.int (1 : Int32)), .val (.int s0), .val (.ref b1), .val (.int (1 : Int32)), .unset, .unset, .unset] [(.int (6 : Int32)), (.ref b1), (.long ((((((BC0 qe).toInt64) ||| (((BC1 qe).toInt64) <<< ((8 : Int32) &&& 0x3f).toInt64)) ||| (((BC2 qe).toInt64) <<< ((16 : Int32) &&& 0x3f).toInt64)) ||| (((BC3 qe).toInt64) <<< ((24 : Int32) &&& 0x3f).toInt64)) ||| (((BC4 qe).toInt64) <<< ((32 : Int32) &&& 0x3f).toInt64)))]))
    obtain ⟨cl55, Ar55, q55, S55, N55, H55, G55⟩ := id Vq41
    have hi55 := inb_of (j := (6 : Int32)) S55 ⟨by decide, by decide⟩
    have hv55 : cl55.slots[((6 : Int32)).toNatClampNeg]? = some (.int (BC5 qe)) := H55.at hi55 rfl
    refine ownEnds.law (fun t k => X41.caload hx (j := (6 : Int32)) (v := (.int (BC5 qe))) Ar55.1 (State.isArrayOf_alike hZ.alike Ar55.2.1) Ar55.2.2 hi55 hv55 (g := (mkF m 268 #[.val (.long qe), .second, .val (.int xw), .val (.int xf), .val (.int (1 : Int32)), .val (.int s0), .val (.ref b1), .val (.int (1 : Int32)), .unset, .unset, .unset] [(.int (6 : Int32)), (.ref b1), (.long ((((((BC0 qe).toInt64) ||| (((BC1 qe).toInt64) <<< ((8 : Int32) &&& 0x3f).toInt64)) ||| (((BC2 qe).toInt64) <<< ((16 : Int32) &&& 0x3f).toInt64)) ||| (((BC3 qe).toInt64) <<< ((24 : Int32) &&& 0x3f).toInt64)) ||| (((BC4 qe).toInt64) <<< ((32 : Int32) &&& 0x3f).toInt64)))])) rfl rfl (hb hby at_268) _ (XS.i2l X41.here hx rfl (hb hby at_269) rfl (XS.bipush X41.here hx rfl (hb hby at_270) (XS.lshl X41.here hx rfl (hb hby at_272) rfl (XS.lor X41.here hx rfl (hb hby at_273) rfl (XS.aload X41.here hx rfl (hb hby at_274) rfl rfl (XS.iload X41.here hx rfl (hb hby at_276) rfl (XS.bipush X41.here hx rfl (hb hby at_278) (XS.iadd X41.here hx rfl (hb hby at_280) rfl k))))))))) ?_
    show ownEnds _ _ _ _ (T41.setTop (mkF m 281 #[.val (.long qe), .second, .val (.int xw), .val (.int xf), .val (.int (1 : Int32)), .val (.int s0), .val (.ref b1), .val (.int (1 : Int32)), .unset, .unset, .unset] [(.int (7 : Int32)), (.ref b1), (.long (((((((BC0 qe).toInt64) ||| (((BC1 qe).toInt64) <<< ((8 : Int32) &&& 0x3f).toInt64)) ||| (((BC2 qe).toInt64) <<< ((16 : Int32) &&& 0x3f).toInt64)) ||| (((BC3 qe).toInt64) <<< ((24 : Int32) &&& 0x3f).toInt64)) ||| (((BC4 qe).toInt64) <<< ((32 : Int32) &&& 0x3f).toInt64)) ||| (((BC5 qe).toInt64) <<< ((40 : Int32) &&& 0x3f).toInt64)))]))
    obtain ⟨cl56, Ar56, q56, S56, N56, H56, G56⟩ := id Vq41
    have hi56 := inb_of (j := (7 : Int32)) S56 ⟨by decide, by decide⟩
    have hv56 : cl56.slots[((7 : Int32)).toNatClampNeg]? = some (.int (BC6 qe)) := H56.at hi56 rfl
    refine ownEnds.law (fun t k => X41.caload hx (j := (7 : Int32)) (v := (.int (BC6 qe))) Ar56.1 (State.isArrayOf_alike hZ.alike Ar56.2.1) Ar56.2.2 hi56 hv56 (g := (mkF m 281 #[.val (.long qe), .second, .val (.int xw), .val (.int xf), .val (.int (1 : Int32)), .val (.int s0), .val (.ref b1), .val (.int (1 : Int32)), .unset, .unset, .unset] [(.int (7 : Int32)), (.ref b1), (.long (((((((BC0 qe).toInt64) ||| (((BC1 qe).toInt64) <<< ((8 : Int32) &&& 0x3f).toInt64)) ||| (((BC2 qe).toInt64) <<< ((16 : Int32) &&& 0x3f).toInt64)) ||| (((BC3 qe).toInt64) <<< ((24 : Int32) &&& 0x3f).toInt64)) ||| (((BC4 qe).toInt64) <<< ((32 : Int32) &&& 0x3f).toInt64)) ||| (((BC5 qe).toInt64) <<< ((40 : Int32) &&& 0x3f).toInt64)))])) rfl rfl (hb hby at_281) _ (XS.i2l X41.here hx rfl (hb hby at_282) rfl (XS.bipush X41.here hx rfl (hb hby at_283) (XS.lshl X41.here hx rfl (hb hby at_285) rfl (XS.lor X41.here hx rfl (hb hby at_286) rfl (XS.aload X41.here hx rfl (hb hby at_287) rfl rfl (XS.iload X41.here hx rfl (hb hby at_289) rfl (XS.bipush X41.here hx rfl (hb hby at_291) (XS.iadd X41.here hx rfl (hb hby at_293) rfl k))))))))) ?_
    show ownEnds _ _ _ _ (T41.setTop (mkF m 294 #[.val (.long qe), .second, .val (.int xw), .val (.int xf), .val (.int (1 : Int32)), .val (.int s0), .val (.ref b1), .val (.int (1 : Int32)), .unset, .unset, .unset] [(.int (8 : Int32)), (.ref b1), (.long ((((((((BC0 qe).toInt64) ||| (((BC1 qe).toInt64) <<< ((8 : Int32) &&& 0x3f).toInt64)) ||| (((BC2 qe).toInt64) <<< ((16 : Int32) &&& 0x3f).toInt64)) ||| (((BC3 qe).toInt64) <<< ((24 : Int32) &&& 0x3f).toInt64)) ||| (((BC4 qe).toInt64) <<< ((32 : Int32) &&& 0x3f).toInt64)) ||| (((BC5 qe).toInt64) <<< ((40 : Int32) &&& 0x3f).toInt64)) ||| (((BC6 qe).toInt64) <<< ((48 : Int32) &&& 0x3f).toInt64)))]))
    obtain ⟨cl57, Ar57, q57, S57, N57, H57, G57⟩ := id Vq41
    have hi57 := inb_of (j := (8 : Int32)) S57 ⟨by decide, by decide⟩
    have hv57 : cl57.slots[((8 : Int32)).toNatClampNeg]? = some (.int (BC7 qe)) := H57.at hi57 rfl
    refine ownEnds.law (fun t k => X41.caload hx (j := (8 : Int32)) (v := (.int (BC7 qe))) Ar57.1 (State.isArrayOf_alike hZ.alike Ar57.2.1) Ar57.2.2 hi57 hv57 (g := (mkF m 294 #[.val (.long qe), .second, .val (.int xw), .val (.int xf), .val (.int (1 : Int32)), .val (.int s0), .val (.ref b1), .val (.int (1 : Int32)), .unset, .unset, .unset] [(.int (8 : Int32)), (.ref b1), (.long ((((((((BC0 qe).toInt64) ||| (((BC1 qe).toInt64) <<< ((8 : Int32) &&& 0x3f).toInt64)) ||| (((BC2 qe).toInt64) <<< ((16 : Int32) &&& 0x3f).toInt64)) ||| (((BC3 qe).toInt64) <<< ((24 : Int32) &&& 0x3f).toInt64)) ||| (((BC4 qe).toInt64) <<< ((32 : Int32) &&& 0x3f).toInt64)) ||| (((BC5 qe).toInt64) <<< ((40 : Int32) &&& 0x3f).toInt64)) ||| (((BC6 qe).toInt64) <<< ((48 : Int32) &&& 0x3f).toInt64)))])) rfl rfl (hb hby at_294) _ (XS.i2l X41.here hx rfl (hb hby at_295) rfl (XS.bipush X41.here hx rfl (hb hby at_296) (XS.lshl X41.here hx rfl (hb hby at_298) rfl (XS.lor X41.here hx rfl (hb hby at_299) rfl k))))) ?_
    show ownEnds _ _ _ _ (T41.setTop (mkF m 300 #[.val (.long qe), .second, .val (.int xw), .val (.int xf), .val (.int (1 : Int32)), .val (.int s0), .val (.ref b1), .val (.int (1 : Int32)), .unset, .unset, .unset] [(.long (((((((((BC0 qe).toInt64) ||| (((BC1 qe).toInt64) <<< ((8 : Int32) &&& 0x3f).toInt64)) ||| (((BC2 qe).toInt64) <<< ((16 : Int32) &&& 0x3f).toInt64)) ||| (((BC3 qe).toInt64) <<< ((24 : Int32) &&& 0x3f).toInt64)) ||| (((BC4 qe).toInt64) <<< ((32 : Int32) &&& 0x3f).toInt64)) ||| (((BC5 qe).toInt64) <<< ((40 : Int32) &&& 0x3f).toInt64)) ||| (((BC6 qe).toInt64) <<< ((48 : Int32) &&& 0x3f).toInt64)) ||| (((BC7 qe).toInt64) <<< ((56 : Int32) &&& 0x3f).toInt64)))]))
    obtain ⟨rr, e_rr⟩ : ∃ z : Int64, z = (((((((((BC0 qe).toInt64) ||| (((BC1 qe).toInt64) <<< ((8 : Int32) &&& 0x3f).toInt64)) ||| (((BC2 qe).toInt64) <<< ((16 : Int32) &&& 0x3f).toInt64)) ||| (((BC3 qe).toInt64) <<< ((24 : Int32) &&& 0x3f).toInt64)) ||| (((BC4 qe).toInt64) <<< ((32 : Int32) &&& 0x3f).toInt64)) ||| (((BC5 qe).toInt64) <<< ((40 : Int32) &&& 0x3f).toInt64)) ||| (((BC6 qe).toInt64) <<< ((48 : Int32) &&& 0x3f).toInt64)) ||| (((BC7 qe).toInt64) <<< ((56 : Int32) &&& 0x3f).toInt64)) := ⟨_, rfl⟩
    rw [← e_rr]
    show ownEnds _ _ _ _ (T41.setTop (mkF m 300 #[.val (.long qe), .second, .val (.int xw), .val (.int xf), .val (.int (1 : Int32)), .val (.int s0), .val (.ref b1), .val (.int (1 : Int32)), .unset, .unset, .unset] [(.long rr)]))
    refine ownEnds.law (fun t k => XS.lstore X41.here hx rfl (hb hby at_300) rfl (l' := #[.val (.long qe), .second, .val (.int xw), .val (.int xf), .val (.int (1 : Int32)), .val (.int s0), .val (.ref b1), .val (.int (1 : Int32)), .val (.long rr), .second, .unset]) rfl (XS.aload X41.here hx rfl (hb hby at_302) rfl rfl (XS.iconst X41.here hx rfl (hb hby at_304) (XS.iload X41.here hx rfl (hb hby at_305) rfl (XS.iload X41.here hx rfl (hb hby at_307) rfl k))))) ?_
    show ownEnds _ _ _ _ (T41.setTop (mkF m 309 #[.val (.long qe), .second, .val (.int xw), .val (.int xf), .val (.int (1 : Int32)), .val (.int s0), .val (.ref b1), .val (.int (1 : Int32)), .val (.long rr), .second, .unset] [(.int s0), (.int (1 : Int32)), (.int (0 : Int32)), (.ref b1)]))
    obtain ⟨v58, T58, L58, X58, hQ58, st58⟩ := ownCallS X41 hx hZ hown (y := (⟨"com/example/seven_bit_codecs/sevenbitcodecs/EightBytesWriteAsCharsPinLaw", "keeps", "([CIIC)Z"⟩ : MethodName)) (as := [(.ref b1), (.int (0 : Int32)), (.int (1 : Int32)), (.int s0)]) (wd_7 hw) (wd_8 hw) (wd_9 hw) (wd_10 hw) (by decide) (rm2 l Z a0 hw b1 (0 : Int32) (1 : Int32) s0 k1 _ T41.heap n0 Z41 Vq41 ⟨by decide, by decide⟩ (fun _ => rfl)) rfl 0 (by decide) (by decide) (by decide) (by decide) (g := (mkF m 309 #[.val (.long qe), .second, .val (.int xw), .val (.int xf), .val (.int (1 : Int32)), .val (.int s0), .val (.ref b1), .val (.int (1 : Int32)), .val (.long rr), .second, .unset] [(.int s0), (.int (1 : Int32)), (.int (0 : Int32)), (.ref b1)])) rfl (by rw [hml]; rfl) (rest := []) pd_1 rfl rfl (by show 2 * 0 + _ ≤ _; exact Nat.le_of_eq rfl) (hb hby at_309)
    obtain ⟨rfl, rfl, e58⟩ := hQ58
    rw [List.append_nil] at X58
    refine ownEnds.law st58 ?_
    show ownEnds _ _ _ _ (T58.setTop (mkF m 312 #[.val (.long qe), .second, .val (.int xw), .val (.int xf), .val (.int (1 : Int32)), .val (.int s0), .val (.ref b1), .val (.int (1 : Int32)), .val (.long rr), .second, .unset] [(.int (1 : Int32))]))
    refine ownEnds.law (fun t => XS.ifNo X58.here hx rfl (hb hby at_312) rfl ((if0 _ _).trans (feq (by decide : ¬ ((1 : Int32) = (0 : Int32)))).1)) ?_
    show ownEnds _ _ _ _ (T58.setTop (mkF m 315 #[.val (.long qe), .second, .val (.int xw), .val (.int xf), .val (.int (1 : Int32)), .val (.int s0), .val (.ref b1), .val (.int (1 : Int32)), .val (.long rr), .second, .unset] []))
    refine ownEnds.law (fun t k => XS.aload X58.here hx rfl (hb hby at_315) rfl rfl (XS.iconst X58.here hx rfl (hb hby at_317) (XS.iload X58.here hx rfl (hb hby at_318) rfl (XS.iload X58.here hx rfl (hb hby at_320) rfl k)))) ?_
    show ownEnds _ _ _ _ (T58.setTop (mkF m 322 #[.val (.long qe), .second, .val (.int xw), .val (.int xf), .val (.int (1 : Int32)), .val (.int s0), .val (.ref b1), .val (.int (1 : Int32)), .val (.long rr), .second, .unset] [(.int s0), (.int (1 : Int32)), (.int (1 : Int32)), (.ref b1)]))
    obtain ⟨v59, T59, L59, X59, hQ59, st59⟩ := ownCallS X58 hx hZ hown (y := (⟨"com/example/seven_bit_codecs/sevenbitcodecs/EightBytesWriteAsCharsPinLaw", "keeps", "([CIIC)Z"⟩ : MethodName)) (as := [(.ref b1), (.int (1 : Int32)), (.int (1 : Int32)), (.int s0)]) (wd_7 hw) (wd_8 hw) (wd_9 hw) (wd_10 hw) (by decide) (rm2 l Z a0 hw b1 (1 : Int32) (1 : Int32) s0 k1 _ T41.heap n0 Z41 Vq41 ⟨by decide, by decide⟩ (fun h => absurd h (by decide))) e58 0 (by decide) (by decide) (by decide) (by decide) (g := (mkF m 322 #[.val (.long qe), .second, .val (.int xw), .val (.int xf), .val (.int (1 : Int32)), .val (.int s0), .val (.ref b1), .val (.int (1 : Int32)), .val (.long rr), .second, .unset] [(.int s0), (.int (1 : Int32)), (.int (1 : Int32)), (.ref b1)])) rfl (by rw [hml]; rfl) (rest := []) pd_1 rfl rfl (by show 2 * 0 + _ ≤ _; exact Nat.le_of_eq rfl) (hb hby at_322)
    obtain ⟨rfl, rfl, e59⟩ := hQ59
    rw [List.append_nil] at X59
    refine ownEnds.law st59 ?_
    show ownEnds _ _ _ _ (T59.setTop (mkF m 325 #[.val (.long qe), .second, .val (.int xw), .val (.int xf), .val (.int (1 : Int32)), .val (.int s0), .val (.ref b1), .val (.int (1 : Int32)), .val (.long rr), .second, .unset] [(.int (1 : Int32))]))
    refine ownEnds.law (fun t => XS.ifNo X59.here hx rfl (hb hby at_325) rfl ((if0 _ _).trans (feq (by decide : ¬ ((1 : Int32) = (0 : Int32)))).1)) ?_
    show ownEnds _ _ _ _ (T59.setTop (mkF m 328 #[.val (.long qe), .second, .val (.int xw), .val (.int xf), .val (.int (1 : Int32)), .val (.int s0), .val (.ref b1), .val (.int (1 : Int32)), .val (.long rr), .second, .unset] []))
    refine ownEnds.law (fun t k => XS.aload X59.here hx rfl (hb hby at_328) rfl rfl (XS.iconst X59.here hx rfl (hb hby at_330) (XS.iload X59.here hx rfl (hb hby at_331) rfl (XS.iload X59.here hx rfl (hb hby at_333) rfl k)))) ?_
    show ownEnds _ _ _ _ (T59.setTop (mkF m 335 #[.val (.long qe), .second, .val (.int xw), .val (.int xf), .val (.int (1 : Int32)), .val (.int s0), .val (.ref b1), .val (.int (1 : Int32)), .val (.long rr), .second, .unset] [(.int s0), (.int (1 : Int32)), (.int (2 : Int32)), (.ref b1)]))
    obtain ⟨v60, T60, L60, X60, hQ60, st60⟩ := ownCallS X59 hx hZ hown (y := (⟨"com/example/seven_bit_codecs/sevenbitcodecs/EightBytesWriteAsCharsPinLaw", "keeps", "([CIIC)Z"⟩ : MethodName)) (as := [(.ref b1), (.int (2 : Int32)), (.int (1 : Int32)), (.int s0)]) (wd_7 hw) (wd_8 hw) (wd_9 hw) (wd_10 hw) (by decide) (rm2 l Z a0 hw b1 (2 : Int32) (1 : Int32) s0 k1 _ T41.heap n0 Z41 Vq41 ⟨by decide, by decide⟩ (fun h => absurd h (by decide))) e59 0 (by decide) (by decide) (by decide) (by decide) (g := (mkF m 335 #[.val (.long qe), .second, .val (.int xw), .val (.int xf), .val (.int (1 : Int32)), .val (.int s0), .val (.ref b1), .val (.int (1 : Int32)), .val (.long rr), .second, .unset] [(.int s0), (.int (1 : Int32)), (.int (2 : Int32)), (.ref b1)])) rfl (by rw [hml]; rfl) (rest := []) pd_1 rfl rfl (by show 2 * 0 + _ ≤ _; exact Nat.le_of_eq rfl) (hb hby at_335)
    obtain ⟨rfl, rfl, e60⟩ := hQ60
    rw [List.append_nil] at X60
    refine ownEnds.law st60 ?_
    show ownEnds _ _ _ _ (T60.setTop (mkF m 338 #[.val (.long qe), .second, .val (.int xw), .val (.int xf), .val (.int (1 : Int32)), .val (.int s0), .val (.ref b1), .val (.int (1 : Int32)), .val (.long rr), .second, .unset] [(.int (1 : Int32))]))
    refine ownEnds.law (fun t => XS.ifNo X60.here hx rfl (hb hby at_338) rfl ((if0 _ _).trans (feq (by decide : ¬ ((1 : Int32) = (0 : Int32)))).1)) ?_
    show ownEnds _ _ _ _ (T60.setTop (mkF m 341 #[.val (.long qe), .second, .val (.int xw), .val (.int xf), .val (.int (1 : Int32)), .val (.int s0), .val (.ref b1), .val (.int (1 : Int32)), .val (.long rr), .second, .unset] []))
    refine ownEnds.law (fun t k => XS.aload X60.here hx rfl (hb hby at_341) rfl rfl (XS.iconst X60.here hx rfl (hb hby at_343) (XS.iload X60.here hx rfl (hb hby at_344) rfl (XS.iload X60.here hx rfl (hb hby at_346) rfl k)))) ?_
    show ownEnds _ _ _ _ (T60.setTop (mkF m 348 #[.val (.long qe), .second, .val (.int xw), .val (.int xf), .val (.int (1 : Int32)), .val (.int s0), .val (.ref b1), .val (.int (1 : Int32)), .val (.long rr), .second, .unset] [(.int s0), (.int (1 : Int32)), (.int (3 : Int32)), (.ref b1)]))
    obtain ⟨v61, T61, L61, X61, hQ61, st61⟩ := ownCallS X60 hx hZ hown (y := (⟨"com/example/seven_bit_codecs/sevenbitcodecs/EightBytesWriteAsCharsPinLaw", "keeps", "([CIIC)Z"⟩ : MethodName)) (as := [(.ref b1), (.int (3 : Int32)), (.int (1 : Int32)), (.int s0)]) (wd_7 hw) (wd_8 hw) (wd_9 hw) (wd_10 hw) (by decide) (rm2 l Z a0 hw b1 (3 : Int32) (1 : Int32) s0 k1 _ T41.heap n0 Z41 Vq41 ⟨by decide, by decide⟩ (fun h => absurd h (by decide))) e60 0 (by decide) (by decide) (by decide) (by decide) (g := (mkF m 348 #[.val (.long qe), .second, .val (.int xw), .val (.int xf), .val (.int (1 : Int32)), .val (.int s0), .val (.ref b1), .val (.int (1 : Int32)), .val (.long rr), .second, .unset] [(.int s0), (.int (1 : Int32)), (.int (3 : Int32)), (.ref b1)])) rfl (by rw [hml]; rfl) (rest := []) pd_1 rfl rfl (by show 2 * 0 + _ ≤ _; exact Nat.le_of_eq rfl) (hb hby at_348)
    obtain ⟨rfl, rfl, e61⟩ := hQ61
    rw [List.append_nil] at X61
    refine ownEnds.law st61 ?_
    show ownEnds _ _ _ _ (T61.setTop (mkF m 351 #[.val (.long qe), .second, .val (.int xw), .val (.int xf), .val (.int (1 : Int32)), .val (.int s0), .val (.ref b1), .val (.int (1 : Int32)), .val (.long rr), .second, .unset] [(.int (1 : Int32))]))
    refine ownEnds.law (fun t => XS.ifNo X61.here hx rfl (hb hby at_351) rfl ((if0 _ _).trans (feq (by decide : ¬ ((1 : Int32) = (0 : Int32)))).1)) ?_
    show ownEnds _ _ _ _ (T61.setTop (mkF m 354 #[.val (.long qe), .second, .val (.int xw), .val (.int xf), .val (.int (1 : Int32)), .val (.int s0), .val (.ref b1), .val (.int (1 : Int32)), .val (.long rr), .second, .unset] []))
    refine ownEnds.law (fun t k => XS.aload X61.here hx rfl (hb hby at_354) rfl rfl (XS.iconst X61.here hx rfl (hb hby at_356) (XS.iload X61.here hx rfl (hb hby at_357) rfl (XS.iload X61.here hx rfl (hb hby at_359) rfl k)))) ?_
    show ownEnds _ _ _ _ (T61.setTop (mkF m 361 #[.val (.long qe), .second, .val (.int xw), .val (.int xf), .val (.int (1 : Int32)), .val (.int s0), .val (.ref b1), .val (.int (1 : Int32)), .val (.long rr), .second, .unset] [(.int s0), (.int (1 : Int32)), (.int (4 : Int32)), (.ref b1)]))
    obtain ⟨v62, T62, L62, X62, hQ62, st62⟩ := ownCallS X61 hx hZ hown (y := (⟨"com/example/seven_bit_codecs/sevenbitcodecs/EightBytesWriteAsCharsPinLaw", "keeps", "([CIIC)Z"⟩ : MethodName)) (as := [(.ref b1), (.int (4 : Int32)), (.int (1 : Int32)), (.int s0)]) (wd_7 hw) (wd_8 hw) (wd_9 hw) (wd_10 hw) (by decide) (rm2 l Z a0 hw b1 (4 : Int32) (1 : Int32) s0 k1 _ T41.heap n0 Z41 Vq41 ⟨by decide, by decide⟩ (fun h => absurd h (by decide))) e61 0 (by decide) (by decide) (by decide) (by decide) (g := (mkF m 361 #[.val (.long qe), .second, .val (.int xw), .val (.int xf), .val (.int (1 : Int32)), .val (.int s0), .val (.ref b1), .val (.int (1 : Int32)), .val (.long rr), .second, .unset] [(.int s0), (.int (1 : Int32)), (.int (4 : Int32)), (.ref b1)])) rfl (by rw [hml]; rfl) (rest := []) pd_1 rfl rfl (by show 2 * 0 + _ ≤ _; exact Nat.le_of_eq rfl) (hb hby at_361)
    obtain ⟨rfl, rfl, e62⟩ := hQ62
    rw [List.append_nil] at X62
    refine ownEnds.law st62 ?_
    show ownEnds _ _ _ _ (T62.setTop (mkF m 364 #[.val (.long qe), .second, .val (.int xw), .val (.int xf), .val (.int (1 : Int32)), .val (.int s0), .val (.ref b1), .val (.int (1 : Int32)), .val (.long rr), .second, .unset] [(.int (1 : Int32))]))
    refine ownEnds.law (fun t => XS.ifNo X62.here hx rfl (hb hby at_364) rfl ((if0 _ _).trans (feq (by decide : ¬ ((1 : Int32) = (0 : Int32)))).1)) ?_
    show ownEnds _ _ _ _ (T62.setTop (mkF m 367 #[.val (.long qe), .second, .val (.int xw), .val (.int xf), .val (.int (1 : Int32)), .val (.int s0), .val (.ref b1), .val (.int (1 : Int32)), .val (.long rr), .second, .unset] []))
    refine ownEnds.law (fun t k => XS.aload X62.here hx rfl (hb hby at_367) rfl rfl (XS.iconst X62.here hx rfl (hb hby at_369) (XS.iload X62.here hx rfl (hb hby at_370) rfl (XS.iload X62.here hx rfl (hb hby at_372) rfl k)))) ?_
    show ownEnds _ _ _ _ (T62.setTop (mkF m 374 #[.val (.long qe), .second, .val (.int xw), .val (.int xf), .val (.int (1 : Int32)), .val (.int s0), .val (.ref b1), .val (.int (1 : Int32)), .val (.long rr), .second, .unset] [(.int s0), (.int (1 : Int32)), (.int (5 : Int32)), (.ref b1)]))
    obtain ⟨v63, T63, L63, X63, hQ63, st63⟩ := ownCallS X62 hx hZ hown (y := (⟨"com/example/seven_bit_codecs/sevenbitcodecs/EightBytesWriteAsCharsPinLaw", "keeps", "([CIIC)Z"⟩ : MethodName)) (as := [(.ref b1), (.int (5 : Int32)), (.int (1 : Int32)), (.int s0)]) (wd_7 hw) (wd_8 hw) (wd_9 hw) (wd_10 hw) (by decide) (rm2 l Z a0 hw b1 (5 : Int32) (1 : Int32) s0 k1 _ T41.heap n0 Z41 Vq41 ⟨by decide, by decide⟩ (fun h => absurd h (by decide))) e62 0 (by decide) (by decide) (by decide) (by decide) (g := (mkF m 374 #[.val (.long qe), .second, .val (.int xw), .val (.int xf), .val (.int (1 : Int32)), .val (.int s0), .val (.ref b1), .val (.int (1 : Int32)), .val (.long rr), .second, .unset] [(.int s0), (.int (1 : Int32)), (.int (5 : Int32)), (.ref b1)])) rfl (by rw [hml]; rfl) (rest := []) pd_1 rfl rfl (by show 2 * 0 + _ ≤ _; exact Nat.le_of_eq rfl) (hb hby at_374)
    obtain ⟨rfl, rfl, e63⟩ := hQ63
    rw [List.append_nil] at X63
    refine ownEnds.law st63 ?_
    show ownEnds _ _ _ _ (T63.setTop (mkF m 377 #[.val (.long qe), .second, .val (.int xw), .val (.int xf), .val (.int (1 : Int32)), .val (.int s0), .val (.ref b1), .val (.int (1 : Int32)), .val (.long rr), .second, .unset] [(.int (1 : Int32))]))
    refine ownEnds.law (fun t => XS.ifNo X63.here hx rfl (hb hby at_377) rfl ((if0 _ _).trans (feq (by decide : ¬ ((1 : Int32) = (0 : Int32)))).1)) ?_
    show ownEnds _ _ _ _ (T63.setTop (mkF m 380 #[.val (.long qe), .second, .val (.int xw), .val (.int xf), .val (.int (1 : Int32)), .val (.int s0), .val (.ref b1), .val (.int (1 : Int32)), .val (.long rr), .second, .unset] []))
    refine ownEnds.law (fun t k => XS.aload X63.here hx rfl (hb hby at_380) rfl rfl (XS.bipush X63.here hx rfl (hb hby at_382) (XS.iload X63.here hx rfl (hb hby at_384) rfl (XS.iload X63.here hx rfl (hb hby at_386) rfl k)))) ?_
    show ownEnds _ _ _ _ (T63.setTop (mkF m 388 #[.val (.long qe), .second, .val (.int xw), .val (.int xf), .val (.int (1 : Int32)), .val (.int s0), .val (.ref b1), .val (.int (1 : Int32)), .val (.long rr), .second, .unset] [(.int s0), (.int (1 : Int32)), (.int (6 : Int32)), (.ref b1)]))
    obtain ⟨v64, T64, L64, X64, hQ64, st64⟩ := ownCallS X63 hx hZ hown (y := (⟨"com/example/seven_bit_codecs/sevenbitcodecs/EightBytesWriteAsCharsPinLaw", "keeps", "([CIIC)Z"⟩ : MethodName)) (as := [(.ref b1), (.int (6 : Int32)), (.int (1 : Int32)), (.int s0)]) (wd_7 hw) (wd_8 hw) (wd_9 hw) (wd_10 hw) (by decide) (rm2 l Z a0 hw b1 (6 : Int32) (1 : Int32) s0 k1 _ T41.heap n0 Z41 Vq41 ⟨by decide, by decide⟩ (fun h => absurd h (by decide))) e63 0 (by decide) (by decide) (by decide) (by decide) (g := (mkF m 388 #[.val (.long qe), .second, .val (.int xw), .val (.int xf), .val (.int (1 : Int32)), .val (.int s0), .val (.ref b1), .val (.int (1 : Int32)), .val (.long rr), .second, .unset] [(.int s0), (.int (1 : Int32)), (.int (6 : Int32)), (.ref b1)])) rfl (by rw [hml]; rfl) (rest := []) pd_1 rfl rfl (by show 2 * 0 + _ ≤ _; exact Nat.le_of_eq rfl) (hb hby at_388)
    obtain ⟨rfl, rfl, e64⟩ := hQ64
    rw [List.append_nil] at X64
    refine ownEnds.law st64 ?_
    show ownEnds _ _ _ _ (T64.setTop (mkF m 391 #[.val (.long qe), .second, .val (.int xw), .val (.int xf), .val (.int (1 : Int32)), .val (.int s0), .val (.ref b1), .val (.int (1 : Int32)), .val (.long rr), .second, .unset] [(.int (1 : Int32))]))
    refine ownEnds.law (fun t => XS.ifNo X64.here hx rfl (hb hby at_391) rfl ((if0 _ _).trans (feq (by decide : ¬ ((1 : Int32) = (0 : Int32)))).1)) ?_
    show ownEnds _ _ _ _ (T64.setTop (mkF m 394 #[.val (.long qe), .second, .val (.int xw), .val (.int xf), .val (.int (1 : Int32)), .val (.int s0), .val (.ref b1), .val (.int (1 : Int32)), .val (.long rr), .second, .unset] []))
    refine ownEnds.law (fun t k => XS.aload X64.here hx rfl (hb hby at_394) rfl rfl (XS.bipush X64.here hx rfl (hb hby at_396) (XS.iload X64.here hx rfl (hb hby at_398) rfl (XS.iload X64.here hx rfl (hb hby at_400) rfl k)))) ?_
    show ownEnds _ _ _ _ (T64.setTop (mkF m 402 #[.val (.long qe), .second, .val (.int xw), .val (.int xf), .val (.int (1 : Int32)), .val (.int s0), .val (.ref b1), .val (.int (1 : Int32)), .val (.long rr), .second, .unset] [(.int s0), (.int (1 : Int32)), (.int (7 : Int32)), (.ref b1)]))
    obtain ⟨v65, T65, L65, X65, hQ65, st65⟩ := ownCallS X64 hx hZ hown (y := (⟨"com/example/seven_bit_codecs/sevenbitcodecs/EightBytesWriteAsCharsPinLaw", "keeps", "([CIIC)Z"⟩ : MethodName)) (as := [(.ref b1), (.int (7 : Int32)), (.int (1 : Int32)), (.int s0)]) (wd_7 hw) (wd_8 hw) (wd_9 hw) (wd_10 hw) (by decide) (rm2 l Z a0 hw b1 (7 : Int32) (1 : Int32) s0 k1 _ T41.heap n0 Z41 Vq41 ⟨by decide, by decide⟩ (fun h => absurd h (by decide))) e64 0 (by decide) (by decide) (by decide) (by decide) (g := (mkF m 402 #[.val (.long qe), .second, .val (.int xw), .val (.int xf), .val (.int (1 : Int32)), .val (.int s0), .val (.ref b1), .val (.int (1 : Int32)), .val (.long rr), .second, .unset] [(.int s0), (.int (1 : Int32)), (.int (7 : Int32)), (.ref b1)])) rfl (by rw [hml]; rfl) (rest := []) pd_1 rfl rfl (by show 2 * 0 + _ ≤ _; exact Nat.le_of_eq rfl) (hb hby at_402)
    obtain ⟨rfl, rfl, e65⟩ := hQ65
    rw [List.append_nil] at X65
    refine ownEnds.law st65 ?_
    show ownEnds _ _ _ _ (T65.setTop (mkF m 405 #[.val (.long qe), .second, .val (.int xw), .val (.int xf), .val (.int (1 : Int32)), .val (.int s0), .val (.ref b1), .val (.int (1 : Int32)), .val (.long rr), .second, .unset] [(.int (1 : Int32))]))
    refine ownEnds.law (fun t => XS.ifNo X65.here hx rfl (hb hby at_405) rfl ((if0 _ _).trans (feq (by decide : ¬ ((1 : Int32) = (0 : Int32)))).1)) ?_
    show ownEnds _ _ _ _ (T65.setTop (mkF m 408 #[.val (.long qe), .second, .val (.int xw), .val (.int xf), .val (.int (1 : Int32)), .val (.int s0), .val (.ref b1), .val (.int (1 : Int32)), .val (.long rr), .second, .unset] []))
    refine ownEnds.law (fun t k => XS.aload X65.here hx rfl (hb hby at_408) rfl rfl (XS.bipush X65.here hx rfl (hb hby at_410) (XS.iload X65.here hx rfl (hb hby at_412) rfl (XS.iload X65.here hx rfl (hb hby at_414) rfl k)))) ?_
    show ownEnds _ _ _ _ (T65.setTop (mkF m 416 #[.val (.long qe), .second, .val (.int xw), .val (.int xf), .val (.int (1 : Int32)), .val (.int s0), .val (.ref b1), .val (.int (1 : Int32)), .val (.long rr), .second, .unset] [(.int s0), (.int (1 : Int32)), (.int (8 : Int32)), (.ref b1)]))
    obtain ⟨v66, T66, L66, X66, hQ66, st66⟩ := ownCallS X65 hx hZ hown (y := (⟨"com/example/seven_bit_codecs/sevenbitcodecs/EightBytesWriteAsCharsPinLaw", "keeps", "([CIIC)Z"⟩ : MethodName)) (as := [(.ref b1), (.int (8 : Int32)), (.int (1 : Int32)), (.int s0)]) (wd_7 hw) (wd_8 hw) (wd_9 hw) (wd_10 hw) (by decide) (rm2 l Z a0 hw b1 (8 : Int32) (1 : Int32) s0 k1 _ T41.heap n0 Z41 Vq41 ⟨by decide, by decide⟩ (fun h => absurd h (by decide))) e65 0 (by decide) (by decide) (by decide) (by decide) (g := (mkF m 416 #[.val (.long qe), .second, .val (.int xw), .val (.int xf), .val (.int (1 : Int32)), .val (.int s0), .val (.ref b1), .val (.int (1 : Int32)), .val (.long rr), .second, .unset] [(.int s0), (.int (1 : Int32)), (.int (8 : Int32)), (.ref b1)])) rfl (by rw [hml]; rfl) (rest := []) pd_1 rfl rfl (by show 2 * 0 + _ ≤ _; exact Nat.le_of_eq rfl) (hb hby at_416)
    obtain ⟨rfl, rfl, e66⟩ := hQ66
    rw [List.append_nil] at X66
    refine ownEnds.law st66 ?_
    show ownEnds _ _ _ _ (T66.setTop (mkF m 419 #[.val (.long qe), .second, .val (.int xw), .val (.int xf), .val (.int (1 : Int32)), .val (.int s0), .val (.ref b1), .val (.int (1 : Int32)), .val (.long rr), .second, .unset] [(.int (1 : Int32))]))
    refine ownEnds.law (fun t => XS.ifNo X66.here hx rfl (hb hby at_419) rfl ((if0 _ _).trans (feq (by decide : ¬ ((1 : Int32) = (0 : Int32)))).1)) ?_
    show ownEnds _ _ _ _ (T66.setTop (mkF m 422 #[.val (.long qe), .second, .val (.int xw), .val (.int xf), .val (.int (1 : Int32)), .val (.int s0), .val (.ref b1), .val (.int (1 : Int32)), .val (.long rr), .second, .unset] []))
    refine ownEnds.law (fun t k => XS.aload X66.here hx rfl (hb hby at_422) rfl rfl (XS.bipush X66.here hx rfl (hb hby at_424) (XS.iload X66.here hx rfl (hb hby at_426) rfl (XS.iload X66.here hx rfl (hb hby at_428) rfl k)))) ?_
    show ownEnds _ _ _ _ (T66.setTop (mkF m 430 #[.val (.long qe), .second, .val (.int xw), .val (.int xf), .val (.int (1 : Int32)), .val (.int s0), .val (.ref b1), .val (.int (1 : Int32)), .val (.long rr), .second, .unset] [(.int s0), (.int (1 : Int32)), (.int (9 : Int32)), (.ref b1)]))
    obtain ⟨v67, T67, L67, X67, hQ67, st67⟩ := ownCallS X66 hx hZ hown (y := (⟨"com/example/seven_bit_codecs/sevenbitcodecs/EightBytesWriteAsCharsPinLaw", "keeps", "([CIIC)Z"⟩ : MethodName)) (as := [(.ref b1), (.int (9 : Int32)), (.int (1 : Int32)), (.int s0)]) (wd_7 hw) (wd_8 hw) (wd_9 hw) (wd_10 hw) (by decide) (rm2 l Z a0 hw b1 (9 : Int32) (1 : Int32) s0 k1 _ T41.heap n0 Z41 Vq41 ⟨by decide, by decide⟩ (fun _ => rfl)) e66 0 (by decide) (by decide) (by decide) (by decide) (g := (mkF m 430 #[.val (.long qe), .second, .val (.int xw), .val (.int xf), .val (.int (1 : Int32)), .val (.int s0), .val (.ref b1), .val (.int (1 : Int32)), .val (.long rr), .second, .unset] [(.int s0), (.int (1 : Int32)), (.int (9 : Int32)), (.ref b1)])) rfl (by rw [hml]; rfl) (rest := []) pd_1 rfl rfl (by show 2 * 0 + _ ≤ _; exact Nat.le_of_eq rfl) (hb hby at_430)
    obtain ⟨rfl, rfl, e67⟩ := hQ67
    rw [List.append_nil] at X67
    refine ownEnds.law st67 ?_
    show ownEnds _ _ _ _ (T67.setTop (mkF m 433 #[.val (.long qe), .second, .val (.int xw), .val (.int xf), .val (.int (1 : Int32)), .val (.int s0), .val (.ref b1), .val (.int (1 : Int32)), .val (.long rr), .second, .unset] [(.int (1 : Int32))]))
    refine ownEnds.law (fun t => XS.ifNo X67.here hx rfl (hb hby at_433) rfl ((if0 _ _).trans (feq (by decide : ¬ ((1 : Int32) = (0 : Int32)))).1)) ?_
    show ownEnds _ _ _ _ (T67.setTop (mkF m 436 #[.val (.long qe), .second, .val (.int xw), .val (.int xf), .val (.int (1 : Int32)), .val (.int s0), .val (.ref b1), .val (.int (1 : Int32)), .val (.long rr), .second, .unset] []))
    refine ownEnds.law (fun t k => XS.aload X67.here hx rfl (hb hby at_436) rfl rfl (XS.bipush X67.here hx rfl (hb hby at_438) (XS.iload X67.here hx rfl (hb hby at_440) rfl (XS.iload X67.here hx rfl (hb hby at_442) rfl k)))) ?_
    show ownEnds _ _ _ _ (T67.setTop (mkF m 444 #[.val (.long qe), .second, .val (.int xw), .val (.int xf), .val (.int (1 : Int32)), .val (.int s0), .val (.ref b1), .val (.int (1 : Int32)), .val (.long rr), .second, .unset] [(.int s0), (.int (1 : Int32)), (.int (10 : Int32)), (.ref b1)]))
    obtain ⟨v68, T68, L68, X68, hQ68, st68⟩ := ownCallS X67 hx hZ hown (y := (⟨"com/example/seven_bit_codecs/sevenbitcodecs/EightBytesWriteAsCharsPinLaw", "keeps", "([CIIC)Z"⟩ : MethodName)) (as := [(.ref b1), (.int (10 : Int32)), (.int (1 : Int32)), (.int s0)]) (wd_7 hw) (wd_8 hw) (wd_9 hw) (wd_10 hw) (by decide) (rm2 l Z a0 hw b1 (10 : Int32) (1 : Int32) s0 k1 _ T41.heap n0 Z41 Vq41 ⟨by decide, by decide⟩ (fun _ => rfl)) e67 0 (by decide) (by decide) (by decide) (by decide) (g := (mkF m 444 #[.val (.long qe), .second, .val (.int xw), .val (.int xf), .val (.int (1 : Int32)), .val (.int s0), .val (.ref b1), .val (.int (1 : Int32)), .val (.long rr), .second, .unset] [(.int s0), (.int (1 : Int32)), (.int (10 : Int32)), (.ref b1)])) rfl (by rw [hml]; rfl) (rest := []) pd_1 rfl rfl (by show 2 * 0 + _ ≤ _; exact Nat.le_of_eq rfl) (hb hby at_444)
    obtain ⟨rfl, rfl, e68⟩ := hQ68
    rw [List.append_nil] at X68
    refine ownEnds.law st68 ?_
    show ownEnds _ _ _ _ (T68.setTop (mkF m 447 #[.val (.long qe), .second, .val (.int xw), .val (.int xf), .val (.int (1 : Int32)), .val (.int s0), .val (.ref b1), .val (.int (1 : Int32)), .val (.long rr), .second, .unset] [(.int (1 : Int32))]))
    refine ownEnds.law (fun t => XS.ifNo X68.here hx rfl (hb hby at_447) rfl ((if0 _ _).trans (feq (by decide : ¬ ((1 : Int32) = (0 : Int32)))).1)) ?_
    show ownEnds _ _ _ _ (T68.setTop (mkF m 450 #[.val (.long qe), .second, .val (.int xw), .val (.int xf), .val (.int (1 : Int32)), .val (.int s0), .val (.ref b1), .val (.int (1 : Int32)), .val (.long rr), .second, .unset] []))
    refine ownEnds.law (fun t k => XS.iconst X68.here hx rfl (hb hby at_450) (XS.goto X68.here hx rfl (pc0 := 451) (pc' := 455) rfl (hb hby at_451) (by decide) (by decide) (XS.istore X68.here hx rfl (hb hby at_455) rfl (l' := #[.val (.long qe), .second, .val (.int xw), .val (.int xf), .val (.int (1 : Int32)), .val (.int s0), .val (.ref b1), .val (.int (1 : Int32)), .val (.long rr), .second, .val (.int (1 : Int32))]) rfl (XS.iload X68.here hx rfl (hb hby at_457) rfl k)))) ?_
    show ownEnds _ _ _ _ (T68.setTop (mkF m 459 #[.val (.long qe), .second, .val (.int xw), .val (.int xf), .val (.int (1 : Int32)), .val (.int s0), .val (.ref b1), .val (.int (1 : Int32)), .val (.long rr), .second, .val (.int (1 : Int32))] [(.int (1 : Int32))]))
    refine ownEnds.law (fun t => XS.ifNo X68.here hx rfl (hb hby at_459) rfl ((if0 _ _).trans (feq (by decide : ¬ ((1 : Int32) = (0 : Int32)))).1)) ?_
    show ownEnds _ _ _ _ (T68.setTop (mkF m 462 #[.val (.long qe), .second, .val (.int xw), .val (.int xf), .val (.int (1 : Int32)), .val (.int s0), .val (.ref b1), .val (.int (1 : Int32)), .val (.long rr), .second, .val (.int (1 : Int32))] []))
    refine ownEnds.law (fun t k => XS.lload X68.here hx rfl (hb hby at_462) rfl (XS.lloadN X68.here hx rfl (hb hby at_464) rfl (XS.lcmp X68.here hx rfl (hb hby at_465) rfl k))) ?_
    show ownEnds _ _ _ _ (T68.setTop (mkF m 466 #[.val (.long qe), .second, .val (.int xw), .val (.int xf), .val (.int (1 : Int32)), .val (.int s0), .val (.ref b1), .val (.int (1 : Int32)), .val (.long rr), .second, .val (.int (1 : Int32))] [(.int (lcmpW rr qe))]))
    have hc466 : rr = qe := by rw [e_rr]; exact own_r _
    refine ownEnds.law (fun t => XS.ifNo X68.here hx rfl (hb hby at_466) rfl ((if0 _ _).trans (teq ((lw_eq _ _).mpr hc466)).2)) ?_
    show ownEnds _ _ _ _ (T68.setTop (mkF m 469 #[.val (.long qe), .second, .val (.int xw), .val (.int xf), .val (.int (1 : Int32)), .val (.int s0), .val (.ref b1), .val (.int (1 : Int32)), .val (.long rr), .second, .val (.int (1 : Int32))] []))
    refine ownEnds.law (fun t k => XS.iload X68.here hx rfl (hb hby at_469) rfl k) ?_
    show ownEnds _ _ _ _ (T68.setTop (mkF m 471 #[.val (.long qe), .second, .val (.int xw), .val (.int xf), .val (.int (1 : Int32)), .val (.int s0), .val (.ref b1), .val (.int (1 : Int32)), .val (.long rr), .second, .val (.int (1 : Int32))] [(.int (1 : Int32))]))
    refine ownEnds.law (fun t => XS.ifNo X68.here hx rfl (hb hby at_471) rfl ((if0 _ _).trans (feq (by decide : ¬ ((1 : Int32) = (0 : Int32)))).1)) ?_
    show ownEnds _ _ _ _ (T68.setTop (mkF m 474 #[.val (.long qe), .second, .val (.int xw), .val (.int xf), .val (.int (1 : Int32)), .val (.int s0), .val (.ref b1), .val (.int (1 : Int32)), .val (.long rr), .second, .val (.int (1 : Int32))] []))
    refine ownEnds.law (fun t k => XS.iconst X68.here hx rfl (hb hby at_474) (XS.goto X68.here hx rfl (pc0 := 475) (pc' := 479) rfl (hb hby at_475) (by decide) (by decide) k)) ?_
    show ownEnds _ _ _ _ (T68.setTop (mkF m 479 #[.val (.long qe), .second, .val (.int xw), .val (.int xf), .val (.int (1 : Int32)), .val (.int s0), .val (.ref b1), .val (.int (1 : Int32)), .val (.long rr), .second, .val (.int (1 : Int32))] [(.int (1 : Int32))]))
    refine ownRetN X68 hlk hx (t := .boolean) hret (by simp) (hb hby at_479) (by decide) (by decide) ?_
    exact ⟨rfl, N41⟩
  · show ownEnds _ _ _ _ (T12.setTop (mkF m 89 #[.val (.long qe), .second, .val (.int xw), .val (.int xf), .val (.int (2 : Int32)), .val (.int s0), .val (.ref b1), .unset, .unset, .unset, .unset] []))
    refine ownEnds.law (fun t k => XS.lloadN X12.here hx rfl (hb hby at_89) rfl (XS.aload X12.here hx rfl (hb hby at_90) rfl rfl (XS.iload X12.here hx rfl (hb hby at_92) rfl k))) ?_
    show ownEnds _ _ _ _ (T12.setTop (mkF m 94 #[.val (.long qe), .second, .val (.int xw), .val (.int xf), .val (.int (2 : Int32)), .val (.int s0), .val (.ref b1), .unset, .unset, .unset, .unset] [(.int (2 : Int32)), (.ref b1), (.long qe)]))
    obtain ⟨v69, T69, L69, X69, hQ69, st69⟩ := ownCallS X12 hx hZ hown (y := (⟨"com/example/seven_bit_codecs/sevenbitcodecs/EightBytes", "writeAsChars", "(J[CI)V"⟩ : MethodName)) (as := [(.long qe), (.ref b1), (.int (2 : Int32))]) (wd_2 hw) (wd_3 hw) (wd_4 hw) (wd_5 hw) (by decide) (rm1_2 l Z a0 hw qe b1 s0 k1 h12 n0 Z12 V89 g_b1) e12 0 (by decide) (by decide) (by decide) (by decide) (g := (mkF m 94 #[.val (.long qe), .second, .val (.int xw), .val (.int xf), .val (.int (2 : Int32)), .val (.int s0), .val (.ref b1), .unset, .unset, .unset, .unset] [(.int (2 : Int32)), (.ref b1), (.long qe)])) rfl (by rw [hml]; rfl) (rest := []) pd_0 rfl rfl (by show 2 * 0 + _ ≤ _; exact Nat.le_of_eq rfl) (hb hby at_94)
    obtain ⟨rfl, Nq69, Kq69, Vq69⟩ := hQ69
    have N69 := Fr.app N12 Nq69
    have Z69 : n0 ≤ T69.heap.size := Nat.le_trans Z12 Kq69.1
    refine ownEnds.law st69 ?_
    show ownEnds _ _ _ _ (T69.setTop (mkF m 97 #[.val (.long qe), .second, .val (.int xw), .val (.int xf), .val (.int (2 : Int32)), .val (.int s0), .val (.ref b1), .unset, .unset, .unset, .unset] []))
    refine ownEnds.law (fun t k => XS.aload X69.here hx rfl (hb hby at_97) rfl rfl (XS.iload X69.here hx rfl (hb hby at_99) rfl k)) ?_
    show ownEnds _ _ _ _ (T69.setTop (mkF m 101 #[.val (.long qe), .second, .val (.int xw), .val (.int xf), .val (.int (2 : Int32)), .val (.int s0), .val (.ref b1), .unset, .unset, .unset, .unset] [(.int (2 : Int32)), (.ref b1)]))
    obtain ⟨cl70, Ar70, q70, S70, N70, H70, G70⟩ := id Vq69
    have hi70 := inb_of (j := (2 : Int32)) S70 ⟨by decide, by decide⟩
    have hv70 : cl70.slots[((2 : Int32)).toNatClampNeg]? = some (.int (BC0 qe)) := H70.at hi70 rfl
    refine ownEnds.law (fun t k => X69.caload hx (j := (2 : Int32)) (v := (.int (BC0 qe))) Ar70.1 (State.isArrayOf_alike hZ.alike Ar70.2.1) Ar70.2.2 hi70 hv70 (g := (mkF m 101 #[.val (.long qe), .second, .val (.int xw), .val (.int xf), .val (.int (2 : Int32)), .val (.int s0), .val (.ref b1), .unset, .unset, .unset, .unset] [(.int (2 : Int32)), (.ref b1)])) rfl rfl (hb hby at_101) _ (XS.sipush X69.here hx rfl (hb hby at_102) k)) ?_
    show ownEnds _ _ _ _ (T69.setTop (mkF m 105 #[.val (.long qe), .second, .val (.int xw), .val (.int xf), .val (.int (2 : Int32)), .val (.int s0), .val (.ref b1), .unset, .unset, .unset, .unset] [(.int (256 : Int32)), (.int (BC0 qe))]))
    have hc105 : (BC0 qe) < (256 : Int32) := own_lt0 _
    refine ownEnds.law (fun t => XS.icmpNo X69.here hx rfl (hb hby at_105) rfl (tlt hc105).2.1) ?_
    show ownEnds _ _ _ _ (T69.setTop (mkF m 108 #[.val (.long qe), .second, .val (.int xw), .val (.int xf), .val (.int (2 : Int32)), .val (.int s0), .val (.ref b1), .unset, .unset, .unset, .unset] []))
    refine ownEnds.law (fun t k => XS.aload X69.here hx rfl (hb hby at_108) rfl rfl (XS.iload X69.here hx rfl (hb hby at_110) rfl (XS.iconst X69.here hx rfl (hb hby at_112) (XS.iadd X69.here hx rfl (hb hby at_113) rfl k)))) ?_
    show ownEnds _ _ _ _ (T69.setTop (mkF m 114 #[.val (.long qe), .second, .val (.int xw), .val (.int xf), .val (.int (2 : Int32)), .val (.int s0), .val (.ref b1), .unset, .unset, .unset, .unset] [(.int (3 : Int32)), (.ref b1)]))
    obtain ⟨cl71, Ar71, q71, S71, N71, H71, G71⟩ := id Vq69
    have hi71 := inb_of (j := (3 : Int32)) S71 ⟨by decide, by decide⟩
    have hv71 : cl71.slots[((3 : Int32)).toNatClampNeg]? = some (.int (BC1 qe)) := H71.at hi71 rfl
    refine ownEnds.law (fun t k => X69.caload hx (j := (3 : Int32)) (v := (.int (BC1 qe))) Ar71.1 (State.isArrayOf_alike hZ.alike Ar71.2.1) Ar71.2.2 hi71 hv71 (g := (mkF m 114 #[.val (.long qe), .second, .val (.int xw), .val (.int xf), .val (.int (2 : Int32)), .val (.int s0), .val (.ref b1), .unset, .unset, .unset, .unset] [(.int (3 : Int32)), (.ref b1)])) rfl rfl (hb hby at_114) _ (XS.sipush X69.here hx rfl (hb hby at_115) k)) ?_
    show ownEnds _ _ _ _ (T69.setTop (mkF m 118 #[.val (.long qe), .second, .val (.int xw), .val (.int xf), .val (.int (2 : Int32)), .val (.int s0), .val (.ref b1), .unset, .unset, .unset, .unset] [(.int (256 : Int32)), (.int (BC1 qe))]))
    have hc118 : (BC1 qe) < (256 : Int32) := own_lt1 _
    refine ownEnds.law (fun t => XS.icmpNo X69.here hx rfl (hb hby at_118) rfl (tlt hc118).2.1) ?_
    show ownEnds _ _ _ _ (T69.setTop (mkF m 121 #[.val (.long qe), .second, .val (.int xw), .val (.int xf), .val (.int (2 : Int32)), .val (.int s0), .val (.ref b1), .unset, .unset, .unset, .unset] []))
    refine ownEnds.law (fun t k => XS.aload X69.here hx rfl (hb hby at_121) rfl rfl (XS.iload X69.here hx rfl (hb hby at_123) rfl (XS.iconst X69.here hx rfl (hb hby at_125) (XS.iadd X69.here hx rfl (hb hby at_126) rfl k)))) ?_
    show ownEnds _ _ _ _ (T69.setTop (mkF m 127 #[.val (.long qe), .second, .val (.int xw), .val (.int xf), .val (.int (2 : Int32)), .val (.int s0), .val (.ref b1), .unset, .unset, .unset, .unset] [(.int (4 : Int32)), (.ref b1)]))
    obtain ⟨cl72, Ar72, q72, S72, N72, H72, G72⟩ := id Vq69
    have hi72 := inb_of (j := (4 : Int32)) S72 ⟨by decide, by decide⟩
    have hv72 : cl72.slots[((4 : Int32)).toNatClampNeg]? = some (.int (BC2 qe)) := H72.at hi72 rfl
    refine ownEnds.law (fun t k => X69.caload hx (j := (4 : Int32)) (v := (.int (BC2 qe))) Ar72.1 (State.isArrayOf_alike hZ.alike Ar72.2.1) Ar72.2.2 hi72 hv72 (g := (mkF m 127 #[.val (.long qe), .second, .val (.int xw), .val (.int xf), .val (.int (2 : Int32)), .val (.int s0), .val (.ref b1), .unset, .unset, .unset, .unset] [(.int (4 : Int32)), (.ref b1)])) rfl rfl (hb hby at_127) _ (XS.sipush X69.here hx rfl (hb hby at_128) k)) ?_
    show ownEnds _ _ _ _ (T69.setTop (mkF m 131 #[.val (.long qe), .second, .val (.int xw), .val (.int xf), .val (.int (2 : Int32)), .val (.int s0), .val (.ref b1), .unset, .unset, .unset, .unset] [(.int (256 : Int32)), (.int (BC2 qe))]))
    have hc131 : (BC2 qe) < (256 : Int32) := own_lt2 _
    refine ownEnds.law (fun t => XS.icmpNo X69.here hx rfl (hb hby at_131) rfl (tlt hc131).2.1) ?_
    show ownEnds _ _ _ _ (T69.setTop (mkF m 134 #[.val (.long qe), .second, .val (.int xw), .val (.int xf), .val (.int (2 : Int32)), .val (.int s0), .val (.ref b1), .unset, .unset, .unset, .unset] []))
    refine ownEnds.law (fun t k => XS.aload X69.here hx rfl (hb hby at_134) rfl rfl (XS.iload X69.here hx rfl (hb hby at_136) rfl (XS.iconst X69.here hx rfl (hb hby at_138) (XS.iadd X69.here hx rfl (hb hby at_139) rfl k)))) ?_
    show ownEnds _ _ _ _ (T69.setTop (mkF m 140 #[.val (.long qe), .second, .val (.int xw), .val (.int xf), .val (.int (2 : Int32)), .val (.int s0), .val (.ref b1), .unset, .unset, .unset, .unset] [(.int (5 : Int32)), (.ref b1)]))
    obtain ⟨cl73, Ar73, q73, S73, N73, H73, G73⟩ := id Vq69
    have hi73 := inb_of (j := (5 : Int32)) S73 ⟨by decide, by decide⟩
    have hv73 : cl73.slots[((5 : Int32)).toNatClampNeg]? = some (.int (BC3 qe)) := H73.at hi73 rfl
    refine ownEnds.law (fun t k => X69.caload hx (j := (5 : Int32)) (v := (.int (BC3 qe))) Ar73.1 (State.isArrayOf_alike hZ.alike Ar73.2.1) Ar73.2.2 hi73 hv73 (g := (mkF m 140 #[.val (.long qe), .second, .val (.int xw), .val (.int xf), .val (.int (2 : Int32)), .val (.int s0), .val (.ref b1), .unset, .unset, .unset, .unset] [(.int (5 : Int32)), (.ref b1)])) rfl rfl (hb hby at_140) _ (XS.sipush X69.here hx rfl (hb hby at_141) k)) ?_
    show ownEnds _ _ _ _ (T69.setTop (mkF m 144 #[.val (.long qe), .second, .val (.int xw), .val (.int xf), .val (.int (2 : Int32)), .val (.int s0), .val (.ref b1), .unset, .unset, .unset, .unset] [(.int (256 : Int32)), (.int (BC3 qe))]))
    have hc144 : (BC3 qe) < (256 : Int32) := own_lt3 _
    refine ownEnds.law (fun t => XS.icmpNo X69.here hx rfl (hb hby at_144) rfl (tlt hc144).2.1) ?_
    show ownEnds _ _ _ _ (T69.setTop (mkF m 147 #[.val (.long qe), .second, .val (.int xw), .val (.int xf), .val (.int (2 : Int32)), .val (.int s0), .val (.ref b1), .unset, .unset, .unset, .unset] []))
    refine ownEnds.law (fun t k => XS.aload X69.here hx rfl (hb hby at_147) rfl rfl (XS.iload X69.here hx rfl (hb hby at_149) rfl (XS.iconst X69.here hx rfl (hb hby at_151) (XS.iadd X69.here hx rfl (hb hby at_152) rfl k)))) ?_
    show ownEnds _ _ _ _ (T69.setTop (mkF m 153 #[.val (.long qe), .second, .val (.int xw), .val (.int xf), .val (.int (2 : Int32)), .val (.int s0), .val (.ref b1), .unset, .unset, .unset, .unset] [(.int (6 : Int32)), (.ref b1)]))
    obtain ⟨cl74, Ar74, q74, S74, N74, H74, G74⟩ := id Vq69
    have hi74 := inb_of (j := (6 : Int32)) S74 ⟨by decide, by decide⟩
    have hv74 : cl74.slots[((6 : Int32)).toNatClampNeg]? = some (.int (BC4 qe)) := H74.at hi74 rfl
    refine ownEnds.law (fun t k => X69.caload hx (j := (6 : Int32)) (v := (.int (BC4 qe))) Ar74.1 (State.isArrayOf_alike hZ.alike Ar74.2.1) Ar74.2.2 hi74 hv74 (g := (mkF m 153 #[.val (.long qe), .second, .val (.int xw), .val (.int xf), .val (.int (2 : Int32)), .val (.int s0), .val (.ref b1), .unset, .unset, .unset, .unset] [(.int (6 : Int32)), (.ref b1)])) rfl rfl (hb hby at_153) _ (XS.sipush X69.here hx rfl (hb hby at_154) k)) ?_
    show ownEnds _ _ _ _ (T69.setTop (mkF m 157 #[.val (.long qe), .second, .val (.int xw), .val (.int xf), .val (.int (2 : Int32)), .val (.int s0), .val (.ref b1), .unset, .unset, .unset, .unset] [(.int (256 : Int32)), (.int (BC4 qe))]))
    have hc157 : (BC4 qe) < (256 : Int32) := own_lt4 _
    refine ownEnds.law (fun t => XS.icmpNo X69.here hx rfl (hb hby at_157) rfl (tlt hc157).2.1) ?_
    show ownEnds _ _ _ _ (T69.setTop (mkF m 160 #[.val (.long qe), .second, .val (.int xw), .val (.int xf), .val (.int (2 : Int32)), .val (.int s0), .val (.ref b1), .unset, .unset, .unset, .unset] []))
    refine ownEnds.law (fun t k => XS.aload X69.here hx rfl (hb hby at_160) rfl rfl (XS.iload X69.here hx rfl (hb hby at_162) rfl (XS.iconst X69.here hx rfl (hb hby at_164) (XS.iadd X69.here hx rfl (hb hby at_165) rfl k)))) ?_
    show ownEnds _ _ _ _ (T69.setTop (mkF m 166 #[.val (.long qe), .second, .val (.int xw), .val (.int xf), .val (.int (2 : Int32)), .val (.int s0), .val (.ref b1), .unset, .unset, .unset, .unset] [(.int (7 : Int32)), (.ref b1)]))
    obtain ⟨cl75, Ar75, q75, S75, N75, H75, G75⟩ := id Vq69
    have hi75 := inb_of (j := (7 : Int32)) S75 ⟨by decide, by decide⟩
    have hv75 : cl75.slots[((7 : Int32)).toNatClampNeg]? = some (.int (BC5 qe)) := H75.at hi75 rfl
    refine ownEnds.law (fun t k => X69.caload hx (j := (7 : Int32)) (v := (.int (BC5 qe))) Ar75.1 (State.isArrayOf_alike hZ.alike Ar75.2.1) Ar75.2.2 hi75 hv75 (g := (mkF m 166 #[.val (.long qe), .second, .val (.int xw), .val (.int xf), .val (.int (2 : Int32)), .val (.int s0), .val (.ref b1), .unset, .unset, .unset, .unset] [(.int (7 : Int32)), (.ref b1)])) rfl rfl (hb hby at_166) _ (XS.sipush X69.here hx rfl (hb hby at_167) k)) ?_
    show ownEnds _ _ _ _ (T69.setTop (mkF m 170 #[.val (.long qe), .second, .val (.int xw), .val (.int xf), .val (.int (2 : Int32)), .val (.int s0), .val (.ref b1), .unset, .unset, .unset, .unset] [(.int (256 : Int32)), (.int (BC5 qe))]))
    have hc170 : (BC5 qe) < (256 : Int32) := own_lt5 _
    refine ownEnds.law (fun t => XS.icmpNo X69.here hx rfl (hb hby at_170) rfl (tlt hc170).2.1) ?_
    show ownEnds _ _ _ _ (T69.setTop (mkF m 173 #[.val (.long qe), .second, .val (.int xw), .val (.int xf), .val (.int (2 : Int32)), .val (.int s0), .val (.ref b1), .unset, .unset, .unset, .unset] []))
    refine ownEnds.law (fun t k => XS.aload X69.here hx rfl (hb hby at_173) rfl rfl (XS.iload X69.here hx rfl (hb hby at_175) rfl (XS.bipush X69.here hx rfl (hb hby at_177) (XS.iadd X69.here hx rfl (hb hby at_179) rfl k)))) ?_
    show ownEnds _ _ _ _ (T69.setTop (mkF m 180 #[.val (.long qe), .second, .val (.int xw), .val (.int xf), .val (.int (2 : Int32)), .val (.int s0), .val (.ref b1), .unset, .unset, .unset, .unset] [(.int (8 : Int32)), (.ref b1)]))
    obtain ⟨cl76, Ar76, q76, S76, N76, H76, G76⟩ := id Vq69
    have hi76 := inb_of (j := (8 : Int32)) S76 ⟨by decide, by decide⟩
    have hv76 : cl76.slots[((8 : Int32)).toNatClampNeg]? = some (.int (BC6 qe)) := H76.at hi76 rfl
    refine ownEnds.law (fun t k => X69.caload hx (j := (8 : Int32)) (v := (.int (BC6 qe))) Ar76.1 (State.isArrayOf_alike hZ.alike Ar76.2.1) Ar76.2.2 hi76 hv76 (g := (mkF m 180 #[.val (.long qe), .second, .val (.int xw), .val (.int xf), .val (.int (2 : Int32)), .val (.int s0), .val (.ref b1), .unset, .unset, .unset, .unset] [(.int (8 : Int32)), (.ref b1)])) rfl rfl (hb hby at_180) _ (XS.sipush X69.here hx rfl (hb hby at_181) k)) ?_
    show ownEnds _ _ _ _ (T69.setTop (mkF m 184 #[.val (.long qe), .second, .val (.int xw), .val (.int xf), .val (.int (2 : Int32)), .val (.int s0), .val (.ref b1), .unset, .unset, .unset, .unset] [(.int (256 : Int32)), (.int (BC6 qe))]))
    have hc184 : (BC6 qe) < (256 : Int32) := own_lt6 _
    refine ownEnds.law (fun t => XS.icmpNo X69.here hx rfl (hb hby at_184) rfl (tlt hc184).2.1) ?_
    show ownEnds _ _ _ _ (T69.setTop (mkF m 187 #[.val (.long qe), .second, .val (.int xw), .val (.int xf), .val (.int (2 : Int32)), .val (.int s0), .val (.ref b1), .unset, .unset, .unset, .unset] []))
    refine ownEnds.law (fun t k => XS.aload X69.here hx rfl (hb hby at_187) rfl rfl (XS.iload X69.here hx rfl (hb hby at_189) rfl (XS.bipush X69.here hx rfl (hb hby at_191) (XS.iadd X69.here hx rfl (hb hby at_193) rfl k)))) ?_
    show ownEnds _ _ _ _ (T69.setTop (mkF m 194 #[.val (.long qe), .second, .val (.int xw), .val (.int xf), .val (.int (2 : Int32)), .val (.int s0), .val (.ref b1), .unset, .unset, .unset, .unset] [(.int (9 : Int32)), (.ref b1)]))
    obtain ⟨cl77, Ar77, q77, S77, N77, H77, G77⟩ := id Vq69
    have hi77 := inb_of (j := (9 : Int32)) S77 ⟨by decide, by decide⟩
    have hv77 : cl77.slots[((9 : Int32)).toNatClampNeg]? = some (.int (BC7 qe)) := H77.at hi77 rfl
    refine ownEnds.law (fun t k => X69.caload hx (j := (9 : Int32)) (v := (.int (BC7 qe))) Ar77.1 (State.isArrayOf_alike hZ.alike Ar77.2.1) Ar77.2.2 hi77 hv77 (g := (mkF m 194 #[.val (.long qe), .second, .val (.int xw), .val (.int xf), .val (.int (2 : Int32)), .val (.int s0), .val (.ref b1), .unset, .unset, .unset, .unset] [(.int (9 : Int32)), (.ref b1)])) rfl rfl (hb hby at_194) _ (XS.sipush X69.here hx rfl (hb hby at_195) k)) ?_
    show ownEnds _ _ _ _ (T69.setTop (mkF m 198 #[.val (.long qe), .second, .val (.int xw), .val (.int xf), .val (.int (2 : Int32)), .val (.int s0), .val (.ref b1), .unset, .unset, .unset, .unset] [(.int (256 : Int32)), (.int (BC7 qe))]))
    have hc198 : (BC7 qe) < (256 : Int32) := own_lt7 _
    refine ownEnds.law (fun t => XS.icmpNo X69.here hx rfl (hb hby at_198) rfl (tlt hc198).2.1) ?_
    show ownEnds _ _ _ _ (T69.setTop (mkF m 201 #[.val (.long qe), .second, .val (.int xw), .val (.int xf), .val (.int (2 : Int32)), .val (.int s0), .val (.ref b1), .unset, .unset, .unset, .unset] []))
    refine ownEnds.law (fun t k => XS.iconst X69.here hx rfl (hb hby at_201) (XS.goto X69.here hx rfl (pc0 := 202) (pc' := 206) rfl (hb hby at_202) (by decide) (by decide) (XS.istore X69.here hx rfl (hb hby at_206) rfl (l' := #[.val (.long qe), .second, .val (.int xw), .val (.int xf), .val (.int (2 : Int32)), .val (.int s0), .val (.ref b1), .val (.int (1 : Int32)), .unset, .unset, .unset]) rfl (XS.aload X69.here hx rfl (hb hby at_208) rfl rfl (XS.iload X69.here hx rfl (hb hby at_210) rfl k))))) ?_
    show ownEnds _ _ _ _ (T69.setTop (mkF m 212 #[.val (.long qe), .second, .val (.int xw), .val (.int xf), .val (.int (2 : Int32)), .val (.int s0), .val (.ref b1), .val (.int (1 : Int32)), .unset, .unset, .unset] [(.int (2 : Int32)), (.ref b1)]))
    obtain ⟨cl78, Ar78, q78, S78, N78, H78, G78⟩ := id Vq69
    have hi78 := inb_of (j := (2 : Int32)) S78 ⟨by decide, by decide⟩
    have hv78 : cl78.slots[((2 : Int32)).toNatClampNeg]? = some (.int (BC0 qe)) := H78.at hi78 rfl
    refine ownEnds.law (fun t k => X69.caload hx (j := (2 : Int32)) (v := (.int (BC0 qe))) Ar78.1 (State.isArrayOf_alike hZ.alike Ar78.2.1) Ar78.2.2 hi78 hv78 (g := (mkF m 212 #[.val (.long qe), .second, .val (.int xw), .val (.int xf), .val (.int (2 : Int32)), .val (.int s0), .val (.ref b1), .val (.int (1 : Int32)), .unset, .unset, .unset] [(.int (2 : Int32)), (.ref b1)])) rfl rfl (hb hby at_212) _ (XS.i2l X69.here hx rfl (hb hby at_213) rfl (XS.aload X69.here hx rfl (hb hby at_214) rfl rfl (XS.iload X69.here hx rfl (hb hby at_216) rfl (XS.iconst X69.here hx rfl (hb hby at_218) (XS.iadd X69.here hx rfl (hb hby at_219) rfl k)))))) ?_
    show ownEnds _ _ _ _ (T69.setTop (mkF m 220 #[.val (.long qe), .second, .val (.int xw), .val (.int xf), .val (.int (2 : Int32)), .val (.int s0), .val (.ref b1), .val (.int (1 : Int32)), .unset, .unset, .unset] [(.int (3 : Int32)), (.ref b1), (.long ((BC0 qe).toInt64))]))
    obtain ⟨cl79, Ar79, q79, S79, N79, H79, G79⟩ := id Vq69
    have hi79 := inb_of (j := (3 : Int32)) S79 ⟨by decide, by decide⟩
    have hv79 : cl79.slots[((3 : Int32)).toNatClampNeg]? = some (.int (BC1 qe)) := H79.at hi79 rfl
    refine ownEnds.law (fun t k => X69.caload hx (j := (3 : Int32)) (v := (.int (BC1 qe))) Ar79.1 (State.isArrayOf_alike hZ.alike Ar79.2.1) Ar79.2.2 hi79 hv79 (g := (mkF m 220 #[.val (.long qe), .second, .val (.int xw), .val (.int xf), .val (.int (2 : Int32)), .val (.int s0), .val (.ref b1), .val (.int (1 : Int32)), .unset, .unset, .unset] [(.int (3 : Int32)), (.ref b1), (.long ((BC0 qe).toInt64))])) rfl rfl (hb hby at_220) _ (XS.i2l X69.here hx rfl (hb hby at_221) rfl (XS.bipush X69.here hx rfl (hb hby at_222) (XS.lshl X69.here hx rfl (hb hby at_224) rfl (XS.lor X69.here hx rfl (hb hby at_225) rfl (XS.aload X69.here hx rfl (hb hby at_226) rfl rfl (XS.iload X69.here hx rfl (hb hby at_228) rfl (XS.iconst X69.here hx rfl (hb hby at_230) (XS.iadd X69.here hx rfl (hb hby at_231) rfl k))))))))) ?_
    show ownEnds _ _ _ _ (T69.setTop (mkF m 232 #[.val (.long qe), .second, .val (.int xw), .val (.int xf), .val (.int (2 : Int32)), .val (.int s0), .val (.ref b1), .val (.int (1 : Int32)), .unset, .unset, .unset] [(.int (4 : Int32)), (.ref b1), (.long (((BC0 qe).toInt64) ||| (((BC1 qe).toInt64) <<< ((8 : Int32) &&& 0x3f).toInt64)))]))
    obtain ⟨cl80, Ar80, q80, S80, N80, H80, G80⟩ := id Vq69
    have hi80 := inb_of (j := (4 : Int32)) S80 ⟨by decide, by decide⟩
    have hv80 : cl80.slots[((4 : Int32)).toNatClampNeg]? = some (.int (BC2 qe)) := H80.at hi80 rfl
    refine ownEnds.law (fun t k => X69.caload hx (j := (4 : Int32)) (v := (.int (BC2 qe))) Ar80.1 (State.isArrayOf_alike hZ.alike Ar80.2.1) Ar80.2.2 hi80 hv80 (g := (mkF m 232 #[.val (.long qe), .second, .val (.int xw), .val (.int xf), .val (.int (2 : Int32)), .val (.int s0), .val (.ref b1), .val (.int (1 : Int32)), .unset, .unset, .unset] [(.int (4 : Int32)), (.ref b1), (.long (((BC0 qe).toInt64) ||| (((BC1 qe).toInt64) <<< ((8 : Int32) &&& 0x3f).toInt64)))])) rfl rfl (hb hby at_232) _ (XS.i2l X69.here hx rfl (hb hby at_233) rfl (XS.bipush X69.here hx rfl (hb hby at_234) (XS.lshl X69.here hx rfl (hb hby at_236) rfl (XS.lor X69.here hx rfl (hb hby at_237) rfl (XS.aload X69.here hx rfl (hb hby at_238) rfl rfl (XS.iload X69.here hx rfl (hb hby at_240) rfl (XS.iconst X69.here hx rfl (hb hby at_242) (XS.iadd X69.here hx rfl (hb hby at_243) rfl k))))))))) ?_
    show ownEnds _ _ _ _ (T69.setTop (mkF m 244 #[.val (.long qe), .second, .val (.int xw), .val (.int xf), .val (.int (2 : Int32)), .val (.int s0), .val (.ref b1), .val (.int (1 : Int32)), .unset, .unset, .unset] [(.int (5 : Int32)), (.ref b1), (.long ((((BC0 qe).toInt64) ||| (((BC1 qe).toInt64) <<< ((8 : Int32) &&& 0x3f).toInt64)) ||| (((BC2 qe).toInt64) <<< ((16 : Int32) &&& 0x3f).toInt64)))]))
    obtain ⟨cl81, Ar81, q81, S81, N81, H81, G81⟩ := id Vq69
    have hi81 := inb_of (j := (5 : Int32)) S81 ⟨by decide, by decide⟩
    have hv81 : cl81.slots[((5 : Int32)).toNatClampNeg]? = some (.int (BC3 qe)) := H81.at hi81 rfl
    refine ownEnds.law (fun t k => X69.caload hx (j := (5 : Int32)) (v := (.int (BC3 qe))) Ar81.1 (State.isArrayOf_alike hZ.alike Ar81.2.1) Ar81.2.2 hi81 hv81 (g := (mkF m 244 #[.val (.long qe), .second, .val (.int xw), .val (.int xf), .val (.int (2 : Int32)), .val (.int s0), .val (.ref b1), .val (.int (1 : Int32)), .unset, .unset, .unset] [(.int (5 : Int32)), (.ref b1), (.long ((((BC0 qe).toInt64) ||| (((BC1 qe).toInt64) <<< ((8 : Int32) &&& 0x3f).toInt64)) ||| (((BC2 qe).toInt64) <<< ((16 : Int32) &&& 0x3f).toInt64)))])) rfl rfl (hb hby at_244) _ (XS.i2l X69.here hx rfl (hb hby at_245) rfl (XS.bipush X69.here hx rfl (hb hby at_246) (XS.lshl X69.here hx rfl (hb hby at_248) rfl (XS.lor X69.here hx rfl (hb hby at_249) rfl (XS.aload X69.here hx rfl (hb hby at_250) rfl rfl (XS.iload X69.here hx rfl (hb hby at_252) rfl (XS.iconst X69.here hx rfl (hb hby at_254) (XS.iadd X69.here hx rfl (hb hby at_255) rfl k))))))))) ?_
    show ownEnds _ _ _ _ (T69.setTop (mkF m 256 #[.val (.long qe), .second, .val (.int xw), .val (.int xf), .val (.int (2 : Int32)), .val (.int s0), .val (.ref b1), .val (.int (1 : Int32)), .unset, .unset, .unset] [(.int (6 : Int32)), (.ref b1), (.long (((((BC0 qe).toInt64) ||| (((BC1 qe).toInt64) <<< ((8 : Int32) &&& 0x3f).toInt64)) ||| (((BC2 qe).toInt64) <<< ((16 : Int32) &&& 0x3f).toInt64)) ||| (((BC3 qe).toInt64) <<< ((24 : Int32) &&& 0x3f).toInt64)))]))
    obtain ⟨cl82, Ar82, q82, S82, N82, H82, G82⟩ := id Vq69
    have hi82 := inb_of (j := (6 : Int32)) S82 ⟨by decide, by decide⟩
    have hv82 : cl82.slots[((6 : Int32)).toNatClampNeg]? = some (.int (BC4 qe)) := H82.at hi82 rfl
    refine ownEnds.law (fun t k => X69.caload hx (j := (6 : Int32)) (v := (.int (BC4 qe))) Ar82.1 (State.isArrayOf_alike hZ.alike Ar82.2.1) Ar82.2.2 hi82 hv82 (g := (mkF m 256 #[.val (.long qe), .second, .val (.int xw), .val (.int xf), .val (.int (2 : Int32)), .val (.int s0), .val (.ref b1), .val (.int (1 : Int32)), .unset, .unset, .unset] [(.int (6 : Int32)), (.ref b1), (.long (((((BC0 qe).toInt64) ||| (((BC1 qe).toInt64) <<< ((8 : Int32) &&& 0x3f).toInt64)) ||| (((BC2 qe).toInt64) <<< ((16 : Int32) &&& 0x3f).toInt64)) ||| (((BC3 qe).toInt64) <<< ((24 : Int32) &&& 0x3f).toInt64)))])) rfl rfl (hb hby at_256) _ (XS.i2l X69.here hx rfl (hb hby at_257) rfl (XS.bipush X69.here hx rfl (hb hby at_258) (XS.lshl X69.here hx rfl (hb hby at_260) rfl (XS.lor X69.here hx rfl (hb hby at_261) rfl (XS.aload X69.here hx rfl (hb hby at_262) rfl rfl (XS.iload X69.here hx rfl (hb hby at_264) rfl (XS.iconst X69.here hx rfl (hb hby at_266) (XS.iadd X69.here hx rfl (hb hby at_267) rfl k))))))))) ?_
    show ownEnds _ _ _ _ (T69.setTop (mkF m 268 #[.val (.long qe), .second, .val (.int xw), .val (.int xf), .val (.int (2 : Int32)), .val (.int s0), .val (.ref b1), .val (.int (1 : Int32)), .unset, .unset, .unset] [(.int (7 : Int32)), (.ref b1), (.long ((((((BC0 qe).toInt64) ||| (((BC1 qe).toInt64) <<< ((8 : Int32) &&& 0x3f).toInt64)) ||| (((BC2 qe).toInt64) <<< ((16 : Int32) &&& 0x3f).toInt64)) ||| (((BC3 qe).toInt64) <<< ((24 : Int32) &&& 0x3f).toInt64)) ||| (((BC4 qe).toInt64) <<< ((32 : Int32) &&& 0x3f).toInt64)))]))
    obtain ⟨cl83, Ar83, q83, S83, N83, H83, G83⟩ := id Vq69
    have hi83 := inb_of (j := (7 : Int32)) S83 ⟨by decide, by decide⟩
    have hv83 : cl83.slots[((7 : Int32)).toNatClampNeg]? = some (.int (BC5 qe)) := H83.at hi83 rfl
    refine ownEnds.law (fun t k => X69.caload hx (j := (7 : Int32)) (v := (.int (BC5 qe))) Ar83.1 (State.isArrayOf_alike hZ.alike Ar83.2.1) Ar83.2.2 hi83 hv83 (g := (mkF m 268 #[.val (.long qe), .second, .val (.int xw), .val (.int xf), .val (.int (2 : Int32)), .val (.int s0), .val (.ref b1), .val (.int (1 : Int32)), .unset, .unset, .unset] [(.int (7 : Int32)), (.ref b1), (.long ((((((BC0 qe).toInt64) ||| (((BC1 qe).toInt64) <<< ((8 : Int32) &&& 0x3f).toInt64)) ||| (((BC2 qe).toInt64) <<< ((16 : Int32) &&& 0x3f).toInt64)) ||| (((BC3 qe).toInt64) <<< ((24 : Int32) &&& 0x3f).toInt64)) ||| (((BC4 qe).toInt64) <<< ((32 : Int32) &&& 0x3f).toInt64)))])) rfl rfl (hb hby at_268) _ (XS.i2l X69.here hx rfl (hb hby at_269) rfl (XS.bipush X69.here hx rfl (hb hby at_270) (XS.lshl X69.here hx rfl (hb hby at_272) rfl (XS.lor X69.here hx rfl (hb hby at_273) rfl (XS.aload X69.here hx rfl (hb hby at_274) rfl rfl (XS.iload X69.here hx rfl (hb hby at_276) rfl (XS.bipush X69.here hx rfl (hb hby at_278) (XS.iadd X69.here hx rfl (hb hby at_280) rfl k))))))))) ?_
    show ownEnds _ _ _ _ (T69.setTop (mkF m 281 #[.val (.long qe), .second, .val (.int xw), .val (.int xf), .val (.int (2 : Int32)), .val (.int s0), .val (.ref b1), .val (.int (1 : Int32)), .unset, .unset, .unset] [(.int (8 : Int32)), (.ref b1), (.long (((((((BC0 qe).toInt64) ||| (((BC1 qe).toInt64) <<< ((8 : Int32) &&& 0x3f).toInt64)) ||| (((BC2 qe).toInt64) <<< ((16 : Int32) &&& 0x3f).toInt64)) ||| (((BC3 qe).toInt64) <<< ((24 : Int32) &&& 0x3f).toInt64)) ||| (((BC4 qe).toInt64) <<< ((32 : Int32) &&& 0x3f).toInt64)) ||| (((BC5 qe).toInt64) <<< ((40 : Int32) &&& 0x3f).toInt64)))]))
    obtain ⟨cl84, Ar84, q84, S84, N84, H84, G84⟩ := id Vq69
    have hi84 := inb_of (j := (8 : Int32)) S84 ⟨by decide, by decide⟩
    have hv84 : cl84.slots[((8 : Int32)).toNatClampNeg]? = some (.int (BC6 qe)) := H84.at hi84 rfl
    refine ownEnds.law (fun t k => X69.caload hx (j := (8 : Int32)) (v := (.int (BC6 qe))) Ar84.1 (State.isArrayOf_alike hZ.alike Ar84.2.1) Ar84.2.2 hi84 hv84 (g := (mkF m 281 #[.val (.long qe), .second, .val (.int xw), .val (.int xf), .val (.int (2 : Int32)), .val (.int s0), .val (.ref b1), .val (.int (1 : Int32)), .unset, .unset, .unset] [(.int (8 : Int32)), (.ref b1), (.long (((((((BC0 qe).toInt64) ||| (((BC1 qe).toInt64) <<< ((8 : Int32) &&& 0x3f).toInt64)) ||| (((BC2 qe).toInt64) <<< ((16 : Int32) &&& 0x3f).toInt64)) ||| (((BC3 qe).toInt64) <<< ((24 : Int32) &&& 0x3f).toInt64)) ||| (((BC4 qe).toInt64) <<< ((32 : Int32) &&& 0x3f).toInt64)) ||| (((BC5 qe).toInt64) <<< ((40 : Int32) &&& 0x3f).toInt64)))])) rfl rfl (hb hby at_281) _ (XS.i2l X69.here hx rfl (hb hby at_282) rfl (XS.bipush X69.here hx rfl (hb hby at_283) (XS.lshl X69.here hx rfl (hb hby at_285) rfl (XS.lor X69.here hx rfl (hb hby at_286) rfl (XS.aload X69.here hx rfl (hb hby at_287) rfl rfl (XS.iload X69.here hx rfl (hb hby at_289) rfl (XS.bipush X69.here hx rfl (hb hby at_291) (XS.iadd X69.here hx rfl (hb hby at_293) rfl k))))))))) ?_
    show ownEnds _ _ _ _ (T69.setTop (mkF m 294 #[.val (.long qe), .second, .val (.int xw), .val (.int xf), .val (.int (2 : Int32)), .val (.int s0), .val (.ref b1), .val (.int (1 : Int32)), .unset, .unset, .unset] [(.int (9 : Int32)), (.ref b1), (.long ((((((((BC0 qe).toInt64) ||| (((BC1 qe).toInt64) <<< ((8 : Int32) &&& 0x3f).toInt64)) ||| (((BC2 qe).toInt64) <<< ((16 : Int32) &&& 0x3f).toInt64)) ||| (((BC3 qe).toInt64) <<< ((24 : Int32) &&& 0x3f).toInt64)) ||| (((BC4 qe).toInt64) <<< ((32 : Int32) &&& 0x3f).toInt64)) ||| (((BC5 qe).toInt64) <<< ((40 : Int32) &&& 0x3f).toInt64)) ||| (((BC6 qe).toInt64) <<< ((48 : Int32) &&& 0x3f).toInt64)))]))
    obtain ⟨cl85, Ar85, q85, S85, N85, H85, G85⟩ := id Vq69
    have hi85 := inb_of (j := (9 : Int32)) S85 ⟨by decide, by decide⟩
    have hv85 : cl85.slots[((9 : Int32)).toNatClampNeg]? = some (.int (BC7 qe)) := H85.at hi85 rfl
    refine ownEnds.law (fun t k => X69.caload hx (j := (9 : Int32)) (v := (.int (BC7 qe))) Ar85.1 (State.isArrayOf_alike hZ.alike Ar85.2.1) Ar85.2.2 hi85 hv85 (g := (mkF m 294 #[.val (.long qe), .second, .val (.int xw), .val (.int xf), .val (.int (2 : Int32)), .val (.int s0), .val (.ref b1), .val (.int (1 : Int32)), .unset, .unset, .unset] [(.int (9 : Int32)), (.ref b1), (.long ((((((((BC0 qe).toInt64) ||| (((BC1 qe).toInt64) <<< ((8 : Int32) &&& 0x3f).toInt64)) ||| (((BC2 qe).toInt64) <<< ((16 : Int32) &&& 0x3f).toInt64)) ||| (((BC3 qe).toInt64) <<< ((24 : Int32) &&& 0x3f).toInt64)) ||| (((BC4 qe).toInt64) <<< ((32 : Int32) &&& 0x3f).toInt64)) ||| (((BC5 qe).toInt64) <<< ((40 : Int32) &&& 0x3f).toInt64)) ||| (((BC6 qe).toInt64) <<< ((48 : Int32) &&& 0x3f).toInt64)))])) rfl rfl (hb hby at_294) _ (XS.i2l X69.here hx rfl (hb hby at_295) rfl (XS.bipush X69.here hx rfl (hb hby at_296) (XS.lshl X69.here hx rfl (hb hby at_298) rfl (XS.lor X69.here hx rfl (hb hby at_299) rfl k))))) ?_
    show ownEnds _ _ _ _ (T69.setTop (mkF m 300 #[.val (.long qe), .second, .val (.int xw), .val (.int xf), .val (.int (2 : Int32)), .val (.int s0), .val (.ref b1), .val (.int (1 : Int32)), .unset, .unset, .unset] [(.long (((((((((BC0 qe).toInt64) ||| (((BC1 qe).toInt64) <<< ((8 : Int32) &&& 0x3f).toInt64)) ||| (((BC2 qe).toInt64) <<< ((16 : Int32) &&& 0x3f).toInt64)) ||| (((BC3 qe).toInt64) <<< ((24 : Int32) &&& 0x3f).toInt64)) ||| (((BC4 qe).toInt64) <<< ((32 : Int32) &&& 0x3f).toInt64)) ||| (((BC5 qe).toInt64) <<< ((40 : Int32) &&& 0x3f).toInt64)) ||| (((BC6 qe).toInt64) <<< ((48 : Int32) &&& 0x3f).toInt64)) ||| (((BC7 qe).toInt64) <<< ((56 : Int32) &&& 0x3f).toInt64)))]))
    obtain ⟨rr, e_rr⟩ : ∃ z : Int64, z = (((((((((BC0 qe).toInt64) ||| (((BC1 qe).toInt64) <<< ((8 : Int32) &&& 0x3f).toInt64)) ||| (((BC2 qe).toInt64) <<< ((16 : Int32) &&& 0x3f).toInt64)) ||| (((BC3 qe).toInt64) <<< ((24 : Int32) &&& 0x3f).toInt64)) ||| (((BC4 qe).toInt64) <<< ((32 : Int32) &&& 0x3f).toInt64)) ||| (((BC5 qe).toInt64) <<< ((40 : Int32) &&& 0x3f).toInt64)) ||| (((BC6 qe).toInt64) <<< ((48 : Int32) &&& 0x3f).toInt64)) ||| (((BC7 qe).toInt64) <<< ((56 : Int32) &&& 0x3f).toInt64)) := ⟨_, rfl⟩
    rw [← e_rr]
    show ownEnds _ _ _ _ (T69.setTop (mkF m 300 #[.val (.long qe), .second, .val (.int xw), .val (.int xf), .val (.int (2 : Int32)), .val (.int s0), .val (.ref b1), .val (.int (1 : Int32)), .unset, .unset, .unset] [(.long rr)]))
    refine ownEnds.law (fun t k => XS.lstore X69.here hx rfl (hb hby at_300) rfl (l' := #[.val (.long qe), .second, .val (.int xw), .val (.int xf), .val (.int (2 : Int32)), .val (.int s0), .val (.ref b1), .val (.int (1 : Int32)), .val (.long rr), .second, .unset]) rfl (XS.aload X69.here hx rfl (hb hby at_302) rfl rfl (XS.iconst X69.here hx rfl (hb hby at_304) (XS.iload X69.here hx rfl (hb hby at_305) rfl (XS.iload X69.here hx rfl (hb hby at_307) rfl k))))) ?_
    show ownEnds _ _ _ _ (T69.setTop (mkF m 309 #[.val (.long qe), .second, .val (.int xw), .val (.int xf), .val (.int (2 : Int32)), .val (.int s0), .val (.ref b1), .val (.int (1 : Int32)), .val (.long rr), .second, .unset] [(.int s0), (.int (2 : Int32)), (.int (0 : Int32)), (.ref b1)]))
    obtain ⟨v86, T86, L86, X86, hQ86, st86⟩ := ownCallS X69 hx hZ hown (y := (⟨"com/example/seven_bit_codecs/sevenbitcodecs/EightBytesWriteAsCharsPinLaw", "keeps", "([CIIC)Z"⟩ : MethodName)) (as := [(.ref b1), (.int (0 : Int32)), (.int (2 : Int32)), (.int s0)]) (wd_7 hw) (wd_8 hw) (wd_9 hw) (wd_10 hw) (by decide) (rm2 l Z a0 hw b1 (0 : Int32) (2 : Int32) s0 k1 _ T69.heap n0 Z69 Vq69 ⟨by decide, by decide⟩ (fun _ => rfl)) rfl 0 (by decide) (by decide) (by decide) (by decide) (g := (mkF m 309 #[.val (.long qe), .second, .val (.int xw), .val (.int xf), .val (.int (2 : Int32)), .val (.int s0), .val (.ref b1), .val (.int (1 : Int32)), .val (.long rr), .second, .unset] [(.int s0), (.int (2 : Int32)), (.int (0 : Int32)), (.ref b1)])) rfl (by rw [hml]; rfl) (rest := []) pd_1 rfl rfl (by show 2 * 0 + _ ≤ _; exact Nat.le_of_eq rfl) (hb hby at_309)
    obtain ⟨rfl, rfl, e86⟩ := hQ86
    rw [List.append_nil] at X86
    refine ownEnds.law st86 ?_
    show ownEnds _ _ _ _ (T86.setTop (mkF m 312 #[.val (.long qe), .second, .val (.int xw), .val (.int xf), .val (.int (2 : Int32)), .val (.int s0), .val (.ref b1), .val (.int (1 : Int32)), .val (.long rr), .second, .unset] [(.int (1 : Int32))]))
    refine ownEnds.law (fun t => XS.ifNo X86.here hx rfl (hb hby at_312) rfl ((if0 _ _).trans (feq (by decide : ¬ ((1 : Int32) = (0 : Int32)))).1)) ?_
    show ownEnds _ _ _ _ (T86.setTop (mkF m 315 #[.val (.long qe), .second, .val (.int xw), .val (.int xf), .val (.int (2 : Int32)), .val (.int s0), .val (.ref b1), .val (.int (1 : Int32)), .val (.long rr), .second, .unset] []))
    refine ownEnds.law (fun t k => XS.aload X86.here hx rfl (hb hby at_315) rfl rfl (XS.iconst X86.here hx rfl (hb hby at_317) (XS.iload X86.here hx rfl (hb hby at_318) rfl (XS.iload X86.here hx rfl (hb hby at_320) rfl k)))) ?_
    show ownEnds _ _ _ _ (T86.setTop (mkF m 322 #[.val (.long qe), .second, .val (.int xw), .val (.int xf), .val (.int (2 : Int32)), .val (.int s0), .val (.ref b1), .val (.int (1 : Int32)), .val (.long rr), .second, .unset] [(.int s0), (.int (2 : Int32)), (.int (1 : Int32)), (.ref b1)]))
    obtain ⟨v87, T87, L87, X87, hQ87, st87⟩ := ownCallS X86 hx hZ hown (y := (⟨"com/example/seven_bit_codecs/sevenbitcodecs/EightBytesWriteAsCharsPinLaw", "keeps", "([CIIC)Z"⟩ : MethodName)) (as := [(.ref b1), (.int (1 : Int32)), (.int (2 : Int32)), (.int s0)]) (wd_7 hw) (wd_8 hw) (wd_9 hw) (wd_10 hw) (by decide) (rm2 l Z a0 hw b1 (1 : Int32) (2 : Int32) s0 k1 _ T69.heap n0 Z69 Vq69 ⟨by decide, by decide⟩ (fun _ => rfl)) e86 0 (by decide) (by decide) (by decide) (by decide) (g := (mkF m 322 #[.val (.long qe), .second, .val (.int xw), .val (.int xf), .val (.int (2 : Int32)), .val (.int s0), .val (.ref b1), .val (.int (1 : Int32)), .val (.long rr), .second, .unset] [(.int s0), (.int (2 : Int32)), (.int (1 : Int32)), (.ref b1)])) rfl (by rw [hml]; rfl) (rest := []) pd_1 rfl rfl (by show 2 * 0 + _ ≤ _; exact Nat.le_of_eq rfl) (hb hby at_322)
    obtain ⟨rfl, rfl, e87⟩ := hQ87
    rw [List.append_nil] at X87
    refine ownEnds.law st87 ?_
    show ownEnds _ _ _ _ (T87.setTop (mkF m 325 #[.val (.long qe), .second, .val (.int xw), .val (.int xf), .val (.int (2 : Int32)), .val (.int s0), .val (.ref b1), .val (.int (1 : Int32)), .val (.long rr), .second, .unset] [(.int (1 : Int32))]))
    refine ownEnds.law (fun t => XS.ifNo X87.here hx rfl (hb hby at_325) rfl ((if0 _ _).trans (feq (by decide : ¬ ((1 : Int32) = (0 : Int32)))).1)) ?_
    show ownEnds _ _ _ _ (T87.setTop (mkF m 328 #[.val (.long qe), .second, .val (.int xw), .val (.int xf), .val (.int (2 : Int32)), .val (.int s0), .val (.ref b1), .val (.int (1 : Int32)), .val (.long rr), .second, .unset] []))
    refine ownEnds.law (fun t k => XS.aload X87.here hx rfl (hb hby at_328) rfl rfl (XS.iconst X87.here hx rfl (hb hby at_330) (XS.iload X87.here hx rfl (hb hby at_331) rfl (XS.iload X87.here hx rfl (hb hby at_333) rfl k)))) ?_
    show ownEnds _ _ _ _ (T87.setTop (mkF m 335 #[.val (.long qe), .second, .val (.int xw), .val (.int xf), .val (.int (2 : Int32)), .val (.int s0), .val (.ref b1), .val (.int (1 : Int32)), .val (.long rr), .second, .unset] [(.int s0), (.int (2 : Int32)), (.int (2 : Int32)), (.ref b1)]))
    obtain ⟨v88, T88, L88, X88, hQ88, st88⟩ := ownCallS X87 hx hZ hown (y := (⟨"com/example/seven_bit_codecs/sevenbitcodecs/EightBytesWriteAsCharsPinLaw", "keeps", "([CIIC)Z"⟩ : MethodName)) (as := [(.ref b1), (.int (2 : Int32)), (.int (2 : Int32)), (.int s0)]) (wd_7 hw) (wd_8 hw) (wd_9 hw) (wd_10 hw) (by decide) (rm2 l Z a0 hw b1 (2 : Int32) (2 : Int32) s0 k1 _ T69.heap n0 Z69 Vq69 ⟨by decide, by decide⟩ (fun h => absurd h (by decide))) e87 0 (by decide) (by decide) (by decide) (by decide) (g := (mkF m 335 #[.val (.long qe), .second, .val (.int xw), .val (.int xf), .val (.int (2 : Int32)), .val (.int s0), .val (.ref b1), .val (.int (1 : Int32)), .val (.long rr), .second, .unset] [(.int s0), (.int (2 : Int32)), (.int (2 : Int32)), (.ref b1)])) rfl (by rw [hml]; rfl) (rest := []) pd_1 rfl rfl (by show 2 * 0 + _ ≤ _; exact Nat.le_of_eq rfl) (hb hby at_335)
    obtain ⟨rfl, rfl, e88⟩ := hQ88
    rw [List.append_nil] at X88
    refine ownEnds.law st88 ?_
    show ownEnds _ _ _ _ (T88.setTop (mkF m 338 #[.val (.long qe), .second, .val (.int xw), .val (.int xf), .val (.int (2 : Int32)), .val (.int s0), .val (.ref b1), .val (.int (1 : Int32)), .val (.long rr), .second, .unset] [(.int (1 : Int32))]))
    refine ownEnds.law (fun t => XS.ifNo X88.here hx rfl (hb hby at_338) rfl ((if0 _ _).trans (feq (by decide : ¬ ((1 : Int32) = (0 : Int32)))).1)) ?_
    show ownEnds _ _ _ _ (T88.setTop (mkF m 341 #[.val (.long qe), .second, .val (.int xw), .val (.int xf), .val (.int (2 : Int32)), .val (.int s0), .val (.ref b1), .val (.int (1 : Int32)), .val (.long rr), .second, .unset] []))
    refine ownEnds.law (fun t k => XS.aload X88.here hx rfl (hb hby at_341) rfl rfl (XS.iconst X88.here hx rfl (hb hby at_343) (XS.iload X88.here hx rfl (hb hby at_344) rfl (XS.iload X88.here hx rfl (hb hby at_346) rfl k)))) ?_
    show ownEnds _ _ _ _ (T88.setTop (mkF m 348 #[.val (.long qe), .second, .val (.int xw), .val (.int xf), .val (.int (2 : Int32)), .val (.int s0), .val (.ref b1), .val (.int (1 : Int32)), .val (.long rr), .second, .unset] [(.int s0), (.int (2 : Int32)), (.int (3 : Int32)), (.ref b1)]))
    obtain ⟨v89, T89, L89, X89, hQ89, st89⟩ := ownCallS X88 hx hZ hown (y := (⟨"com/example/seven_bit_codecs/sevenbitcodecs/EightBytesWriteAsCharsPinLaw", "keeps", "([CIIC)Z"⟩ : MethodName)) (as := [(.ref b1), (.int (3 : Int32)), (.int (2 : Int32)), (.int s0)]) (wd_7 hw) (wd_8 hw) (wd_9 hw) (wd_10 hw) (by decide) (rm2 l Z a0 hw b1 (3 : Int32) (2 : Int32) s0 k1 _ T69.heap n0 Z69 Vq69 ⟨by decide, by decide⟩ (fun h => absurd h (by decide))) e88 0 (by decide) (by decide) (by decide) (by decide) (g := (mkF m 348 #[.val (.long qe), .second, .val (.int xw), .val (.int xf), .val (.int (2 : Int32)), .val (.int s0), .val (.ref b1), .val (.int (1 : Int32)), .val (.long rr), .second, .unset] [(.int s0), (.int (2 : Int32)), (.int (3 : Int32)), (.ref b1)])) rfl (by rw [hml]; rfl) (rest := []) pd_1 rfl rfl (by show 2 * 0 + _ ≤ _; exact Nat.le_of_eq rfl) (hb hby at_348)
    obtain ⟨rfl, rfl, e89⟩ := hQ89
    rw [List.append_nil] at X89
    refine ownEnds.law st89 ?_
    show ownEnds _ _ _ _ (T89.setTop (mkF m 351 #[.val (.long qe), .second, .val (.int xw), .val (.int xf), .val (.int (2 : Int32)), .val (.int s0), .val (.ref b1), .val (.int (1 : Int32)), .val (.long rr), .second, .unset] [(.int (1 : Int32))]))
    refine ownEnds.law (fun t => XS.ifNo X89.here hx rfl (hb hby at_351) rfl ((if0 _ _).trans (feq (by decide : ¬ ((1 : Int32) = (0 : Int32)))).1)) ?_
    show ownEnds _ _ _ _ (T89.setTop (mkF m 354 #[.val (.long qe), .second, .val (.int xw), .val (.int xf), .val (.int (2 : Int32)), .val (.int s0), .val (.ref b1), .val (.int (1 : Int32)), .val (.long rr), .second, .unset] []))
    refine ownEnds.law (fun t k => XS.aload X89.here hx rfl (hb hby at_354) rfl rfl (XS.iconst X89.here hx rfl (hb hby at_356) (XS.iload X89.here hx rfl (hb hby at_357) rfl (XS.iload X89.here hx rfl (hb hby at_359) rfl k)))) ?_
    show ownEnds _ _ _ _ (T89.setTop (mkF m 361 #[.val (.long qe), .second, .val (.int xw), .val (.int xf), .val (.int (2 : Int32)), .val (.int s0), .val (.ref b1), .val (.int (1 : Int32)), .val (.long rr), .second, .unset] [(.int s0), (.int (2 : Int32)), (.int (4 : Int32)), (.ref b1)]))
    obtain ⟨v90, T90, L90, X90, hQ90, st90⟩ := ownCallS X89 hx hZ hown (y := (⟨"com/example/seven_bit_codecs/sevenbitcodecs/EightBytesWriteAsCharsPinLaw", "keeps", "([CIIC)Z"⟩ : MethodName)) (as := [(.ref b1), (.int (4 : Int32)), (.int (2 : Int32)), (.int s0)]) (wd_7 hw) (wd_8 hw) (wd_9 hw) (wd_10 hw) (by decide) (rm2 l Z a0 hw b1 (4 : Int32) (2 : Int32) s0 k1 _ T69.heap n0 Z69 Vq69 ⟨by decide, by decide⟩ (fun h => absurd h (by decide))) e89 0 (by decide) (by decide) (by decide) (by decide) (g := (mkF m 361 #[.val (.long qe), .second, .val (.int xw), .val (.int xf), .val (.int (2 : Int32)), .val (.int s0), .val (.ref b1), .val (.int (1 : Int32)), .val (.long rr), .second, .unset] [(.int s0), (.int (2 : Int32)), (.int (4 : Int32)), (.ref b1)])) rfl (by rw [hml]; rfl) (rest := []) pd_1 rfl rfl (by show 2 * 0 + _ ≤ _; exact Nat.le_of_eq rfl) (hb hby at_361)
    obtain ⟨rfl, rfl, e90⟩ := hQ90
    rw [List.append_nil] at X90
    refine ownEnds.law st90 ?_
    show ownEnds _ _ _ _ (T90.setTop (mkF m 364 #[.val (.long qe), .second, .val (.int xw), .val (.int xf), .val (.int (2 : Int32)), .val (.int s0), .val (.ref b1), .val (.int (1 : Int32)), .val (.long rr), .second, .unset] [(.int (1 : Int32))]))
    refine ownEnds.law (fun t => XS.ifNo X90.here hx rfl (hb hby at_364) rfl ((if0 _ _).trans (feq (by decide : ¬ ((1 : Int32) = (0 : Int32)))).1)) ?_
    show ownEnds _ _ _ _ (T90.setTop (mkF m 367 #[.val (.long qe), .second, .val (.int xw), .val (.int xf), .val (.int (2 : Int32)), .val (.int s0), .val (.ref b1), .val (.int (1 : Int32)), .val (.long rr), .second, .unset] []))
    refine ownEnds.law (fun t k => XS.aload X90.here hx rfl (hb hby at_367) rfl rfl (XS.iconst X90.here hx rfl (hb hby at_369) (XS.iload X90.here hx rfl (hb hby at_370) rfl (XS.iload X90.here hx rfl (hb hby at_372) rfl k)))) ?_
    show ownEnds _ _ _ _ (T90.setTop (mkF m 374 #[.val (.long qe), .second, .val (.int xw), .val (.int xf), .val (.int (2 : Int32)), .val (.int s0), .val (.ref b1), .val (.int (1 : Int32)), .val (.long rr), .second, .unset] [(.int s0), (.int (2 : Int32)), (.int (5 : Int32)), (.ref b1)]))
    obtain ⟨v91, T91, L91, X91, hQ91, st91⟩ := ownCallS X90 hx hZ hown (y := (⟨"com/example/seven_bit_codecs/sevenbitcodecs/EightBytesWriteAsCharsPinLaw", "keeps", "([CIIC)Z"⟩ : MethodName)) (as := [(.ref b1), (.int (5 : Int32)), (.int (2 : Int32)), (.int s0)]) (wd_7 hw) (wd_8 hw) (wd_9 hw) (wd_10 hw) (by decide) (rm2 l Z a0 hw b1 (5 : Int32) (2 : Int32) s0 k1 _ T69.heap n0 Z69 Vq69 ⟨by decide, by decide⟩ (fun h => absurd h (by decide))) e90 0 (by decide) (by decide) (by decide) (by decide) (g := (mkF m 374 #[.val (.long qe), .second, .val (.int xw), .val (.int xf), .val (.int (2 : Int32)), .val (.int s0), .val (.ref b1), .val (.int (1 : Int32)), .val (.long rr), .second, .unset] [(.int s0), (.int (2 : Int32)), (.int (5 : Int32)), (.ref b1)])) rfl (by rw [hml]; rfl) (rest := []) pd_1 rfl rfl (by show 2 * 0 + _ ≤ _; exact Nat.le_of_eq rfl) (hb hby at_374)
    obtain ⟨rfl, rfl, e91⟩ := hQ91
    rw [List.append_nil] at X91
    refine ownEnds.law st91 ?_
    show ownEnds _ _ _ _ (T91.setTop (mkF m 377 #[.val (.long qe), .second, .val (.int xw), .val (.int xf), .val (.int (2 : Int32)), .val (.int s0), .val (.ref b1), .val (.int (1 : Int32)), .val (.long rr), .second, .unset] [(.int (1 : Int32))]))
    refine ownEnds.law (fun t => XS.ifNo X91.here hx rfl (hb hby at_377) rfl ((if0 _ _).trans (feq (by decide : ¬ ((1 : Int32) = (0 : Int32)))).1)) ?_
    show ownEnds _ _ _ _ (T91.setTop (mkF m 380 #[.val (.long qe), .second, .val (.int xw), .val (.int xf), .val (.int (2 : Int32)), .val (.int s0), .val (.ref b1), .val (.int (1 : Int32)), .val (.long rr), .second, .unset] []))
    refine ownEnds.law (fun t k => XS.aload X91.here hx rfl (hb hby at_380) rfl rfl (XS.bipush X91.here hx rfl (hb hby at_382) (XS.iload X91.here hx rfl (hb hby at_384) rfl (XS.iload X91.here hx rfl (hb hby at_386) rfl k)))) ?_
    show ownEnds _ _ _ _ (T91.setTop (mkF m 388 #[.val (.long qe), .second, .val (.int xw), .val (.int xf), .val (.int (2 : Int32)), .val (.int s0), .val (.ref b1), .val (.int (1 : Int32)), .val (.long rr), .second, .unset] [(.int s0), (.int (2 : Int32)), (.int (6 : Int32)), (.ref b1)]))
    obtain ⟨v92, T92, L92, X92, hQ92, st92⟩ := ownCallS X91 hx hZ hown (y := (⟨"com/example/seven_bit_codecs/sevenbitcodecs/EightBytesWriteAsCharsPinLaw", "keeps", "([CIIC)Z"⟩ : MethodName)) (as := [(.ref b1), (.int (6 : Int32)), (.int (2 : Int32)), (.int s0)]) (wd_7 hw) (wd_8 hw) (wd_9 hw) (wd_10 hw) (by decide) (rm2 l Z a0 hw b1 (6 : Int32) (2 : Int32) s0 k1 _ T69.heap n0 Z69 Vq69 ⟨by decide, by decide⟩ (fun h => absurd h (by decide))) e91 0 (by decide) (by decide) (by decide) (by decide) (g := (mkF m 388 #[.val (.long qe), .second, .val (.int xw), .val (.int xf), .val (.int (2 : Int32)), .val (.int s0), .val (.ref b1), .val (.int (1 : Int32)), .val (.long rr), .second, .unset] [(.int s0), (.int (2 : Int32)), (.int (6 : Int32)), (.ref b1)])) rfl (by rw [hml]; rfl) (rest := []) pd_1 rfl rfl (by show 2 * 0 + _ ≤ _; exact Nat.le_of_eq rfl) (hb hby at_388)
    obtain ⟨rfl, rfl, e92⟩ := hQ92
    rw [List.append_nil] at X92
    refine ownEnds.law st92 ?_
    show ownEnds _ _ _ _ (T92.setTop (mkF m 391 #[.val (.long qe), .second, .val (.int xw), .val (.int xf), .val (.int (2 : Int32)), .val (.int s0), .val (.ref b1), .val (.int (1 : Int32)), .val (.long rr), .second, .unset] [(.int (1 : Int32))]))
    refine ownEnds.law (fun t => XS.ifNo X92.here hx rfl (hb hby at_391) rfl ((if0 _ _).trans (feq (by decide : ¬ ((1 : Int32) = (0 : Int32)))).1)) ?_
    show ownEnds _ _ _ _ (T92.setTop (mkF m 394 #[.val (.long qe), .second, .val (.int xw), .val (.int xf), .val (.int (2 : Int32)), .val (.int s0), .val (.ref b1), .val (.int (1 : Int32)), .val (.long rr), .second, .unset] []))
    refine ownEnds.law (fun t k => XS.aload X92.here hx rfl (hb hby at_394) rfl rfl (XS.bipush X92.here hx rfl (hb hby at_396) (XS.iload X92.here hx rfl (hb hby at_398) rfl (XS.iload X92.here hx rfl (hb hby at_400) rfl k)))) ?_
    show ownEnds _ _ _ _ (T92.setTop (mkF m 402 #[.val (.long qe), .second, .val (.int xw), .val (.int xf), .val (.int (2 : Int32)), .val (.int s0), .val (.ref b1), .val (.int (1 : Int32)), .val (.long rr), .second, .unset] [(.int s0), (.int (2 : Int32)), (.int (7 : Int32)), (.ref b1)]))
    obtain ⟨v93, T93, L93, X93, hQ93, st93⟩ := ownCallS X92 hx hZ hown (y := (⟨"com/example/seven_bit_codecs/sevenbitcodecs/EightBytesWriteAsCharsPinLaw", "keeps", "([CIIC)Z"⟩ : MethodName)) (as := [(.ref b1), (.int (7 : Int32)), (.int (2 : Int32)), (.int s0)]) (wd_7 hw) (wd_8 hw) (wd_9 hw) (wd_10 hw) (by decide) (rm2 l Z a0 hw b1 (7 : Int32) (2 : Int32) s0 k1 _ T69.heap n0 Z69 Vq69 ⟨by decide, by decide⟩ (fun h => absurd h (by decide))) e92 0 (by decide) (by decide) (by decide) (by decide) (g := (mkF m 402 #[.val (.long qe), .second, .val (.int xw), .val (.int xf), .val (.int (2 : Int32)), .val (.int s0), .val (.ref b1), .val (.int (1 : Int32)), .val (.long rr), .second, .unset] [(.int s0), (.int (2 : Int32)), (.int (7 : Int32)), (.ref b1)])) rfl (by rw [hml]; rfl) (rest := []) pd_1 rfl rfl (by show 2 * 0 + _ ≤ _; exact Nat.le_of_eq rfl) (hb hby at_402)
    obtain ⟨rfl, rfl, e93⟩ := hQ93
    rw [List.append_nil] at X93
    refine ownEnds.law st93 ?_
    show ownEnds _ _ _ _ (T93.setTop (mkF m 405 #[.val (.long qe), .second, .val (.int xw), .val (.int xf), .val (.int (2 : Int32)), .val (.int s0), .val (.ref b1), .val (.int (1 : Int32)), .val (.long rr), .second, .unset] [(.int (1 : Int32))]))
    refine ownEnds.law (fun t => XS.ifNo X93.here hx rfl (hb hby at_405) rfl ((if0 _ _).trans (feq (by decide : ¬ ((1 : Int32) = (0 : Int32)))).1)) ?_
    show ownEnds _ _ _ _ (T93.setTop (mkF m 408 #[.val (.long qe), .second, .val (.int xw), .val (.int xf), .val (.int (2 : Int32)), .val (.int s0), .val (.ref b1), .val (.int (1 : Int32)), .val (.long rr), .second, .unset] []))
    refine ownEnds.law (fun t k => XS.aload X93.here hx rfl (hb hby at_408) rfl rfl (XS.bipush X93.here hx rfl (hb hby at_410) (XS.iload X93.here hx rfl (hb hby at_412) rfl (XS.iload X93.here hx rfl (hb hby at_414) rfl k)))) ?_
    show ownEnds _ _ _ _ (T93.setTop (mkF m 416 #[.val (.long qe), .second, .val (.int xw), .val (.int xf), .val (.int (2 : Int32)), .val (.int s0), .val (.ref b1), .val (.int (1 : Int32)), .val (.long rr), .second, .unset] [(.int s0), (.int (2 : Int32)), (.int (8 : Int32)), (.ref b1)]))
    obtain ⟨v94, T94, L94, X94, hQ94, st94⟩ := ownCallS X93 hx hZ hown (y := (⟨"com/example/seven_bit_codecs/sevenbitcodecs/EightBytesWriteAsCharsPinLaw", "keeps", "([CIIC)Z"⟩ : MethodName)) (as := [(.ref b1), (.int (8 : Int32)), (.int (2 : Int32)), (.int s0)]) (wd_7 hw) (wd_8 hw) (wd_9 hw) (wd_10 hw) (by decide) (rm2 l Z a0 hw b1 (8 : Int32) (2 : Int32) s0 k1 _ T69.heap n0 Z69 Vq69 ⟨by decide, by decide⟩ (fun h => absurd h (by decide))) e93 0 (by decide) (by decide) (by decide) (by decide) (g := (mkF m 416 #[.val (.long qe), .second, .val (.int xw), .val (.int xf), .val (.int (2 : Int32)), .val (.int s0), .val (.ref b1), .val (.int (1 : Int32)), .val (.long rr), .second, .unset] [(.int s0), (.int (2 : Int32)), (.int (8 : Int32)), (.ref b1)])) rfl (by rw [hml]; rfl) (rest := []) pd_1 rfl rfl (by show 2 * 0 + _ ≤ _; exact Nat.le_of_eq rfl) (hb hby at_416)
    obtain ⟨rfl, rfl, e94⟩ := hQ94
    rw [List.append_nil] at X94
    refine ownEnds.law st94 ?_
    show ownEnds _ _ _ _ (T94.setTop (mkF m 419 #[.val (.long qe), .second, .val (.int xw), .val (.int xf), .val (.int (2 : Int32)), .val (.int s0), .val (.ref b1), .val (.int (1 : Int32)), .val (.long rr), .second, .unset] [(.int (1 : Int32))]))
    refine ownEnds.law (fun t => XS.ifNo X94.here hx rfl (hb hby at_419) rfl ((if0 _ _).trans (feq (by decide : ¬ ((1 : Int32) = (0 : Int32)))).1)) ?_
    show ownEnds _ _ _ _ (T94.setTop (mkF m 422 #[.val (.long qe), .second, .val (.int xw), .val (.int xf), .val (.int (2 : Int32)), .val (.int s0), .val (.ref b1), .val (.int (1 : Int32)), .val (.long rr), .second, .unset] []))
    refine ownEnds.law (fun t k => XS.aload X94.here hx rfl (hb hby at_422) rfl rfl (XS.bipush X94.here hx rfl (hb hby at_424) (XS.iload X94.here hx rfl (hb hby at_426) rfl (XS.iload X94.here hx rfl (hb hby at_428) rfl k)))) ?_
    show ownEnds _ _ _ _ (T94.setTop (mkF m 430 #[.val (.long qe), .second, .val (.int xw), .val (.int xf), .val (.int (2 : Int32)), .val (.int s0), .val (.ref b1), .val (.int (1 : Int32)), .val (.long rr), .second, .unset] [(.int s0), (.int (2 : Int32)), (.int (9 : Int32)), (.ref b1)]))
    obtain ⟨v95, T95, L95, X95, hQ95, st95⟩ := ownCallS X94 hx hZ hown (y := (⟨"com/example/seven_bit_codecs/sevenbitcodecs/EightBytesWriteAsCharsPinLaw", "keeps", "([CIIC)Z"⟩ : MethodName)) (as := [(.ref b1), (.int (9 : Int32)), (.int (2 : Int32)), (.int s0)]) (wd_7 hw) (wd_8 hw) (wd_9 hw) (wd_10 hw) (by decide) (rm2 l Z a0 hw b1 (9 : Int32) (2 : Int32) s0 k1 _ T69.heap n0 Z69 Vq69 ⟨by decide, by decide⟩ (fun h => absurd h (by decide))) e94 0 (by decide) (by decide) (by decide) (by decide) (g := (mkF m 430 #[.val (.long qe), .second, .val (.int xw), .val (.int xf), .val (.int (2 : Int32)), .val (.int s0), .val (.ref b1), .val (.int (1 : Int32)), .val (.long rr), .second, .unset] [(.int s0), (.int (2 : Int32)), (.int (9 : Int32)), (.ref b1)])) rfl (by rw [hml]; rfl) (rest := []) pd_1 rfl rfl (by show 2 * 0 + _ ≤ _; exact Nat.le_of_eq rfl) (hb hby at_430)
    obtain ⟨rfl, rfl, e95⟩ := hQ95
    rw [List.append_nil] at X95
    refine ownEnds.law st95 ?_
    show ownEnds _ _ _ _ (T95.setTop (mkF m 433 #[.val (.long qe), .second, .val (.int xw), .val (.int xf), .val (.int (2 : Int32)), .val (.int s0), .val (.ref b1), .val (.int (1 : Int32)), .val (.long rr), .second, .unset] [(.int (1 : Int32))]))
    refine ownEnds.law (fun t => XS.ifNo X95.here hx rfl (hb hby at_433) rfl ((if0 _ _).trans (feq (by decide : ¬ ((1 : Int32) = (0 : Int32)))).1)) ?_
    show ownEnds _ _ _ _ (T95.setTop (mkF m 436 #[.val (.long qe), .second, .val (.int xw), .val (.int xf), .val (.int (2 : Int32)), .val (.int s0), .val (.ref b1), .val (.int (1 : Int32)), .val (.long rr), .second, .unset] []))
    refine ownEnds.law (fun t k => XS.aload X95.here hx rfl (hb hby at_436) rfl rfl (XS.bipush X95.here hx rfl (hb hby at_438) (XS.iload X95.here hx rfl (hb hby at_440) rfl (XS.iload X95.here hx rfl (hb hby at_442) rfl k)))) ?_
    show ownEnds _ _ _ _ (T95.setTop (mkF m 444 #[.val (.long qe), .second, .val (.int xw), .val (.int xf), .val (.int (2 : Int32)), .val (.int s0), .val (.ref b1), .val (.int (1 : Int32)), .val (.long rr), .second, .unset] [(.int s0), (.int (2 : Int32)), (.int (10 : Int32)), (.ref b1)]))
    obtain ⟨v96, T96, L96, X96, hQ96, st96⟩ := ownCallS X95 hx hZ hown (y := (⟨"com/example/seven_bit_codecs/sevenbitcodecs/EightBytesWriteAsCharsPinLaw", "keeps", "([CIIC)Z"⟩ : MethodName)) (as := [(.ref b1), (.int (10 : Int32)), (.int (2 : Int32)), (.int s0)]) (wd_7 hw) (wd_8 hw) (wd_9 hw) (wd_10 hw) (by decide) (rm2 l Z a0 hw b1 (10 : Int32) (2 : Int32) s0 k1 _ T69.heap n0 Z69 Vq69 ⟨by decide, by decide⟩ (fun _ => rfl)) e95 0 (by decide) (by decide) (by decide) (by decide) (g := (mkF m 444 #[.val (.long qe), .second, .val (.int xw), .val (.int xf), .val (.int (2 : Int32)), .val (.int s0), .val (.ref b1), .val (.int (1 : Int32)), .val (.long rr), .second, .unset] [(.int s0), (.int (2 : Int32)), (.int (10 : Int32)), (.ref b1)])) rfl (by rw [hml]; rfl) (rest := []) pd_1 rfl rfl (by show 2 * 0 + _ ≤ _; exact Nat.le_of_eq rfl) (hb hby at_444)
    obtain ⟨rfl, rfl, e96⟩ := hQ96
    rw [List.append_nil] at X96
    refine ownEnds.law st96 ?_
    show ownEnds _ _ _ _ (T96.setTop (mkF m 447 #[.val (.long qe), .second, .val (.int xw), .val (.int xf), .val (.int (2 : Int32)), .val (.int s0), .val (.ref b1), .val (.int (1 : Int32)), .val (.long rr), .second, .unset] [(.int (1 : Int32))]))
    refine ownEnds.law (fun t => XS.ifNo X96.here hx rfl (hb hby at_447) rfl ((if0 _ _).trans (feq (by decide : ¬ ((1 : Int32) = (0 : Int32)))).1)) ?_
    show ownEnds _ _ _ _ (T96.setTop (mkF m 450 #[.val (.long qe), .second, .val (.int xw), .val (.int xf), .val (.int (2 : Int32)), .val (.int s0), .val (.ref b1), .val (.int (1 : Int32)), .val (.long rr), .second, .unset] []))
    refine ownEnds.law (fun t k => XS.iconst X96.here hx rfl (hb hby at_450) (XS.goto X96.here hx rfl (pc0 := 451) (pc' := 455) rfl (hb hby at_451) (by decide) (by decide) (XS.istore X96.here hx rfl (hb hby at_455) rfl (l' := #[.val (.long qe), .second, .val (.int xw), .val (.int xf), .val (.int (2 : Int32)), .val (.int s0), .val (.ref b1), .val (.int (1 : Int32)), .val (.long rr), .second, .val (.int (1 : Int32))]) rfl (XS.iload X96.here hx rfl (hb hby at_457) rfl k)))) ?_
    show ownEnds _ _ _ _ (T96.setTop (mkF m 459 #[.val (.long qe), .second, .val (.int xw), .val (.int xf), .val (.int (2 : Int32)), .val (.int s0), .val (.ref b1), .val (.int (1 : Int32)), .val (.long rr), .second, .val (.int (1 : Int32))] [(.int (1 : Int32))]))
    refine ownEnds.law (fun t => XS.ifNo X96.here hx rfl (hb hby at_459) rfl ((if0 _ _).trans (feq (by decide : ¬ ((1 : Int32) = (0 : Int32)))).1)) ?_
    show ownEnds _ _ _ _ (T96.setTop (mkF m 462 #[.val (.long qe), .second, .val (.int xw), .val (.int xf), .val (.int (2 : Int32)), .val (.int s0), .val (.ref b1), .val (.int (1 : Int32)), .val (.long rr), .second, .val (.int (1 : Int32))] []))
    refine ownEnds.law (fun t k => XS.lload X96.here hx rfl (hb hby at_462) rfl (XS.lloadN X96.here hx rfl (hb hby at_464) rfl (XS.lcmp X96.here hx rfl (hb hby at_465) rfl k))) ?_
    show ownEnds _ _ _ _ (T96.setTop (mkF m 466 #[.val (.long qe), .second, .val (.int xw), .val (.int xf), .val (.int (2 : Int32)), .val (.int s0), .val (.ref b1), .val (.int (1 : Int32)), .val (.long rr), .second, .val (.int (1 : Int32))] [(.int (lcmpW rr qe))]))
    have hc466 : rr = qe := by rw [e_rr]; exact own_r _
    refine ownEnds.law (fun t => XS.ifNo X96.here hx rfl (hb hby at_466) rfl ((if0 _ _).trans (teq ((lw_eq _ _).mpr hc466)).2)) ?_
    show ownEnds _ _ _ _ (T96.setTop (mkF m 469 #[.val (.long qe), .second, .val (.int xw), .val (.int xf), .val (.int (2 : Int32)), .val (.int s0), .val (.ref b1), .val (.int (1 : Int32)), .val (.long rr), .second, .val (.int (1 : Int32))] []))
    refine ownEnds.law (fun t k => XS.iload X96.here hx rfl (hb hby at_469) rfl k) ?_
    show ownEnds _ _ _ _ (T96.setTop (mkF m 471 #[.val (.long qe), .second, .val (.int xw), .val (.int xf), .val (.int (2 : Int32)), .val (.int s0), .val (.ref b1), .val (.int (1 : Int32)), .val (.long rr), .second, .val (.int (1 : Int32))] [(.int (1 : Int32))]))
    refine ownEnds.law (fun t => XS.ifNo X96.here hx rfl (hb hby at_471) rfl ((if0 _ _).trans (feq (by decide : ¬ ((1 : Int32) = (0 : Int32)))).1)) ?_
    show ownEnds _ _ _ _ (T96.setTop (mkF m 474 #[.val (.long qe), .second, .val (.int xw), .val (.int xf), .val (.int (2 : Int32)), .val (.int s0), .val (.ref b1), .val (.int (1 : Int32)), .val (.long rr), .second, .val (.int (1 : Int32))] []))
    refine ownEnds.law (fun t k => XS.iconst X96.here hx rfl (hb hby at_474) (XS.goto X96.here hx rfl (pc0 := 475) (pc' := 479) rfl (hb hby at_475) (by decide) (by decide) k)) ?_
    show ownEnds _ _ _ _ (T96.setTop (mkF m 479 #[.val (.long qe), .second, .val (.int xw), .val (.int xf), .val (.int (2 : Int32)), .val (.int s0), .val (.ref b1), .val (.int (1 : Int32)), .val (.long rr), .second, .val (.int (1 : Int32))] [(.int (1 : Int32))]))
    refine ownRetN X96 hlk hx (t := .boolean) hret (by simp) (hb hby at_479) (by decide) (by decide) ?_
    exact ⟨rfl, N69⟩
  · show ownEnds _ _ _ _ (T12.setTop (mkF m 89 #[.val (.long qe), .second, .val (.int xw), .val (.int xf), .val (.int (3 : Int32)), .val (.int s0), .val (.ref b1), .unset, .unset, .unset, .unset] []))
    refine ownEnds.law (fun t k => XS.lloadN X12.here hx rfl (hb hby at_89) rfl (XS.aload X12.here hx rfl (hb hby at_90) rfl rfl (XS.iload X12.here hx rfl (hb hby at_92) rfl k))) ?_
    show ownEnds _ _ _ _ (T12.setTop (mkF m 94 #[.val (.long qe), .second, .val (.int xw), .val (.int xf), .val (.int (3 : Int32)), .val (.int s0), .val (.ref b1), .unset, .unset, .unset, .unset] [(.int (3 : Int32)), (.ref b1), (.long qe)]))
    obtain ⟨v97, T97, L97, X97, hQ97, st97⟩ := ownCallS X12 hx hZ hown (y := (⟨"com/example/seven_bit_codecs/sevenbitcodecs/EightBytes", "writeAsChars", "(J[CI)V"⟩ : MethodName)) (as := [(.long qe), (.ref b1), (.int (3 : Int32))]) (wd_2 hw) (wd_3 hw) (wd_4 hw) (wd_5 hw) (by decide) (rm1_3 l Z a0 hw qe b1 s0 k1 h12 n0 Z12 V89 g_b1) e12 0 (by decide) (by decide) (by decide) (by decide) (g := (mkF m 94 #[.val (.long qe), .second, .val (.int xw), .val (.int xf), .val (.int (3 : Int32)), .val (.int s0), .val (.ref b1), .unset, .unset, .unset, .unset] [(.int (3 : Int32)), (.ref b1), (.long qe)])) rfl (by rw [hml]; rfl) (rest := []) pd_0 rfl rfl (by show 2 * 0 + _ ≤ _; exact Nat.le_of_eq rfl) (hb hby at_94)
    obtain ⟨rfl, Nq97, Kq97, Vq97⟩ := hQ97
    have N97 := Fr.app N12 Nq97
    have Z97 : n0 ≤ T97.heap.size := Nat.le_trans Z12 Kq97.1
    refine ownEnds.law st97 ?_
    show ownEnds _ _ _ _ (T97.setTop (mkF m 97 #[.val (.long qe), .second, .val (.int xw), .val (.int xf), .val (.int (3 : Int32)), .val (.int s0), .val (.ref b1), .unset, .unset, .unset, .unset] []))
    refine ownEnds.law (fun t k => XS.aload X97.here hx rfl (hb hby at_97) rfl rfl (XS.iload X97.here hx rfl (hb hby at_99) rfl k)) ?_
    show ownEnds _ _ _ _ (T97.setTop (mkF m 101 #[.val (.long qe), .second, .val (.int xw), .val (.int xf), .val (.int (3 : Int32)), .val (.int s0), .val (.ref b1), .unset, .unset, .unset, .unset] [(.int (3 : Int32)), (.ref b1)]))
    obtain ⟨cl98, Ar98, q98, S98, N98, H98, G98⟩ := id Vq97
    have hi98 := inb_of (j := (3 : Int32)) S98 ⟨by decide, by decide⟩
    have hv98 : cl98.slots[((3 : Int32)).toNatClampNeg]? = some (.int (BC0 qe)) := H98.at hi98 rfl
    refine ownEnds.law (fun t k => X97.caload hx (j := (3 : Int32)) (v := (.int (BC0 qe))) Ar98.1 (State.isArrayOf_alike hZ.alike Ar98.2.1) Ar98.2.2 hi98 hv98 (g := (mkF m 101 #[.val (.long qe), .second, .val (.int xw), .val (.int xf), .val (.int (3 : Int32)), .val (.int s0), .val (.ref b1), .unset, .unset, .unset, .unset] [(.int (3 : Int32)), (.ref b1)])) rfl rfl (hb hby at_101) _ (XS.sipush X97.here hx rfl (hb hby at_102) k)) ?_
    show ownEnds _ _ _ _ (T97.setTop (mkF m 105 #[.val (.long qe), .second, .val (.int xw), .val (.int xf), .val (.int (3 : Int32)), .val (.int s0), .val (.ref b1), .unset, .unset, .unset, .unset] [(.int (256 : Int32)), (.int (BC0 qe))]))
    have hc105 : (BC0 qe) < (256 : Int32) := own_lt0 _
    refine ownEnds.law (fun t => XS.icmpNo X97.here hx rfl (hb hby at_105) rfl (tlt hc105).2.1) ?_
    show ownEnds _ _ _ _ (T97.setTop (mkF m 108 #[.val (.long qe), .second, .val (.int xw), .val (.int xf), .val (.int (3 : Int32)), .val (.int s0), .val (.ref b1), .unset, .unset, .unset, .unset] []))
    refine ownEnds.law (fun t k => XS.aload X97.here hx rfl (hb hby at_108) rfl rfl (XS.iload X97.here hx rfl (hb hby at_110) rfl (XS.iconst X97.here hx rfl (hb hby at_112) (XS.iadd X97.here hx rfl (hb hby at_113) rfl k)))) ?_
    show ownEnds _ _ _ _ (T97.setTop (mkF m 114 #[.val (.long qe), .second, .val (.int xw), .val (.int xf), .val (.int (3 : Int32)), .val (.int s0), .val (.ref b1), .unset, .unset, .unset, .unset] [(.int (4 : Int32)), (.ref b1)]))
    obtain ⟨cl99, Ar99, q99, S99, N99, H99, G99⟩ := id Vq97
    have hi99 := inb_of (j := (4 : Int32)) S99 ⟨by decide, by decide⟩
    have hv99 : cl99.slots[((4 : Int32)).toNatClampNeg]? = some (.int (BC1 qe)) := H99.at hi99 rfl
    refine ownEnds.law (fun t k => X97.caload hx (j := (4 : Int32)) (v := (.int (BC1 qe))) Ar99.1 (State.isArrayOf_alike hZ.alike Ar99.2.1) Ar99.2.2 hi99 hv99 (g := (mkF m 114 #[.val (.long qe), .second, .val (.int xw), .val (.int xf), .val (.int (3 : Int32)), .val (.int s0), .val (.ref b1), .unset, .unset, .unset, .unset] [(.int (4 : Int32)), (.ref b1)])) rfl rfl (hb hby at_114) _ (XS.sipush X97.here hx rfl (hb hby at_115) k)) ?_
    show ownEnds _ _ _ _ (T97.setTop (mkF m 118 #[.val (.long qe), .second, .val (.int xw), .val (.int xf), .val (.int (3 : Int32)), .val (.int s0), .val (.ref b1), .unset, .unset, .unset, .unset] [(.int (256 : Int32)), (.int (BC1 qe))]))
    have hc118 : (BC1 qe) < (256 : Int32) := own_lt1 _
    refine ownEnds.law (fun t => XS.icmpNo X97.here hx rfl (hb hby at_118) rfl (tlt hc118).2.1) ?_
    show ownEnds _ _ _ _ (T97.setTop (mkF m 121 #[.val (.long qe), .second, .val (.int xw), .val (.int xf), .val (.int (3 : Int32)), .val (.int s0), .val (.ref b1), .unset, .unset, .unset, .unset] []))
    refine ownEnds.law (fun t k => XS.aload X97.here hx rfl (hb hby at_121) rfl rfl (XS.iload X97.here hx rfl (hb hby at_123) rfl (XS.iconst X97.here hx rfl (hb hby at_125) (XS.iadd X97.here hx rfl (hb hby at_126) rfl k)))) ?_
    show ownEnds _ _ _ _ (T97.setTop (mkF m 127 #[.val (.long qe), .second, .val (.int xw), .val (.int xf), .val (.int (3 : Int32)), .val (.int s0), .val (.ref b1), .unset, .unset, .unset, .unset] [(.int (5 : Int32)), (.ref b1)]))
    obtain ⟨cl100, Ar100, q100, S100, N100, H100, G100⟩ := id Vq97
    have hi100 := inb_of (j := (5 : Int32)) S100 ⟨by decide, by decide⟩
    have hv100 : cl100.slots[((5 : Int32)).toNatClampNeg]? = some (.int (BC2 qe)) := H100.at hi100 rfl
    refine ownEnds.law (fun t k => X97.caload hx (j := (5 : Int32)) (v := (.int (BC2 qe))) Ar100.1 (State.isArrayOf_alike hZ.alike Ar100.2.1) Ar100.2.2 hi100 hv100 (g := (mkF m 127 #[.val (.long qe), .second, .val (.int xw), .val (.int xf), .val (.int (3 : Int32)), .val (.int s0), .val (.ref b1), .unset, .unset, .unset, .unset] [(.int (5 : Int32)), (.ref b1)])) rfl rfl (hb hby at_127) _ (XS.sipush X97.here hx rfl (hb hby at_128) k)) ?_
    show ownEnds _ _ _ _ (T97.setTop (mkF m 131 #[.val (.long qe), .second, .val (.int xw), .val (.int xf), .val (.int (3 : Int32)), .val (.int s0), .val (.ref b1), .unset, .unset, .unset, .unset] [(.int (256 : Int32)), (.int (BC2 qe))]))
    have hc131 : (BC2 qe) < (256 : Int32) := own_lt2 _
    refine ownEnds.law (fun t => XS.icmpNo X97.here hx rfl (hb hby at_131) rfl (tlt hc131).2.1) ?_
    show ownEnds _ _ _ _ (T97.setTop (mkF m 134 #[.val (.long qe), .second, .val (.int xw), .val (.int xf), .val (.int (3 : Int32)), .val (.int s0), .val (.ref b1), .unset, .unset, .unset, .unset] []))
    refine ownEnds.law (fun t k => XS.aload X97.here hx rfl (hb hby at_134) rfl rfl (XS.iload X97.here hx rfl (hb hby at_136) rfl (XS.iconst X97.here hx rfl (hb hby at_138) (XS.iadd X97.here hx rfl (hb hby at_139) rfl k)))) ?_
    show ownEnds _ _ _ _ (T97.setTop (mkF m 140 #[.val (.long qe), .second, .val (.int xw), .val (.int xf), .val (.int (3 : Int32)), .val (.int s0), .val (.ref b1), .unset, .unset, .unset, .unset] [(.int (6 : Int32)), (.ref b1)]))
    obtain ⟨cl101, Ar101, q101, S101, N101, H101, G101⟩ := id Vq97
    have hi101 := inb_of (j := (6 : Int32)) S101 ⟨by decide, by decide⟩
    have hv101 : cl101.slots[((6 : Int32)).toNatClampNeg]? = some (.int (BC3 qe)) := H101.at hi101 rfl
    refine ownEnds.law (fun t k => X97.caload hx (j := (6 : Int32)) (v := (.int (BC3 qe))) Ar101.1 (State.isArrayOf_alike hZ.alike Ar101.2.1) Ar101.2.2 hi101 hv101 (g := (mkF m 140 #[.val (.long qe), .second, .val (.int xw), .val (.int xf), .val (.int (3 : Int32)), .val (.int s0), .val (.ref b1), .unset, .unset, .unset, .unset] [(.int (6 : Int32)), (.ref b1)])) rfl rfl (hb hby at_140) _ (XS.sipush X97.here hx rfl (hb hby at_141) k)) ?_
    show ownEnds _ _ _ _ (T97.setTop (mkF m 144 #[.val (.long qe), .second, .val (.int xw), .val (.int xf), .val (.int (3 : Int32)), .val (.int s0), .val (.ref b1), .unset, .unset, .unset, .unset] [(.int (256 : Int32)), (.int (BC3 qe))]))
    have hc144 : (BC3 qe) < (256 : Int32) := own_lt3 _
    refine ownEnds.law (fun t => XS.icmpNo X97.here hx rfl (hb hby at_144) rfl (tlt hc144).2.1) ?_
    show ownEnds _ _ _ _ (T97.setTop (mkF m 147 #[.val (.long qe), .second, .val (.int xw), .val (.int xf), .val (.int (3 : Int32)), .val (.int s0), .val (.ref b1), .unset, .unset, .unset, .unset] []))
    refine ownEnds.law (fun t k => XS.aload X97.here hx rfl (hb hby at_147) rfl rfl (XS.iload X97.here hx rfl (hb hby at_149) rfl (XS.iconst X97.here hx rfl (hb hby at_151) (XS.iadd X97.here hx rfl (hb hby at_152) rfl k)))) ?_
    show ownEnds _ _ _ _ (T97.setTop (mkF m 153 #[.val (.long qe), .second, .val (.int xw), .val (.int xf), .val (.int (3 : Int32)), .val (.int s0), .val (.ref b1), .unset, .unset, .unset, .unset] [(.int (7 : Int32)), (.ref b1)]))
    obtain ⟨cl102, Ar102, q102, S102, N102, H102, G102⟩ := id Vq97
    have hi102 := inb_of (j := (7 : Int32)) S102 ⟨by decide, by decide⟩
    have hv102 : cl102.slots[((7 : Int32)).toNatClampNeg]? = some (.int (BC4 qe)) := H102.at hi102 rfl
    refine ownEnds.law (fun t k => X97.caload hx (j := (7 : Int32)) (v := (.int (BC4 qe))) Ar102.1 (State.isArrayOf_alike hZ.alike Ar102.2.1) Ar102.2.2 hi102 hv102 (g := (mkF m 153 #[.val (.long qe), .second, .val (.int xw), .val (.int xf), .val (.int (3 : Int32)), .val (.int s0), .val (.ref b1), .unset, .unset, .unset, .unset] [(.int (7 : Int32)), (.ref b1)])) rfl rfl (hb hby at_153) _ (XS.sipush X97.here hx rfl (hb hby at_154) k)) ?_
    show ownEnds _ _ _ _ (T97.setTop (mkF m 157 #[.val (.long qe), .second, .val (.int xw), .val (.int xf), .val (.int (3 : Int32)), .val (.int s0), .val (.ref b1), .unset, .unset, .unset, .unset] [(.int (256 : Int32)), (.int (BC4 qe))]))
    have hc157 : (BC4 qe) < (256 : Int32) := own_lt4 _
    refine ownEnds.law (fun t => XS.icmpNo X97.here hx rfl (hb hby at_157) rfl (tlt hc157).2.1) ?_
    show ownEnds _ _ _ _ (T97.setTop (mkF m 160 #[.val (.long qe), .second, .val (.int xw), .val (.int xf), .val (.int (3 : Int32)), .val (.int s0), .val (.ref b1), .unset, .unset, .unset, .unset] []))
    refine ownEnds.law (fun t k => XS.aload X97.here hx rfl (hb hby at_160) rfl rfl (XS.iload X97.here hx rfl (hb hby at_162) rfl (XS.iconst X97.here hx rfl (hb hby at_164) (XS.iadd X97.here hx rfl (hb hby at_165) rfl k)))) ?_
    show ownEnds _ _ _ _ (T97.setTop (mkF m 166 #[.val (.long qe), .second, .val (.int xw), .val (.int xf), .val (.int (3 : Int32)), .val (.int s0), .val (.ref b1), .unset, .unset, .unset, .unset] [(.int (8 : Int32)), (.ref b1)]))
    obtain ⟨cl103, Ar103, q103, S103, N103, H103, G103⟩ := id Vq97
    have hi103 := inb_of (j := (8 : Int32)) S103 ⟨by decide, by decide⟩
    have hv103 : cl103.slots[((8 : Int32)).toNatClampNeg]? = some (.int (BC5 qe)) := H103.at hi103 rfl
    refine ownEnds.law (fun t k => X97.caload hx (j := (8 : Int32)) (v := (.int (BC5 qe))) Ar103.1 (State.isArrayOf_alike hZ.alike Ar103.2.1) Ar103.2.2 hi103 hv103 (g := (mkF m 166 #[.val (.long qe), .second, .val (.int xw), .val (.int xf), .val (.int (3 : Int32)), .val (.int s0), .val (.ref b1), .unset, .unset, .unset, .unset] [(.int (8 : Int32)), (.ref b1)])) rfl rfl (hb hby at_166) _ (XS.sipush X97.here hx rfl (hb hby at_167) k)) ?_
    show ownEnds _ _ _ _ (T97.setTop (mkF m 170 #[.val (.long qe), .second, .val (.int xw), .val (.int xf), .val (.int (3 : Int32)), .val (.int s0), .val (.ref b1), .unset, .unset, .unset, .unset] [(.int (256 : Int32)), (.int (BC5 qe))]))
    have hc170 : (BC5 qe) < (256 : Int32) := own_lt5 _
    refine ownEnds.law (fun t => XS.icmpNo X97.here hx rfl (hb hby at_170) rfl (tlt hc170).2.1) ?_
    show ownEnds _ _ _ _ (T97.setTop (mkF m 173 #[.val (.long qe), .second, .val (.int xw), .val (.int xf), .val (.int (3 : Int32)), .val (.int s0), .val (.ref b1), .unset, .unset, .unset, .unset] []))
    refine ownEnds.law (fun t k => XS.aload X97.here hx rfl (hb hby at_173) rfl rfl (XS.iload X97.here hx rfl (hb hby at_175) rfl (XS.bipush X97.here hx rfl (hb hby at_177) (XS.iadd X97.here hx rfl (hb hby at_179) rfl k)))) ?_
    show ownEnds _ _ _ _ (T97.setTop (mkF m 180 #[.val (.long qe), .second, .val (.int xw), .val (.int xf), .val (.int (3 : Int32)), .val (.int s0), .val (.ref b1), .unset, .unset, .unset, .unset] [(.int (9 : Int32)), (.ref b1)]))
    obtain ⟨cl104, Ar104, q104, S104, N104, H104, G104⟩ := id Vq97
    have hi104 := inb_of (j := (9 : Int32)) S104 ⟨by decide, by decide⟩
    have hv104 : cl104.slots[((9 : Int32)).toNatClampNeg]? = some (.int (BC6 qe)) := H104.at hi104 rfl
    refine ownEnds.law (fun t k => X97.caload hx (j := (9 : Int32)) (v := (.int (BC6 qe))) Ar104.1 (State.isArrayOf_alike hZ.alike Ar104.2.1) Ar104.2.2 hi104 hv104 (g := (mkF m 180 #[.val (.long qe), .second, .val (.int xw), .val (.int xf), .val (.int (3 : Int32)), .val (.int s0), .val (.ref b1), .unset, .unset, .unset, .unset] [(.int (9 : Int32)), (.ref b1)])) rfl rfl (hb hby at_180) _ (XS.sipush X97.here hx rfl (hb hby at_181) k)) ?_
    show ownEnds _ _ _ _ (T97.setTop (mkF m 184 #[.val (.long qe), .second, .val (.int xw), .val (.int xf), .val (.int (3 : Int32)), .val (.int s0), .val (.ref b1), .unset, .unset, .unset, .unset] [(.int (256 : Int32)), (.int (BC6 qe))]))
    have hc184 : (BC6 qe) < (256 : Int32) := own_lt6 _
    refine ownEnds.law (fun t => XS.icmpNo X97.here hx rfl (hb hby at_184) rfl (tlt hc184).2.1) ?_
    show ownEnds _ _ _ _ (T97.setTop (mkF m 187 #[.val (.long qe), .second, .val (.int xw), .val (.int xf), .val (.int (3 : Int32)), .val (.int s0), .val (.ref b1), .unset, .unset, .unset, .unset] []))
    refine ownEnds.law (fun t k => XS.aload X97.here hx rfl (hb hby at_187) rfl rfl (XS.iload X97.here hx rfl (hb hby at_189) rfl (XS.bipush X97.here hx rfl (hb hby at_191) (XS.iadd X97.here hx rfl (hb hby at_193) rfl k)))) ?_
    show ownEnds _ _ _ _ (T97.setTop (mkF m 194 #[.val (.long qe), .second, .val (.int xw), .val (.int xf), .val (.int (3 : Int32)), .val (.int s0), .val (.ref b1), .unset, .unset, .unset, .unset] [(.int (10 : Int32)), (.ref b1)]))
    obtain ⟨cl105, Ar105, q105, S105, N105, H105, G105⟩ := id Vq97
    have hi105 := inb_of (j := (10 : Int32)) S105 ⟨by decide, by decide⟩
    have hv105 : cl105.slots[((10 : Int32)).toNatClampNeg]? = some (.int (BC7 qe)) := H105.at hi105 rfl
    refine ownEnds.law (fun t k => X97.caload hx (j := (10 : Int32)) (v := (.int (BC7 qe))) Ar105.1 (State.isArrayOf_alike hZ.alike Ar105.2.1) Ar105.2.2 hi105 hv105 (g := (mkF m 194 #[.val (.long qe), .second, .val (.int xw), .val (.int xf), .val (.int (3 : Int32)), .val (.int s0), .val (.ref b1), .unset, .unset, .unset, .unset] [(.int (10 : Int32)), (.ref b1)])) rfl rfl (hb hby at_194) _ (XS.sipush X97.here hx rfl (hb hby at_195) k)) ?_
    show ownEnds _ _ _ _ (T97.setTop (mkF m 198 #[.val (.long qe), .second, .val (.int xw), .val (.int xf), .val (.int (3 : Int32)), .val (.int s0), .val (.ref b1), .unset, .unset, .unset, .unset] [(.int (256 : Int32)), (.int (BC7 qe))]))
    have hc198 : (BC7 qe) < (256 : Int32) := own_lt7 _
    refine ownEnds.law (fun t => XS.icmpNo X97.here hx rfl (hb hby at_198) rfl (tlt hc198).2.1) ?_
    show ownEnds _ _ _ _ (T97.setTop (mkF m 201 #[.val (.long qe), .second, .val (.int xw), .val (.int xf), .val (.int (3 : Int32)), .val (.int s0), .val (.ref b1), .unset, .unset, .unset, .unset] []))
    refine ownEnds.law (fun t k => XS.iconst X97.here hx rfl (hb hby at_201) (XS.goto X97.here hx rfl (pc0 := 202) (pc' := 206) rfl (hb hby at_202) (by decide) (by decide) (XS.istore X97.here hx rfl (hb hby at_206) rfl (l' := #[.val (.long qe), .second, .val (.int xw), .val (.int xf), .val (.int (3 : Int32)), .val (.int s0), .val (.ref b1), .val (.int (1 : Int32)), .unset, .unset, .unset]) rfl (XS.aload X97.here hx rfl (hb hby at_208) rfl rfl (XS.iload X97.here hx rfl (hb hby at_210) rfl k))))) ?_
    show ownEnds _ _ _ _ (T97.setTop (mkF m 212 #[.val (.long qe), .second, .val (.int xw), .val (.int xf), .val (.int (3 : Int32)), .val (.int s0), .val (.ref b1), .val (.int (1 : Int32)), .unset, .unset, .unset] [(.int (3 : Int32)), (.ref b1)]))
    obtain ⟨cl106, Ar106, q106, S106, N106, H106, G106⟩ := id Vq97
    have hi106 := inb_of (j := (3 : Int32)) S106 ⟨by decide, by decide⟩
    have hv106 : cl106.slots[((3 : Int32)).toNatClampNeg]? = some (.int (BC0 qe)) := H106.at hi106 rfl
    refine ownEnds.law (fun t k => X97.caload hx (j := (3 : Int32)) (v := (.int (BC0 qe))) Ar106.1 (State.isArrayOf_alike hZ.alike Ar106.2.1) Ar106.2.2 hi106 hv106 (g := (mkF m 212 #[.val (.long qe), .second, .val (.int xw), .val (.int xf), .val (.int (3 : Int32)), .val (.int s0), .val (.ref b1), .val (.int (1 : Int32)), .unset, .unset, .unset] [(.int (3 : Int32)), (.ref b1)])) rfl rfl (hb hby at_212) _ (XS.i2l X97.here hx rfl (hb hby at_213) rfl (XS.aload X97.here hx rfl (hb hby at_214) rfl rfl (XS.iload X97.here hx rfl (hb hby at_216) rfl (XS.iconst X97.here hx rfl (hb hby at_218) (XS.iadd X97.here hx rfl (hb hby at_219) rfl k)))))) ?_
    show ownEnds _ _ _ _ (T97.setTop (mkF m 220 #[.val (.long qe), .second, .val (.int xw), .val (.int xf), .val (.int (3 : Int32)), .val (.int s0), .val (.ref b1), .val (.int (1 : Int32)), .unset, .unset, .unset] [(.int (4 : Int32)), (.ref b1), (.long ((BC0 qe).toInt64))]))
    obtain ⟨cl107, Ar107, q107, S107, N107, H107, G107⟩ := id Vq97
    have hi107 := inb_of (j := (4 : Int32)) S107 ⟨by decide, by decide⟩
    have hv107 : cl107.slots[((4 : Int32)).toNatClampNeg]? = some (.int (BC1 qe)) := H107.at hi107 rfl
    refine ownEnds.law (fun t k => X97.caload hx (j := (4 : Int32)) (v := (.int (BC1 qe))) Ar107.1 (State.isArrayOf_alike hZ.alike Ar107.2.1) Ar107.2.2 hi107 hv107 (g := (mkF m 220 #[.val (.long qe), .second, .val (.int xw), .val (.int xf), .val (.int (3 : Int32)), .val (.int s0), .val (.ref b1), .val (.int (1 : Int32)), .unset, .unset, .unset] [(.int (4 : Int32)), (.ref b1), (.long ((BC0 qe).toInt64))])) rfl rfl (hb hby at_220) _ (XS.i2l X97.here hx rfl (hb hby at_221) rfl (XS.bipush X97.here hx rfl (hb hby at_222) (XS.lshl X97.here hx rfl (hb hby at_224) rfl (XS.lor X97.here hx rfl (hb hby at_225) rfl (XS.aload X97.here hx rfl (hb hby at_226) rfl rfl (XS.iload X97.here hx rfl (hb hby at_228) rfl (XS.iconst X97.here hx rfl (hb hby at_230) (XS.iadd X97.here hx rfl (hb hby at_231) rfl k))))))))) ?_
    show ownEnds _ _ _ _ (T97.setTop (mkF m 232 #[.val (.long qe), .second, .val (.int xw), .val (.int xf), .val (.int (3 : Int32)), .val (.int s0), .val (.ref b1), .val (.int (1 : Int32)), .unset, .unset, .unset] [(.int (5 : Int32)), (.ref b1), (.long (((BC0 qe).toInt64) ||| (((BC1 qe).toInt64) <<< ((8 : Int32) &&& 0x3f).toInt64)))]))
    obtain ⟨cl108, Ar108, q108, S108, N108, H108, G108⟩ := id Vq97
    have hi108 := inb_of (j := (5 : Int32)) S108 ⟨by decide, by decide⟩
    have hv108 : cl108.slots[((5 : Int32)).toNatClampNeg]? = some (.int (BC2 qe)) := H108.at hi108 rfl
    refine ownEnds.law (fun t k => X97.caload hx (j := (5 : Int32)) (v := (.int (BC2 qe))) Ar108.1 (State.isArrayOf_alike hZ.alike Ar108.2.1) Ar108.2.2 hi108 hv108 (g := (mkF m 232 #[.val (.long qe), .second, .val (.int xw), .val (.int xf), .val (.int (3 : Int32)), .val (.int s0), .val (.ref b1), .val (.int (1 : Int32)), .unset, .unset, .unset] [(.int (5 : Int32)), (.ref b1), (.long (((BC0 qe).toInt64) ||| (((BC1 qe).toInt64) <<< ((8 : Int32) &&& 0x3f).toInt64)))])) rfl rfl (hb hby at_232) _ (XS.i2l X97.here hx rfl (hb hby at_233) rfl (XS.bipush X97.here hx rfl (hb hby at_234) (XS.lshl X97.here hx rfl (hb hby at_236) rfl (XS.lor X97.here hx rfl (hb hby at_237) rfl (XS.aload X97.here hx rfl (hb hby at_238) rfl rfl (XS.iload X97.here hx rfl (hb hby at_240) rfl (XS.iconst X97.here hx rfl (hb hby at_242) (XS.iadd X97.here hx rfl (hb hby at_243) rfl k))))))))) ?_
    show ownEnds _ _ _ _ (T97.setTop (mkF m 244 #[.val (.long qe), .second, .val (.int xw), .val (.int xf), .val (.int (3 : Int32)), .val (.int s0), .val (.ref b1), .val (.int (1 : Int32)), .unset, .unset, .unset] [(.int (6 : Int32)), (.ref b1), (.long ((((BC0 qe).toInt64) ||| (((BC1 qe).toInt64) <<< ((8 : Int32) &&& 0x3f).toInt64)) ||| (((BC2 qe).toInt64) <<< ((16 : Int32) &&& 0x3f).toInt64)))]))
    obtain ⟨cl109, Ar109, q109, S109, N109, H109, G109⟩ := id Vq97
    have hi109 := inb_of (j := (6 : Int32)) S109 ⟨by decide, by decide⟩
    have hv109 : cl109.slots[((6 : Int32)).toNatClampNeg]? = some (.int (BC3 qe)) := H109.at hi109 rfl
    refine ownEnds.law (fun t k => X97.caload hx (j := (6 : Int32)) (v := (.int (BC3 qe))) Ar109.1 (State.isArrayOf_alike hZ.alike Ar109.2.1) Ar109.2.2 hi109 hv109 (g := (mkF m 244 #[.val (.long qe), .second, .val (.int xw), .val (.int xf), .val (.int (3 : Int32)), .val (.int s0), .val (.ref b1), .val (.int (1 : Int32)), .unset, .unset, .unset] [(.int (6 : Int32)), (.ref b1), (.long ((((BC0 qe).toInt64) ||| (((BC1 qe).toInt64) <<< ((8 : Int32) &&& 0x3f).toInt64)) ||| (((BC2 qe).toInt64) <<< ((16 : Int32) &&& 0x3f).toInt64)))])) rfl rfl (hb hby at_244) _ (XS.i2l X97.here hx rfl (hb hby at_245) rfl (XS.bipush X97.here hx rfl (hb hby at_246) (XS.lshl X97.here hx rfl (hb hby at_248) rfl (XS.lor X97.here hx rfl (hb hby at_249) rfl (XS.aload X97.here hx rfl (hb hby at_250) rfl rfl (XS.iload X97.here hx rfl (hb hby at_252) rfl (XS.iconst X97.here hx rfl (hb hby at_254) (XS.iadd X97.here hx rfl (hb hby at_255) rfl k))))))))) ?_
    show ownEnds _ _ _ _ (T97.setTop (mkF m 256 #[.val (.long qe), .second, .val (.int xw), .val (.int xf), .val (.int (3 : Int32)), .val (.int s0), .val (.ref b1), .val (.int (1 : Int32)), .unset, .unset, .unset] [(.int (7 : Int32)), (.ref b1), (.long (((((BC0 qe).toInt64) ||| (((BC1 qe).toInt64) <<< ((8 : Int32) &&& 0x3f).toInt64)) ||| (((BC2 qe).toInt64) <<< ((16 : Int32) &&& 0x3f).toInt64)) ||| (((BC3 qe).toInt64) <<< ((24 : Int32) &&& 0x3f).toInt64)))]))
    obtain ⟨cl110, Ar110, q110, S110, N110, H110, G110⟩ := id Vq97
    have hi110 := inb_of (j := (7 : Int32)) S110 ⟨by decide, by decide⟩
    have hv110 : cl110.slots[((7 : Int32)).toNatClampNeg]? = some (.int (BC4 qe)) := H110.at hi110 rfl
    refine ownEnds.law (fun t k => X97.caload hx (j := (7 : Int32)) (v := (.int (BC4 qe))) Ar110.1 (State.isArrayOf_alike hZ.alike Ar110.2.1) Ar110.2.2 hi110 hv110 (g := (mkF m 256 #[.val (.long qe), .second, .val (.int xw), .val (.int xf), .val (.int (3 : Int32)), .val (.int s0), .val (.ref b1), .val (.int (1 : Int32)), .unset, .unset, .unset] [(.int (7 : Int32)), (.ref b1), (.long (((((BC0 qe).toInt64) ||| (((BC1 qe).toInt64) <<< ((8 : Int32) &&& 0x3f).toInt64)) ||| (((BC2 qe).toInt64) <<< ((16 : Int32) &&& 0x3f).toInt64)) ||| (((BC3 qe).toInt64) <<< ((24 : Int32) &&& 0x3f).toInt64)))])) rfl rfl (hb hby at_256) _ (XS.i2l X97.here hx rfl (hb hby at_257) rfl (XS.bipush X97.here hx rfl (hb hby at_258) (XS.lshl X97.here hx rfl (hb hby at_260) rfl (XS.lor X97.here hx rfl (hb hby at_261) rfl (XS.aload X97.here hx rfl (hb hby at_262) rfl rfl (XS.iload X97.here hx rfl (hb hby at_264) rfl (XS.iconst X97.here hx rfl (hb hby at_266) (XS.iadd X97.here hx rfl (hb hby at_267) rfl k))))))))) ?_
    show ownEnds _ _ _ _ (T97.setTop (mkF m 268 #[.val (.long qe), .second, .val (.int xw), .val (.int xf), .val (.int (3 : Int32)), .val (.int s0), .val (.ref b1), .val (.int (1 : Int32)), .unset, .unset, .unset] [(.int (8 : Int32)), (.ref b1), (.long ((((((BC0 qe).toInt64) ||| (((BC1 qe).toInt64) <<< ((8 : Int32) &&& 0x3f).toInt64)) ||| (((BC2 qe).toInt64) <<< ((16 : Int32) &&& 0x3f).toInt64)) ||| (((BC3 qe).toInt64) <<< ((24 : Int32) &&& 0x3f).toInt64)) ||| (((BC4 qe).toInt64) <<< ((32 : Int32) &&& 0x3f).toInt64)))]))
    obtain ⟨cl111, Ar111, q111, S111, N111, H111, G111⟩ := id Vq97
    have hi111 := inb_of (j := (8 : Int32)) S111 ⟨by decide, by decide⟩
    have hv111 : cl111.slots[((8 : Int32)).toNatClampNeg]? = some (.int (BC5 qe)) := H111.at hi111 rfl
    refine ownEnds.law (fun t k => X97.caload hx (j := (8 : Int32)) (v := (.int (BC5 qe))) Ar111.1 (State.isArrayOf_alike hZ.alike Ar111.2.1) Ar111.2.2 hi111 hv111 (g := (mkF m 268 #[.val (.long qe), .second, .val (.int xw), .val (.int xf), .val (.int (3 : Int32)), .val (.int s0), .val (.ref b1), .val (.int (1 : Int32)), .unset, .unset, .unset] [(.int (8 : Int32)), (.ref b1), (.long ((((((BC0 qe).toInt64) ||| (((BC1 qe).toInt64) <<< ((8 : Int32) &&& 0x3f).toInt64)) ||| (((BC2 qe).toInt64) <<< ((16 : Int32) &&& 0x3f).toInt64)) ||| (((BC3 qe).toInt64) <<< ((24 : Int32) &&& 0x3f).toInt64)) ||| (((BC4 qe).toInt64) <<< ((32 : Int32) &&& 0x3f).toInt64)))])) rfl rfl (hb hby at_268) _ (XS.i2l X97.here hx rfl (hb hby at_269) rfl (XS.bipush X97.here hx rfl (hb hby at_270) (XS.lshl X97.here hx rfl (hb hby at_272) rfl (XS.lor X97.here hx rfl (hb hby at_273) rfl (XS.aload X97.here hx rfl (hb hby at_274) rfl rfl (XS.iload X97.here hx rfl (hb hby at_276) rfl (XS.bipush X97.here hx rfl (hb hby at_278) (XS.iadd X97.here hx rfl (hb hby at_280) rfl k))))))))) ?_
    show ownEnds _ _ _ _ (T97.setTop (mkF m 281 #[.val (.long qe), .second, .val (.int xw), .val (.int xf), .val (.int (3 : Int32)), .val (.int s0), .val (.ref b1), .val (.int (1 : Int32)), .unset, .unset, .unset] [(.int (9 : Int32)), (.ref b1), (.long (((((((BC0 qe).toInt64) ||| (((BC1 qe).toInt64) <<< ((8 : Int32) &&& 0x3f).toInt64)) ||| (((BC2 qe).toInt64) <<< ((16 : Int32) &&& 0x3f).toInt64)) ||| (((BC3 qe).toInt64) <<< ((24 : Int32) &&& 0x3f).toInt64)) ||| (((BC4 qe).toInt64) <<< ((32 : Int32) &&& 0x3f).toInt64)) ||| (((BC5 qe).toInt64) <<< ((40 : Int32) &&& 0x3f).toInt64)))]))
    obtain ⟨cl112, Ar112, q112, S112, N112, H112, G112⟩ := id Vq97
    have hi112 := inb_of (j := (9 : Int32)) S112 ⟨by decide, by decide⟩
    have hv112 : cl112.slots[((9 : Int32)).toNatClampNeg]? = some (.int (BC6 qe)) := H112.at hi112 rfl
    refine ownEnds.law (fun t k => X97.caload hx (j := (9 : Int32)) (v := (.int (BC6 qe))) Ar112.1 (State.isArrayOf_alike hZ.alike Ar112.2.1) Ar112.2.2 hi112 hv112 (g := (mkF m 281 #[.val (.long qe), .second, .val (.int xw), .val (.int xf), .val (.int (3 : Int32)), .val (.int s0), .val (.ref b1), .val (.int (1 : Int32)), .unset, .unset, .unset] [(.int (9 : Int32)), (.ref b1), (.long (((((((BC0 qe).toInt64) ||| (((BC1 qe).toInt64) <<< ((8 : Int32) &&& 0x3f).toInt64)) ||| (((BC2 qe).toInt64) <<< ((16 : Int32) &&& 0x3f).toInt64)) ||| (((BC3 qe).toInt64) <<< ((24 : Int32) &&& 0x3f).toInt64)) ||| (((BC4 qe).toInt64) <<< ((32 : Int32) &&& 0x3f).toInt64)) ||| (((BC5 qe).toInt64) <<< ((40 : Int32) &&& 0x3f).toInt64)))])) rfl rfl (hb hby at_281) _ (XS.i2l X97.here hx rfl (hb hby at_282) rfl (XS.bipush X97.here hx rfl (hb hby at_283) (XS.lshl X97.here hx rfl (hb hby at_285) rfl (XS.lor X97.here hx rfl (hb hby at_286) rfl (XS.aload X97.here hx rfl (hb hby at_287) rfl rfl (XS.iload X97.here hx rfl (hb hby at_289) rfl (XS.bipush X97.here hx rfl (hb hby at_291) (XS.iadd X97.here hx rfl (hb hby at_293) rfl k))))))))) ?_
    show ownEnds _ _ _ _ (T97.setTop (mkF m 294 #[.val (.long qe), .second, .val (.int xw), .val (.int xf), .val (.int (3 : Int32)), .val (.int s0), .val (.ref b1), .val (.int (1 : Int32)), .unset, .unset, .unset] [(.int (10 : Int32)), (.ref b1), (.long ((((((((BC0 qe).toInt64) ||| (((BC1 qe).toInt64) <<< ((8 : Int32) &&& 0x3f).toInt64)) ||| (((BC2 qe).toInt64) <<< ((16 : Int32) &&& 0x3f).toInt64)) ||| (((BC3 qe).toInt64) <<< ((24 : Int32) &&& 0x3f).toInt64)) ||| (((BC4 qe).toInt64) <<< ((32 : Int32) &&& 0x3f).toInt64)) ||| (((BC5 qe).toInt64) <<< ((40 : Int32) &&& 0x3f).toInt64)) ||| (((BC6 qe).toInt64) <<< ((48 : Int32) &&& 0x3f).toInt64)))]))
    obtain ⟨cl113, Ar113, q113, S113, N113, H113, G113⟩ := id Vq97
    have hi113 := inb_of (j := (10 : Int32)) S113 ⟨by decide, by decide⟩
    have hv113 : cl113.slots[((10 : Int32)).toNatClampNeg]? = some (.int (BC7 qe)) := H113.at hi113 rfl
    refine ownEnds.law (fun t k => X97.caload hx (j := (10 : Int32)) (v := (.int (BC7 qe))) Ar113.1 (State.isArrayOf_alike hZ.alike Ar113.2.1) Ar113.2.2 hi113 hv113 (g := (mkF m 294 #[.val (.long qe), .second, .val (.int xw), .val (.int xf), .val (.int (3 : Int32)), .val (.int s0), .val (.ref b1), .val (.int (1 : Int32)), .unset, .unset, .unset] [(.int (10 : Int32)), (.ref b1), (.long ((((((((BC0 qe).toInt64) ||| (((BC1 qe).toInt64) <<< ((8 : Int32) &&& 0x3f).toInt64)) ||| (((BC2 qe).toInt64) <<< ((16 : Int32) &&& 0x3f).toInt64)) ||| (((BC3 qe).toInt64) <<< ((24 : Int32) &&& 0x3f).toInt64)) ||| (((BC4 qe).toInt64) <<< ((32 : Int32) &&& 0x3f).toInt64)) ||| (((BC5 qe).toInt64) <<< ((40 : Int32) &&& 0x3f).toInt64)) ||| (((BC6 qe).toInt64) <<< ((48 : Int32) &&& 0x3f).toInt64)))])) rfl rfl (hb hby at_294) _ (XS.i2l X97.here hx rfl (hb hby at_295) rfl (XS.bipush X97.here hx rfl (hb hby at_296) (XS.lshl X97.here hx rfl (hb hby at_298) rfl (XS.lor X97.here hx rfl (hb hby at_299) rfl k))))) ?_
    show ownEnds _ _ _ _ (T97.setTop (mkF m 300 #[.val (.long qe), .second, .val (.int xw), .val (.int xf), .val (.int (3 : Int32)), .val (.int s0), .val (.ref b1), .val (.int (1 : Int32)), .unset, .unset, .unset] [(.long (((((((((BC0 qe).toInt64) ||| (((BC1 qe).toInt64) <<< ((8 : Int32) &&& 0x3f).toInt64)) ||| (((BC2 qe).toInt64) <<< ((16 : Int32) &&& 0x3f).toInt64)) ||| (((BC3 qe).toInt64) <<< ((24 : Int32) &&& 0x3f).toInt64)) ||| (((BC4 qe).toInt64) <<< ((32 : Int32) &&& 0x3f).toInt64)) ||| (((BC5 qe).toInt64) <<< ((40 : Int32) &&& 0x3f).toInt64)) ||| (((BC6 qe).toInt64) <<< ((48 : Int32) &&& 0x3f).toInt64)) ||| (((BC7 qe).toInt64) <<< ((56 : Int32) &&& 0x3f).toInt64)))]))
    obtain ⟨rr, e_rr⟩ : ∃ z : Int64, z = (((((((((BC0 qe).toInt64) ||| (((BC1 qe).toInt64) <<< ((8 : Int32) &&& 0x3f).toInt64)) ||| (((BC2 qe).toInt64) <<< ((16 : Int32) &&& 0x3f).toInt64)) ||| (((BC3 qe).toInt64) <<< ((24 : Int32) &&& 0x3f).toInt64)) ||| (((BC4 qe).toInt64) <<< ((32 : Int32) &&& 0x3f).toInt64)) ||| (((BC5 qe).toInt64) <<< ((40 : Int32) &&& 0x3f).toInt64)) ||| (((BC6 qe).toInt64) <<< ((48 : Int32) &&& 0x3f).toInt64)) ||| (((BC7 qe).toInt64) <<< ((56 : Int32) &&& 0x3f).toInt64)) := ⟨_, rfl⟩
    rw [← e_rr]
    show ownEnds _ _ _ _ (T97.setTop (mkF m 300 #[.val (.long qe), .second, .val (.int xw), .val (.int xf), .val (.int (3 : Int32)), .val (.int s0), .val (.ref b1), .val (.int (1 : Int32)), .unset, .unset, .unset] [(.long rr)]))
    refine ownEnds.law (fun t k => XS.lstore X97.here hx rfl (hb hby at_300) rfl (l' := #[.val (.long qe), .second, .val (.int xw), .val (.int xf), .val (.int (3 : Int32)), .val (.int s0), .val (.ref b1), .val (.int (1 : Int32)), .val (.long rr), .second, .unset]) rfl (XS.aload X97.here hx rfl (hb hby at_302) rfl rfl (XS.iconst X97.here hx rfl (hb hby at_304) (XS.iload X97.here hx rfl (hb hby at_305) rfl (XS.iload X97.here hx rfl (hb hby at_307) rfl k))))) ?_
    show ownEnds _ _ _ _ (T97.setTop (mkF m 309 #[.val (.long qe), .second, .val (.int xw), .val (.int xf), .val (.int (3 : Int32)), .val (.int s0), .val (.ref b1), .val (.int (1 : Int32)), .val (.long rr), .second, .unset] [(.int s0), (.int (3 : Int32)), (.int (0 : Int32)), (.ref b1)]))
    obtain ⟨v114, T114, L114, X114, hQ114, st114⟩ := ownCallS X97 hx hZ hown (y := (⟨"com/example/seven_bit_codecs/sevenbitcodecs/EightBytesWriteAsCharsPinLaw", "keeps", "([CIIC)Z"⟩ : MethodName)) (as := [(.ref b1), (.int (0 : Int32)), (.int (3 : Int32)), (.int s0)]) (wd_7 hw) (wd_8 hw) (wd_9 hw) (wd_10 hw) (by decide) (rm2 l Z a0 hw b1 (0 : Int32) (3 : Int32) s0 k1 _ T97.heap n0 Z97 Vq97 ⟨by decide, by decide⟩ (fun _ => rfl)) rfl 0 (by decide) (by decide) (by decide) (by decide) (g := (mkF m 309 #[.val (.long qe), .second, .val (.int xw), .val (.int xf), .val (.int (3 : Int32)), .val (.int s0), .val (.ref b1), .val (.int (1 : Int32)), .val (.long rr), .second, .unset] [(.int s0), (.int (3 : Int32)), (.int (0 : Int32)), (.ref b1)])) rfl (by rw [hml]; rfl) (rest := []) pd_1 rfl rfl (by show 2 * 0 + _ ≤ _; exact Nat.le_of_eq rfl) (hb hby at_309)
    obtain ⟨rfl, rfl, e114⟩ := hQ114
    rw [List.append_nil] at X114
    refine ownEnds.law st114 ?_
    show ownEnds _ _ _ _ (T114.setTop (mkF m 312 #[.val (.long qe), .second, .val (.int xw), .val (.int xf), .val (.int (3 : Int32)), .val (.int s0), .val (.ref b1), .val (.int (1 : Int32)), .val (.long rr), .second, .unset] [(.int (1 : Int32))]))
    refine ownEnds.law (fun t => XS.ifNo X114.here hx rfl (hb hby at_312) rfl ((if0 _ _).trans (feq (by decide : ¬ ((1 : Int32) = (0 : Int32)))).1)) ?_
    show ownEnds _ _ _ _ (T114.setTop (mkF m 315 #[.val (.long qe), .second, .val (.int xw), .val (.int xf), .val (.int (3 : Int32)), .val (.int s0), .val (.ref b1), .val (.int (1 : Int32)), .val (.long rr), .second, .unset] []))
    refine ownEnds.law (fun t k => XS.aload X114.here hx rfl (hb hby at_315) rfl rfl (XS.iconst X114.here hx rfl (hb hby at_317) (XS.iload X114.here hx rfl (hb hby at_318) rfl (XS.iload X114.here hx rfl (hb hby at_320) rfl k)))) ?_
    show ownEnds _ _ _ _ (T114.setTop (mkF m 322 #[.val (.long qe), .second, .val (.int xw), .val (.int xf), .val (.int (3 : Int32)), .val (.int s0), .val (.ref b1), .val (.int (1 : Int32)), .val (.long rr), .second, .unset] [(.int s0), (.int (3 : Int32)), (.int (1 : Int32)), (.ref b1)]))
    obtain ⟨v115, T115, L115, X115, hQ115, st115⟩ := ownCallS X114 hx hZ hown (y := (⟨"com/example/seven_bit_codecs/sevenbitcodecs/EightBytesWriteAsCharsPinLaw", "keeps", "([CIIC)Z"⟩ : MethodName)) (as := [(.ref b1), (.int (1 : Int32)), (.int (3 : Int32)), (.int s0)]) (wd_7 hw) (wd_8 hw) (wd_9 hw) (wd_10 hw) (by decide) (rm2 l Z a0 hw b1 (1 : Int32) (3 : Int32) s0 k1 _ T97.heap n0 Z97 Vq97 ⟨by decide, by decide⟩ (fun _ => rfl)) e114 0 (by decide) (by decide) (by decide) (by decide) (g := (mkF m 322 #[.val (.long qe), .second, .val (.int xw), .val (.int xf), .val (.int (3 : Int32)), .val (.int s0), .val (.ref b1), .val (.int (1 : Int32)), .val (.long rr), .second, .unset] [(.int s0), (.int (3 : Int32)), (.int (1 : Int32)), (.ref b1)])) rfl (by rw [hml]; rfl) (rest := []) pd_1 rfl rfl (by show 2 * 0 + _ ≤ _; exact Nat.le_of_eq rfl) (hb hby at_322)
    obtain ⟨rfl, rfl, e115⟩ := hQ115
    rw [List.append_nil] at X115
    refine ownEnds.law st115 ?_
    show ownEnds _ _ _ _ (T115.setTop (mkF m 325 #[.val (.long qe), .second, .val (.int xw), .val (.int xf), .val (.int (3 : Int32)), .val (.int s0), .val (.ref b1), .val (.int (1 : Int32)), .val (.long rr), .second, .unset] [(.int (1 : Int32))]))
    refine ownEnds.law (fun t => XS.ifNo X115.here hx rfl (hb hby at_325) rfl ((if0 _ _).trans (feq (by decide : ¬ ((1 : Int32) = (0 : Int32)))).1)) ?_
    show ownEnds _ _ _ _ (T115.setTop (mkF m 328 #[.val (.long qe), .second, .val (.int xw), .val (.int xf), .val (.int (3 : Int32)), .val (.int s0), .val (.ref b1), .val (.int (1 : Int32)), .val (.long rr), .second, .unset] []))
    refine ownEnds.law (fun t k => XS.aload X115.here hx rfl (hb hby at_328) rfl rfl (XS.iconst X115.here hx rfl (hb hby at_330) (XS.iload X115.here hx rfl (hb hby at_331) rfl (XS.iload X115.here hx rfl (hb hby at_333) rfl k)))) ?_
    show ownEnds _ _ _ _ (T115.setTop (mkF m 335 #[.val (.long qe), .second, .val (.int xw), .val (.int xf), .val (.int (3 : Int32)), .val (.int s0), .val (.ref b1), .val (.int (1 : Int32)), .val (.long rr), .second, .unset] [(.int s0), (.int (3 : Int32)), (.int (2 : Int32)), (.ref b1)]))
    obtain ⟨v116, T116, L116, X116, hQ116, st116⟩ := ownCallS X115 hx hZ hown (y := (⟨"com/example/seven_bit_codecs/sevenbitcodecs/EightBytesWriteAsCharsPinLaw", "keeps", "([CIIC)Z"⟩ : MethodName)) (as := [(.ref b1), (.int (2 : Int32)), (.int (3 : Int32)), (.int s0)]) (wd_7 hw) (wd_8 hw) (wd_9 hw) (wd_10 hw) (by decide) (rm2 l Z a0 hw b1 (2 : Int32) (3 : Int32) s0 k1 _ T97.heap n0 Z97 Vq97 ⟨by decide, by decide⟩ (fun _ => rfl)) e115 0 (by decide) (by decide) (by decide) (by decide) (g := (mkF m 335 #[.val (.long qe), .second, .val (.int xw), .val (.int xf), .val (.int (3 : Int32)), .val (.int s0), .val (.ref b1), .val (.int (1 : Int32)), .val (.long rr), .second, .unset] [(.int s0), (.int (3 : Int32)), (.int (2 : Int32)), (.ref b1)])) rfl (by rw [hml]; rfl) (rest := []) pd_1 rfl rfl (by show 2 * 0 + _ ≤ _; exact Nat.le_of_eq rfl) (hb hby at_335)
    obtain ⟨rfl, rfl, e116⟩ := hQ116
    rw [List.append_nil] at X116
    refine ownEnds.law st116 ?_
    show ownEnds _ _ _ _ (T116.setTop (mkF m 338 #[.val (.long qe), .second, .val (.int xw), .val (.int xf), .val (.int (3 : Int32)), .val (.int s0), .val (.ref b1), .val (.int (1 : Int32)), .val (.long rr), .second, .unset] [(.int (1 : Int32))]))
    refine ownEnds.law (fun t => XS.ifNo X116.here hx rfl (hb hby at_338) rfl ((if0 _ _).trans (feq (by decide : ¬ ((1 : Int32) = (0 : Int32)))).1)) ?_
    show ownEnds _ _ _ _ (T116.setTop (mkF m 341 #[.val (.long qe), .second, .val (.int xw), .val (.int xf), .val (.int (3 : Int32)), .val (.int s0), .val (.ref b1), .val (.int (1 : Int32)), .val (.long rr), .second, .unset] []))
    refine ownEnds.law (fun t k => XS.aload X116.here hx rfl (hb hby at_341) rfl rfl (XS.iconst X116.here hx rfl (hb hby at_343) (XS.iload X116.here hx rfl (hb hby at_344) rfl (XS.iload X116.here hx rfl (hb hby at_346) rfl k)))) ?_
    show ownEnds _ _ _ _ (T116.setTop (mkF m 348 #[.val (.long qe), .second, .val (.int xw), .val (.int xf), .val (.int (3 : Int32)), .val (.int s0), .val (.ref b1), .val (.int (1 : Int32)), .val (.long rr), .second, .unset] [(.int s0), (.int (3 : Int32)), (.int (3 : Int32)), (.ref b1)]))
    obtain ⟨v117, T117, L117, X117, hQ117, st117⟩ := ownCallS X116 hx hZ hown (y := (⟨"com/example/seven_bit_codecs/sevenbitcodecs/EightBytesWriteAsCharsPinLaw", "keeps", "([CIIC)Z"⟩ : MethodName)) (as := [(.ref b1), (.int (3 : Int32)), (.int (3 : Int32)), (.int s0)]) (wd_7 hw) (wd_8 hw) (wd_9 hw) (wd_10 hw) (by decide) (rm2 l Z a0 hw b1 (3 : Int32) (3 : Int32) s0 k1 _ T97.heap n0 Z97 Vq97 ⟨by decide, by decide⟩ (fun h => absurd h (by decide))) e116 0 (by decide) (by decide) (by decide) (by decide) (g := (mkF m 348 #[.val (.long qe), .second, .val (.int xw), .val (.int xf), .val (.int (3 : Int32)), .val (.int s0), .val (.ref b1), .val (.int (1 : Int32)), .val (.long rr), .second, .unset] [(.int s0), (.int (3 : Int32)), (.int (3 : Int32)), (.ref b1)])) rfl (by rw [hml]; rfl) (rest := []) pd_1 rfl rfl (by show 2 * 0 + _ ≤ _; exact Nat.le_of_eq rfl) (hb hby at_348)
    obtain ⟨rfl, rfl, e117⟩ := hQ117
    rw [List.append_nil] at X117
    refine ownEnds.law st117 ?_
    show ownEnds _ _ _ _ (T117.setTop (mkF m 351 #[.val (.long qe), .second, .val (.int xw), .val (.int xf), .val (.int (3 : Int32)), .val (.int s0), .val (.ref b1), .val (.int (1 : Int32)), .val (.long rr), .second, .unset] [(.int (1 : Int32))]))
    refine ownEnds.law (fun t => XS.ifNo X117.here hx rfl (hb hby at_351) rfl ((if0 _ _).trans (feq (by decide : ¬ ((1 : Int32) = (0 : Int32)))).1)) ?_
    show ownEnds _ _ _ _ (T117.setTop (mkF m 354 #[.val (.long qe), .second, .val (.int xw), .val (.int xf), .val (.int (3 : Int32)), .val (.int s0), .val (.ref b1), .val (.int (1 : Int32)), .val (.long rr), .second, .unset] []))
    refine ownEnds.law (fun t k => XS.aload X117.here hx rfl (hb hby at_354) rfl rfl (XS.iconst X117.here hx rfl (hb hby at_356) (XS.iload X117.here hx rfl (hb hby at_357) rfl (XS.iload X117.here hx rfl (hb hby at_359) rfl k)))) ?_
    show ownEnds _ _ _ _ (T117.setTop (mkF m 361 #[.val (.long qe), .second, .val (.int xw), .val (.int xf), .val (.int (3 : Int32)), .val (.int s0), .val (.ref b1), .val (.int (1 : Int32)), .val (.long rr), .second, .unset] [(.int s0), (.int (3 : Int32)), (.int (4 : Int32)), (.ref b1)]))
    obtain ⟨v118, T118, L118, X118, hQ118, st118⟩ := ownCallS X117 hx hZ hown (y := (⟨"com/example/seven_bit_codecs/sevenbitcodecs/EightBytesWriteAsCharsPinLaw", "keeps", "([CIIC)Z"⟩ : MethodName)) (as := [(.ref b1), (.int (4 : Int32)), (.int (3 : Int32)), (.int s0)]) (wd_7 hw) (wd_8 hw) (wd_9 hw) (wd_10 hw) (by decide) (rm2 l Z a0 hw b1 (4 : Int32) (3 : Int32) s0 k1 _ T97.heap n0 Z97 Vq97 ⟨by decide, by decide⟩ (fun h => absurd h (by decide))) e117 0 (by decide) (by decide) (by decide) (by decide) (g := (mkF m 361 #[.val (.long qe), .second, .val (.int xw), .val (.int xf), .val (.int (3 : Int32)), .val (.int s0), .val (.ref b1), .val (.int (1 : Int32)), .val (.long rr), .second, .unset] [(.int s0), (.int (3 : Int32)), (.int (4 : Int32)), (.ref b1)])) rfl (by rw [hml]; rfl) (rest := []) pd_1 rfl rfl (by show 2 * 0 + _ ≤ _; exact Nat.le_of_eq rfl) (hb hby at_361)
    obtain ⟨rfl, rfl, e118⟩ := hQ118
    rw [List.append_nil] at X118
    refine ownEnds.law st118 ?_
    show ownEnds _ _ _ _ (T118.setTop (mkF m 364 #[.val (.long qe), .second, .val (.int xw), .val (.int xf), .val (.int (3 : Int32)), .val (.int s0), .val (.ref b1), .val (.int (1 : Int32)), .val (.long rr), .second, .unset] [(.int (1 : Int32))]))
    refine ownEnds.law (fun t => XS.ifNo X118.here hx rfl (hb hby at_364) rfl ((if0 _ _).trans (feq (by decide : ¬ ((1 : Int32) = (0 : Int32)))).1)) ?_
    show ownEnds _ _ _ _ (T118.setTop (mkF m 367 #[.val (.long qe), .second, .val (.int xw), .val (.int xf), .val (.int (3 : Int32)), .val (.int s0), .val (.ref b1), .val (.int (1 : Int32)), .val (.long rr), .second, .unset] []))
    refine ownEnds.law (fun t k => XS.aload X118.here hx rfl (hb hby at_367) rfl rfl (XS.iconst X118.here hx rfl (hb hby at_369) (XS.iload X118.here hx rfl (hb hby at_370) rfl (XS.iload X118.here hx rfl (hb hby at_372) rfl k)))) ?_
    show ownEnds _ _ _ _ (T118.setTop (mkF m 374 #[.val (.long qe), .second, .val (.int xw), .val (.int xf), .val (.int (3 : Int32)), .val (.int s0), .val (.ref b1), .val (.int (1 : Int32)), .val (.long rr), .second, .unset] [(.int s0), (.int (3 : Int32)), (.int (5 : Int32)), (.ref b1)]))
    obtain ⟨v119, T119, L119, X119, hQ119, st119⟩ := ownCallS X118 hx hZ hown (y := (⟨"com/example/seven_bit_codecs/sevenbitcodecs/EightBytesWriteAsCharsPinLaw", "keeps", "([CIIC)Z"⟩ : MethodName)) (as := [(.ref b1), (.int (5 : Int32)), (.int (3 : Int32)), (.int s0)]) (wd_7 hw) (wd_8 hw) (wd_9 hw) (wd_10 hw) (by decide) (rm2 l Z a0 hw b1 (5 : Int32) (3 : Int32) s0 k1 _ T97.heap n0 Z97 Vq97 ⟨by decide, by decide⟩ (fun h => absurd h (by decide))) e118 0 (by decide) (by decide) (by decide) (by decide) (g := (mkF m 374 #[.val (.long qe), .second, .val (.int xw), .val (.int xf), .val (.int (3 : Int32)), .val (.int s0), .val (.ref b1), .val (.int (1 : Int32)), .val (.long rr), .second, .unset] [(.int s0), (.int (3 : Int32)), (.int (5 : Int32)), (.ref b1)])) rfl (by rw [hml]; rfl) (rest := []) pd_1 rfl rfl (by show 2 * 0 + _ ≤ _; exact Nat.le_of_eq rfl) (hb hby at_374)
    obtain ⟨rfl, rfl, e119⟩ := hQ119
    rw [List.append_nil] at X119
    refine ownEnds.law st119 ?_
    show ownEnds _ _ _ _ (T119.setTop (mkF m 377 #[.val (.long qe), .second, .val (.int xw), .val (.int xf), .val (.int (3 : Int32)), .val (.int s0), .val (.ref b1), .val (.int (1 : Int32)), .val (.long rr), .second, .unset] [(.int (1 : Int32))]))
    refine ownEnds.law (fun t => XS.ifNo X119.here hx rfl (hb hby at_377) rfl ((if0 _ _).trans (feq (by decide : ¬ ((1 : Int32) = (0 : Int32)))).1)) ?_
    show ownEnds _ _ _ _ (T119.setTop (mkF m 380 #[.val (.long qe), .second, .val (.int xw), .val (.int xf), .val (.int (3 : Int32)), .val (.int s0), .val (.ref b1), .val (.int (1 : Int32)), .val (.long rr), .second, .unset] []))
    refine ownEnds.law (fun t k => XS.aload X119.here hx rfl (hb hby at_380) rfl rfl (XS.bipush X119.here hx rfl (hb hby at_382) (XS.iload X119.here hx rfl (hb hby at_384) rfl (XS.iload X119.here hx rfl (hb hby at_386) rfl k)))) ?_
    show ownEnds _ _ _ _ (T119.setTop (mkF m 388 #[.val (.long qe), .second, .val (.int xw), .val (.int xf), .val (.int (3 : Int32)), .val (.int s0), .val (.ref b1), .val (.int (1 : Int32)), .val (.long rr), .second, .unset] [(.int s0), (.int (3 : Int32)), (.int (6 : Int32)), (.ref b1)]))
    obtain ⟨v120, T120, L120, X120, hQ120, st120⟩ := ownCallS X119 hx hZ hown (y := (⟨"com/example/seven_bit_codecs/sevenbitcodecs/EightBytesWriteAsCharsPinLaw", "keeps", "([CIIC)Z"⟩ : MethodName)) (as := [(.ref b1), (.int (6 : Int32)), (.int (3 : Int32)), (.int s0)]) (wd_7 hw) (wd_8 hw) (wd_9 hw) (wd_10 hw) (by decide) (rm2 l Z a0 hw b1 (6 : Int32) (3 : Int32) s0 k1 _ T97.heap n0 Z97 Vq97 ⟨by decide, by decide⟩ (fun h => absurd h (by decide))) e119 0 (by decide) (by decide) (by decide) (by decide) (g := (mkF m 388 #[.val (.long qe), .second, .val (.int xw), .val (.int xf), .val (.int (3 : Int32)), .val (.int s0), .val (.ref b1), .val (.int (1 : Int32)), .val (.long rr), .second, .unset] [(.int s0), (.int (3 : Int32)), (.int (6 : Int32)), (.ref b1)])) rfl (by rw [hml]; rfl) (rest := []) pd_1 rfl rfl (by show 2 * 0 + _ ≤ _; exact Nat.le_of_eq rfl) (hb hby at_388)
    obtain ⟨rfl, rfl, e120⟩ := hQ120
    rw [List.append_nil] at X120
    refine ownEnds.law st120 ?_
    show ownEnds _ _ _ _ (T120.setTop (mkF m 391 #[.val (.long qe), .second, .val (.int xw), .val (.int xf), .val (.int (3 : Int32)), .val (.int s0), .val (.ref b1), .val (.int (1 : Int32)), .val (.long rr), .second, .unset] [(.int (1 : Int32))]))
    refine ownEnds.law (fun t => XS.ifNo X120.here hx rfl (hb hby at_391) rfl ((if0 _ _).trans (feq (by decide : ¬ ((1 : Int32) = (0 : Int32)))).1)) ?_
    show ownEnds _ _ _ _ (T120.setTop (mkF m 394 #[.val (.long qe), .second, .val (.int xw), .val (.int xf), .val (.int (3 : Int32)), .val (.int s0), .val (.ref b1), .val (.int (1 : Int32)), .val (.long rr), .second, .unset] []))
    refine ownEnds.law (fun t k => XS.aload X120.here hx rfl (hb hby at_394) rfl rfl (XS.bipush X120.here hx rfl (hb hby at_396) (XS.iload X120.here hx rfl (hb hby at_398) rfl (XS.iload X120.here hx rfl (hb hby at_400) rfl k)))) ?_
    show ownEnds _ _ _ _ (T120.setTop (mkF m 402 #[.val (.long qe), .second, .val (.int xw), .val (.int xf), .val (.int (3 : Int32)), .val (.int s0), .val (.ref b1), .val (.int (1 : Int32)), .val (.long rr), .second, .unset] [(.int s0), (.int (3 : Int32)), (.int (7 : Int32)), (.ref b1)]))
    obtain ⟨v121, T121, L121, X121, hQ121, st121⟩ := ownCallS X120 hx hZ hown (y := (⟨"com/example/seven_bit_codecs/sevenbitcodecs/EightBytesWriteAsCharsPinLaw", "keeps", "([CIIC)Z"⟩ : MethodName)) (as := [(.ref b1), (.int (7 : Int32)), (.int (3 : Int32)), (.int s0)]) (wd_7 hw) (wd_8 hw) (wd_9 hw) (wd_10 hw) (by decide) (rm2 l Z a0 hw b1 (7 : Int32) (3 : Int32) s0 k1 _ T97.heap n0 Z97 Vq97 ⟨by decide, by decide⟩ (fun h => absurd h (by decide))) e120 0 (by decide) (by decide) (by decide) (by decide) (g := (mkF m 402 #[.val (.long qe), .second, .val (.int xw), .val (.int xf), .val (.int (3 : Int32)), .val (.int s0), .val (.ref b1), .val (.int (1 : Int32)), .val (.long rr), .second, .unset] [(.int s0), (.int (3 : Int32)), (.int (7 : Int32)), (.ref b1)])) rfl (by rw [hml]; rfl) (rest := []) pd_1 rfl rfl (by show 2 * 0 + _ ≤ _; exact Nat.le_of_eq rfl) (hb hby at_402)
    obtain ⟨rfl, rfl, e121⟩ := hQ121
    rw [List.append_nil] at X121
    refine ownEnds.law st121 ?_
    show ownEnds _ _ _ _ (T121.setTop (mkF m 405 #[.val (.long qe), .second, .val (.int xw), .val (.int xf), .val (.int (3 : Int32)), .val (.int s0), .val (.ref b1), .val (.int (1 : Int32)), .val (.long rr), .second, .unset] [(.int (1 : Int32))]))
    refine ownEnds.law (fun t => XS.ifNo X121.here hx rfl (hb hby at_405) rfl ((if0 _ _).trans (feq (by decide : ¬ ((1 : Int32) = (0 : Int32)))).1)) ?_
    show ownEnds _ _ _ _ (T121.setTop (mkF m 408 #[.val (.long qe), .second, .val (.int xw), .val (.int xf), .val (.int (3 : Int32)), .val (.int s0), .val (.ref b1), .val (.int (1 : Int32)), .val (.long rr), .second, .unset] []))
    refine ownEnds.law (fun t k => XS.aload X121.here hx rfl (hb hby at_408) rfl rfl (XS.bipush X121.here hx rfl (hb hby at_410) (XS.iload X121.here hx rfl (hb hby at_412) rfl (XS.iload X121.here hx rfl (hb hby at_414) rfl k)))) ?_
    show ownEnds _ _ _ _ (T121.setTop (mkF m 416 #[.val (.long qe), .second, .val (.int xw), .val (.int xf), .val (.int (3 : Int32)), .val (.int s0), .val (.ref b1), .val (.int (1 : Int32)), .val (.long rr), .second, .unset] [(.int s0), (.int (3 : Int32)), (.int (8 : Int32)), (.ref b1)]))
    obtain ⟨v122, T122, L122, X122, hQ122, st122⟩ := ownCallS X121 hx hZ hown (y := (⟨"com/example/seven_bit_codecs/sevenbitcodecs/EightBytesWriteAsCharsPinLaw", "keeps", "([CIIC)Z"⟩ : MethodName)) (as := [(.ref b1), (.int (8 : Int32)), (.int (3 : Int32)), (.int s0)]) (wd_7 hw) (wd_8 hw) (wd_9 hw) (wd_10 hw) (by decide) (rm2 l Z a0 hw b1 (8 : Int32) (3 : Int32) s0 k1 _ T97.heap n0 Z97 Vq97 ⟨by decide, by decide⟩ (fun h => absurd h (by decide))) e121 0 (by decide) (by decide) (by decide) (by decide) (g := (mkF m 416 #[.val (.long qe), .second, .val (.int xw), .val (.int xf), .val (.int (3 : Int32)), .val (.int s0), .val (.ref b1), .val (.int (1 : Int32)), .val (.long rr), .second, .unset] [(.int s0), (.int (3 : Int32)), (.int (8 : Int32)), (.ref b1)])) rfl (by rw [hml]; rfl) (rest := []) pd_1 rfl rfl (by show 2 * 0 + _ ≤ _; exact Nat.le_of_eq rfl) (hb hby at_416)
    obtain ⟨rfl, rfl, e122⟩ := hQ122
    rw [List.append_nil] at X122
    refine ownEnds.law st122 ?_
    show ownEnds _ _ _ _ (T122.setTop (mkF m 419 #[.val (.long qe), .second, .val (.int xw), .val (.int xf), .val (.int (3 : Int32)), .val (.int s0), .val (.ref b1), .val (.int (1 : Int32)), .val (.long rr), .second, .unset] [(.int (1 : Int32))]))
    refine ownEnds.law (fun t => XS.ifNo X122.here hx rfl (hb hby at_419) rfl ((if0 _ _).trans (feq (by decide : ¬ ((1 : Int32) = (0 : Int32)))).1)) ?_
    show ownEnds _ _ _ _ (T122.setTop (mkF m 422 #[.val (.long qe), .second, .val (.int xw), .val (.int xf), .val (.int (3 : Int32)), .val (.int s0), .val (.ref b1), .val (.int (1 : Int32)), .val (.long rr), .second, .unset] []))
    refine ownEnds.law (fun t k => XS.aload X122.here hx rfl (hb hby at_422) rfl rfl (XS.bipush X122.here hx rfl (hb hby at_424) (XS.iload X122.here hx rfl (hb hby at_426) rfl (XS.iload X122.here hx rfl (hb hby at_428) rfl k)))) ?_
    show ownEnds _ _ _ _ (T122.setTop (mkF m 430 #[.val (.long qe), .second, .val (.int xw), .val (.int xf), .val (.int (3 : Int32)), .val (.int s0), .val (.ref b1), .val (.int (1 : Int32)), .val (.long rr), .second, .unset] [(.int s0), (.int (3 : Int32)), (.int (9 : Int32)), (.ref b1)]))
    obtain ⟨v123, T123, L123, X123, hQ123, st123⟩ := ownCallS X122 hx hZ hown (y := (⟨"com/example/seven_bit_codecs/sevenbitcodecs/EightBytesWriteAsCharsPinLaw", "keeps", "([CIIC)Z"⟩ : MethodName)) (as := [(.ref b1), (.int (9 : Int32)), (.int (3 : Int32)), (.int s0)]) (wd_7 hw) (wd_8 hw) (wd_9 hw) (wd_10 hw) (by decide) (rm2 l Z a0 hw b1 (9 : Int32) (3 : Int32) s0 k1 _ T97.heap n0 Z97 Vq97 ⟨by decide, by decide⟩ (fun h => absurd h (by decide))) e122 0 (by decide) (by decide) (by decide) (by decide) (g := (mkF m 430 #[.val (.long qe), .second, .val (.int xw), .val (.int xf), .val (.int (3 : Int32)), .val (.int s0), .val (.ref b1), .val (.int (1 : Int32)), .val (.long rr), .second, .unset] [(.int s0), (.int (3 : Int32)), (.int (9 : Int32)), (.ref b1)])) rfl (by rw [hml]; rfl) (rest := []) pd_1 rfl rfl (by show 2 * 0 + _ ≤ _; exact Nat.le_of_eq rfl) (hb hby at_430)
    obtain ⟨rfl, rfl, e123⟩ := hQ123
    rw [List.append_nil] at X123
    refine ownEnds.law st123 ?_
    show ownEnds _ _ _ _ (T123.setTop (mkF m 433 #[.val (.long qe), .second, .val (.int xw), .val (.int xf), .val (.int (3 : Int32)), .val (.int s0), .val (.ref b1), .val (.int (1 : Int32)), .val (.long rr), .second, .unset] [(.int (1 : Int32))]))
    refine ownEnds.law (fun t => XS.ifNo X123.here hx rfl (hb hby at_433) rfl ((if0 _ _).trans (feq (by decide : ¬ ((1 : Int32) = (0 : Int32)))).1)) ?_
    show ownEnds _ _ _ _ (T123.setTop (mkF m 436 #[.val (.long qe), .second, .val (.int xw), .val (.int xf), .val (.int (3 : Int32)), .val (.int s0), .val (.ref b1), .val (.int (1 : Int32)), .val (.long rr), .second, .unset] []))
    refine ownEnds.law (fun t k => XS.aload X123.here hx rfl (hb hby at_436) rfl rfl (XS.bipush X123.here hx rfl (hb hby at_438) (XS.iload X123.here hx rfl (hb hby at_440) rfl (XS.iload X123.here hx rfl (hb hby at_442) rfl k)))) ?_
    show ownEnds _ _ _ _ (T123.setTop (mkF m 444 #[.val (.long qe), .second, .val (.int xw), .val (.int xf), .val (.int (3 : Int32)), .val (.int s0), .val (.ref b1), .val (.int (1 : Int32)), .val (.long rr), .second, .unset] [(.int s0), (.int (3 : Int32)), (.int (10 : Int32)), (.ref b1)]))
    obtain ⟨v124, T124, L124, X124, hQ124, st124⟩ := ownCallS X123 hx hZ hown (y := (⟨"com/example/seven_bit_codecs/sevenbitcodecs/EightBytesWriteAsCharsPinLaw", "keeps", "([CIIC)Z"⟩ : MethodName)) (as := [(.ref b1), (.int (10 : Int32)), (.int (3 : Int32)), (.int s0)]) (wd_7 hw) (wd_8 hw) (wd_9 hw) (wd_10 hw) (by decide) (rm2 l Z a0 hw b1 (10 : Int32) (3 : Int32) s0 k1 _ T97.heap n0 Z97 Vq97 ⟨by decide, by decide⟩ (fun h => absurd h (by decide))) e123 0 (by decide) (by decide) (by decide) (by decide) (g := (mkF m 444 #[.val (.long qe), .second, .val (.int xw), .val (.int xf), .val (.int (3 : Int32)), .val (.int s0), .val (.ref b1), .val (.int (1 : Int32)), .val (.long rr), .second, .unset] [(.int s0), (.int (3 : Int32)), (.int (10 : Int32)), (.ref b1)])) rfl (by rw [hml]; rfl) (rest := []) pd_1 rfl rfl (by show 2 * 0 + _ ≤ _; exact Nat.le_of_eq rfl) (hb hby at_444)
    obtain ⟨rfl, rfl, e124⟩ := hQ124
    rw [List.append_nil] at X124
    refine ownEnds.law st124 ?_
    show ownEnds _ _ _ _ (T124.setTop (mkF m 447 #[.val (.long qe), .second, .val (.int xw), .val (.int xf), .val (.int (3 : Int32)), .val (.int s0), .val (.ref b1), .val (.int (1 : Int32)), .val (.long rr), .second, .unset] [(.int (1 : Int32))]))
    refine ownEnds.law (fun t => XS.ifNo X124.here hx rfl (hb hby at_447) rfl ((if0 _ _).trans (feq (by decide : ¬ ((1 : Int32) = (0 : Int32)))).1)) ?_
    show ownEnds _ _ _ _ (T124.setTop (mkF m 450 #[.val (.long qe), .second, .val (.int xw), .val (.int xf), .val (.int (3 : Int32)), .val (.int s0), .val (.ref b1), .val (.int (1 : Int32)), .val (.long rr), .second, .unset] []))
    refine ownEnds.law (fun t k => XS.iconst X124.here hx rfl (hb hby at_450) (XS.goto X124.here hx rfl (pc0 := 451) (pc' := 455) rfl (hb hby at_451) (by decide) (by decide) (XS.istore X124.here hx rfl (hb hby at_455) rfl (l' := #[.val (.long qe), .second, .val (.int xw), .val (.int xf), .val (.int (3 : Int32)), .val (.int s0), .val (.ref b1), .val (.int (1 : Int32)), .val (.long rr), .second, .val (.int (1 : Int32))]) rfl (XS.iload X124.here hx rfl (hb hby at_457) rfl k)))) ?_
    show ownEnds _ _ _ _ (T124.setTop (mkF m 459 #[.val (.long qe), .second, .val (.int xw), .val (.int xf), .val (.int (3 : Int32)), .val (.int s0), .val (.ref b1), .val (.int (1 : Int32)), .val (.long rr), .second, .val (.int (1 : Int32))] [(.int (1 : Int32))]))
    refine ownEnds.law (fun t => XS.ifNo X124.here hx rfl (hb hby at_459) rfl ((if0 _ _).trans (feq (by decide : ¬ ((1 : Int32) = (0 : Int32)))).1)) ?_
    show ownEnds _ _ _ _ (T124.setTop (mkF m 462 #[.val (.long qe), .second, .val (.int xw), .val (.int xf), .val (.int (3 : Int32)), .val (.int s0), .val (.ref b1), .val (.int (1 : Int32)), .val (.long rr), .second, .val (.int (1 : Int32))] []))
    refine ownEnds.law (fun t k => XS.lload X124.here hx rfl (hb hby at_462) rfl (XS.lloadN X124.here hx rfl (hb hby at_464) rfl (XS.lcmp X124.here hx rfl (hb hby at_465) rfl k))) ?_
    show ownEnds _ _ _ _ (T124.setTop (mkF m 466 #[.val (.long qe), .second, .val (.int xw), .val (.int xf), .val (.int (3 : Int32)), .val (.int s0), .val (.ref b1), .val (.int (1 : Int32)), .val (.long rr), .second, .val (.int (1 : Int32))] [(.int (lcmpW rr qe))]))
    have hc466 : rr = qe := by rw [e_rr]; exact own_r _
    refine ownEnds.law (fun t => XS.ifNo X124.here hx rfl (hb hby at_466) rfl ((if0 _ _).trans (teq ((lw_eq _ _).mpr hc466)).2)) ?_
    show ownEnds _ _ _ _ (T124.setTop (mkF m 469 #[.val (.long qe), .second, .val (.int xw), .val (.int xf), .val (.int (3 : Int32)), .val (.int s0), .val (.ref b1), .val (.int (1 : Int32)), .val (.long rr), .second, .val (.int (1 : Int32))] []))
    refine ownEnds.law (fun t k => XS.iload X124.here hx rfl (hb hby at_469) rfl k) ?_
    show ownEnds _ _ _ _ (T124.setTop (mkF m 471 #[.val (.long qe), .second, .val (.int xw), .val (.int xf), .val (.int (3 : Int32)), .val (.int s0), .val (.ref b1), .val (.int (1 : Int32)), .val (.long rr), .second, .val (.int (1 : Int32))] [(.int (1 : Int32))]))
    refine ownEnds.law (fun t => XS.ifNo X124.here hx rfl (hb hby at_471) rfl ((if0 _ _).trans (feq (by decide : ¬ ((1 : Int32) = (0 : Int32)))).1)) ?_
    show ownEnds _ _ _ _ (T124.setTop (mkF m 474 #[.val (.long qe), .second, .val (.int xw), .val (.int xf), .val (.int (3 : Int32)), .val (.int s0), .val (.ref b1), .val (.int (1 : Int32)), .val (.long rr), .second, .val (.int (1 : Int32))] []))
    refine ownEnds.law (fun t k => XS.iconst X124.here hx rfl (hb hby at_474) (XS.goto X124.here hx rfl (pc0 := 475) (pc' := 479) rfl (hb hby at_475) (by decide) (by decide) k)) ?_
    show ownEnds _ _ _ _ (T124.setTop (mkF m 479 #[.val (.long qe), .second, .val (.int xw), .val (.int xf), .val (.int (3 : Int32)), .val (.int s0), .val (.ref b1), .val (.int (1 : Int32)), .val (.long rr), .second, .val (.int (1 : Int32))] [(.int (1 : Int32))]))
    refine ownRetN X124 hlk hx (t := .boolean) hret (by simp) (hb hby at_479) (by decide) (by decide) ?_
    exact ⟨rfl, N97⟩
set_option maxRecDepth 65536 in
set_option maxHeartbeats 40000000 in
theorem comes_1 {Post : Tables → Env → Array Value → State → Outcome → State → Prop} (hpost : ∀ tb e args s v u, (limb_1_1.after args s (.returned v) u = true ∧ limb_1_2.after args s (.returned v) u = true ∧ True) → FrameEnd s (.returned v) u (Jvm.fieldLocs frame_1_writes args s ++ Jvm.arrayLocs frame_1_arrays args s ++ Jvm.staticLocs frame_1_statics s) 16 128 → Post tb e args s (.returned v) u) :
    ArmFor flags0 classFile x code maxLocals ret World_1 tables_1 room_1 Calls_1 rest_1 Pre_1 Post := by
  intro l hfl _ _ p e ha hc hk s m args below hf hA hF happ hP
  obtain ⟨hcalls, hrest, hpre⟩ := hP
  obtain ⟨-, -, -, hnamed, -, -, -, hat⟩ := (Spec.applies_iff hf).mp happ
  obtain ⟨hg, hn⟩ := and_e (Cond.before_iff.mp (show (Jvm.Cond.and given_1 narrow_1).before args s = true from hpre))
  obtain ⟨gg1, gg2⟩ := and_e hg
  obtain ⟨gg3, gg4⟩ := and_e gg2
  obtain ⟨gg5, gg6⟩ := and_e gg4
  obtain ⟨w0, w1, w2, rfl⟩ : ∃ w0 w1 w2 : Value, args = #[w0, w1, w2] := by
    have hs : args.size = 3 := by simpa [Cond.value, given_1] using gg1
    obtain ⟨L⟩ := args
    match L, hs with
    | [w0, w1, w2], _ => exact ⟨w0, w1, w2, rfl⟩
  have hw := fun d (hd : d ∈ tables_1) => atoms_spec (ws := Jvm.Cond.code x code maxLocals ret :: tables_1) hat d (List.mem_cons_of_mem _ hd)
  have hfit : Fit s := fun {y c} hc i hi => by
    obtain ⟨ha, rfl⟩ := Array.getElem?_eq_some_iff.mp hc
    have q := List.all_eq_true.mp ((Array.all_eq_true_iff_forall_mem.mp hF) _ (Array.getElem_mem ha)) i (List.mem_range.mpr hi)
    simpa [Array.getElem?_eq_getElem hi] using q
  obtain ⟨i0, ei0⟩ := isL_v gg3
  obtain rfl : w0 = (.long i0) := Option.some.inj ei0
  obtain ⟨i1, ei1⟩ := is_v gg5
  obtain rfl : w1 = (.int i1) := Option.some.inj ei1
  obtain ⟨i2, ei2⟩ := is_v gg6
  obtain rfl : w2 = (.int i2) := Option.some.inj ei2
  obtain ⟨n, o, h1, h2, h3, _, L, rfl, ⟨rfl, N⟩, hq⟩ := rm0 l s _ hw i0 i1 i2  s.heap s.heap.size (Nat.le_refl _)  p e ha hc hk s m _ below hf ((Spec.applies_iff_loose hf).mp happ).1 ⟨rfl, State.Warmed39.refl s, rfl⟩ trivial
  refine ⟨n, _, h1, h2, h3, hpost _ _ _ _ _ _ ⟨Cond.after_iff.mpr rfl, Cond.after_iff.mpr (eq_i res_at (Term.int_eval (1)) rfl), trivial⟩ ⟨hq.1, hq.2.1, (hq.2.2.sift fun y hy => Or.inr (N y hy)).mono (by decide) (by decide)⟩⟩
theorem main_1_1 : Claimed_1_1 := comes_1 fun _ _ _ _ _ _ h hF => ⟨h.1, hF⟩
theorem main_1_2 : Claimed_1_2 := comes_1 fun _ _ _ _ _ _ h hF => ⟨h.2.1, hF⟩
end Jvm.Pilot.@@N@@
namespace Jvm.Pilot.@@N@@
open Jvm Jvm.ClassFile Sem Op Lib Jvm.Free Jvm.Stand Jvm.Pilot.@@N@@.Jvm.D
/-! MADE BY PROGRAM (witnessworld.py) out of the Statement's table words and the real class files: 11 classes; the members and pool entries that the words name. The judged class is class 1, her method 1. -/
namespace start1
open Jvm.ClassFile
def u (s : String) : CpInfo := .utf8 (stringToUtf16 s)
/-- a pool by its gaps: so many unusable entries, then the entry; so many at the end -/
def gap : Nat → List CpInfo → List CpInfo
  | 0, r => r
  | n + 1, r => .unusable :: gap n r
def poolList (es : List (Nat × CpInfo)) (last : Nat) : List CpInfo := es.foldr (fun e r => gap e.1 (e.2 :: r)) (gap last [])
def pool (es : List (Nat × CpInfo)) (last : Nat) : Array CpInfo := ⟨poolList es last⟩
def fileOf (pool : Array CpInfo) (this : Nat) (attrs : Array Attribute := #[]) (ms : Array MethodInfo := #[]) (fl : Nat := 33) (sup : Nat := 0) (ifs : Array Nat := #[]) (fds : Array FieldInfo := #[]) : ClassFile where
  minorVersion := 0
  majorVersion := 65
  constantPool := pool
  accessFlags := fl
  thisClass := this
  superClass := sup
  interfaces := ifs
  fields := fds
  methods := ms
  attributes := attrs
def plain (name : String) (sup : Option ClassId) : Class where
  name := name
  kind := .ordinary
  loader := none
  accessFlags := 33
  super := sup
  interfaces := #[]
  cf := none
  fields := #[]
  methods := #[]
  instanceTypes := #[]
  staticTypes := #[]
  resolved := #[]
  callSites := []
  init := .initialized
  statics := none
  mirror := none

def pool0 : Array CpInfo := pool [(5, u "<init>"), (0, u "()V"), (1, .class_ 10), (1, u "java/lang/Object")] 113

def k0m0 : Method := { name := "<init>", desc := "()V", sig := { parameters := [], returnType := none }, accessFlags := 1, code := none }
/-- java/lang/Object -/
def k0 : Class := { plain "java/lang/Object" none with
  accessFlags := 33
  interfaces := #[]
  cf := some (fileOf pool0 8 #[] #[{ accessFlags := 1, nameIndex := 5, descriptorIndex := 6, attributes := #[] }] 33 0 #[] #[])
  fields := #[]
  methods := #[k0m0]
  instanceTypes := #[]
  staticTypes := #[]
  resolved := Array.replicate 124 none
  statics := none }

def pool1 : Array CpInfo := pool [(2, .class_ 4), (1, u "java/lang/Object"), (0, u "<init>"), (0, u "()V"), (0, .integer 2147483647), (0, .methodref 9 10), (0, .class_ 11), (0, .nameAndType 12 13), (0, u "com/example/seven_bit_codecs/sevenbitcodecs/EightBytes"), (0, u "writeAsChars"), (0, u "(J[CI)V"), (0, .methodref 15 16), (0, .class_ 17), (0, .nameAndType 18 19), (0, u "com/example/seven_bit_codecs/sevenbitcodecs/EightBytesWriteAsCharsPinLaw"), (0, u "keeps"), (0, u "([CIIC)Z"), (2, u "law"), (0, u "(JII)Z")] 5

def k1m0 : Method := { name := "<init>", desc := "()V", sig := { parameters := [], returnType := none }, accessFlags := 1, code := none }
def k1c1 : Code := { maxStack := 5, maxLocals := 11, code := code, exceptionTable := #[], attributes := #[] }
def k1m1 : Method := { name := "law", desc := "(JII)Z", sig := { parameters := [.long, .int, .int], returnType := some .boolean }, accessFlags := 9, code := some k1c1 }
def k1c2 : Code := { maxStack := 3, maxLocals := 4, code := method_3_code, exceptionTable := #[], attributes := #[] }
def k1m2 : Method := { name := "keeps", desc := "([CIIC)Z", sig := { parameters := [(.array .char), .int, .int, .char], returnType := some .boolean }, accessFlags := 10, code := some k1c2 }
/-- com/example/seven_bit_codecs/sevenbitcodecs/EightBytesWriteAsCharsPinLaw -/
def k1 : Class := { plain "com/example/seven_bit_codecs/sevenbitcodecs/EightBytesWriteAsCharsPinLaw" (some 0) with
  accessFlags := 49
  interfaces := #[]
  cf := some (fileOf pool1 15 #[] #[{ accessFlags := 1, nameIndex := 5, descriptorIndex := 6, attributes := #[] }, { accessFlags := 9, nameIndex := 22, descriptorIndex := 23, attributes := #[] }, { accessFlags := 10, nameIndex := 18, descriptorIndex := 19, attributes := #[] }] 49 2 #[] #[])
  fields := #[]
  methods := #[k1m0, k1m1, k1m2]
  instanceTypes := #[]
  staticTypes := #[]
  resolved := Array.replicate 29 none
  statics := none }

def pool2 : Array CpInfo := pool [(2, .class_ 4), (1, u "java/lang/Object"), (0, u "<init>"), (0, u "()V"), (1, .class_ 10), (1, u "com/example/seven_bit_codecs/sevenbitcodecs/EightBytes"), (0, u "LONGS"), (0, u "Ljava/lang/invoke/VarHandle;"), (20, .long 255), (15, u "LENGTH"), (0, u "I"), (2, u "HIGH_BITS"), (0, u "J"), (0, u "ONES"), (11, u "writeAsChars"), (0, u "(J[CI)V")] 3

def k2m0 : Method := { name := "<init>", desc := "()V", sig := { parameters := [], returnType := none }, accessFlags := 2, code := none }
def k2c1 : Code := { maxStack := 6, maxLocals := 4, code := prog_8_method_8_code, exceptionTable := #[], attributes := #[] }
def k2m1 : Method := { name := "writeAsChars", desc := "(J[CI)V", sig := { parameters := [.long, (.array .char), .int], returnType := none }, accessFlags := 8, code := some k2c1 }
/-- com/example/seven_bit_codecs/sevenbitcodecs/EightBytes -/
def k2 : Class := { plain "com/example/seven_bit_codecs/sevenbitcodecs/EightBytes" (some 0) with
  accessFlags := 32
  interfaces := #[]
  cf := some (fileOf pool2 8 #[] #[{ accessFlags := 2, nameIndex := 5, descriptorIndex := 6, attributes := #[] }, { accessFlags := 8, nameIndex := 67, descriptorIndex := 68, attributes := #[] }] 32 2 #[] #[{ accessFlags := 24, nameIndex := 49, descriptorIndex := 50, attributes := #[] }, { accessFlags := 26, nameIndex := 53, descriptorIndex := 54, attributes := #[] }, { accessFlags := 26, nameIndex := 55, descriptorIndex := 54, attributes := #[] }, { accessFlags := 26, nameIndex := 11, descriptorIndex := 12, attributes := #[] }])
  fields := #[{ name := "LENGTH", type := .int, accessFlags := 24, slot := 0, constantValue := 0 }, { name := "HIGH_BITS", type := .long, accessFlags := 26, slot := 1, constantValue := 0 }, { name := "ONES", type := .long, accessFlags := 26, slot := 2, constantValue := 0 }, { name := "LONGS", type := (.object "java/lang/invoke/VarHandle"), accessFlags := 26, slot := 3, constantValue := 0 }]
  methods := #[k2m0, k2m1]
  instanceTypes := #[]
  staticTypes := #[.int, .long, .long, (.object "java/lang/invoke/VarHandle")]
  resolved := Array.replicate 72 none
  statics := none }

def pool3 : Array CpInfo := pool [(1, u "java/lang/Cloneable"), (0, .class_ 1), (0, u "java/lang/Object"), (0, .class_ 3)] 3

/-- java/lang/Cloneable -/
def k3 : Class := { plain "java/lang/Cloneable" (some 0) with
  accessFlags := 1537
  interfaces := #[]
  cf := some (fileOf pool3 2 #[] #[] 1537 4 #[] #[])
  fields := #[]
  methods := #[]
  instanceTypes := #[]
  staticTypes := #[]
  resolved := Array.replicate 8 none
  statics := none }

def pool4 : Array CpInfo := pool [(1, u "java/io/Serializable"), (0, .class_ 1), (0, u "java/lang/Object"), (0, .class_ 3)] 3

/-- java/io/Serializable -/
def k4 : Class := { plain "java/io/Serializable" (some 0) with
  accessFlags := 1537
  interfaces := #[]
  cf := some (fileOf pool4 2 #[] #[] 1537 4 #[] #[])
  fields := #[]
  methods := #[]
  instanceTypes := #[]
  staticTypes := #[]
  resolved := Array.replicate 8 none
  statics := none }

/-- the primitive byte -/
def k5 : Class := { plain "byte" none with kind := .primitive 'B', accessFlags := 0x411 }
/-- [B -/
def k6 : Class := { plain "[B" (some 0) with kind := .array 5 .byte, interfaces := #[3, 4], accessFlags := 1041 }

/-- the primitive char -/
def k7 : Class := { plain "char" none with kind := .primitive 'C', accessFlags := 0x411 }
/-- [C -/
def k8 : Class := { plain "[C" (some 0) with kind := .array 7 .char, interfaces := #[3, 4], accessFlags := 1041 }

/-- the primitive int -/
def k9 : Class := { plain "int" none with kind := .primitive 'I', accessFlags := 0x411 }
/-- [I -/
def k10 : Class := { plain "[I" (some 0) with kind := .array 9 .int, interfaces := #[3, 4], accessFlags := 1041 }

def heap : Heap := #[]
def classes : Array Class := #[k0, k1, k2, k3, k4, k5, k6, k7, k8, k9, k10]
def interned : List (Array UInt16 × Addr) := []
def slotsUsed : Nat := 0
def theMethod : MethodId := ⟨1, 1⟩
def args0 : Array Value := #[.long 5, .int 6, .int 7]
def aboutOver (below : List Frame) : State where
  vm := { classes := classes, interned := interned.toArray }
  heap := heap
  slotsUsed := slotsUsed
  threads := #[{ frames := .invoking theMethod args0 :: below }]
def below0 : List Frame := [.native { method := ⟨0, 0⟩, args := #[] }]
def about1 : State := aboutOver below0
def p0 : Program := .bare "" "" ""
def e0 : Env := launch0.env 0 0 0
theorem w_frames : about1.frames = Frame.invoking theMethod args0 :: below0 := rfl
set_option maxRecDepth 65536 in
theorem w_args : argsFit about1.vm theMethod args0 = true := by decide +kernel
set_option maxRecDepth 65536 in
theorem w_heap : heapFits about1 = true := by decide +kernel
set_option maxRecDepth 65536 in
theorem w_runnable : about1.curStatus? = some .runnable := by decide +kernel
set_option maxRecDepth 65536 in
theorem w_alone : about1.alone = true := by decide +kernel
set_option maxRecDepth 65536 in
theorem w_named : about1.methodNamed? x = some theMethod := by decide +kernel
set_option maxRecDepth 65536 in
theorem w_hears : about1.hears theMethod below0 = true := by decide +kernel
set_option maxRecDepth 65536 in
theorem w_ripe : about1.ripe theMethod args0 below0 = true := by decide +kernel
theorem w_running : about1.status = .running := rfl
set_option maxRecDepth 65536 in
theorem w_room : about1.hasRoom e0.platform room_1 = true :=
  launch0.hasRoom_least _ room_1 (by decide +kernel) (by decide +kernel) (by decide +kernel) (by decide +kernel) (by decide +kernel) (by decide +kernel)
theorem allAtoms_all (ts : List Jvm.Cond) (a : Array Jvm.Value) (st : Jvm.State) : (allAtoms ts).before a st = ts.all (fun c => c.before a st) := by
  induction ts with
  | nil => rfl
  | cons c t ih =>
    show (Jvm.Cond.and c (allAtoms t)).before a st = _
    rw [Jvm.Cond.before_and, ih, List.all_cons]
def words1 : List Jvm.Cond := Jvm.Cond.code x code maxLocals ret :: tables_1
/-- a 'code' word, met by the world's own term for the bytes: nothing is compared byte by byte -/
theorem code_word {y : MethodName} {bytes : ByteArray} {mx : Nat} {rt : Option FieldType} {a : Array Value} {s : State} {m : MethodId} {meth : Method} {c : Code} (h1 : s.methodNamed? y = some m) (h2 : s.vm.method? m = some meth) (h3 : meth.code = some c) (h4 : c.code = bytes)
    (h5 : (c.maxLocals == mx && c.exceptionTable.isEmpty && decide (c.maxStack ≤ mostOperands) && decide (meth.sig.returnType = rt) && !meth.locks && decide (parseMethodDescriptor y.desc = some meth.sig)) = true) : (Jvm.Cond.code y bytes mx rt).before a s = true := by
  simp only [Bool.and_eq_true, beq_iff_eq, Bool.not_eq_true', decide_eq_true_eq] at h5
  obtain ⟨⟨⟨⟨⟨g1, g2⟩, g3⟩, g4⟩, g5⟩, g6⟩ := h5
  simp [Cond.before, Cond.holds, Cond.value, h1, h2, h3, h4, g1, g2, g3, g4, g5, g6]
def isCode : Jvm.Cond → Bool
  | .code _ _ _ _ => true
  | _ => false
theorem all_split {L : List Jvm.Cond} {P : Jvm.Cond → Bool} (h1 : L.all (fun c => isCode c || P c) = true) (h2 : ∀ c ∈ L.filter isCode, P c = true) : L.all P = true := by
  refine List.all_eq_true.mpr fun c hc => ?_
  have h := List.all_eq_true.mp h1 c hc
  rcases Bool.eq_false_or_eq_true (isCode c) with hi | hi
  · exact h2 c (List.mem_filter.mpr ⟨hc, hi⟩)
  · simpa [hi] using h
set_option maxRecDepth 65536 in
theorem w_c0 : (Jvm.Cond.code x code maxLocals ret).before args0 about1 = true := code_word (m := ⟨1, 1⟩) (meth := k1m1) (c := k1c1) (by decide +kernel) rfl rfl rfl (by decide +kernel)
set_option maxRecDepth 65536 in
theorem w_c1 : (Jvm.Cond.code ({ cls := "com/example/seven_bit_codecs/sevenbitcodecs/EightBytes", name := "writeAsChars", desc := "(J[CI)V" } : Jvm.MethodName) prog_8_method_8_code (4 : Nat) (Option.none : Option Jvm.ClassFile.FieldType)).before args0 about1 = true := code_word (m := ⟨2, 1⟩) (meth := k2m1) (c := k2c1) (by decide +kernel) rfl rfl rfl (by decide +kernel)
set_option maxRecDepth 65536 in
theorem w_c2 : (Jvm.Cond.code ({ cls := "com/example/seven_bit_codecs/sevenbitcodecs/EightBytesWriteAsCharsPinLaw", name := "keeps", desc := "([CIIC)Z" } : Jvm.MethodName) method_3_code (4 : Nat) (Option.some Jvm.ClassFile.FieldType.boolean)).before args0 about1 = true := code_word (m := ⟨1, 2⟩) (meth := k1m2) (c := k1c2) (by decide +kernel) rfl rfl rfl (by decide +kernel)
def codes1 : List Jvm.Cond := [Jvm.Cond.code x code maxLocals ret, Jvm.Cond.code ({ cls := "com/example/seven_bit_codecs/sevenbitcodecs/EightBytes", name := "writeAsChars", desc := "(J[CI)V" } : Jvm.MethodName) prog_8_method_8_code (4 : Nat) (Option.none : Option Jvm.ClassFile.FieldType), Jvm.Cond.code ({ cls := "com/example/seven_bit_codecs/sevenbitcodecs/EightBytesWriteAsCharsPinLaw", name := "keeps", desc := "([CIIC)Z" } : Jvm.MethodName) method_3_code (4 : Nat) (Option.some Jvm.ClassFile.FieldType.boolean)]
set_option maxRecDepth 65536 in
theorem codes_eq : words1.filter isCode = codes1 := rfl
theorem w_codes : ∀ c ∈ words1.filter isCode, c.before args0 about1 = true := by
  rw [codes_eq]
  intro c hc
  simp only [codes1, List.mem_cons, List.not_mem_nil, or_false] at hc
  rcases hc with rfl | rfl | rfl
  · exact w_c0
  · exact w_c1
  · exact w_c2
set_option maxRecDepth 65536 in
theorem w_t1 : words1.all (fun c => isCode c || c.before args0 about1) = true := by decide +kernel
theorem w_tables : (allAtoms (Jvm.Cond.code x code maxLocals ret :: tables_1)).before args0 about1 = true := by
  rw [allAtoms_all]
  show words1.all (fun c => c.before args0 about1) = true
  refine all_split ?_ w_codes
  rw [w_t1]
set_option maxRecDepth 65536 in
theorem w_case : (Jvm.Cond.and given_1 narrow_1).before args0 about1 = true := by decide +kernel
theorem w_applies : (headSpec (Jvm.Cond.code x code maxLocals ret :: tables_1) room_1).applies x e0.platform about1 = true :=
  (Spec.applies_iff w_frames).mpr ⟨w_running, w_runnable, w_alone, w_named, w_hears, w_ripe, w_room, w_tables⟩
theorem atStart : AtStart classFile x code maxLocals ret World_1 tables_1 room_1 Calls_1 rest_1 Pre_1 launch0 p0 e0 about1 theMethod args0 below0 :=
  ⟨lists_1, trivial, launch0.admits_env _ _ _, launch0.least_env, fairChoices_fair.cas, fairChoices_fair.clock, w_frames, w_args, w_heap, w_applies, trivial, trivial, w_case⟩
end start1
theorem witness_1 : WitnessClaimed_1 := ⟨start1.p0, start1.e0, start1.about1, start1.theMethod, start1.args0, start1.below0, start1.atStart⟩
end Jvm.Pilot.@@N@@
