import JvmDerived
import JvmDerived.Pilot.@@N@@Statement
import JvmDerived.Pilot.@@N@@Code
set_option linter.unusedVariables false
set_option linter.unusedSimpArgs false
namespace Jvm.Pilot.@@N@@
open Jvm Jvm.ClassFile Sem Op Lib Jvm.Free Jvm.Stand Jvm.LawKit Jvm.RoadKit Bundle Jvm.Pilot.@@N@@.Jvm.D
def ownEnds (tb : Tables) (e : Env) (below : List Frame) (Φ : State → Outcome → Prop) (A : State) : Prop :=
  ∃ s₂ o, Steps tb e below A s₂ ∧ s₂.status = .running ∧ Ended s₂ below o ∧ Φ s₂ o
theorem ownEnds.law {tb : Tables} {e : Env} {below : List Frame} {Φ : State → Outcome → Prop} {A B : State} (k : ∀ t, Steps tb e below B t → Steps tb e below A t) (h : ownEnds tb e below Φ B) : ownEnds tb e below Φ A := by
  obtain ⟨s2, o, h1, h2⟩ := h
  exact ⟨s2, o, k _ h1, h2⟩
theorem ownEnds.tr {tb : Tables} {e : Env} {below : List Frame} {Φ : State → Outcome → Prop} {A B : State} (k : Steps tb e below A B) (h : ownEnds tb e below Φ B) : ownEnds tb e below Φ A := by
  obtain ⟨s2, o, h1, h2⟩ := h
  exact ⟨s2, o, k.trans h1, h2⟩
theorem ownEnds.cast {tb : Tables} {e : Env} {below : List Frame} {Φ : State → Outcome → Prop} {T : State} {g g' : JFrame} (q : g = g') (h : ownEnds tb e below Φ (T.setTop g')) : ownEnds tb e below Φ (T.setTop g) := q ▸ h
def ownPost (s : State) (Q : Option Value → Heap → List Loc → Prop) (C S : Nat) : State → Outcome → Prop := fun U o => ∃ v L, o = .returned v ∧ Q v U.heap L ∧ FrameEnd s o U L C S
abbrev ownMet (l : Launch) (Z : State) (y : MethodName) (bytes : ByteArray) (maxL : Nat) (rt : Option FieldType) (ws : List Jvm.Cond) (rm : Room) (as : Array Value) (h0 : Heap) (Q : Option Value → Heap → List Loc → Prop) : Prop :=
  MetFree l y (head1 (Jvm.Cond.code y bytes maxL rt :: ws) rm) (fun a U => a = as ∧ Z.Warmed39 U.vm ∧ U.heap = h0) (fun _ _ _ _ _ => True) (fun _ U o U' => ∃ v L, o = .returned v ∧ Q v U'.heap L ∧ FrameEnd U o U' L rm.cells rm.slots)
theorem ownMet.of {l : Launch} {Z : State} {y : MethodName} {bytes : ByteArray} {maxL : Nat} {rt : Option FieldType} {ws : List Jvm.Cond} {rm : Room} {as : Array Value} {h0 : Heap} {Q : Option Value → Heap → List Loc → Prop} (hpl : plainFor y = true)
    (body : ∀ (p : Program) (e : Env) (s : State) (m : MethodId) (below : List Frame) (meth : Method) (c : Code) (T0 : State), p.tables.exec = Jvm.exec → c.code = bytes → c.maxLocals = maxL → Z.Warmed39 s.vm → s.vm.findClass y.cls = some m.cls → meth.name = y.name → meth.sig.returnType = rt → meth.locks = false →
      Stand p l e rm s m as below meth c T0 [] 0 0 → T0.heap = h0 → ownEnds p.tables e below (ownPost s Q rm.cells rm.slots) (T0.setTop (entryFrame m as maxL))) : ownMet l Z y bytes maxL rt ws rm as h0 Q := by
  refine MetFree.of_bodySF hpl hisR ?_
  intro p e s m args below meth c s₁ Bd hml0 hP hK
  obtain ⟨rfl, hZ, hh⟩ := hP
  exact body p e s m below meth c s₁ Bd.exec Bd.bytes hml0 hZ (findClass_of_methodNamed Bd.named) (name_of_methodNamed Bd.named Bd.method).1 Bd.returns Bd.notSynchronized (Stand.of_body Bd) (by rw [← hh, Bd.state]; rfl)
theorem ownEqV {args : Array Value} {first s : State} {o : Option Outcome} {idx : List Nat} {a b : Term} {v : Value} (h : (Cond.eq a b).value args first o s idx = some true) (hb : b.eval args first o idx s = some v) : a.eval args first o idx s = some v := by
  simp only [Cond.value, hb] at h
  cases ha : a.eval args first o idx s with
  | none => simp [ha] at h
  | some x => cases x <;> cases v <;> simp_all
theorem ownFieldAt {args : Array Value} {first s : State} {o : Option Outcome} {idx : List Nat} {t : Term} {a : Addr} {C n d : String} (ev : t.eval args first o idx s = some (.ref a)) : (Term.field t C n d).eval args first o idx s = s.fieldOf? a C n d := by
  simp [Term.eval, ev]
theorem ownLen {s : State} {args : Array Value} {t : Term} {a : Addr} {cl : Cell} {ty : FieldType} {z : Int32} (ev : t.eval args s none [] s = some (.ref a)) (A : Arr s s.heap a cl ty) (h : (Term.length t).eval args s none [] s = some (.int z)) : cl.slots.size < 2 ^ 31 ∧ cl.slots.size.toInt32 = z := by
  have q := A.fin (Vm.Alike.refl _)
  simp only [Term.eval, ev, q, Option.bind_eq_bind, Option.bind_some, Option.pure_def] at h
  split at h
  · rename_i hs
    exact ⟨hs, by simpa using h⟩
  · cases h
theorem ownEl {s : State} {args : Array Value} {t i : Term} {a : Addr} {cl : Cell} {ty : FieldType} {j : Int32} {v : Value} (ev : t.eval args s none [] s = some (.ref a)) (A : Arr s s.heap a cl ty) (ej : i.eval args s none [] s = some (.int j)) (h : (Term.elem t i).eval args s none [] s = some v) : cl.slots[j.toNatClampNeg]? = some v := by
  have q := A.fin (Vm.Alike.refl _)
  simp only [Term.eval, ev, ej, q, Option.bind_eq_bind, Option.bind_some] at h
  split at h
  · cases h
  · exact h
section OwnKit
variable {p : Program} {l : Launch} {e : Env} {R : Room} {s : State} {m : MethodId} {args : Array Value} {below : List Frame} {meth : Method} {c : Code} {T : State} {locs : List Loc} {cells slots : Nat} {Z : State} {a0 : Array Value} {h : Heap}
theorem ownRet (X : Stand p l e R s m args below meth c T locs cells slots) (hlk : meth.locks = false) {v : Option Value} (hv : meth.sig.returnType = none → v = none) {g : JFrame} {Q : Option Value → Heap → List Loc → Prop} {C S : Nat}
    (hst : ∀ fs, (∀ (f : JFrame) (acts : List Action), f.method = m → f.locked = none → f.entered = [] → (doReturn e (T.setTop f) acts v).1 = T.setFrames fs) → Steps p.tables e below (T.setTop g) (T.setFrames fs))
    (hc : cells ≤ C) (hs : slots ≤ S) (hQ : Q v T.heap locs) : ownEnds p.tables e below (ownPost s Q C S) (T.setTop g) := by
  obtain ⟨fs, hr, hrun, hended, hW, hsame⟩ := X.leave (v := v) hv hlk
  exact ⟨_, _, hst fs hr, hrun, hended, v, locs, rfl, hQ, ⟨_, rfl⟩, hW, hsame.mono hc hs⟩
theorem ownRetN (X : Stand p l e R s m args below meth c T locs cells slots) (hlk : meth.locks = false) (hx : p.tables.exec = Jvm.exec) {pc : Nat} {Ls : Array Slot} {z : Int32} {t : FieldType} {rest : List Value} (hret : meth.sig.returnType = some t) (ht : t = .boolean ∨ t = .byte ∨ t = .char ∨ t = .short)
    (hd : decode c.code pc = .ok (.ireturn, 1)) {Q : Option Value → Heap → List Loc → Prop} {C S : Nat} (hc : cells ≤ C) (hs : slots ≤ S) (hQ : Q (some (.int (nar t z))) T.heap locs) : ownEnds p.tables e below (ownPost s Q C S) (T.setTop (mkF m pc Ls (.int z :: rest))) :=
  ownRet X hlk (fun h => by rw [hret] at h; cases h) (fun fs hr => retN X hx hret ht hd hr) hc hs hQ
theorem ownRetI (X : Stand p l e R s m args below meth c T locs cells slots) (hlk : meth.locks = false) (hx : p.tables.exec = Jvm.exec) {pc : Nat} {Ls : Array Slot} {z : Int32} {rest : List Value} (hret : meth.sig.returnType = some .int)
    (hd : decode c.code pc = .ok (.ireturn, 1)) {Q : Option Value → Heap → List Loc → Prop} {C S : Nat} (hc : cells ≤ C) (hs : slots ≤ S) (hQ : Q (some (.int z)) T.heap locs) : ownEnds p.tables e below (ownPost s Q C S) (T.setTop (mkF m pc Ls (.int z :: rest))) :=
  ownRet X hlk (fun h => by rw [hret] at h; cases h) (fun fs hr => retOut X hx hret rfl (Or.inl ⟨rfl, Or.inl rfl, z, rfl⟩) hd hr) hc hs hQ
theorem ownRetL (X : Stand p l e R s m args below meth c T locs cells slots) (hlk : meth.locks = false) (hx : p.tables.exec = Jvm.exec) {pc : Nat} {Ls : Array Slot} {z : Int64} {rest : List Value} (hret : meth.sig.returnType = some .long)
    (hd : decode c.code pc = .ok (.lreturn, 1)) {Q : Option Value → Heap → List Loc → Prop} {C S : Nat} (hc : cells ≤ C) (hs : slots ≤ S) (hQ : Q (some (.long z)) T.heap locs) : ownEnds p.tables e below (ownPost s Q C S) (T.setTop (mkF m pc Ls (.long z :: rest))) :=
  ownRet X hlk (fun h => by rw [hret] at h; cases h) (fun fs hr => retOut X hx hret rfl (Or.inr (Or.inl ⟨rfl, rfl, z, rfl⟩)) hd hr) hc hs hQ
theorem ownRetA (X : Stand p l e R s m args below meth c T locs cells slots) (hlk : meth.locks = false) (hx : p.tables.exec = Jvm.exec) {pc : Nat} {Ls : Array Slot} {w : Value} {t : FieldType} {rest : List Value} (hret : meth.sig.returnType = some t) (ht : t.isReference = true) (hw : w.isRef = true)
    (hd : decode c.code pc = .ok (.areturn, 1)) {Q : Option Value → Heap → List Loc → Prop} {C S : Nat} (hc : cells ≤ C) (hs : slots ≤ S) (hQ : Q (some w) T.heap locs) : ownEnds p.tables e below (ownPost s Q C S) (T.setTop (mkF m pc Ls (w :: rest))) :=
  ownRet X hlk (fun h => by rw [hret] at h; cases h) (fun fs hr => retOut X hx hret (by rcases ref_cases hw with rfl | ⟨a, rfl⟩ <;> cases t <;> first | rfl | (simp [FieldType.isReference] at ht)) (Or.inr (Or.inr (Or.inr (Or.inr ⟨rfl, ht, hw⟩)))) hd hr) hc hs hQ
theorem ownRetV (X : Stand p l e R s m args below meth c T locs cells slots) (hlk : meth.locks = false) (hx : p.tables.exec = Jvm.exec) {pc : Nat} {Ls : Array Slot} (hret : meth.sig.returnType = none)
    (hd : decode c.code pc = .ok (.return_, 1)) {Q : Option Value → Heap → List Loc → Prop} {C S : Nat} (hc : cells ≤ C) (hs : slots ≤ S) (hQ : Q none T.heap locs) : ownEnds p.tables e below (ownPost s Q C S) (T.setTop (mkF m pc Ls [])) :=
  ownRet X hlk (fun _ => rfl) (fun fs hr => X.returnOut hx hret hd hr) hc hs hQ
theorem ownCallS (X : Stand p l e R s m args below meth c T locs cells slots) (hx : p.tables.exec = Jvm.exec) (hZ : Z.Warmed39 s.vm) {own : String} {index : Nat} (hown : s.vm.findClass own = some m.cls) {y : MethodName} {bytes : ByteArray} {maxL : Nat} {rt : Option FieldType} {rm : Room} {as : List Value} {Q : Option Value → Heap → List Loc → Prop}
    (w1 : (Cond.methodLink own index y).before a0 Z = true) (w2 : (Cond.static y).before a0 Z = true) (w3 : (Cond.initialized y.cls).before a0 Z = true) (w4 : (Cond.code y bytes maxL rt).before a0 Z = true) (hy : y.cls ≠ "java/lang/invoke/MethodHandle" ∧ y.cls ≠ "java/lang/invoke/VarHandle")
    (hM : ownMet l Z y bytes maxL rt [] rm as.toArray h Q) (eT : T.heap = h) (W : Nat) (hf : rm.frames + 1 ≤ R.frames) (hl : W + (maxL + 11) + rm.locals ≤ R.locals) (hc : cells + rm.cells ≤ R.cells) (hs : slots + rm.slots ≤ R.slots)
    {g : JFrame} (hg : g.method = m) (hsize : g.locals.size = c.maxLocals) {rest : List Value} {ps : List FieldType} {r : Option FieldType} (hd : parseMethodDescriptor y.desc = some ⟨ps, r⟩) (hlen : as.length = ps.length) (hstack : g.stack = as.reverse ++ rest) (hW : 2 * g.monitorRoom + (rest.map fun v => v.category).sum ≤ W)
    (hdg : decode c.code g.pc = .ok (.invokestatic index, 3)) :
    ∃ v T' L, Stand p l e R s m args below meth c T' (locs ++ L) (cells + rm.cells) (slots + rm.slots) ∧ Q v T'.heap L ∧ ∀ t, Steps p.tables e below (T'.setTop { g with pc := g.pc + 3, stack := v.toList ++ rest }) t → Steps p.tables e below (T.setTop g) t := by
  obtain ⟨v, _, ⟨T1, L1, k1, n1⟩, -, X1, ⟨Lc, hQ, l1, y1, z1⟩, st⟩ := Jvm.LawKit.callS X hx (y := y) hown (mvT hZ w1) (mvT hZ w2) (mvT hZ w3) (mvT hZ w4) hy (backOf (W := W) hM hZ w4 w3 hf hl) hg hsize (argsL := as) (rest := rest) (lenOf hd hlen) hstack hW hdg (fun _ _ => ⟨rfl, eT, hc, hs⟩)
  dsimp only [Pt.U, Pt.locs, Pt.cells, Pt.slots] at X1 l1 y1 z1 st hQ
  subst l1 y1 z1
  exact ⟨v, T1, Lc, X1, hQ, st⟩
theorem ownCallC (X : Stand p l e R s m args below meth c T locs cells slots) (hx : p.tables.exec = Jvm.exec) (hZ : Z.Warmed39 s.vm) {own : String} {index : Nat} (hown : s.vm.findClass own = some m.cls) {y : MethodName} (hy1 : y.name = "<init>") {bytes : ByteArray} {maxL : Nat} {rm : Room} {a : Addr} {as : List Value} {Q : Option Value → Heap → List Loc → Prop}
    (w1 : (Cond.methodLink own index y).before a0 Z = true) (w2 : (Cond.instanceMethod y).before a0 Z = true) (w3 : (Cond.initialized y.cls).before a0 Z = true) (w4 : (Cond.code y bytes maxL none).before a0 Z = true) (hy : y.cls ≠ "java/lang/invoke/MethodHandle" ∧ y.cls ≠ "java/lang/invoke/VarHandle")
    (hM : ownMet l Z y bytes maxL none [] rm (.ref a :: as).toArray h Q) (eT : T.heap = h) (W : Nat) (hf : rm.frames + 1 ≤ R.frames) (hl : W + (maxL + 11) + rm.locals ≤ R.locals) (hc : cells + rm.cells ≤ R.cells) (hs : slots + rm.slots ≤ R.slots)
    {g : JFrame} (hg : g.method = m) (hsize : g.locals.size = c.maxLocals) {rest : List Value} {ps : List FieldType} {r : Option FieldType} (hd : parseMethodDescriptor y.desc = some ⟨ps, r⟩) (hlen : as.length = ps.length) (hstack : g.stack = as.reverse ++ .ref a :: rest) (hW : 2 * g.monitorRoom + (rest.map fun v => v.category).sum ≤ W)
    (hdg : decode c.code g.pc = .ok (.invokespecial index, 3)) :
    ∃ v T' L, Stand p l e R s m args below meth c T' (locs ++ L) (cells + rm.cells) (slots + rm.slots) ∧ Q v T'.heap L ∧ ∀ t, Steps p.tables e below (T'.setTop { g with pc := g.pc + 3, stack := v.toList ++ rest }) t → Steps p.tables e below (T.setTop g) t := by
  obtain ⟨v, _, ⟨T1, L1, k1, n1⟩, -, X1, ⟨Lc, hQ, l1, y1, z1⟩, st⟩ := X.specialBack hx (y := y) hy1 hown (mvT hZ w1) (mvT hZ w2) (mvT hZ w4) hy (backOf (W := W) hM hZ w4 w3 hf hl) hg hsize (Steps.refl _) (a := a) (argsL := as) (rest := rest) (lenOf hd hlen) hstack hW hdg (fun _ _ => ⟨rfl, eT, hc, hs⟩)
  dsimp only [Pt.U, Pt.locs, Pt.cells, Pt.slots] at X1 l1 y1 z1 st hQ
  subst l1 y1 z1
  exact ⟨v, T1, Lc, X1, hQ, fun t k => st.trans k⟩
theorem ownCallV (X : Stand p l e R s m args below meth c T locs cells slots) (hx : p.tables.exec = Jvm.exec) (hZ : Z.Warmed39 s.vm) {own C : String} {index : Nat} (hown : s.vm.findClass own = some m.cls) {y z : MethodName} {bytes : ByteArray} {maxL : Nat} {rt : Option FieldType} {rm : Room} {a : Addr} {as : List Value} {Q : Option Value → Heap → List Loc → Prop}
    (w1 : (Cond.methodLink own index y).before a0 Z = true) (w2 : (Cond.declares y).before a0 Z = true) (hnf : NotFace s y) (w5 : (Cond.selects C y z).before a0 Z = true) (w6 : (Cond.instanceMethod z).before a0 Z = true) (w3 : (Cond.initialized z.cls).before a0 Z = true) (w4 : (Cond.code z bytes maxL rt).before a0 Z = true) (hy : y.cls ≠ "java/lang/invoke/MethodHandle" ∧ y.cls ≠ "java/lang/invoke/VarHandle")
    (hM : ownMet l Z z bytes maxL rt [] rm (.ref a :: as).toArray h Q) (eT : T.heap = h) (E : Exa Z h a C) (W : Nat) (hf : rm.frames + 1 ≤ R.frames) (hl : W + (maxL + 11) + rm.locals ≤ R.locals) (hc : cells + rm.cells ≤ R.cells) (hs : slots + rm.slots ≤ R.slots)
    {g : JFrame} (hg : g.method = m) (hsize : g.locals.size = c.maxLocals) {rest : List Value} {ps : List FieldType} {r : Option FieldType} (hd : parseMethodDescriptor y.desc = some ⟨ps, r⟩) (hlen : as.length = ps.length) (hstack : g.stack = as.reverse ++ .ref a :: rest) (hW : 2 * g.monitorRoom + (rest.map fun v => v.category).sum ≤ W)
    (hdg : decode c.code g.pc = .ok (.invokevirtual index, 3)) :
    ∃ v T' L, Stand p l e R s m args below meth c T' (locs ++ L) (cells + rm.cells) (slots + rm.slots) ∧ Q v T'.heap L ∧ ∀ t, Steps p.tables e below (T'.setTop { g with pc := g.pc + 3, stack := v.toList ++ rest }) t → Steps p.tables e below (T.setTop g) t := by
  obtain ⟨cq, kq, qa, qb, qc⟩ := isOf hZ eT E
  obtain ⟨v, _, ⟨T1, L1, k1, n1⟩, -, X1, ⟨Lc, hQ, l1, y1, z1⟩, st⟩ := X.virtualBack hx (y := y) (z := z) hown (mvT hZ w1) (mvT hZ w2) hnf (mvT hZ w5) (mvT hZ w6) hy (backOf (W := W) hM hZ w4 w3 hf hl) qa qc hg hsize (Steps.refl _) (argsL := as) (rest := rest) (lenOf hd hlen) hstack hW hdg (fun _ _ => ⟨rfl, eT, hc, hs⟩)
  dsimp only [Pt.U, Pt.locs, Pt.cells, Pt.slots] at X1 l1 y1 z1 st hQ
  subst l1 y1 z1
  exact ⟨v, T1, Lc, X1, hQ, fun t k => st.trans k⟩
theorem ownSelfSel {y z : MethodName} {C : String} (hz : z.cls = y.cls) (wz : (Cond.selects C z z).before args s = true) (hinst : (Cond.instanceMethod y).before args s = true) (hpriv : s.PrivateAt y) (hy : y.cls ≠ "java/lang/invoke/MethodHandle" ∧ y.cls ≠ "java/lang/invoke/VarHandle") : (Cond.selects y.cls y y).before args s = true := by
  obtain ⟨c2, r2, m2, q1, q2, q3, q4, kP, hkP, hkPi⟩ := Cond.selects_spec wz
  exact selects_self_of_private (by rw [← hz]; exact findClass_of_methodNamed q3) hkP hkPi hpriv hinst hy
theorem ownCallP (X : Stand p l e R s m args below meth c T locs cells slots) (hx : p.tables.exec = Jvm.exec) (hZ : Z.Warmed39 s.vm) {own C D : String} {index : Nat} (hown : s.vm.findClass own = some m.cls) {y z : MethodName} {bytes : ByteArray} {maxL : Nat} {rt : Option FieldType} {rm : Room} {a : Addr} {as : List Value} {Q : Option Value → Heap → List Loc → Prop}
    (w1 : (Cond.methodLink own index y).before a0 Z = true) (hz : z.cls = y.cls) (w5 : (Cond.selects C z z).before a0 Z = true) (w6 : (Cond.instanceMethod y).before a0 Z = true) (w7 : (Cond.privateMethod y).before a0 Z = true) (w3 : (Cond.initialized y.cls).before a0 Z = true) (w4 : (Cond.code y bytes maxL rt).before a0 Z = true) (hy : y.cls ≠ "java/lang/invoke/MethodHandle" ∧ y.cls ≠ "java/lang/invoke/VarHandle")
    (hM : ownMet l Z y bytes maxL rt [] rm (.ref a :: as).toArray h Q) (eT : T.heap = h) (E : Exa Z h a D) (W : Nat) (hf : rm.frames + 1 ≤ R.frames) (hl : W + (maxL + 11) + rm.locals ≤ R.locals) (hc : cells + rm.cells ≤ R.cells) (hs : slots + rm.slots ≤ R.slots)
    {g : JFrame} (hg : g.method = m) (hsize : g.locals.size = c.maxLocals) {rest : List Value} {ps : List FieldType} {r : Option FieldType} (hd : parseMethodDescriptor y.desc = some ⟨ps, r⟩) (hlen : as.length = ps.length) (hstack : g.stack = as.reverse ++ .ref a :: rest) (hW : 2 * g.monitorRoom + (rest.map fun v => v.category).sum ≤ W)
    (hdg : decode c.code g.pc = .ok (.invokevirtual index, 3)) :
    ∃ v T' L, Stand p l e R s m args below meth c T' (locs ++ L) (cells + rm.cells) (slots + rm.slots) ∧ Q v T'.heap L ∧ ∀ t, Steps p.tables e below (T'.setTop { g with pc := g.pc + 3, stack := v.toList ++ rest }) t → Steps p.tables e below (T.setTop g) t := by
  obtain ⟨cq, q1, q2⟩ := E.cell
  have hpv : s.PrivateAt y := Cond.privateMethod_at (mvP hZ w7 (args := #[]))
  obtain ⟨v, _, ⟨T1, L1, k1, n1⟩, -, X1, ⟨Lc, hQ, l1, y1, z1⟩, st⟩ := X.privateBack hx (y := y) hown (mvT hZ w1) (mvT hZ w6) (ownSelfSel hz (mvT hZ w5) (mvT hZ w6) hpv hy) hpv (mvT hZ w4) hy (backOf (W := W) hM hZ w4 w3 hf hl) hg hsize (Steps.refl _) (a := a) (by rw [eT]; exact q1) q2 (argsL := as) (rest := rest) (lenOf hd hlen) hstack hW hdg (fun _ _ => ⟨rfl, eT, hc, hs⟩)
  dsimp only [Pt.U, Pt.locs, Pt.cells, Pt.slots] at X1 l1 y1 z1 st hQ
  subst l1 y1 z1
  exact ⟨v, T1, Lc, X1, hQ, fun t k => st.trans k⟩
end OwnKit
theorem wd_0 {Z : State} {a0 : Array Value} (hw : ∀ d ∈ tables_1, d.before a0 Z = true) : (Jvm.Cond.methodLink "com/example/seven_bit_codecs/sevenbitcodecs/GraphicSetSelectedByPinLaw" (7 : Nat) ({ cls := "com/example/seven_bit_codecs/sevenbitcodecs/GraphicSetSelectedByPinLaw", name := "expected", desc := "(BB)Lcom/example/seven_bit_codecs/sevenbitcodecs/Iso2022JpCharset$GraphicSet;" } : Jvm.MethodName)).before a0 Z = true := hw _ (List.mem_of_getElem? (i := 0) rfl)
theorem wd_1 {Z : State} {a0 : Array Value} (hw : ∀ d ∈ tables_1, d.before a0 Z = true) : (Jvm.Cond.static ({ cls := "com/example/seven_bit_codecs/sevenbitcodecs/GraphicSetSelectedByPinLaw", name := "expected", desc := "(BB)Lcom/example/seven_bit_codecs/sevenbitcodecs/Iso2022JpCharset$GraphicSet;" } : Jvm.MethodName)).before a0 Z = true := hw _ (List.mem_of_getElem? (i := 1) rfl)
theorem wd_2 {Z : State} {a0 : Array Value} (hw : ∀ d ∈ tables_1, d.before a0 Z = true) : (Jvm.Cond.initialized "com/example/seven_bit_codecs/sevenbitcodecs/GraphicSetSelectedByPinLaw").before a0 Z = true := hw _ (List.mem_of_getElem? (i := 2) rfl)
theorem wd_3 {Z : State} {a0 : Array Value} (hw : ∀ d ∈ tables_1, d.before a0 Z = true) : (Jvm.Cond.code ({ cls := "com/example/seven_bit_codecs/sevenbitcodecs/GraphicSetSelectedByPinLaw", name := "expected", desc := "(BB)Lcom/example/seven_bit_codecs/sevenbitcodecs/Iso2022JpCharset$GraphicSet;" } : Jvm.MethodName) method_3_code (3 : Nat) (Option.some (Jvm.ClassFile.FieldType.object "com/example/seven_bit_codecs/sevenbitcodecs/Iso2022JpCharset$GraphicSet"))).before a0 Z = true := hw _ (List.mem_of_getElem? (i := 3) rfl)
theorem wd_4 {Z : State} {a0 : Array Value} (hw : ∀ d ∈ tables_1, d.before a0 Z = true) : (Jvm.Cond.methodLink "com/example/seven_bit_codecs/sevenbitcodecs/GraphicSetSelectedByPinLaw" (13 : Nat) ({ cls := "com/example/seven_bit_codecs/sevenbitcodecs/Iso2022JpCharset$GraphicSet", name := "selectedBy", desc := "(BB)Lcom/example/seven_bit_codecs/sevenbitcodecs/Iso2022JpCharset$GraphicSet;" } : Jvm.MethodName)).before a0 Z = true := hw _ (List.mem_of_getElem? (i := 4) rfl)
theorem wd_5 {Z : State} {a0 : Array Value} (hw : ∀ d ∈ tables_1, d.before a0 Z = true) : (Jvm.Cond.static ({ cls := "com/example/seven_bit_codecs/sevenbitcodecs/Iso2022JpCharset$GraphicSet", name := "selectedBy", desc := "(BB)Lcom/example/seven_bit_codecs/sevenbitcodecs/Iso2022JpCharset$GraphicSet;" } : Jvm.MethodName)).before a0 Z = true := hw _ (List.mem_of_getElem? (i := 5) rfl)
theorem wd_6 {Z : State} {a0 : Array Value} (hw : ∀ d ∈ tables_1, d.before a0 Z = true) : (Jvm.Cond.initialized "com/example/seven_bit_codecs/sevenbitcodecs/Iso2022JpCharset$GraphicSet").before a0 Z = true := hw _ (List.mem_of_getElem? (i := 6) rfl)
theorem wd_7 {Z : State} {a0 : Array Value} (hw : ∀ d ∈ tables_1, d.before a0 Z = true) : (Jvm.Cond.code ({ cls := "com/example/seven_bit_codecs/sevenbitcodecs/Iso2022JpCharset$GraphicSet", name := "selectedBy", desc := "(BB)Lcom/example/seven_bit_codecs/sevenbitcodecs/Iso2022JpCharset$GraphicSet;" } : Jvm.MethodName) prog_20_method_4_code (7 : Nat) (Option.some (Jvm.ClassFile.FieldType.object "com/example/seven_bit_codecs/sevenbitcodecs/Iso2022JpCharset$GraphicSet"))).before a0 Z = true := hw _ (List.mem_of_getElem? (i := 7) rfl)
theorem wd_8 {Z : State} {a0 : Array Value} (hw : ∀ d ∈ tables_1, d.before a0 Z = true) : (Jvm.Cond.fieldLink "com/example/seven_bit_codecs/sevenbitcodecs/Iso2022JpCharset$GraphicSet" (50 : Nat) "com/example/seven_bit_codecs/sevenbitcodecs/Iso2022JpCharset$GraphicSet" "SETS" "[Lcom/example/seven_bit_codecs/sevenbitcodecs/Iso2022JpCharset$GraphicSet;").before a0 Z = true := hw _ (List.mem_of_getElem? (i := 8) rfl)
theorem wd_9 {Z : State} {a0 : Array Value} (hw : ∀ d ∈ tables_1, d.before a0 Z = true) : (Jvm.Cond.laysStatic "com/example/seven_bit_codecs/sevenbitcodecs/Iso2022JpCharset$GraphicSet" "SETS" "[Lcom/example/seven_bit_codecs/sevenbitcodecs/Iso2022JpCharset$GraphicSet;").before a0 Z = true := hw _ (List.mem_of_getElem? (i := 9) rfl)
theorem wd_10 {Z : State} {a0 : Array Value} (hw : ∀ d ∈ tables_1, d.before a0 Z = true) : (Jvm.Cond.laysStatic "com/example/seven_bit_codecs/sevenbitcodecs/Iso2022JpCharset$GraphicSet" "ASCII" "Lcom/example/seven_bit_codecs/sevenbitcodecs/Iso2022JpCharset$GraphicSet;").before a0 Z = true := hw _ (List.mem_of_getElem? (i := 10) rfl)
theorem wd_11 {Z : State} {a0 : Array Value} (hw : ∀ d ∈ tables_1, d.before a0 Z = true) : (Jvm.Cond.fieldLink "com/example/seven_bit_codecs/sevenbitcodecs/Iso2022JpCharset$GraphicSet" (35 : Nat) "com/example/seven_bit_codecs/sevenbitcodecs/Iso2022JpCharset$GraphicSet" "intermediate" "B").before a0 Z = true := hw _ (List.mem_of_getElem? (i := 11) rfl)
theorem wd_13 {Z : State} {a0 : Array Value} (hw : ∀ d ∈ tables_1, d.before a0 Z = true) : (Jvm.Cond.laysStatic "com/example/seven_bit_codecs/sevenbitcodecs/Iso2022JpCharset$GraphicSet" "ROMAN" "Lcom/example/seven_bit_codecs/sevenbitcodecs/Iso2022JpCharset$GraphicSet;").before a0 Z = true := hw _ (List.mem_of_getElem? (i := 13) rfl)
theorem wd_14 {Z : State} {a0 : Array Value} (hw : ∀ d ∈ tables_1, d.before a0 Z = true) : (Jvm.Cond.laysStatic "com/example/seven_bit_codecs/sevenbitcodecs/Iso2022JpCharset$GraphicSet" "JIS_X_0208" "Lcom/example/seven_bit_codecs/sevenbitcodecs/Iso2022JpCharset$GraphicSet;").before a0 Z = true := hw _ (List.mem_of_getElem? (i := 14) rfl)
theorem wd_15 {Z : State} {a0 : Array Value} (hw : ∀ d ∈ tables_1, d.before a0 Z = true) : (Jvm.Cond.laysStatic "com/example/seven_bit_codecs/sevenbitcodecs/Iso2022JpCharset$GraphicSet" "KATAKANA" "Lcom/example/seven_bit_codecs/sevenbitcodecs/Iso2022JpCharset$GraphicSet;").before a0 Z = true := hw _ (List.mem_of_getElem? (i := 15) rfl)
theorem wd_16 {Z : State} {a0 : Array Value} (hw : ∀ d ∈ tables_1, d.before a0 Z = true) : (Jvm.Cond.fieldLink "com/example/seven_bit_codecs/sevenbitcodecs/GraphicSetSelectedByPinLaw" (28 : Nat) "com/example/seven_bit_codecs/sevenbitcodecs/Iso2022JpCharset$GraphicSet" "JIS_X_0208" "Lcom/example/seven_bit_codecs/sevenbitcodecs/Iso2022JpCharset$GraphicSet;").before a0 Z = true := hw _ (List.mem_of_getElem? (i := 16) rfl)
theorem wd_17 {Z : State} {a0 : Array Value} (hw : ∀ d ∈ tables_1, d.before a0 Z = true) : (Jvm.Cond.fieldLink "com/example/seven_bit_codecs/sevenbitcodecs/Iso2022JpCharset$GraphicSet" (39 : Nat) "com/example/seven_bit_codecs/sevenbitcodecs/Iso2022JpCharset$GraphicSet" "designation" "B").before a0 Z = true := hw _ (List.mem_of_getElem? (i := 17) rfl)
theorem wd_19 {Z : State} {a0 : Array Value} (hw : ∀ d ∈ tables_1, d.before a0 Z = true) : (Jvm.Cond.fieldLink "com/example/seven_bit_codecs/sevenbitcodecs/GraphicSetSelectedByPinLaw" (25 : Nat) "com/example/seven_bit_codecs/sevenbitcodecs/Iso2022JpCharset$GraphicSet" "KATAKANA" "Lcom/example/seven_bit_codecs/sevenbitcodecs/Iso2022JpCharset$GraphicSet;").before a0 Z = true := hw _ (List.mem_of_getElem? (i := 19) rfl)
theorem wd_20 {Z : State} {a0 : Array Value} (hw : ∀ d ∈ tables_1, d.before a0 Z = true) : (Jvm.Cond.fieldLink "com/example/seven_bit_codecs/sevenbitcodecs/GraphicSetSelectedByPinLaw" (18 : Nat) "com/example/seven_bit_codecs/sevenbitcodecs/Iso2022JpCharset$GraphicSet" "ASCII" "Lcom/example/seven_bit_codecs/sevenbitcodecs/Iso2022JpCharset$GraphicSet;").before a0 Z = true := hw _ (List.mem_of_getElem? (i := 20) rfl)
theorem wd_21 {Z : State} {a0 : Array Value} (hw : ∀ d ∈ tables_1, d.before a0 Z = true) : (Jvm.Cond.fieldLink "com/example/seven_bit_codecs/sevenbitcodecs/Iso2022JpCharset$GraphicSet" (10 : Nat) "com/example/seven_bit_codecs/sevenbitcodecs/Iso2022JpCharset$GraphicSet" "JIS_X_0208" "Lcom/example/seven_bit_codecs/sevenbitcodecs/Iso2022JpCharset$GraphicSet;").before a0 Z = true := hw _ (List.mem_of_getElem? (i := 21) rfl)
theorem wd_22 {Z : State} {a0 : Array Value} (hw : ∀ d ∈ tables_1, d.before a0 Z = true) : (Jvm.Cond.fieldLink "com/example/seven_bit_codecs/sevenbitcodecs/GraphicSetSelectedByPinLaw" (22 : Nat) "com/example/seven_bit_codecs/sevenbitcodecs/Iso2022JpCharset$GraphicSet" "ROMAN" "Lcom/example/seven_bit_codecs/sevenbitcodecs/Iso2022JpCharset$GraphicSet;").before a0 Z = true := hw _ (List.mem_of_getElem? (i := 22) rfl)
theorem ef_rm1 : ∀ (m : MethodId) (xi : Int32) (xl : Int32), entryFrame m #[(.int xi), (.int xl)] 3 = mkF m 0 #[.val (.int xi), .val (.int xl), .unset] [] := by intros; first | (simp [entryFrame, mkF, argsToLocals, Value.category]; done) | rfl
theorem d1_0 : decode method_3_code 0 = .ok (.aconst_null, 1) := by decide +kernel
theorem d1_1 : decode method_3_code 1 = .ok (.astore_n 2, 1) := by decide +kernel
theorem d1_2 : decode method_3_code 2 = .ok (.iload_n 0, 1) := by decide +kernel
theorem d1_3 : decode method_3_code 3 = .ok (.bipush 40, 2) := by decide +kernel
theorem d1_5 : decode method_3_code 5 = .ok (.if_icmp .ne 42, 3) := by decide +kernel
theorem d1_8 : decode method_3_code 8 = .ok (.iload_n 1, 1) := by decide +kernel
theorem d1_9 : decode method_3_code 9 = .ok (.bipush 66, 2) := by decide +kernel
theorem d1_11 : decode method_3_code 11 = .ok (.if_icmp .ne 10, 3) := by decide +kernel
theorem d1_14 : decode method_3_code 14 = .ok (.getstatic 18, 3) := by decide +kernel
theorem d1_17 : decode method_3_code 17 = .ok (.astore_n 2, 1) := by decide +kernel
theorem d1_18 : decode method_3_code 18 = .ok (.goto 51, 3) := by decide +kernel
theorem d1_69 : decode method_3_code 69 = .ok (.aload_n 2, 1) := by decide +kernel
theorem d1_70 : decode method_3_code 70 = .ok (.areturn, 1) := by decide +kernel
theorem d1_21 : decode method_3_code 21 = .ok (.iload_n 1, 1) := by decide +kernel
theorem d1_22 : decode method_3_code 22 = .ok (.bipush 74, 2) := by decide +kernel
theorem d1_24 : decode method_3_code 24 = .ok (.if_icmp .ne 10, 3) := by decide +kernel
theorem d1_27 : decode method_3_code 27 = .ok (.getstatic 22, 3) := by decide +kernel
theorem d1_30 : decode method_3_code 30 = .ok (.astore_n 2, 1) := by decide +kernel
theorem d1_31 : decode method_3_code 31 = .ok (.goto 38, 3) := by decide +kernel
theorem d1_34 : decode method_3_code 34 = .ok (.iload_n 1, 1) := by decide +kernel
theorem d1_35 : decode method_3_code 35 = .ok (.bipush 73, 2) := by decide +kernel
theorem d1_37 : decode method_3_code 37 = .ok (.if_icmp .ne 32, 3) := by decide +kernel
theorem d1_40 : decode method_3_code 40 = .ok (.getstatic 25, 3) := by decide +kernel
theorem d1_43 : decode method_3_code 43 = .ok (.astore_n 2, 1) := by decide +kernel
theorem d1_44 : decode method_3_code 44 = .ok (.goto 25, 3) := by decide +kernel
theorem d1_47 : decode method_3_code 47 = .ok (.iload_n 0, 1) := by decide +kernel
theorem d1_48 : decode method_3_code 48 = .ok (.bipush 36, 2) := by decide +kernel
theorem d1_50 : decode method_3_code 50 = .ok (.if_icmp .ne 19, 3) := by decide +kernel
theorem d1_53 : decode method_3_code 53 = .ok (.iload_n 1, 1) := by decide +kernel
theorem d1_54 : decode method_3_code 54 = .ok (.bipush 66, 2) := by decide +kernel
theorem d1_56 : decode method_3_code 56 = .ok (.if_icmp .eq 9, 3) := by decide +kernel
theorem d1_65 : decode method_3_code 65 = .ok (.getstatic 28, 3) := by decide +kernel
theorem d1_68 : decode method_3_code 68 = .ok (.astore_n 2, 1) := by decide +kernel
theorem d1_59 : decode method_3_code 59 = .ok (.iload_n 1, 1) := by decide +kernel
theorem d1_60 : decode method_3_code 60 = .ok (.bipush 64, 2) := by decide +kernel
theorem d1_62 : decode method_3_code 62 = .ok (.if_icmp .ne 7, 3) := by decide +kernel
theorem pn_1 : plainName "com/example/seven_bit_codecs/sevenbitcodecs/GraphicSetSelectedByPinLaw" = true := by first | (simp [plainName, overriddenIn]; done) | decide +kernel
theorem ef_rm2 : ∀ (m : MethodId) (xi : Int32) (xl : Int32), entryFrame m #[(.int xi), (.int xl)] 7 = mkF m 0 #[.val (.int xi), .val (.int xl), .unset, .unset, .unset, .unset, .unset] [] := by intros; first | (simp [entryFrame, mkF, argsToLocals, Value.category]; done) | rfl
theorem d2_0 : decode prog_20_method_4_code 0 = .ok (.aconst_null, 1) := by decide +kernel
theorem d2_1 : decode prog_20_method_4_code 1 = .ok (.astore_n 2, 1) := by decide +kernel
theorem d2_2 : decode prog_20_method_4_code 2 = .ok (.iload_n 0, 1) := by decide +kernel
theorem d2_3 : decode prog_20_method_4_code 3 = .ok (.bipush 36, 2) := by decide +kernel
theorem d2_5 : decode prog_20_method_4_code 5 = .ok (.if_icmp .ne 16, 3) := by decide +kernel
theorem d2_8 : decode prog_20_method_4_code 8 = .ok (.iload_n 1, 1) := by decide +kernel
theorem d2_9 : decode prog_20_method_4_code 9 = .ok (.bipush 64, 2) := by decide +kernel
theorem d2_11 : decode prog_20_method_4_code 11 = .ok (.if_icmp .ne 10, 3) := by decide +kernel
theorem d2_14 : decode prog_20_method_4_code 14 = .ok (.getstatic 10, 3) := by decide +kernel
theorem d2_17 : decode prog_20_method_4_code 17 = .ok (.astore_n 2, 1) := by decide +kernel
theorem d2_18 : decode prog_20_method_4_code 18 = .ok (.goto 54, 3) := by decide +kernel
theorem d2_72 : decode prog_20_method_4_code 72 = .ok (.aload_n 2, 1) := by decide +kernel
theorem d2_73 : decode prog_20_method_4_code 73 = .ok (.areturn, 1) := by decide +kernel
theorem d2_21 : decode prog_20_method_4_code 21 = .ok (.getstatic 50, 3) := by decide +kernel
theorem d2_24 : decode prog_20_method_4_code 24 = .ok (.astore_n 3, 1) := by decide +kernel
theorem d2_25 : decode prog_20_method_4_code 25 = .ok (.aload_n 3, 1) := by decide +kernel
theorem d2_26 : decode prog_20_method_4_code 26 = .ok (.arraylength, 1) := by decide +kernel
theorem d2_27 : decode prog_20_method_4_code 27 = .ok (.istore 4, 2) := by decide +kernel
theorem d2_29 : decode prog_20_method_4_code 29 = .ok (.iconst 0, 1) := by decide +kernel
theorem d2_30 : decode prog_20_method_4_code 30 = .ok (.istore 5, 2) := by decide +kernel
theorem d2_32 : decode prog_20_method_4_code 32 = .ok (.iload 5, 2) := by decide +kernel
theorem d2_34 : decode prog_20_method_4_code 34 = .ok (.iload 4, 2) := by decide +kernel
theorem d2_36 : decode prog_20_method_4_code 36 = .ok (.if_icmp .ge 36, 3) := by decide +kernel
theorem d2_39 : decode prog_20_method_4_code 39 = .ok (.aload_n 3, 1) := by decide +kernel
theorem d2_40 : decode prog_20_method_4_code 40 = .ok (.iload 5, 2) := by decide +kernel
theorem d2_42 : decode prog_20_method_4_code 42 = .ok (.aaload, 1) := by decide +kernel
theorem d2_43 : decode prog_20_method_4_code 43 = .ok (.astore 6, 2) := by decide +kernel
theorem d2_45 : decode prog_20_method_4_code 45 = .ok (.aload 6, 2) := by decide +kernel
theorem d2_47 : decode prog_20_method_4_code 47 = .ok (.getfield 35, 3) := by decide +kernel
theorem d2_50 : decode prog_20_method_4_code 50 = .ok (.iload_n 0, 1) := by decide +kernel
theorem d2_51 : decode prog_20_method_4_code 51 = .ok (.if_icmp .ne 15, 3) := by decide +kernel
theorem d2_66 : decode prog_20_method_4_code 66 = .ok (.iinc 5 1, 3) := by decide +kernel
theorem d2_69 : decode prog_20_method_4_code 69 = .ok (.goto (-37), 3) := by decide +kernel
theorem d2_54 : decode prog_20_method_4_code 54 = .ok (.aload 6, 2) := by decide +kernel
theorem d2_56 : decode prog_20_method_4_code 56 = .ok (.getfield 39, 3) := by decide +kernel
theorem d2_59 : decode prog_20_method_4_code 59 = .ok (.iload_n 1, 1) := by decide +kernel
theorem d2_60 : decode prog_20_method_4_code 60 = .ok (.if_icmp .ne 6, 3) := by decide +kernel
theorem d2_63 : decode prog_20_method_4_code 63 = .ok (.aload 6, 2) := by decide +kernel
theorem d2_65 : decode prog_20_method_4_code 65 = .ok (.astore_n 2, 1) := by decide +kernel
theorem pn_2 : plainName "com/example/seven_bit_codecs/sevenbitcodecs/Iso2022JpCharset$GraphicSet" = true := by first | (simp [plainName, overriddenIn]; done) | decide +kernel
theorem ef_rm0 : ∀ (m : MethodId) (xa : Int32) (xb : Int32) (xm : Int32), entryFrame m #[(.int xa), (.int xb), (.int xm)] maxLocals = mkF m 0 #[.val (.int xa), .val (.int xb), .val (.int xm), .unset, .unset, .unset, .unset] [] := by intros; first | (simp [entryFrame, mkF, argsToLocals, Value.category, maxLocals]; done) | rfl
theorem pd_0 : parseMethodDescriptor "(BB)Lcom/example/seven_bit_codecs/sevenbitcodecs/Iso2022JpCharset$GraphicSet;" = some ⟨[.byte, .byte], some (.object "com/example/seven_bit_codecs/sevenbitcodecs/Iso2022JpCharset$GraphicSet")⟩ := by decide +kernel
theorem pn_0 : plainName "com/example/seven_bit_codecs/sevenbitcodecs/GraphicSetSelectedByPinLaw" = true := by first | (simp [plainName, overriddenIn]; done) | decide +kernel
def EXf (i l : Int32) (a r j k : Addr) : Value := if i = 40 then (if l = 66 then .ref a else if l = 74 then .ref r else if l = 73 then .ref k else .null) else if i = 36 then (if l = 66 then .ref j else if l = 64 then .ref j else .null) else .null
theorem EXf_ref (i l : Int32) (a r j k : Addr) : (EXf i l a r j k).isRef = true := by
  unfold EXf
  repeat' split
  all_goals rfl
set_option maxRecDepth 65536 in
set_option maxHeartbeats 40000000 in
theorem rm1 (l : Launch) (Z : State) (a0 : Array Value) (hw : ∀ d ∈ tables_1, d.before a0 Z = true) (xi : Int32) (xl : Int32) (A_ASCII A_ROMAN A_JIS_X_0208 A_KATAKANA : Addr) (h0 : Heap) (n0 : Nat) (Z0 : n0 ≤ h0.size) (S_ASCII : Sta Z h0 "com/example/seven_bit_codecs/sevenbitcodecs/Iso2022JpCharset$GraphicSet" "ASCII" "Lcom/example/seven_bit_codecs/sevenbitcodecs/Iso2022JpCharset$GraphicSet;" (.ref A_ASCII)) (S_ROMAN : Sta Z h0 "com/example/seven_bit_codecs/sevenbitcodecs/Iso2022JpCharset$GraphicSet" "ROMAN" "Lcom/example/seven_bit_codecs/sevenbitcodecs/Iso2022JpCharset$GraphicSet;" (.ref A_ROMAN)) (S_JIS_X_0208 : Sta Z h0 "com/example/seven_bit_codecs/sevenbitcodecs/Iso2022JpCharset$GraphicSet" "JIS_X_0208" "Lcom/example/seven_bit_codecs/sevenbitcodecs/Iso2022JpCharset$GraphicSet;" (.ref A_JIS_X_0208)) (S_KATAKANA : Sta Z h0 "com/example/seven_bit_codecs/sevenbitcodecs/Iso2022JpCharset$GraphicSet" "KATAKANA" "Lcom/example/seven_bit_codecs/sevenbitcodecs/Iso2022JpCharset$GraphicSet;" (.ref A_KATAKANA)) :
    ownMet l Z (⟨"com/example/seven_bit_codecs/sevenbitcodecs/GraphicSetSelectedByPinLaw", "expected", "(BB)Lcom/example/seven_bit_codecs/sevenbitcodecs/Iso2022JpCharset$GraphicSet;"⟩ : MethodName) method_3_code 3 (some (.object "com/example/seven_bit_codecs/sevenbitcodecs/Iso2022JpCharset$GraphicSet")) [] ({ frames := 0, cells := 0, slots := 0, locals := 0 } : Room) #[(.int xi), (.int xl)] h0 (fun v h L => v = some (EXf xi xl A_ASCII A_ROMAN A_JIS_X_0208 A_KATAKANA) ∧ L = [] ∧ h = h0) := by
  refine ownMet.of (plainFor_of_name pn_1) ?_
  intro p e s m below meth c T0 hx hby hml hZ hown hnm hret hlk X0 e0
  refine ownEnds.cast (ef_rm1 m xi xl) ?_
  show ownEnds _ _ _ _ (T0.setTop (mkF m 0 #[.val (.int xi), .val (.int xl), .unset] []))
  refine ownEnds.law (fun t k => XS.aconstNull X0.here hx rfl (hb hby d1_0) (XS.astoreN X0.here hx rfl (hb hby d1_1) rfl rfl (l' := #[.val (.int xi), .val (.int xl), .val .null]) rfl (XS.iloadN X0.here hx rfl (hb hby d1_2) rfl (XS.bipush X0.here hx rfl (hb hby d1_3) k)))) ?_
  show ownEnds _ _ _ _ (T0.setTop (mkF m 5 #[.val (.int xi), .val (.int xl), .val .null] [(.int (40 : Int32)), (.int xi)]))
  by_cases hc5 : xi = (40 : Int32)
  · refine ownEnds.law (fun t => XS.icmpNo X0.here hx rfl (hb hby d1_5) rfl (teq hc5).2) ?_
    show ownEnds _ _ _ _ (T0.setTop (mkF m 8 #[.val (.int xi), .val (.int xl), .val .null] []))
    refine ownEnds.law (fun t k => XS.iloadN X0.here hx rfl (hb hby d1_8) rfl (XS.bipush X0.here hx rfl (hb hby d1_9) k)) ?_
    show ownEnds _ _ _ _ (T0.setTop (mkF m 11 #[.val (.int xi), .val (.int xl), .val .null] [(.int (66 : Int32)), (.int xl)]))
    by_cases hc11 : xl = (66 : Int32)
    · refine ownEnds.law (fun t => XS.icmpNo X0.here hx rfl (hb hby d1_11) rfl (teq hc11).2) ?_
      show ownEnds _ _ _ _ (T0.setTop (mkF m 14 #[.val (.int xi), .val (.int xl), .val .null] []))
      obtain ⟨T1, X1, e1, st1⟩ := getS2 X0 hx hZ hown (host := "") (Or.inl (wd_20 hw)) Via.refl e0 S_ASCII (g := (mkF m 14 #[.val (.int xi), .val (.int xl), .val .null] [])) rfl (hb hby d1_14)
      refine ownEnds.law st1 ?_
      show ownEnds _ _ _ _ (T1.setTop (mkF m 17 #[.val (.int xi), .val (.int xl), .val .null] [(.ref A_ASCII)]))
      refine ownEnds.law (fun t k => XS.astoreN X1.here hx rfl (hb hby d1_17) rfl rfl (l' := #[.val (.int xi), .val (.int xl), .val (.ref A_ASCII)]) rfl (XS.goto X1.here hx rfl (pc0 := 18) (pc' := 69) rfl (hb hby d1_18) (by decide) (by decide) (XS.aloadN X1.here hx rfl (hb hby d1_69) rfl rfl k))) ?_
      show ownEnds _ _ _ _ (T1.setTop (mkF m 70 #[.val (.int xi), .val (.int xl), .val (.ref A_ASCII)] [(.ref A_ASCII)]))
      refine ownRetA X1 hlk hx hret rfl rfl (hb hby d1_70) (by decide) (by decide) ?_
      exact ⟨by (congr 1; unfold EXf; (repeat' split) <;> (try subst_vars) <;> simp_all), rfl, e1⟩
    · refine ownEnds.law (fun t => XS.icmpYes X0.here hx rfl (pc0 := 11) (pc' := 21) rfl (hb hby d1_11) rfl (feq hc11).2 (by decide) (by decide)) ?_
      show ownEnds _ _ _ _ (T0.setTop (mkF m 21 #[.val (.int xi), .val (.int xl), .val .null] []))
      refine ownEnds.law (fun t k => XS.iloadN X0.here hx rfl (hb hby d1_21) rfl (XS.bipush X0.here hx rfl (hb hby d1_22) k)) ?_
      show ownEnds _ _ _ _ (T0.setTop (mkF m 24 #[.val (.int xi), .val (.int xl), .val .null] [(.int (74 : Int32)), (.int xl)]))
      by_cases hc24 : xl = (74 : Int32)
      · refine ownEnds.law (fun t => XS.icmpNo X0.here hx rfl (hb hby d1_24) rfl (teq hc24).2) ?_
        show ownEnds _ _ _ _ (T0.setTop (mkF m 27 #[.val (.int xi), .val (.int xl), .val .null] []))
        obtain ⟨T2, X2, e2, st2⟩ := getS2 X0 hx hZ hown (host := "") (Or.inl (wd_22 hw)) Via.refl e0 S_ROMAN (g := (mkF m 27 #[.val (.int xi), .val (.int xl), .val .null] [])) rfl (hb hby d1_27)
        refine ownEnds.law st2 ?_
        show ownEnds _ _ _ _ (T2.setTop (mkF m 30 #[.val (.int xi), .val (.int xl), .val .null] [(.ref A_ROMAN)]))
        refine ownEnds.law (fun t k => XS.astoreN X2.here hx rfl (hb hby d1_30) rfl rfl (l' := #[.val (.int xi), .val (.int xl), .val (.ref A_ROMAN)]) rfl (XS.goto X2.here hx rfl (pc0 := 31) (pc' := 69) rfl (hb hby d1_31) (by decide) (by decide) (XS.aloadN X2.here hx rfl (hb hby d1_69) rfl rfl k))) ?_
        show ownEnds _ _ _ _ (T2.setTop (mkF m 70 #[.val (.int xi), .val (.int xl), .val (.ref A_ROMAN)] [(.ref A_ROMAN)]))
        refine ownRetA X2 hlk hx hret rfl rfl (hb hby d1_70) (by decide) (by decide) ?_
        exact ⟨by (congr 1; unfold EXf; (repeat' split) <;> (try subst_vars) <;> simp_all), rfl, e2⟩
      · refine ownEnds.law (fun t => XS.icmpYes X0.here hx rfl (pc0 := 24) (pc' := 34) rfl (hb hby d1_24) rfl (feq hc24).2 (by decide) (by decide)) ?_
        show ownEnds _ _ _ _ (T0.setTop (mkF m 34 #[.val (.int xi), .val (.int xl), .val .null] []))
        refine ownEnds.law (fun t k => XS.iloadN X0.here hx rfl (hb hby d1_34) rfl (XS.bipush X0.here hx rfl (hb hby d1_35) k)) ?_
        show ownEnds _ _ _ _ (T0.setTop (mkF m 37 #[.val (.int xi), .val (.int xl), .val .null] [(.int (73 : Int32)), (.int xl)]))
        by_cases hc37 : xl = (73 : Int32)
        · refine ownEnds.law (fun t => XS.icmpNo X0.here hx rfl (hb hby d1_37) rfl (teq hc37).2) ?_
          show ownEnds _ _ _ _ (T0.setTop (mkF m 40 #[.val (.int xi), .val (.int xl), .val .null] []))
          obtain ⟨T3, X3, e3, st3⟩ := getS2 X0 hx hZ hown (host := "") (Or.inl (wd_19 hw)) Via.refl e0 S_KATAKANA (g := (mkF m 40 #[.val (.int xi), .val (.int xl), .val .null] [])) rfl (hb hby d1_40)
          refine ownEnds.law st3 ?_
          show ownEnds _ _ _ _ (T3.setTop (mkF m 43 #[.val (.int xi), .val (.int xl), .val .null] [(.ref A_KATAKANA)]))
          refine ownEnds.law (fun t k => XS.astoreN X3.here hx rfl (hb hby d1_43) rfl rfl (l' := #[.val (.int xi), .val (.int xl), .val (.ref A_KATAKANA)]) rfl (XS.goto X3.here hx rfl (pc0 := 44) (pc' := 69) rfl (hb hby d1_44) (by decide) (by decide) (XS.aloadN X3.here hx rfl (hb hby d1_69) rfl rfl k))) ?_
          show ownEnds _ _ _ _ (T3.setTop (mkF m 70 #[.val (.int xi), .val (.int xl), .val (.ref A_KATAKANA)] [(.ref A_KATAKANA)]))
          refine ownRetA X3 hlk hx hret rfl rfl (hb hby d1_70) (by decide) (by decide) ?_
          exact ⟨by (congr 1; unfold EXf; (repeat' split) <;> (try subst_vars) <;> simp_all), rfl, e3⟩
        · refine ownEnds.law (fun t => XS.icmpYes X0.here hx rfl (pc0 := 37) (pc' := 69) rfl (hb hby d1_37) rfl (feq hc37).2 (by decide) (by decide)) ?_
          show ownEnds _ _ _ _ (T0.setTop (mkF m 69 #[.val (.int xi), .val (.int xl), .val .null] []))
          refine ownEnds.law (fun t k => XS.aloadN X0.here hx rfl (hb hby d1_69) rfl rfl k) ?_
          show ownEnds _ _ _ _ (T0.setTop (mkF m 70 #[.val (.int xi), .val (.int xl), .val .null] [.null]))
          refine ownRetA X0 hlk hx hret rfl rfl (hb hby d1_70) (by decide) (by decide) ?_
          exact ⟨by (congr 1; unfold EXf; (repeat' split) <;> (try subst_vars) <;> simp_all), rfl, e0⟩
  · refine ownEnds.law (fun t => XS.icmpYes X0.here hx rfl (pc0 := 5) (pc' := 47) rfl (hb hby d1_5) rfl (feq hc5).2 (by decide) (by decide)) ?_
    show ownEnds _ _ _ _ (T0.setTop (mkF m 47 #[.val (.int xi), .val (.int xl), .val .null] []))
    refine ownEnds.law (fun t k => XS.iloadN X0.here hx rfl (hb hby d1_47) rfl (XS.bipush X0.here hx rfl (hb hby d1_48) k)) ?_
    show ownEnds _ _ _ _ (T0.setTop (mkF m 50 #[.val (.int xi), .val (.int xl), .val .null] [(.int (36 : Int32)), (.int xi)]))
    by_cases hc50 : xi = (36 : Int32)
    · refine ownEnds.law (fun t => XS.icmpNo X0.here hx rfl (hb hby d1_50) rfl (teq hc50).2) ?_
      show ownEnds _ _ _ _ (T0.setTop (mkF m 53 #[.val (.int xi), .val (.int xl), .val .null] []))
      refine ownEnds.law (fun t k => XS.iloadN X0.here hx rfl (hb hby d1_53) rfl (XS.bipush X0.here hx rfl (hb hby d1_54) k)) ?_
      show ownEnds _ _ _ _ (T0.setTop (mkF m 56 #[.val (.int xi), .val (.int xl), .val .null] [(.int (66 : Int32)), (.int xl)]))
      by_cases hc56 : xl = (66 : Int32)
      · refine ownEnds.law (fun t => XS.icmpYes X0.here hx rfl (pc0 := 56) (pc' := 65) rfl (hb hby d1_56) rfl (teq hc56).1 (by decide) (by decide)) ?_
        show ownEnds _ _ _ _ (T0.setTop (mkF m 65 #[.val (.int xi), .val (.int xl), .val .null] []))
        obtain ⟨T4, X4, e4, st4⟩ := getS2 X0 hx hZ hown (host := "") (Or.inl (wd_16 hw)) Via.refl e0 S_JIS_X_0208 (g := (mkF m 65 #[.val (.int xi), .val (.int xl), .val .null] [])) rfl (hb hby d1_65)
        refine ownEnds.law st4 ?_
        show ownEnds _ _ _ _ (T4.setTop (mkF m 68 #[.val (.int xi), .val (.int xl), .val .null] [(.ref A_JIS_X_0208)]))
        refine ownEnds.law (fun t k => XS.astoreN X4.here hx rfl (hb hby d1_68) rfl rfl (l' := #[.val (.int xi), .val (.int xl), .val (.ref A_JIS_X_0208)]) rfl (XS.aloadN X4.here hx rfl (hb hby d1_69) rfl rfl k)) ?_
        show ownEnds _ _ _ _ (T4.setTop (mkF m 70 #[.val (.int xi), .val (.int xl), .val (.ref A_JIS_X_0208)] [(.ref A_JIS_X_0208)]))
        refine ownRetA X4 hlk hx hret rfl rfl (hb hby d1_70) (by decide) (by decide) ?_
        exact ⟨by (congr 1; unfold EXf; (repeat' split) <;> (try subst_vars) <;> simp_all), rfl, e4⟩
      · refine ownEnds.law (fun t => XS.icmpNo X0.here hx rfl (hb hby d1_56) rfl (feq hc56).1) ?_
        show ownEnds _ _ _ _ (T0.setTop (mkF m 59 #[.val (.int xi), .val (.int xl), .val .null] []))
        refine ownEnds.law (fun t k => XS.iloadN X0.here hx rfl (hb hby d1_59) rfl (XS.bipush X0.here hx rfl (hb hby d1_60) k)) ?_
        show ownEnds _ _ _ _ (T0.setTop (mkF m 62 #[.val (.int xi), .val (.int xl), .val .null] [(.int (64 : Int32)), (.int xl)]))
        by_cases hc62 : xl = (64 : Int32)
        · refine ownEnds.law (fun t => XS.icmpNo X0.here hx rfl (hb hby d1_62) rfl (teq hc62).2) ?_
          show ownEnds _ _ _ _ (T0.setTop (mkF m 65 #[.val (.int xi), .val (.int xl), .val .null] []))
          obtain ⟨T5, X5, e5, st5⟩ := getS2 X0 hx hZ hown (host := "") (Or.inl (wd_16 hw)) Via.refl e0 S_JIS_X_0208 (g := (mkF m 65 #[.val (.int xi), .val (.int xl), .val .null] [])) rfl (hb hby d1_65)
          refine ownEnds.law st5 ?_
          show ownEnds _ _ _ _ (T5.setTop (mkF m 68 #[.val (.int xi), .val (.int xl), .val .null] [(.ref A_JIS_X_0208)]))
          refine ownEnds.law (fun t k => XS.astoreN X5.here hx rfl (hb hby d1_68) rfl rfl (l' := #[.val (.int xi), .val (.int xl), .val (.ref A_JIS_X_0208)]) rfl (XS.aloadN X5.here hx rfl (hb hby d1_69) rfl rfl k)) ?_
          show ownEnds _ _ _ _ (T5.setTop (mkF m 70 #[.val (.int xi), .val (.int xl), .val (.ref A_JIS_X_0208)] [(.ref A_JIS_X_0208)]))
          refine ownRetA X5 hlk hx hret rfl rfl (hb hby d1_70) (by decide) (by decide) ?_
          exact ⟨by (congr 1; unfold EXf; (repeat' split) <;> (try subst_vars) <;> simp_all), rfl, e5⟩
        · refine ownEnds.law (fun t => XS.icmpYes X0.here hx rfl (pc0 := 62) (pc' := 69) rfl (hb hby d1_62) rfl (feq hc62).2 (by decide) (by decide)) ?_
          show ownEnds _ _ _ _ (T0.setTop (mkF m 69 #[.val (.int xi), .val (.int xl), .val .null] []))
          refine ownEnds.law (fun t k => XS.aloadN X0.here hx rfl (hb hby d1_69) rfl rfl k) ?_
          show ownEnds _ _ _ _ (T0.setTop (mkF m 70 #[.val (.int xi), .val (.int xl), .val .null] [.null]))
          refine ownRetA X0 hlk hx hret rfl rfl (hb hby d1_70) (by decide) (by decide) ?_
          exact ⟨by (congr 1; unfold EXf; (repeat' split) <;> (try subst_vars) <;> simp_all), rfl, e0⟩
    · refine ownEnds.law (fun t => XS.icmpYes X0.here hx rfl (pc0 := 50) (pc' := 69) rfl (hb hby d1_50) rfl (feq hc50).2 (by decide) (by decide)) ?_
      show ownEnds _ _ _ _ (T0.setTop (mkF m 69 #[.val (.int xi), .val (.int xl), .val .null] []))
      refine ownEnds.law (fun t k => XS.aloadN X0.here hx rfl (hb hby d1_69) rfl rfl k) ?_
      show ownEnds _ _ _ _ (T0.setTop (mkF m 70 #[.val (.int xi), .val (.int xl), .val .null] [.null]))
      refine ownRetA X0 hlk hx hret rfl rfl (hb hby d1_70) (by decide) (by decide) ?_
      exact ⟨by (congr 1; unfold EXf; (repeat' split) <;> (try subst_vars) <;> simp_all), rfl, e0⟩
set_option maxRecDepth 65536 in
set_option maxHeartbeats 40000000 in
theorem rm2 (l : Launch) (Z : State) (a0 : Array Value) (hw : ∀ d ∈ tables_1, d.before a0 Z = true) (xi : Int32) (xl : Int32) (A_ASCII A_ROMAN A_JIS_X_0208 A_KATAKANA A_SETS : Addr) (kS : ClassId) (h0 : Heap) (n0 : Nat) (Z0 : n0 ≤ h0.size) (S_JIS_X_0208 : Sta Z h0 "com/example/seven_bit_codecs/sevenbitcodecs/Iso2022JpCharset$GraphicSet" "JIS_X_0208" "Lcom/example/seven_bit_codecs/sevenbitcodecs/Iso2022JpCharset$GraphicSet;" (.ref A_JIS_X_0208)) (S_SETS : Sta Z h0 "com/example/seven_bit_codecs/sevenbitcodecs/Iso2022JpCharset$GraphicSet" "SETS" "[Lcom/example/seven_bit_codecs/sevenbitcodecs/Iso2022JpCharset$GraphicSet;" (.ref A_SETS)) (V_SETS : Arv Z h0 A_SETS kS (.object "com/example/seven_bit_codecs/sevenbitcodecs/Iso2022JpCharset$GraphicSet") (4 : Int32) [(.ref A_ASCII), (.ref A_ROMAN), (.ref A_JIS_X_0208), (.ref A_KATAKANA)] .null) (F_ASCII_intermediate : Fld Z h0 A_ASCII "com/example/seven_bit_codecs/sevenbitcodecs/Iso2022JpCharset$GraphicSet" "intermediate" "B" (.int (40 : Int32))) (F_ASCII_designation : Fld Z h0 A_ASCII "com/example/seven_bit_codecs/sevenbitcodecs/Iso2022JpCharset$GraphicSet" "designation" "B" (.int (66 : Int32))) (F_ROMAN_intermediate : Fld Z h0 A_ROMAN "com/example/seven_bit_codecs/sevenbitcodecs/Iso2022JpCharset$GraphicSet" "intermediate" "B" (.int (40 : Int32))) (F_ROMAN_designation : Fld Z h0 A_ROMAN "com/example/seven_bit_codecs/sevenbitcodecs/Iso2022JpCharset$GraphicSet" "designation" "B" (.int (74 : Int32))) (F_JIS_X_0208_intermediate : Fld Z h0 A_JIS_X_0208 "com/example/seven_bit_codecs/sevenbitcodecs/Iso2022JpCharset$GraphicSet" "intermediate" "B" (.int (36 : Int32))) (F_JIS_X_0208_designation : Fld Z h0 A_JIS_X_0208 "com/example/seven_bit_codecs/sevenbitcodecs/Iso2022JpCharset$GraphicSet" "designation" "B" (.int (66 : Int32))) (F_KATAKANA_intermediate : Fld Z h0 A_KATAKANA "com/example/seven_bit_codecs/sevenbitcodecs/Iso2022JpCharset$GraphicSet" "intermediate" "B" (.int (40 : Int32))) (F_KATAKANA_designation : Fld Z h0 A_KATAKANA "com/example/seven_bit_codecs/sevenbitcodecs/Iso2022JpCharset$GraphicSet" "designation" "B" (.int (73 : Int32))) :
    ownMet l Z (⟨"com/example/seven_bit_codecs/sevenbitcodecs/Iso2022JpCharset$GraphicSet", "selectedBy", "(BB)Lcom/example/seven_bit_codecs/sevenbitcodecs/Iso2022JpCharset$GraphicSet;"⟩ : MethodName) prog_20_method_4_code 7 (some (.object "com/example/seven_bit_codecs/sevenbitcodecs/Iso2022JpCharset$GraphicSet")) [] ({ frames := 0, cells := 0, slots := 0, locals := 0 } : Room) #[(.int xi), (.int xl)] h0 (fun v h L => v = some (EXf xi xl A_ASCII A_ROMAN A_JIS_X_0208 A_KATAKANA) ∧ L = [] ∧ h = h0) := by
  refine ownMet.of (plainFor_of_name pn_2) ?_
  intro p e s m below meth c T0 hx hby hml hZ hown hnm hret hlk X0 e0
  refine ownEnds.cast (ef_rm2 m xi xl) ?_
  show ownEnds _ _ _ _ (T0.setTop (mkF m 0 #[.val (.int xi), .val (.int xl), .unset, .unset, .unset, .unset, .unset] []))
  refine ownEnds.law (fun t k => XS.aconstNull X0.here hx rfl (hb hby d2_0) (XS.astoreN X0.here hx rfl (hb hby d2_1) rfl rfl (l' := #[.val (.int xi), .val (.int xl), .val .null, .unset, .unset, .unset, .unset]) rfl (XS.iloadN X0.here hx rfl (hb hby d2_2) rfl (XS.bipush X0.here hx rfl (hb hby d2_3) k)))) ?_
  show ownEnds _ _ _ _ (T0.setTop (mkF m 5 #[.val (.int xi), .val (.int xl), .val .null, .unset, .unset, .unset, .unset] [(.int (36 : Int32)), (.int xi)]))
  by_cases hc5 : xi = (36 : Int32)
  · refine ownEnds.law (fun t => XS.icmpNo X0.here hx rfl (hb hby d2_5) rfl (teq hc5).2) ?_
    show ownEnds _ _ _ _ (T0.setTop (mkF m 8 #[.val (.int xi), .val (.int xl), .val .null, .unset, .unset, .unset, .unset] []))
    refine ownEnds.law (fun t k => XS.iloadN X0.here hx rfl (hb hby d2_8) rfl (XS.bipush X0.here hx rfl (hb hby d2_9) k)) ?_
    show ownEnds _ _ _ _ (T0.setTop (mkF m 11 #[.val (.int xi), .val (.int xl), .val .null, .unset, .unset, .unset, .unset] [(.int (64 : Int32)), (.int xl)]))
    by_cases hc11 : xl = (64 : Int32)
    · refine ownEnds.law (fun t => XS.icmpNo X0.here hx rfl (hb hby d2_11) rfl (teq hc11).2) ?_
      show ownEnds _ _ _ _ (T0.setTop (mkF m 14 #[.val (.int xi), .val (.int xl), .val .null, .unset, .unset, .unset, .unset] []))
      obtain ⟨T1, X1, e1, st1⟩ := getS2 X0 hx hZ hown (host := "") (Or.inl (wd_21 hw)) Via.refl e0 S_JIS_X_0208 (g := (mkF m 14 #[.val (.int xi), .val (.int xl), .val .null, .unset, .unset, .unset, .unset] [])) rfl (hb hby d2_14)
      refine ownEnds.law st1 ?_
      show ownEnds _ _ _ _ (T1.setTop (mkF m 17 #[.val (.int xi), .val (.int xl), .val .null, .unset, .unset, .unset, .unset] [(.ref A_JIS_X_0208)]))
      refine ownEnds.law (fun t k => XS.astoreN X1.here hx rfl (hb hby d2_17) rfl rfl (l' := #[.val (.int xi), .val (.int xl), .val (.ref A_JIS_X_0208), .unset, .unset, .unset, .unset]) rfl (XS.goto X1.here hx rfl (pc0 := 18) (pc' := 72) rfl (hb hby d2_18) (by decide) (by decide) (XS.aloadN X1.here hx rfl (hb hby d2_72) rfl rfl k))) ?_
      show ownEnds _ _ _ _ (T1.setTop (mkF m 73 #[.val (.int xi), .val (.int xl), .val (.ref A_JIS_X_0208), .unset, .unset, .unset, .unset] [(.ref A_JIS_X_0208)]))
      refine ownRetA X1 hlk hx hret rfl rfl (hb hby d2_73) (by decide) (by decide) ?_
      exact ⟨by (congr 1; unfold EXf; (repeat' split) <;> (try subst_vars) <;> simp_all), rfl, e1⟩
    · refine ownEnds.law (fun t => XS.icmpYes X0.here hx rfl (pc0 := 11) (pc' := 21) rfl (hb hby d2_11) rfl (feq hc11).2 (by decide) (by decide)) ?_
      show ownEnds _ _ _ _ (T0.setTop (mkF m 21 #[.val (.int xi), .val (.int xl), .val .null, .unset, .unset, .unset, .unset] []))
      obtain ⟨T2, X2, e2, st2⟩ := getS2 X0 hx hZ hown (host := "") (Or.inl (wd_8 hw)) Via.refl e0 S_SETS (g := (mkF m 21 #[.val (.int xi), .val (.int xl), .val .null, .unset, .unset, .unset, .unset] [])) rfl (hb hby d2_21)
      refine ownEnds.law st2 ?_
      show ownEnds _ _ _ _ (T2.setTop (mkF m 24 #[.val (.int xi), .val (.int xl), .val .null, .unset, .unset, .unset, .unset] [(.ref A_SETS)]))
      refine ownEnds.law (fun t k => XS.astoreN X2.here hx rfl (hb hby d2_24) rfl rfl (l' := #[.val (.int xi), .val (.int xl), .val .null, .val (.ref A_SETS), .unset, .unset, .unset]) rfl (XS.aloadN X2.here hx rfl (hb hby d2_25) rfl rfl k)) ?_
      show ownEnds _ _ _ _ (T2.setTop (mkF m 26 #[.val (.int xi), .val (.int xl), .val .null, .val (.ref A_SETS), .unset, .unset, .unset] [(.ref A_SETS)]))
      obtain ⟨cl3, Ar3, -, S3, N3, -, -⟩ := id V_SETS
      refine ownEnds.law (X2.arraylength hx (by rw [e2]; exact Ar3.1) (State.isArrayOf_alike hZ.alike Ar3.2.1) (g := (mkF m 26 #[.val (.int xi), .val (.int xl), .val .null, .val (.ref A_SETS), .unset, .unset, .unset] [(.ref A_SETS)])) rfl rfl (hb hby d2_26)) ?_
      rw [len_of S3 N3]
      show ownEnds _ _ _ _ (T2.setTop (mkF m 27 #[.val (.int xi), .val (.int xl), .val .null, .val (.ref A_SETS), .unset, .unset, .unset] [(.int (4 : Int32))]))
      refine ownEnds.law (fun t k => XS.istore X2.here hx rfl (hb hby d2_27) rfl (l' := #[.val (.int xi), .val (.int xl), .val .null, .val (.ref A_SETS), .val (.int (4 : Int32)), .unset, .unset]) rfl (XS.iconst X2.here hx rfl (hb hby d2_29) (XS.istore X2.here hx rfl (hb hby d2_30) rfl (l' := #[.val (.int xi), .val (.int xl), .val .null, .val (.ref A_SETS), .val (.int (4 : Int32)), .val (.int (0 : Int32)), .unset]) rfl (XS.iload X2.here hx rfl (hb hby d2_32) rfl (XS.iload X2.here hx rfl (hb hby d2_34) rfl k))))) ?_
      show ownEnds _ _ _ _ (T2.setTop (mkF m 36 #[.val (.int xi), .val (.int xl), .val .null, .val (.ref A_SETS), .val (.int (4 : Int32)), .val (.int (0 : Int32)), .unset] [(.int (4 : Int32)), (.int (0 : Int32))]))
      refine ownEnds.law (fun t => XS.icmpNo X2.here hx rfl (hb hby d2_36) rfl (tlt (by decide : (0 : Int32) < (4 : Int32))).2.1) ?_
      show ownEnds _ _ _ _ (T2.setTop (mkF m 39 #[.val (.int xi), .val (.int xl), .val .null, .val (.ref A_SETS), .val (.int (4 : Int32)), .val (.int (0 : Int32)), .unset] []))
      refine ownEnds.law (fun t k => XS.aloadN X2.here hx rfl (hb hby d2_39) rfl rfl (XS.iload X2.here hx rfl (hb hby d2_40) rfl k)) ?_
      show ownEnds _ _ _ _ (T2.setTop (mkF m 42 #[.val (.int xi), .val (.int xl), .val .null, .val (.ref A_SETS), .val (.int (4 : Int32)), .val (.int (0 : Int32)), .unset] [(.int (0 : Int32)), (.ref A_SETS)]))
      obtain ⟨cl4, Ar4, q4, S4, N4, H4, G4⟩ := id V_SETS
      have hi4 := inb_of (j := (0 : Int32)) S4 ⟨by decide, by decide⟩
      have hv4 : cl4.slots[((0 : Int32)).toNatClampNeg]? = some (.ref A_ASCII) := H4.at hi4 rfl
      refine ownEnds.law (fun t k => X2.aaload hx (j := (0 : Int32)) (v := (.ref A_ASCII)) (by rw [e2]; exact Ar4.1) (State.isArrayOf_alike hZ.alike Ar4.2.1) rfl Ar4.2.2 hi4 hv4 (g := (mkF m 42 #[.val (.int xi), .val (.int xl), .val .null, .val (.ref A_SETS), .val (.int (4 : Int32)), .val (.int (0 : Int32)), .unset] [(.int (0 : Int32)), (.ref A_SETS)])) rfl rfl (hb hby d2_42) _ (XS.astore X2.here hx rfl (hb hby d2_43) rfl rfl (l' := #[.val (.int xi), .val (.int xl), .val .null, .val (.ref A_SETS), .val (.int (4 : Int32)), .val (.int (0 : Int32)), .val (.ref A_ASCII)]) rfl (XS.aload X2.here hx rfl (hb hby d2_45) rfl rfl k))) ?_
      show ownEnds _ _ _ _ (T2.setTop (mkF m 47 #[.val (.int xi), .val (.int xl), .val .null, .val (.ref A_SETS), .val (.int (4 : Int32)), .val (.int (0 : Int32)), .val (.ref A_ASCII)] [(.ref A_ASCII)]))
      obtain ⟨T5, X5, e5, st5⟩ := getF X2 hx hZ hown (host := "") (Or.inl (wd_11 hw)) Via.refl e2 F_ASCII_intermediate (g := (mkF m 47 #[.val (.int xi), .val (.int xl), .val .null, .val (.ref A_SETS), .val (.int (4 : Int32)), .val (.int (0 : Int32)), .val (.ref A_ASCII)] [(.ref A_ASCII)])) rfl rfl (hb hby d2_47)
      refine ownEnds.law st5 ?_
      show ownEnds _ _ _ _ (T5.setTop (mkF m 50 #[.val (.int xi), .val (.int xl), .val .null, .val (.ref A_SETS), .val (.int (4 : Int32)), .val (.int (0 : Int32)), .val (.ref A_ASCII)] [(.int (40 : Int32))]))
      refine ownEnds.law (fun t k => XS.iloadN X5.here hx rfl (hb hby d2_50) rfl k) ?_
      show ownEnds _ _ _ _ (T5.setTop (mkF m 51 #[.val (.int xi), .val (.int xl), .val .null, .val (.ref A_SETS), .val (.int (4 : Int32)), .val (.int (0 : Int32)), .val (.ref A_ASCII)] [(.int xi), (.int (40 : Int32))]))
      refine ownEnds.law (fun t => XS.icmpYes X5.here hx rfl (pc0 := 51) (pc' := 66) rfl (hb hby d2_51) rfl (feq (fun q => absurd (q.trans (hc5.symm).symm) (by decide) : ¬ ((40 : Int32) = xi))).2 (by decide) (by decide)) ?_
      show ownEnds _ _ _ _ (T5.setTop (mkF m 66 #[.val (.int xi), .val (.int xl), .val .null, .val (.ref A_SETS), .val (.int (4 : Int32)), .val (.int (0 : Int32)), .val (.ref A_ASCII)] []))
      refine ownEnds.law (fun t k => XS.iinc X5.here hx rfl (hb hby d2_66) rfl (l' := #[.val (.int xi), .val (.int xl), .val .null, .val (.ref A_SETS), .val (.int (4 : Int32)), .val (.int (1 : Int32)), .val (.ref A_ASCII)]) rfl (XS.goto X5.here hx rfl (pc0 := 69) (pc' := 32) rfl (hb hby d2_69) (by decide) (by decide) (XS.iload X5.here hx rfl (hb hby d2_32) rfl (XS.iload X5.here hx rfl (hb hby d2_34) rfl k)))) ?_
      show ownEnds _ _ _ _ (T5.setTop (mkF m 36 #[.val (.int xi), .val (.int xl), .val .null, .val (.ref A_SETS), .val (.int (4 : Int32)), .val (.int (1 : Int32)), .val (.ref A_ASCII)] [(.int (4 : Int32)), (.int (1 : Int32))]))
      refine ownEnds.law (fun t => XS.icmpNo X5.here hx rfl (hb hby d2_36) rfl (tlt (by decide : (1 : Int32) < (4 : Int32))).2.1) ?_
      show ownEnds _ _ _ _ (T5.setTop (mkF m 39 #[.val (.int xi), .val (.int xl), .val .null, .val (.ref A_SETS), .val (.int (4 : Int32)), .val (.int (1 : Int32)), .val (.ref A_ASCII)] []))
      refine ownEnds.law (fun t k => XS.aloadN X5.here hx rfl (hb hby d2_39) rfl rfl (XS.iload X5.here hx rfl (hb hby d2_40) rfl k)) ?_
      show ownEnds _ _ _ _ (T5.setTop (mkF m 42 #[.val (.int xi), .val (.int xl), .val .null, .val (.ref A_SETS), .val (.int (4 : Int32)), .val (.int (1 : Int32)), .val (.ref A_ASCII)] [(.int (1 : Int32)), (.ref A_SETS)]))
      obtain ⟨cl6, Ar6, q6, S6, N6, H6, G6⟩ := id V_SETS
      have hi6 := inb_of (j := (1 : Int32)) S6 ⟨by decide, by decide⟩
      have hv6 : cl6.slots[((1 : Int32)).toNatClampNeg]? = some (.ref A_ROMAN) := H6.at hi6 rfl
      refine ownEnds.law (fun t k => X5.aaload hx (j := (1 : Int32)) (v := (.ref A_ROMAN)) (by rw [e5]; exact Ar6.1) (State.isArrayOf_alike hZ.alike Ar6.2.1) rfl Ar6.2.2 hi6 hv6 (g := (mkF m 42 #[.val (.int xi), .val (.int xl), .val .null, .val (.ref A_SETS), .val (.int (4 : Int32)), .val (.int (1 : Int32)), .val (.ref A_ASCII)] [(.int (1 : Int32)), (.ref A_SETS)])) rfl rfl (hb hby d2_42) _ (XS.astore X5.here hx rfl (hb hby d2_43) rfl rfl (l' := #[.val (.int xi), .val (.int xl), .val .null, .val (.ref A_SETS), .val (.int (4 : Int32)), .val (.int (1 : Int32)), .val (.ref A_ROMAN)]) rfl (XS.aload X5.here hx rfl (hb hby d2_45) rfl rfl k))) ?_
      show ownEnds _ _ _ _ (T5.setTop (mkF m 47 #[.val (.int xi), .val (.int xl), .val .null, .val (.ref A_SETS), .val (.int (4 : Int32)), .val (.int (1 : Int32)), .val (.ref A_ROMAN)] [(.ref A_ROMAN)]))
      obtain ⟨T7, X7, e7, st7⟩ := getF X5 hx hZ hown (host := "") (Or.inl (wd_11 hw)) Via.refl e5 F_ROMAN_intermediate (g := (mkF m 47 #[.val (.int xi), .val (.int xl), .val .null, .val (.ref A_SETS), .val (.int (4 : Int32)), .val (.int (1 : Int32)), .val (.ref A_ROMAN)] [(.ref A_ROMAN)])) rfl rfl (hb hby d2_47)
      refine ownEnds.law st7 ?_
      show ownEnds _ _ _ _ (T7.setTop (mkF m 50 #[.val (.int xi), .val (.int xl), .val .null, .val (.ref A_SETS), .val (.int (4 : Int32)), .val (.int (1 : Int32)), .val (.ref A_ROMAN)] [(.int (40 : Int32))]))
      refine ownEnds.law (fun t k => XS.iloadN X7.here hx rfl (hb hby d2_50) rfl k) ?_
      show ownEnds _ _ _ _ (T7.setTop (mkF m 51 #[.val (.int xi), .val (.int xl), .val .null, .val (.ref A_SETS), .val (.int (4 : Int32)), .val (.int (1 : Int32)), .val (.ref A_ROMAN)] [(.int xi), (.int (40 : Int32))]))
      refine ownEnds.law (fun t => XS.icmpYes X7.here hx rfl (pc0 := 51) (pc' := 66) rfl (hb hby d2_51) rfl (feq (fun q => absurd (q.trans (hc5.symm).symm) (by decide) : ¬ ((40 : Int32) = xi))).2 (by decide) (by decide)) ?_
      show ownEnds _ _ _ _ (T7.setTop (mkF m 66 #[.val (.int xi), .val (.int xl), .val .null, .val (.ref A_SETS), .val (.int (4 : Int32)), .val (.int (1 : Int32)), .val (.ref A_ROMAN)] []))
      refine ownEnds.law (fun t k => XS.iinc X7.here hx rfl (hb hby d2_66) rfl (l' := #[.val (.int xi), .val (.int xl), .val .null, .val (.ref A_SETS), .val (.int (4 : Int32)), .val (.int (2 : Int32)), .val (.ref A_ROMAN)]) rfl (XS.goto X7.here hx rfl (pc0 := 69) (pc' := 32) rfl (hb hby d2_69) (by decide) (by decide) (XS.iload X7.here hx rfl (hb hby d2_32) rfl (XS.iload X7.here hx rfl (hb hby d2_34) rfl k)))) ?_
      show ownEnds _ _ _ _ (T7.setTop (mkF m 36 #[.val (.int xi), .val (.int xl), .val .null, .val (.ref A_SETS), .val (.int (4 : Int32)), .val (.int (2 : Int32)), .val (.ref A_ROMAN)] [(.int (4 : Int32)), (.int (2 : Int32))]))
      refine ownEnds.law (fun t => XS.icmpNo X7.here hx rfl (hb hby d2_36) rfl (tlt (by decide : (2 : Int32) < (4 : Int32))).2.1) ?_
      show ownEnds _ _ _ _ (T7.setTop (mkF m 39 #[.val (.int xi), .val (.int xl), .val .null, .val (.ref A_SETS), .val (.int (4 : Int32)), .val (.int (2 : Int32)), .val (.ref A_ROMAN)] []))
      refine ownEnds.law (fun t k => XS.aloadN X7.here hx rfl (hb hby d2_39) rfl rfl (XS.iload X7.here hx rfl (hb hby d2_40) rfl k)) ?_
      show ownEnds _ _ _ _ (T7.setTop (mkF m 42 #[.val (.int xi), .val (.int xl), .val .null, .val (.ref A_SETS), .val (.int (4 : Int32)), .val (.int (2 : Int32)), .val (.ref A_ROMAN)] [(.int (2 : Int32)), (.ref A_SETS)]))
      obtain ⟨cl8, Ar8, q8, S8, N8, H8, G8⟩ := id V_SETS
      have hi8 := inb_of (j := (2 : Int32)) S8 ⟨by decide, by decide⟩
      have hv8 : cl8.slots[((2 : Int32)).toNatClampNeg]? = some (.ref A_JIS_X_0208) := H8.at hi8 rfl
      refine ownEnds.law (fun t k => X7.aaload hx (j := (2 : Int32)) (v := (.ref A_JIS_X_0208)) (by rw [e7]; exact Ar8.1) (State.isArrayOf_alike hZ.alike Ar8.2.1) rfl Ar8.2.2 hi8 hv8 (g := (mkF m 42 #[.val (.int xi), .val (.int xl), .val .null, .val (.ref A_SETS), .val (.int (4 : Int32)), .val (.int (2 : Int32)), .val (.ref A_ROMAN)] [(.int (2 : Int32)), (.ref A_SETS)])) rfl rfl (hb hby d2_42) _ (XS.astore X7.here hx rfl (hb hby d2_43) rfl rfl (l' := #[.val (.int xi), .val (.int xl), .val .null, .val (.ref A_SETS), .val (.int (4 : Int32)), .val (.int (2 : Int32)), .val (.ref A_JIS_X_0208)]) rfl (XS.aload X7.here hx rfl (hb hby d2_45) rfl rfl k))) ?_
      show ownEnds _ _ _ _ (T7.setTop (mkF m 47 #[.val (.int xi), .val (.int xl), .val .null, .val (.ref A_SETS), .val (.int (4 : Int32)), .val (.int (2 : Int32)), .val (.ref A_JIS_X_0208)] [(.ref A_JIS_X_0208)]))
      obtain ⟨T9, X9, e9, st9⟩ := getF X7 hx hZ hown (host := "") (Or.inl (wd_11 hw)) Via.refl e7 F_JIS_X_0208_intermediate (g := (mkF m 47 #[.val (.int xi), .val (.int xl), .val .null, .val (.ref A_SETS), .val (.int (4 : Int32)), .val (.int (2 : Int32)), .val (.ref A_JIS_X_0208)] [(.ref A_JIS_X_0208)])) rfl rfl (hb hby d2_47)
      refine ownEnds.law st9 ?_
      show ownEnds _ _ _ _ (T9.setTop (mkF m 50 #[.val (.int xi), .val (.int xl), .val .null, .val (.ref A_SETS), .val (.int (4 : Int32)), .val (.int (2 : Int32)), .val (.ref A_JIS_X_0208)] [(.int (36 : Int32))]))
      refine ownEnds.law (fun t k => XS.iloadN X9.here hx rfl (hb hby d2_50) rfl k) ?_
      show ownEnds _ _ _ _ (T9.setTop (mkF m 51 #[.val (.int xi), .val (.int xl), .val .null, .val (.ref A_SETS), .val (.int (4 : Int32)), .val (.int (2 : Int32)), .val (.ref A_JIS_X_0208)] [(.int xi), (.int (36 : Int32))]))
      by_cases hc51 : (36 : Int32) = xi
      · refine ownEnds.law (fun t => XS.icmpNo X9.here hx rfl (hb hby d2_51) rfl (teq hc51).2) ?_
        show ownEnds _ _ _ _ (T9.setTop (mkF m 54 #[.val (.int xi), .val (.int xl), .val .null, .val (.ref A_SETS), .val (.int (4 : Int32)), .val (.int (2 : Int32)), .val (.ref A_JIS_X_0208)] []))
        refine ownEnds.law (fun t k => XS.aload X9.here hx rfl (hb hby d2_54) rfl rfl k) ?_
        show ownEnds _ _ _ _ (T9.setTop (mkF m 56 #[.val (.int xi), .val (.int xl), .val .null, .val (.ref A_SETS), .val (.int (4 : Int32)), .val (.int (2 : Int32)), .val (.ref A_JIS_X_0208)] [(.ref A_JIS_X_0208)]))
        obtain ⟨T10, X10, e10, st10⟩ := getF X9 hx hZ hown (host := "") (Or.inl (wd_17 hw)) Via.refl e9 F_JIS_X_0208_designation (g := (mkF m 56 #[.val (.int xi), .val (.int xl), .val .null, .val (.ref A_SETS), .val (.int (4 : Int32)), .val (.int (2 : Int32)), .val (.ref A_JIS_X_0208)] [(.ref A_JIS_X_0208)])) rfl rfl (hb hby d2_56)
        refine ownEnds.law st10 ?_
        show ownEnds _ _ _ _ (T10.setTop (mkF m 59 #[.val (.int xi), .val (.int xl), .val .null, .val (.ref A_SETS), .val (.int (4 : Int32)), .val (.int (2 : Int32)), .val (.ref A_JIS_X_0208)] [(.int (66 : Int32))]))
        refine ownEnds.law (fun t k => XS.iloadN X10.here hx rfl (hb hby d2_59) rfl k) ?_
        show ownEnds _ _ _ _ (T10.setTop (mkF m 60 #[.val (.int xi), .val (.int xl), .val .null, .val (.ref A_SETS), .val (.int (4 : Int32)), .val (.int (2 : Int32)), .val (.ref A_JIS_X_0208)] [(.int xl), (.int (66 : Int32))]))
        by_cases hc60 : (66 : Int32) = xl
        · refine ownEnds.law (fun t => XS.icmpNo X10.here hx rfl (hb hby d2_60) rfl (teq hc60).2) ?_
          show ownEnds _ _ _ _ (T10.setTop (mkF m 63 #[.val (.int xi), .val (.int xl), .val .null, .val (.ref A_SETS), .val (.int (4 : Int32)), .val (.int (2 : Int32)), .val (.ref A_JIS_X_0208)] []))
          refine ownEnds.law (fun t k => XS.aload X10.here hx rfl (hb hby d2_63) rfl rfl (XS.astoreN X10.here hx rfl (hb hby d2_65) rfl rfl (l' := #[.val (.int xi), .val (.int xl), .val (.ref A_JIS_X_0208), .val (.ref A_SETS), .val (.int (4 : Int32)), .val (.int (2 : Int32)), .val (.ref A_JIS_X_0208)]) rfl (XS.iinc X10.here hx rfl (hb hby d2_66) rfl (l' := #[.val (.int xi), .val (.int xl), .val (.ref A_JIS_X_0208), .val (.ref A_SETS), .val (.int (4 : Int32)), .val (.int (3 : Int32)), .val (.ref A_JIS_X_0208)]) rfl (XS.goto X10.here hx rfl (pc0 := 69) (pc' := 32) rfl (hb hby d2_69) (by decide) (by decide) (XS.iload X10.here hx rfl (hb hby d2_32) rfl (XS.iload X10.here hx rfl (hb hby d2_34) rfl k)))))) ?_
          show ownEnds _ _ _ _ (T10.setTop (mkF m 36 #[.val (.int xi), .val (.int xl), .val (.ref A_JIS_X_0208), .val (.ref A_SETS), .val (.int (4 : Int32)), .val (.int (3 : Int32)), .val (.ref A_JIS_X_0208)] [(.int (4 : Int32)), (.int (3 : Int32))]))
          refine ownEnds.law (fun t => XS.icmpNo X10.here hx rfl (hb hby d2_36) rfl (tlt (by decide : (3 : Int32) < (4 : Int32))).2.1) ?_
          show ownEnds _ _ _ _ (T10.setTop (mkF m 39 #[.val (.int xi), .val (.int xl), .val (.ref A_JIS_X_0208), .val (.ref A_SETS), .val (.int (4 : Int32)), .val (.int (3 : Int32)), .val (.ref A_JIS_X_0208)] []))
          refine ownEnds.law (fun t k => XS.aloadN X10.here hx rfl (hb hby d2_39) rfl rfl (XS.iload X10.here hx rfl (hb hby d2_40) rfl k)) ?_
          show ownEnds _ _ _ _ (T10.setTop (mkF m 42 #[.val (.int xi), .val (.int xl), .val (.ref A_JIS_X_0208), .val (.ref A_SETS), .val (.int (4 : Int32)), .val (.int (3 : Int32)), .val (.ref A_JIS_X_0208)] [(.int (3 : Int32)), (.ref A_SETS)]))
          obtain ⟨cl11, Ar11, q11, S11, N11, H11, G11⟩ := id V_SETS
          have hi11 := inb_of (j := (3 : Int32)) S11 ⟨by decide, by decide⟩
          have hv11 : cl11.slots[((3 : Int32)).toNatClampNeg]? = some (.ref A_KATAKANA) := H11.at hi11 rfl
          refine ownEnds.law (fun t k => X10.aaload hx (j := (3 : Int32)) (v := (.ref A_KATAKANA)) (by rw [e10]; exact Ar11.1) (State.isArrayOf_alike hZ.alike Ar11.2.1) rfl Ar11.2.2 hi11 hv11 (g := (mkF m 42 #[.val (.int xi), .val (.int xl), .val (.ref A_JIS_X_0208), .val (.ref A_SETS), .val (.int (4 : Int32)), .val (.int (3 : Int32)), .val (.ref A_JIS_X_0208)] [(.int (3 : Int32)), (.ref A_SETS)])) rfl rfl (hb hby d2_42) _ (XS.astore X10.here hx rfl (hb hby d2_43) rfl rfl (l' := #[.val (.int xi), .val (.int xl), .val (.ref A_JIS_X_0208), .val (.ref A_SETS), .val (.int (4 : Int32)), .val (.int (3 : Int32)), .val (.ref A_KATAKANA)]) rfl (XS.aload X10.here hx rfl (hb hby d2_45) rfl rfl k))) ?_
          show ownEnds _ _ _ _ (T10.setTop (mkF m 47 #[.val (.int xi), .val (.int xl), .val (.ref A_JIS_X_0208), .val (.ref A_SETS), .val (.int (4 : Int32)), .val (.int (3 : Int32)), .val (.ref A_KATAKANA)] [(.ref A_KATAKANA)]))
          obtain ⟨T12, X12, e12, st12⟩ := getF X10 hx hZ hown (host := "") (Or.inl (wd_11 hw)) Via.refl e10 F_KATAKANA_intermediate (g := (mkF m 47 #[.val (.int xi), .val (.int xl), .val (.ref A_JIS_X_0208), .val (.ref A_SETS), .val (.int (4 : Int32)), .val (.int (3 : Int32)), .val (.ref A_KATAKANA)] [(.ref A_KATAKANA)])) rfl rfl (hb hby d2_47)
          refine ownEnds.law st12 ?_
          show ownEnds _ _ _ _ (T12.setTop (mkF m 50 #[.val (.int xi), .val (.int xl), .val (.ref A_JIS_X_0208), .val (.ref A_SETS), .val (.int (4 : Int32)), .val (.int (3 : Int32)), .val (.ref A_KATAKANA)] [(.int (40 : Int32))]))
          refine ownEnds.law (fun t k => XS.iloadN X12.here hx rfl (hb hby d2_50) rfl k) ?_
          show ownEnds _ _ _ _ (T12.setTop (mkF m 51 #[.val (.int xi), .val (.int xl), .val (.ref A_JIS_X_0208), .val (.ref A_SETS), .val (.int (4 : Int32)), .val (.int (3 : Int32)), .val (.ref A_KATAKANA)] [(.int xi), (.int (40 : Int32))]))
          refine ownEnds.law (fun t => XS.icmpYes X12.here hx rfl (pc0 := 51) (pc' := 66) rfl (hb hby d2_51) rfl (feq (fun q => absurd (q.trans (hc5.symm).symm) (by decide) : ¬ ((40 : Int32) = xi))).2 (by decide) (by decide)) ?_
          show ownEnds _ _ _ _ (T12.setTop (mkF m 66 #[.val (.int xi), .val (.int xl), .val (.ref A_JIS_X_0208), .val (.ref A_SETS), .val (.int (4 : Int32)), .val (.int (3 : Int32)), .val (.ref A_KATAKANA)] []))
          refine ownEnds.law (fun t k => XS.iinc X12.here hx rfl (hb hby d2_66) rfl (l' := #[.val (.int xi), .val (.int xl), .val (.ref A_JIS_X_0208), .val (.ref A_SETS), .val (.int (4 : Int32)), .val (.int (4 : Int32)), .val (.ref A_KATAKANA)]) rfl (XS.goto X12.here hx rfl (pc0 := 69) (pc' := 32) rfl (hb hby d2_69) (by decide) (by decide) (XS.iload X12.here hx rfl (hb hby d2_32) rfl (XS.iload X12.here hx rfl (hb hby d2_34) rfl k)))) ?_
          show ownEnds _ _ _ _ (T12.setTop (mkF m 36 #[.val (.int xi), .val (.int xl), .val (.ref A_JIS_X_0208), .val (.ref A_SETS), .val (.int (4 : Int32)), .val (.int (4 : Int32)), .val (.ref A_KATAKANA)] [(.int (4 : Int32)), (.int (4 : Int32))]))
          refine ownEnds.law (fun t => XS.icmpYes X12.here hx rfl (pc0 := 36) (pc' := 72) rfl (hb hby d2_36) rfl (flt (Int32.lt_irrefl)).2.1 (by decide) (by decide)) ?_
          show ownEnds _ _ _ _ (T12.setTop (mkF m 72 #[.val (.int xi), .val (.int xl), .val (.ref A_JIS_X_0208), .val (.ref A_SETS), .val (.int (4 : Int32)), .val (.int (4 : Int32)), .val (.ref A_KATAKANA)] []))
          refine ownEnds.law (fun t k => XS.aloadN X12.here hx rfl (hb hby d2_72) rfl rfl k) ?_
          show ownEnds _ _ _ _ (T12.setTop (mkF m 73 #[.val (.int xi), .val (.int xl), .val (.ref A_JIS_X_0208), .val (.ref A_SETS), .val (.int (4 : Int32)), .val (.int (4 : Int32)), .val (.ref A_KATAKANA)] [(.ref A_JIS_X_0208)]))
          refine ownRetA X12 hlk hx hret rfl rfl (hb hby d2_73) (by decide) (by decide) ?_
          exact ⟨by (congr 1; unfold EXf; (repeat' split) <;> (try subst_vars) <;> simp_all), rfl, e12⟩
        · refine ownEnds.law (fun t => XS.icmpYes X10.here hx rfl (pc0 := 60) (pc' := 66) rfl (hb hby d2_60) rfl (feq hc60).2 (by decide) (by decide)) ?_
          show ownEnds _ _ _ _ (T10.setTop (mkF m 66 #[.val (.int xi), .val (.int xl), .val .null, .val (.ref A_SETS), .val (.int (4 : Int32)), .val (.int (2 : Int32)), .val (.ref A_JIS_X_0208)] []))
          refine ownEnds.law (fun t k => XS.iinc X10.here hx rfl (hb hby d2_66) rfl (l' := #[.val (.int xi), .val (.int xl), .val .null, .val (.ref A_SETS), .val (.int (4 : Int32)), .val (.int (3 : Int32)), .val (.ref A_JIS_X_0208)]) rfl (XS.goto X10.here hx rfl (pc0 := 69) (pc' := 32) rfl (hb hby d2_69) (by decide) (by decide) (XS.iload X10.here hx rfl (hb hby d2_32) rfl (XS.iload X10.here hx rfl (hb hby d2_34) rfl k)))) ?_
          show ownEnds _ _ _ _ (T10.setTop (mkF m 36 #[.val (.int xi), .val (.int xl), .val .null, .val (.ref A_SETS), .val (.int (4 : Int32)), .val (.int (3 : Int32)), .val (.ref A_JIS_X_0208)] [(.int (4 : Int32)), (.int (3 : Int32))]))
          refine ownEnds.law (fun t => XS.icmpNo X10.here hx rfl (hb hby d2_36) rfl (tlt (by decide : (3 : Int32) < (4 : Int32))).2.1) ?_
          show ownEnds _ _ _ _ (T10.setTop (mkF m 39 #[.val (.int xi), .val (.int xl), .val .null, .val (.ref A_SETS), .val (.int (4 : Int32)), .val (.int (3 : Int32)), .val (.ref A_JIS_X_0208)] []))
          refine ownEnds.law (fun t k => XS.aloadN X10.here hx rfl (hb hby d2_39) rfl rfl (XS.iload X10.here hx rfl (hb hby d2_40) rfl k)) ?_
          show ownEnds _ _ _ _ (T10.setTop (mkF m 42 #[.val (.int xi), .val (.int xl), .val .null, .val (.ref A_SETS), .val (.int (4 : Int32)), .val (.int (3 : Int32)), .val (.ref A_JIS_X_0208)] [(.int (3 : Int32)), (.ref A_SETS)]))
          obtain ⟨cl13, Ar13, q13, S13, N13, H13, G13⟩ := id V_SETS
          have hi13 := inb_of (j := (3 : Int32)) S13 ⟨by decide, by decide⟩
          have hv13 : cl13.slots[((3 : Int32)).toNatClampNeg]? = some (.ref A_KATAKANA) := H13.at hi13 rfl
          refine ownEnds.law (fun t k => X10.aaload hx (j := (3 : Int32)) (v := (.ref A_KATAKANA)) (by rw [e10]; exact Ar13.1) (State.isArrayOf_alike hZ.alike Ar13.2.1) rfl Ar13.2.2 hi13 hv13 (g := (mkF m 42 #[.val (.int xi), .val (.int xl), .val .null, .val (.ref A_SETS), .val (.int (4 : Int32)), .val (.int (3 : Int32)), .val (.ref A_JIS_X_0208)] [(.int (3 : Int32)), (.ref A_SETS)])) rfl rfl (hb hby d2_42) _ (XS.astore X10.here hx rfl (hb hby d2_43) rfl rfl (l' := #[.val (.int xi), .val (.int xl), .val .null, .val (.ref A_SETS), .val (.int (4 : Int32)), .val (.int (3 : Int32)), .val (.ref A_KATAKANA)]) rfl (XS.aload X10.here hx rfl (hb hby d2_45) rfl rfl k))) ?_
          show ownEnds _ _ _ _ (T10.setTop (mkF m 47 #[.val (.int xi), .val (.int xl), .val .null, .val (.ref A_SETS), .val (.int (4 : Int32)), .val (.int (3 : Int32)), .val (.ref A_KATAKANA)] [(.ref A_KATAKANA)]))
          obtain ⟨T14, X14, e14, st14⟩ := getF X10 hx hZ hown (host := "") (Or.inl (wd_11 hw)) Via.refl e10 F_KATAKANA_intermediate (g := (mkF m 47 #[.val (.int xi), .val (.int xl), .val .null, .val (.ref A_SETS), .val (.int (4 : Int32)), .val (.int (3 : Int32)), .val (.ref A_KATAKANA)] [(.ref A_KATAKANA)])) rfl rfl (hb hby d2_47)
          refine ownEnds.law st14 ?_
          show ownEnds _ _ _ _ (T14.setTop (mkF m 50 #[.val (.int xi), .val (.int xl), .val .null, .val (.ref A_SETS), .val (.int (4 : Int32)), .val (.int (3 : Int32)), .val (.ref A_KATAKANA)] [(.int (40 : Int32))]))
          refine ownEnds.law (fun t k => XS.iloadN X14.here hx rfl (hb hby d2_50) rfl k) ?_
          show ownEnds _ _ _ _ (T14.setTop (mkF m 51 #[.val (.int xi), .val (.int xl), .val .null, .val (.ref A_SETS), .val (.int (4 : Int32)), .val (.int (3 : Int32)), .val (.ref A_KATAKANA)] [(.int xi), (.int (40 : Int32))]))
          refine ownEnds.law (fun t => XS.icmpYes X14.here hx rfl (pc0 := 51) (pc' := 66) rfl (hb hby d2_51) rfl (feq (fun q => absurd (q.trans (hc5.symm).symm) (by decide) : ¬ ((40 : Int32) = xi))).2 (by decide) (by decide)) ?_
          show ownEnds _ _ _ _ (T14.setTop (mkF m 66 #[.val (.int xi), .val (.int xl), .val .null, .val (.ref A_SETS), .val (.int (4 : Int32)), .val (.int (3 : Int32)), .val (.ref A_KATAKANA)] []))
          refine ownEnds.law (fun t k => XS.iinc X14.here hx rfl (hb hby d2_66) rfl (l' := #[.val (.int xi), .val (.int xl), .val .null, .val (.ref A_SETS), .val (.int (4 : Int32)), .val (.int (4 : Int32)), .val (.ref A_KATAKANA)]) rfl (XS.goto X14.here hx rfl (pc0 := 69) (pc' := 32) rfl (hb hby d2_69) (by decide) (by decide) (XS.iload X14.here hx rfl (hb hby d2_32) rfl (XS.iload X14.here hx rfl (hb hby d2_34) rfl k)))) ?_
          show ownEnds _ _ _ _ (T14.setTop (mkF m 36 #[.val (.int xi), .val (.int xl), .val .null, .val (.ref A_SETS), .val (.int (4 : Int32)), .val (.int (4 : Int32)), .val (.ref A_KATAKANA)] [(.int (4 : Int32)), (.int (4 : Int32))]))
          refine ownEnds.law (fun t => XS.icmpYes X14.here hx rfl (pc0 := 36) (pc' := 72) rfl (hb hby d2_36) rfl (flt (Int32.lt_irrefl)).2.1 (by decide) (by decide)) ?_
          show ownEnds _ _ _ _ (T14.setTop (mkF m 72 #[.val (.int xi), .val (.int xl), .val .null, .val (.ref A_SETS), .val (.int (4 : Int32)), .val (.int (4 : Int32)), .val (.ref A_KATAKANA)] []))
          refine ownEnds.law (fun t k => XS.aloadN X14.here hx rfl (hb hby d2_72) rfl rfl k) ?_
          show ownEnds _ _ _ _ (T14.setTop (mkF m 73 #[.val (.int xi), .val (.int xl), .val .null, .val (.ref A_SETS), .val (.int (4 : Int32)), .val (.int (4 : Int32)), .val (.ref A_KATAKANA)] [.null]))
          refine ownRetA X14 hlk hx hret rfl rfl (hb hby d2_73) (by decide) (by decide) ?_
          exact ⟨by (congr 1; unfold EXf; (repeat' split) <;> (try subst_vars) <;> simp_all), rfl, e14⟩
      · refine ownEnds.law (fun t => XS.icmpYes X9.here hx rfl (pc0 := 51) (pc' := 66) rfl (hb hby d2_51) rfl (feq hc51).2 (by decide) (by decide)) ?_
        show ownEnds _ _ _ _ (T9.setTop (mkF m 66 #[.val (.int xi), .val (.int xl), .val .null, .val (.ref A_SETS), .val (.int (4 : Int32)), .val (.int (2 : Int32)), .val (.ref A_JIS_X_0208)] []))
        refine ownEnds.law (fun t k => XS.iinc X9.here hx rfl (hb hby d2_66) rfl (l' := #[.val (.int xi), .val (.int xl), .val .null, .val (.ref A_SETS), .val (.int (4 : Int32)), .val (.int (3 : Int32)), .val (.ref A_JIS_X_0208)]) rfl (XS.goto X9.here hx rfl (pc0 := 69) (pc' := 32) rfl (hb hby d2_69) (by decide) (by decide) (XS.iload X9.here hx rfl (hb hby d2_32) rfl (XS.iload X9.here hx rfl (hb hby d2_34) rfl k)))) ?_
        show ownEnds _ _ _ _ (T9.setTop (mkF m 36 #[.val (.int xi), .val (.int xl), .val .null, .val (.ref A_SETS), .val (.int (4 : Int32)), .val (.int (3 : Int32)), .val (.ref A_JIS_X_0208)] [(.int (4 : Int32)), (.int (3 : Int32))]))
        refine ownEnds.law (fun t => XS.icmpNo X9.here hx rfl (hb hby d2_36) rfl (tlt (by decide : (3 : Int32) < (4 : Int32))).2.1) ?_
        show ownEnds _ _ _ _ (T9.setTop (mkF m 39 #[.val (.int xi), .val (.int xl), .val .null, .val (.ref A_SETS), .val (.int (4 : Int32)), .val (.int (3 : Int32)), .val (.ref A_JIS_X_0208)] []))
        refine ownEnds.law (fun t k => XS.aloadN X9.here hx rfl (hb hby d2_39) rfl rfl (XS.iload X9.here hx rfl (hb hby d2_40) rfl k)) ?_
        show ownEnds _ _ _ _ (T9.setTop (mkF m 42 #[.val (.int xi), .val (.int xl), .val .null, .val (.ref A_SETS), .val (.int (4 : Int32)), .val (.int (3 : Int32)), .val (.ref A_JIS_X_0208)] [(.int (3 : Int32)), (.ref A_SETS)]))
        obtain ⟨cl15, Ar15, q15, S15, N15, H15, G15⟩ := id V_SETS
        have hi15 := inb_of (j := (3 : Int32)) S15 ⟨by decide, by decide⟩
        have hv15 : cl15.slots[((3 : Int32)).toNatClampNeg]? = some (.ref A_KATAKANA) := H15.at hi15 rfl
        refine ownEnds.law (fun t k => X9.aaload hx (j := (3 : Int32)) (v := (.ref A_KATAKANA)) (by rw [e9]; exact Ar15.1) (State.isArrayOf_alike hZ.alike Ar15.2.1) rfl Ar15.2.2 hi15 hv15 (g := (mkF m 42 #[.val (.int xi), .val (.int xl), .val .null, .val (.ref A_SETS), .val (.int (4 : Int32)), .val (.int (3 : Int32)), .val (.ref A_JIS_X_0208)] [(.int (3 : Int32)), (.ref A_SETS)])) rfl rfl (hb hby d2_42) _ (XS.astore X9.here hx rfl (hb hby d2_43) rfl rfl (l' := #[.val (.int xi), .val (.int xl), .val .null, .val (.ref A_SETS), .val (.int (4 : Int32)), .val (.int (3 : Int32)), .val (.ref A_KATAKANA)]) rfl (XS.aload X9.here hx rfl (hb hby d2_45) rfl rfl k))) ?_
        show ownEnds _ _ _ _ (T9.setTop (mkF m 47 #[.val (.int xi), .val (.int xl), .val .null, .val (.ref A_SETS), .val (.int (4 : Int32)), .val (.int (3 : Int32)), .val (.ref A_KATAKANA)] [(.ref A_KATAKANA)]))
        obtain ⟨T16, X16, e16, st16⟩ := getF X9 hx hZ hown (host := "") (Or.inl (wd_11 hw)) Via.refl e9 F_KATAKANA_intermediate (g := (mkF m 47 #[.val (.int xi), .val (.int xl), .val .null, .val (.ref A_SETS), .val (.int (4 : Int32)), .val (.int (3 : Int32)), .val (.ref A_KATAKANA)] [(.ref A_KATAKANA)])) rfl rfl (hb hby d2_47)
        refine ownEnds.law st16 ?_
        show ownEnds _ _ _ _ (T16.setTop (mkF m 50 #[.val (.int xi), .val (.int xl), .val .null, .val (.ref A_SETS), .val (.int (4 : Int32)), .val (.int (3 : Int32)), .val (.ref A_KATAKANA)] [(.int (40 : Int32))]))
        refine ownEnds.law (fun t k => XS.iloadN X16.here hx rfl (hb hby d2_50) rfl k) ?_
        show ownEnds _ _ _ _ (T16.setTop (mkF m 51 #[.val (.int xi), .val (.int xl), .val .null, .val (.ref A_SETS), .val (.int (4 : Int32)), .val (.int (3 : Int32)), .val (.ref A_KATAKANA)] [(.int xi), (.int (40 : Int32))]))
        refine ownEnds.law (fun t => XS.icmpYes X16.here hx rfl (pc0 := 51) (pc' := 66) rfl (hb hby d2_51) rfl (feq (fun q => absurd (q.trans (hc5.symm).symm) (by decide) : ¬ ((40 : Int32) = xi))).2 (by decide) (by decide)) ?_
        show ownEnds _ _ _ _ (T16.setTop (mkF m 66 #[.val (.int xi), .val (.int xl), .val .null, .val (.ref A_SETS), .val (.int (4 : Int32)), .val (.int (3 : Int32)), .val (.ref A_KATAKANA)] []))
        refine ownEnds.law (fun t k => XS.iinc X16.here hx rfl (hb hby d2_66) rfl (l' := #[.val (.int xi), .val (.int xl), .val .null, .val (.ref A_SETS), .val (.int (4 : Int32)), .val (.int (4 : Int32)), .val (.ref A_KATAKANA)]) rfl (XS.goto X16.here hx rfl (pc0 := 69) (pc' := 32) rfl (hb hby d2_69) (by decide) (by decide) (XS.iload X16.here hx rfl (hb hby d2_32) rfl (XS.iload X16.here hx rfl (hb hby d2_34) rfl k)))) ?_
        show ownEnds _ _ _ _ (T16.setTop (mkF m 36 #[.val (.int xi), .val (.int xl), .val .null, .val (.ref A_SETS), .val (.int (4 : Int32)), .val (.int (4 : Int32)), .val (.ref A_KATAKANA)] [(.int (4 : Int32)), (.int (4 : Int32))]))
        refine ownEnds.law (fun t => XS.icmpYes X16.here hx rfl (pc0 := 36) (pc' := 72) rfl (hb hby d2_36) rfl (flt (Int32.lt_irrefl)).2.1 (by decide) (by decide)) ?_
        show ownEnds _ _ _ _ (T16.setTop (mkF m 72 #[.val (.int xi), .val (.int xl), .val .null, .val (.ref A_SETS), .val (.int (4 : Int32)), .val (.int (4 : Int32)), .val (.ref A_KATAKANA)] []))
        refine ownEnds.law (fun t k => XS.aloadN X16.here hx rfl (hb hby d2_72) rfl rfl k) ?_
        show ownEnds _ _ _ _ (T16.setTop (mkF m 73 #[.val (.int xi), .val (.int xl), .val .null, .val (.ref A_SETS), .val (.int (4 : Int32)), .val (.int (4 : Int32)), .val (.ref A_KATAKANA)] [.null]))
        refine ownRetA X16 hlk hx hret rfl rfl (hb hby d2_73) (by decide) (by decide) ?_
        exact ⟨by (congr 1; unfold EXf; (repeat' split) <;> (try subst_vars) <;> simp_all), rfl, e16⟩
  · refine ownEnds.law (fun t => XS.icmpYes X0.here hx rfl (pc0 := 5) (pc' := 21) rfl (hb hby d2_5) rfl (feq hc5).2 (by decide) (by decide)) ?_
    show ownEnds _ _ _ _ (T0.setTop (mkF m 21 #[.val (.int xi), .val (.int xl), .val .null, .unset, .unset, .unset, .unset] []))
    obtain ⟨T17, X17, e17, st17⟩ := getS2 X0 hx hZ hown (host := "") (Or.inl (wd_8 hw)) Via.refl e0 S_SETS (g := (mkF m 21 #[.val (.int xi), .val (.int xl), .val .null, .unset, .unset, .unset, .unset] [])) rfl (hb hby d2_21)
    refine ownEnds.law st17 ?_
    show ownEnds _ _ _ _ (T17.setTop (mkF m 24 #[.val (.int xi), .val (.int xl), .val .null, .unset, .unset, .unset, .unset] [(.ref A_SETS)]))
    refine ownEnds.law (fun t k => XS.astoreN X17.here hx rfl (hb hby d2_24) rfl rfl (l' := #[.val (.int xi), .val (.int xl), .val .null, .val (.ref A_SETS), .unset, .unset, .unset]) rfl (XS.aloadN X17.here hx rfl (hb hby d2_25) rfl rfl k)) ?_
    show ownEnds _ _ _ _ (T17.setTop (mkF m 26 #[.val (.int xi), .val (.int xl), .val .null, .val (.ref A_SETS), .unset, .unset, .unset] [(.ref A_SETS)]))
    obtain ⟨cl18, Ar18, -, S18, N18, -, -⟩ := id V_SETS
    refine ownEnds.law (X17.arraylength hx (by rw [e17]; exact Ar18.1) (State.isArrayOf_alike hZ.alike Ar18.2.1) (g := (mkF m 26 #[.val (.int xi), .val (.int xl), .val .null, .val (.ref A_SETS), .unset, .unset, .unset] [(.ref A_SETS)])) rfl rfl (hb hby d2_26)) ?_
    rw [len_of S18 N18]
    show ownEnds _ _ _ _ (T17.setTop (mkF m 27 #[.val (.int xi), .val (.int xl), .val .null, .val (.ref A_SETS), .unset, .unset, .unset] [(.int (4 : Int32))]))
    refine ownEnds.law (fun t k => XS.istore X17.here hx rfl (hb hby d2_27) rfl (l' := #[.val (.int xi), .val (.int xl), .val .null, .val (.ref A_SETS), .val (.int (4 : Int32)), .unset, .unset]) rfl (XS.iconst X17.here hx rfl (hb hby d2_29) (XS.istore X17.here hx rfl (hb hby d2_30) rfl (l' := #[.val (.int xi), .val (.int xl), .val .null, .val (.ref A_SETS), .val (.int (4 : Int32)), .val (.int (0 : Int32)), .unset]) rfl (XS.iload X17.here hx rfl (hb hby d2_32) rfl (XS.iload X17.here hx rfl (hb hby d2_34) rfl k))))) ?_
    show ownEnds _ _ _ _ (T17.setTop (mkF m 36 #[.val (.int xi), .val (.int xl), .val .null, .val (.ref A_SETS), .val (.int (4 : Int32)), .val (.int (0 : Int32)), .unset] [(.int (4 : Int32)), (.int (0 : Int32))]))
    refine ownEnds.law (fun t => XS.icmpNo X17.here hx rfl (hb hby d2_36) rfl (tlt (by decide : (0 : Int32) < (4 : Int32))).2.1) ?_
    show ownEnds _ _ _ _ (T17.setTop (mkF m 39 #[.val (.int xi), .val (.int xl), .val .null, .val (.ref A_SETS), .val (.int (4 : Int32)), .val (.int (0 : Int32)), .unset] []))
    refine ownEnds.law (fun t k => XS.aloadN X17.here hx rfl (hb hby d2_39) rfl rfl (XS.iload X17.here hx rfl (hb hby d2_40) rfl k)) ?_
    show ownEnds _ _ _ _ (T17.setTop (mkF m 42 #[.val (.int xi), .val (.int xl), .val .null, .val (.ref A_SETS), .val (.int (4 : Int32)), .val (.int (0 : Int32)), .unset] [(.int (0 : Int32)), (.ref A_SETS)]))
    obtain ⟨cl19, Ar19, q19, S19, N19, H19, G19⟩ := id V_SETS
    have hi19 := inb_of (j := (0 : Int32)) S19 ⟨by decide, by decide⟩
    have hv19 : cl19.slots[((0 : Int32)).toNatClampNeg]? = some (.ref A_ASCII) := H19.at hi19 rfl
    refine ownEnds.law (fun t k => X17.aaload hx (j := (0 : Int32)) (v := (.ref A_ASCII)) (by rw [e17]; exact Ar19.1) (State.isArrayOf_alike hZ.alike Ar19.2.1) rfl Ar19.2.2 hi19 hv19 (g := (mkF m 42 #[.val (.int xi), .val (.int xl), .val .null, .val (.ref A_SETS), .val (.int (4 : Int32)), .val (.int (0 : Int32)), .unset] [(.int (0 : Int32)), (.ref A_SETS)])) rfl rfl (hb hby d2_42) _ (XS.astore X17.here hx rfl (hb hby d2_43) rfl rfl (l' := #[.val (.int xi), .val (.int xl), .val .null, .val (.ref A_SETS), .val (.int (4 : Int32)), .val (.int (0 : Int32)), .val (.ref A_ASCII)]) rfl (XS.aload X17.here hx rfl (hb hby d2_45) rfl rfl k))) ?_
    show ownEnds _ _ _ _ (T17.setTop (mkF m 47 #[.val (.int xi), .val (.int xl), .val .null, .val (.ref A_SETS), .val (.int (4 : Int32)), .val (.int (0 : Int32)), .val (.ref A_ASCII)] [(.ref A_ASCII)]))
    obtain ⟨T20, X20, e20, st20⟩ := getF X17 hx hZ hown (host := "") (Or.inl (wd_11 hw)) Via.refl e17 F_ASCII_intermediate (g := (mkF m 47 #[.val (.int xi), .val (.int xl), .val .null, .val (.ref A_SETS), .val (.int (4 : Int32)), .val (.int (0 : Int32)), .val (.ref A_ASCII)] [(.ref A_ASCII)])) rfl rfl (hb hby d2_47)
    refine ownEnds.law st20 ?_
    show ownEnds _ _ _ _ (T20.setTop (mkF m 50 #[.val (.int xi), .val (.int xl), .val .null, .val (.ref A_SETS), .val (.int (4 : Int32)), .val (.int (0 : Int32)), .val (.ref A_ASCII)] [(.int (40 : Int32))]))
    refine ownEnds.law (fun t k => XS.iloadN X20.here hx rfl (hb hby d2_50) rfl k) ?_
    show ownEnds _ _ _ _ (T20.setTop (mkF m 51 #[.val (.int xi), .val (.int xl), .val .null, .val (.ref A_SETS), .val (.int (4 : Int32)), .val (.int (0 : Int32)), .val (.ref A_ASCII)] [(.int xi), (.int (40 : Int32))]))
    by_cases hc51 : (40 : Int32) = xi
    · refine ownEnds.law (fun t => XS.icmpNo X20.here hx rfl (hb hby d2_51) rfl (teq hc51).2) ?_
      show ownEnds _ _ _ _ (T20.setTop (mkF m 54 #[.val (.int xi), .val (.int xl), .val .null, .val (.ref A_SETS), .val (.int (4 : Int32)), .val (.int (0 : Int32)), .val (.ref A_ASCII)] []))
      refine ownEnds.law (fun t k => XS.aload X20.here hx rfl (hb hby d2_54) rfl rfl k) ?_
      show ownEnds _ _ _ _ (T20.setTop (mkF m 56 #[.val (.int xi), .val (.int xl), .val .null, .val (.ref A_SETS), .val (.int (4 : Int32)), .val (.int (0 : Int32)), .val (.ref A_ASCII)] [(.ref A_ASCII)]))
      obtain ⟨T21, X21, e21, st21⟩ := getF X20 hx hZ hown (host := "") (Or.inl (wd_17 hw)) Via.refl e20 F_ASCII_designation (g := (mkF m 56 #[.val (.int xi), .val (.int xl), .val .null, .val (.ref A_SETS), .val (.int (4 : Int32)), .val (.int (0 : Int32)), .val (.ref A_ASCII)] [(.ref A_ASCII)])) rfl rfl (hb hby d2_56)
      refine ownEnds.law st21 ?_
      show ownEnds _ _ _ _ (T21.setTop (mkF m 59 #[.val (.int xi), .val (.int xl), .val .null, .val (.ref A_SETS), .val (.int (4 : Int32)), .val (.int (0 : Int32)), .val (.ref A_ASCII)] [(.int (66 : Int32))]))
      refine ownEnds.law (fun t k => XS.iloadN X21.here hx rfl (hb hby d2_59) rfl k) ?_
      show ownEnds _ _ _ _ (T21.setTop (mkF m 60 #[.val (.int xi), .val (.int xl), .val .null, .val (.ref A_SETS), .val (.int (4 : Int32)), .val (.int (0 : Int32)), .val (.ref A_ASCII)] [(.int xl), (.int (66 : Int32))]))
      by_cases hc60 : (66 : Int32) = xl
      · refine ownEnds.law (fun t => XS.icmpNo X21.here hx rfl (hb hby d2_60) rfl (teq hc60).2) ?_
        show ownEnds _ _ _ _ (T21.setTop (mkF m 63 #[.val (.int xi), .val (.int xl), .val .null, .val (.ref A_SETS), .val (.int (4 : Int32)), .val (.int (0 : Int32)), .val (.ref A_ASCII)] []))
        refine ownEnds.law (fun t k => XS.aload X21.here hx rfl (hb hby d2_63) rfl rfl (XS.astoreN X21.here hx rfl (hb hby d2_65) rfl rfl (l' := #[.val (.int xi), .val (.int xl), .val (.ref A_ASCII), .val (.ref A_SETS), .val (.int (4 : Int32)), .val (.int (0 : Int32)), .val (.ref A_ASCII)]) rfl (XS.iinc X21.here hx rfl (hb hby d2_66) rfl (l' := #[.val (.int xi), .val (.int xl), .val (.ref A_ASCII), .val (.ref A_SETS), .val (.int (4 : Int32)), .val (.int (1 : Int32)), .val (.ref A_ASCII)]) rfl (XS.goto X21.here hx rfl (pc0 := 69) (pc' := 32) rfl (hb hby d2_69) (by decide) (by decide) (XS.iload X21.here hx rfl (hb hby d2_32) rfl (XS.iload X21.here hx rfl (hb hby d2_34) rfl k)))))) ?_
        show ownEnds _ _ _ _ (T21.setTop (mkF m 36 #[.val (.int xi), .val (.int xl), .val (.ref A_ASCII), .val (.ref A_SETS), .val (.int (4 : Int32)), .val (.int (1 : Int32)), .val (.ref A_ASCII)] [(.int (4 : Int32)), (.int (1 : Int32))]))
        refine ownEnds.law (fun t => XS.icmpNo X21.here hx rfl (hb hby d2_36) rfl (tlt (by decide : (1 : Int32) < (4 : Int32))).2.1) ?_
        show ownEnds _ _ _ _ (T21.setTop (mkF m 39 #[.val (.int xi), .val (.int xl), .val (.ref A_ASCII), .val (.ref A_SETS), .val (.int (4 : Int32)), .val (.int (1 : Int32)), .val (.ref A_ASCII)] []))
        refine ownEnds.law (fun t k => XS.aloadN X21.here hx rfl (hb hby d2_39) rfl rfl (XS.iload X21.here hx rfl (hb hby d2_40) rfl k)) ?_
        show ownEnds _ _ _ _ (T21.setTop (mkF m 42 #[.val (.int xi), .val (.int xl), .val (.ref A_ASCII), .val (.ref A_SETS), .val (.int (4 : Int32)), .val (.int (1 : Int32)), .val (.ref A_ASCII)] [(.int (1 : Int32)), (.ref A_SETS)]))
        obtain ⟨cl22, Ar22, q22, S22, N22, H22, G22⟩ := id V_SETS
        have hi22 := inb_of (j := (1 : Int32)) S22 ⟨by decide, by decide⟩
        have hv22 : cl22.slots[((1 : Int32)).toNatClampNeg]? = some (.ref A_ROMAN) := H22.at hi22 rfl
        refine ownEnds.law (fun t k => X21.aaload hx (j := (1 : Int32)) (v := (.ref A_ROMAN)) (by rw [e21]; exact Ar22.1) (State.isArrayOf_alike hZ.alike Ar22.2.1) rfl Ar22.2.2 hi22 hv22 (g := (mkF m 42 #[.val (.int xi), .val (.int xl), .val (.ref A_ASCII), .val (.ref A_SETS), .val (.int (4 : Int32)), .val (.int (1 : Int32)), .val (.ref A_ASCII)] [(.int (1 : Int32)), (.ref A_SETS)])) rfl rfl (hb hby d2_42) _ (XS.astore X21.here hx rfl (hb hby d2_43) rfl rfl (l' := #[.val (.int xi), .val (.int xl), .val (.ref A_ASCII), .val (.ref A_SETS), .val (.int (4 : Int32)), .val (.int (1 : Int32)), .val (.ref A_ROMAN)]) rfl (XS.aload X21.here hx rfl (hb hby d2_45) rfl rfl k))) ?_
        show ownEnds _ _ _ _ (T21.setTop (mkF m 47 #[.val (.int xi), .val (.int xl), .val (.ref A_ASCII), .val (.ref A_SETS), .val (.int (4 : Int32)), .val (.int (1 : Int32)), .val (.ref A_ROMAN)] [(.ref A_ROMAN)]))
        obtain ⟨T23, X23, e23, st23⟩ := getF X21 hx hZ hown (host := "") (Or.inl (wd_11 hw)) Via.refl e21 F_ROMAN_intermediate (g := (mkF m 47 #[.val (.int xi), .val (.int xl), .val (.ref A_ASCII), .val (.ref A_SETS), .val (.int (4 : Int32)), .val (.int (1 : Int32)), .val (.ref A_ROMAN)] [(.ref A_ROMAN)])) rfl rfl (hb hby d2_47)
        refine ownEnds.law st23 ?_
        show ownEnds _ _ _ _ (T23.setTop (mkF m 50 #[.val (.int xi), .val (.int xl), .val (.ref A_ASCII), .val (.ref A_SETS), .val (.int (4 : Int32)), .val (.int (1 : Int32)), .val (.ref A_ROMAN)] [(.int (40 : Int32))]))
        refine ownEnds.law (fun t k => XS.iloadN X23.here hx rfl (hb hby d2_50) rfl k) ?_
        show ownEnds _ _ _ _ (T23.setTop (mkF m 51 #[.val (.int xi), .val (.int xl), .val (.ref A_ASCII), .val (.ref A_SETS), .val (.int (4 : Int32)), .val (.int (1 : Int32)), .val (.ref A_ROMAN)] [(.int xi), (.int (40 : Int32))]))
        refine ownEnds.law (fun t => XS.icmpNo X23.here hx rfl (hb hby d2_51) rfl (teq hc51).2) ?_
        show ownEnds _ _ _ _ (T23.setTop (mkF m 54 #[.val (.int xi), .val (.int xl), .val (.ref A_ASCII), .val (.ref A_SETS), .val (.int (4 : Int32)), .val (.int (1 : Int32)), .val (.ref A_ROMAN)] []))
        refine ownEnds.law (fun t k => XS.aload X23.here hx rfl (hb hby d2_54) rfl rfl k) ?_
        show ownEnds _ _ _ _ (T23.setTop (mkF m 56 #[.val (.int xi), .val (.int xl), .val (.ref A_ASCII), .val (.ref A_SETS), .val (.int (4 : Int32)), .val (.int (1 : Int32)), .val (.ref A_ROMAN)] [(.ref A_ROMAN)]))
        obtain ⟨T24, X24, e24, st24⟩ := getF X23 hx hZ hown (host := "") (Or.inl (wd_17 hw)) Via.refl e23 F_ROMAN_designation (g := (mkF m 56 #[.val (.int xi), .val (.int xl), .val (.ref A_ASCII), .val (.ref A_SETS), .val (.int (4 : Int32)), .val (.int (1 : Int32)), .val (.ref A_ROMAN)] [(.ref A_ROMAN)])) rfl rfl (hb hby d2_56)
        refine ownEnds.law st24 ?_
        show ownEnds _ _ _ _ (T24.setTop (mkF m 59 #[.val (.int xi), .val (.int xl), .val (.ref A_ASCII), .val (.ref A_SETS), .val (.int (4 : Int32)), .val (.int (1 : Int32)), .val (.ref A_ROMAN)] [(.int (74 : Int32))]))
        refine ownEnds.law (fun t k => XS.iloadN X24.here hx rfl (hb hby d2_59) rfl k) ?_
        show ownEnds _ _ _ _ (T24.setTop (mkF m 60 #[.val (.int xi), .val (.int xl), .val (.ref A_ASCII), .val (.ref A_SETS), .val (.int (4 : Int32)), .val (.int (1 : Int32)), .val (.ref A_ROMAN)] [(.int xl), (.int (74 : Int32))]))
        refine ownEnds.law (fun t => XS.icmpYes X24.here hx rfl (pc0 := 60) (pc' := 66) rfl (hb hby d2_60) rfl (feq (fun q => absurd (q.trans (hc60).symm) (by decide) : ¬ ((74 : Int32) = xl))).2 (by decide) (by decide)) ?_
        show ownEnds _ _ _ _ (T24.setTop (mkF m 66 #[.val (.int xi), .val (.int xl), .val (.ref A_ASCII), .val (.ref A_SETS), .val (.int (4 : Int32)), .val (.int (1 : Int32)), .val (.ref A_ROMAN)] []))
        refine ownEnds.law (fun t k => XS.iinc X24.here hx rfl (hb hby d2_66) rfl (l' := #[.val (.int xi), .val (.int xl), .val (.ref A_ASCII), .val (.ref A_SETS), .val (.int (4 : Int32)), .val (.int (2 : Int32)), .val (.ref A_ROMAN)]) rfl (XS.goto X24.here hx rfl (pc0 := 69) (pc' := 32) rfl (hb hby d2_69) (by decide) (by decide) (XS.iload X24.here hx rfl (hb hby d2_32) rfl (XS.iload X24.here hx rfl (hb hby d2_34) rfl k)))) ?_
        show ownEnds _ _ _ _ (T24.setTop (mkF m 36 #[.val (.int xi), .val (.int xl), .val (.ref A_ASCII), .val (.ref A_SETS), .val (.int (4 : Int32)), .val (.int (2 : Int32)), .val (.ref A_ROMAN)] [(.int (4 : Int32)), (.int (2 : Int32))]))
        refine ownEnds.law (fun t => XS.icmpNo X24.here hx rfl (hb hby d2_36) rfl (tlt (by decide : (2 : Int32) < (4 : Int32))).2.1) ?_
        show ownEnds _ _ _ _ (T24.setTop (mkF m 39 #[.val (.int xi), .val (.int xl), .val (.ref A_ASCII), .val (.ref A_SETS), .val (.int (4 : Int32)), .val (.int (2 : Int32)), .val (.ref A_ROMAN)] []))
        refine ownEnds.law (fun t k => XS.aloadN X24.here hx rfl (hb hby d2_39) rfl rfl (XS.iload X24.here hx rfl (hb hby d2_40) rfl k)) ?_
        show ownEnds _ _ _ _ (T24.setTop (mkF m 42 #[.val (.int xi), .val (.int xl), .val (.ref A_ASCII), .val (.ref A_SETS), .val (.int (4 : Int32)), .val (.int (2 : Int32)), .val (.ref A_ROMAN)] [(.int (2 : Int32)), (.ref A_SETS)]))
        obtain ⟨cl25, Ar25, q25, S25, N25, H25, G25⟩ := id V_SETS
        have hi25 := inb_of (j := (2 : Int32)) S25 ⟨by decide, by decide⟩
        have hv25 : cl25.slots[((2 : Int32)).toNatClampNeg]? = some (.ref A_JIS_X_0208) := H25.at hi25 rfl
        refine ownEnds.law (fun t k => X24.aaload hx (j := (2 : Int32)) (v := (.ref A_JIS_X_0208)) (by rw [e24]; exact Ar25.1) (State.isArrayOf_alike hZ.alike Ar25.2.1) rfl Ar25.2.2 hi25 hv25 (g := (mkF m 42 #[.val (.int xi), .val (.int xl), .val (.ref A_ASCII), .val (.ref A_SETS), .val (.int (4 : Int32)), .val (.int (2 : Int32)), .val (.ref A_ROMAN)] [(.int (2 : Int32)), (.ref A_SETS)])) rfl rfl (hb hby d2_42) _ (XS.astore X24.here hx rfl (hb hby d2_43) rfl rfl (l' := #[.val (.int xi), .val (.int xl), .val (.ref A_ASCII), .val (.ref A_SETS), .val (.int (4 : Int32)), .val (.int (2 : Int32)), .val (.ref A_JIS_X_0208)]) rfl (XS.aload X24.here hx rfl (hb hby d2_45) rfl rfl k))) ?_
        show ownEnds _ _ _ _ (T24.setTop (mkF m 47 #[.val (.int xi), .val (.int xl), .val (.ref A_ASCII), .val (.ref A_SETS), .val (.int (4 : Int32)), .val (.int (2 : Int32)), .val (.ref A_JIS_X_0208)] [(.ref A_JIS_X_0208)]))
        obtain ⟨T26, X26, e26, st26⟩ := getF X24 hx hZ hown (host := "") (Or.inl (wd_11 hw)) Via.refl e24 F_JIS_X_0208_intermediate (g := (mkF m 47 #[.val (.int xi), .val (.int xl), .val (.ref A_ASCII), .val (.ref A_SETS), .val (.int (4 : Int32)), .val (.int (2 : Int32)), .val (.ref A_JIS_X_0208)] [(.ref A_JIS_X_0208)])) rfl rfl (hb hby d2_47)
        refine ownEnds.law st26 ?_
        show ownEnds _ _ _ _ (T26.setTop (mkF m 50 #[.val (.int xi), .val (.int xl), .val (.ref A_ASCII), .val (.ref A_SETS), .val (.int (4 : Int32)), .val (.int (2 : Int32)), .val (.ref A_JIS_X_0208)] [(.int (36 : Int32))]))
        refine ownEnds.law (fun t k => XS.iloadN X26.here hx rfl (hb hby d2_50) rfl k) ?_
        show ownEnds _ _ _ _ (T26.setTop (mkF m 51 #[.val (.int xi), .val (.int xl), .val (.ref A_ASCII), .val (.ref A_SETS), .val (.int (4 : Int32)), .val (.int (2 : Int32)), .val (.ref A_JIS_X_0208)] [(.int xi), (.int (36 : Int32))]))
        refine ownEnds.law (fun t => XS.icmpYes X26.here hx rfl (pc0 := 51) (pc' := 66) rfl (hb hby d2_51) rfl (feq (fun q => absurd (q.trans (hc51).symm) (by decide) : ¬ ((36 : Int32) = xi))).2 (by decide) (by decide)) ?_
        show ownEnds _ _ _ _ (T26.setTop (mkF m 66 #[.val (.int xi), .val (.int xl), .val (.ref A_ASCII), .val (.ref A_SETS), .val (.int (4 : Int32)), .val (.int (2 : Int32)), .val (.ref A_JIS_X_0208)] []))
        refine ownEnds.law (fun t k => XS.iinc X26.here hx rfl (hb hby d2_66) rfl (l' := #[.val (.int xi), .val (.int xl), .val (.ref A_ASCII), .val (.ref A_SETS), .val (.int (4 : Int32)), .val (.int (3 : Int32)), .val (.ref A_JIS_X_0208)]) rfl (XS.goto X26.here hx rfl (pc0 := 69) (pc' := 32) rfl (hb hby d2_69) (by decide) (by decide) (XS.iload X26.here hx rfl (hb hby d2_32) rfl (XS.iload X26.here hx rfl (hb hby d2_34) rfl k)))) ?_
        show ownEnds _ _ _ _ (T26.setTop (mkF m 36 #[.val (.int xi), .val (.int xl), .val (.ref A_ASCII), .val (.ref A_SETS), .val (.int (4 : Int32)), .val (.int (3 : Int32)), .val (.ref A_JIS_X_0208)] [(.int (4 : Int32)), (.int (3 : Int32))]))
        refine ownEnds.law (fun t => XS.icmpNo X26.here hx rfl (hb hby d2_36) rfl (tlt (by decide : (3 : Int32) < (4 : Int32))).2.1) ?_
        show ownEnds _ _ _ _ (T26.setTop (mkF m 39 #[.val (.int xi), .val (.int xl), .val (.ref A_ASCII), .val (.ref A_SETS), .val (.int (4 : Int32)), .val (.int (3 : Int32)), .val (.ref A_JIS_X_0208)] []))
        refine ownEnds.law (fun t k => XS.aloadN X26.here hx rfl (hb hby d2_39) rfl rfl (XS.iload X26.here hx rfl (hb hby d2_40) rfl k)) ?_
        show ownEnds _ _ _ _ (T26.setTop (mkF m 42 #[.val (.int xi), .val (.int xl), .val (.ref A_ASCII), .val (.ref A_SETS), .val (.int (4 : Int32)), .val (.int (3 : Int32)), .val (.ref A_JIS_X_0208)] [(.int (3 : Int32)), (.ref A_SETS)]))
        obtain ⟨cl27, Ar27, q27, S27, N27, H27, G27⟩ := id V_SETS
        have hi27 := inb_of (j := (3 : Int32)) S27 ⟨by decide, by decide⟩
        have hv27 : cl27.slots[((3 : Int32)).toNatClampNeg]? = some (.ref A_KATAKANA) := H27.at hi27 rfl
        refine ownEnds.law (fun t k => X26.aaload hx (j := (3 : Int32)) (v := (.ref A_KATAKANA)) (by rw [e26]; exact Ar27.1) (State.isArrayOf_alike hZ.alike Ar27.2.1) rfl Ar27.2.2 hi27 hv27 (g := (mkF m 42 #[.val (.int xi), .val (.int xl), .val (.ref A_ASCII), .val (.ref A_SETS), .val (.int (4 : Int32)), .val (.int (3 : Int32)), .val (.ref A_JIS_X_0208)] [(.int (3 : Int32)), (.ref A_SETS)])) rfl rfl (hb hby d2_42) _ (XS.astore X26.here hx rfl (hb hby d2_43) rfl rfl (l' := #[.val (.int xi), .val (.int xl), .val (.ref A_ASCII), .val (.ref A_SETS), .val (.int (4 : Int32)), .val (.int (3 : Int32)), .val (.ref A_KATAKANA)]) rfl (XS.aload X26.here hx rfl (hb hby d2_45) rfl rfl k))) ?_
        show ownEnds _ _ _ _ (T26.setTop (mkF m 47 #[.val (.int xi), .val (.int xl), .val (.ref A_ASCII), .val (.ref A_SETS), .val (.int (4 : Int32)), .val (.int (3 : Int32)), .val (.ref A_KATAKANA)] [(.ref A_KATAKANA)]))
        obtain ⟨T28, X28, e28, st28⟩ := getF X26 hx hZ hown (host := "") (Or.inl (wd_11 hw)) Via.refl e26 F_KATAKANA_intermediate (g := (mkF m 47 #[.val (.int xi), .val (.int xl), .val (.ref A_ASCII), .val (.ref A_SETS), .val (.int (4 : Int32)), .val (.int (3 : Int32)), .val (.ref A_KATAKANA)] [(.ref A_KATAKANA)])) rfl rfl (hb hby d2_47)
        refine ownEnds.law st28 ?_
        show ownEnds _ _ _ _ (T28.setTop (mkF m 50 #[.val (.int xi), .val (.int xl), .val (.ref A_ASCII), .val (.ref A_SETS), .val (.int (4 : Int32)), .val (.int (3 : Int32)), .val (.ref A_KATAKANA)] [(.int (40 : Int32))]))
        refine ownEnds.law (fun t k => XS.iloadN X28.here hx rfl (hb hby d2_50) rfl k) ?_
        show ownEnds _ _ _ _ (T28.setTop (mkF m 51 #[.val (.int xi), .val (.int xl), .val (.ref A_ASCII), .val (.ref A_SETS), .val (.int (4 : Int32)), .val (.int (3 : Int32)), .val (.ref A_KATAKANA)] [(.int xi), (.int (40 : Int32))]))
        refine ownEnds.law (fun t => XS.icmpNo X28.here hx rfl (hb hby d2_51) rfl (teq hc51).2) ?_
        show ownEnds _ _ _ _ (T28.setTop (mkF m 54 #[.val (.int xi), .val (.int xl), .val (.ref A_ASCII), .val (.ref A_SETS), .val (.int (4 : Int32)), .val (.int (3 : Int32)), .val (.ref A_KATAKANA)] []))
        refine ownEnds.law (fun t k => XS.aload X28.here hx rfl (hb hby d2_54) rfl rfl k) ?_
        show ownEnds _ _ _ _ (T28.setTop (mkF m 56 #[.val (.int xi), .val (.int xl), .val (.ref A_ASCII), .val (.ref A_SETS), .val (.int (4 : Int32)), .val (.int (3 : Int32)), .val (.ref A_KATAKANA)] [(.ref A_KATAKANA)]))
        obtain ⟨T29, X29, e29, st29⟩ := getF X28 hx hZ hown (host := "") (Or.inl (wd_17 hw)) Via.refl e28 F_KATAKANA_designation (g := (mkF m 56 #[.val (.int xi), .val (.int xl), .val (.ref A_ASCII), .val (.ref A_SETS), .val (.int (4 : Int32)), .val (.int (3 : Int32)), .val (.ref A_KATAKANA)] [(.ref A_KATAKANA)])) rfl rfl (hb hby d2_56)
        refine ownEnds.law st29 ?_
        show ownEnds _ _ _ _ (T29.setTop (mkF m 59 #[.val (.int xi), .val (.int xl), .val (.ref A_ASCII), .val (.ref A_SETS), .val (.int (4 : Int32)), .val (.int (3 : Int32)), .val (.ref A_KATAKANA)] [(.int (73 : Int32))]))
        refine ownEnds.law (fun t k => XS.iloadN X29.here hx rfl (hb hby d2_59) rfl k) ?_
        show ownEnds _ _ _ _ (T29.setTop (mkF m 60 #[.val (.int xi), .val (.int xl), .val (.ref A_ASCII), .val (.ref A_SETS), .val (.int (4 : Int32)), .val (.int (3 : Int32)), .val (.ref A_KATAKANA)] [(.int xl), (.int (73 : Int32))]))
        refine ownEnds.law (fun t => XS.icmpYes X29.here hx rfl (pc0 := 60) (pc' := 66) rfl (hb hby d2_60) rfl (feq (fun q => absurd (q.trans (hc60).symm) (by decide) : ¬ ((73 : Int32) = xl))).2 (by decide) (by decide)) ?_
        show ownEnds _ _ _ _ (T29.setTop (mkF m 66 #[.val (.int xi), .val (.int xl), .val (.ref A_ASCII), .val (.ref A_SETS), .val (.int (4 : Int32)), .val (.int (3 : Int32)), .val (.ref A_KATAKANA)] []))
        refine ownEnds.law (fun t k => XS.iinc X29.here hx rfl (hb hby d2_66) rfl (l' := #[.val (.int xi), .val (.int xl), .val (.ref A_ASCII), .val (.ref A_SETS), .val (.int (4 : Int32)), .val (.int (4 : Int32)), .val (.ref A_KATAKANA)]) rfl (XS.goto X29.here hx rfl (pc0 := 69) (pc' := 32) rfl (hb hby d2_69) (by decide) (by decide) (XS.iload X29.here hx rfl (hb hby d2_32) rfl (XS.iload X29.here hx rfl (hb hby d2_34) rfl k)))) ?_
        show ownEnds _ _ _ _ (T29.setTop (mkF m 36 #[.val (.int xi), .val (.int xl), .val (.ref A_ASCII), .val (.ref A_SETS), .val (.int (4 : Int32)), .val (.int (4 : Int32)), .val (.ref A_KATAKANA)] [(.int (4 : Int32)), (.int (4 : Int32))]))
        refine ownEnds.law (fun t => XS.icmpYes X29.here hx rfl (pc0 := 36) (pc' := 72) rfl (hb hby d2_36) rfl (flt (Int32.lt_irrefl)).2.1 (by decide) (by decide)) ?_
        show ownEnds _ _ _ _ (T29.setTop (mkF m 72 #[.val (.int xi), .val (.int xl), .val (.ref A_ASCII), .val (.ref A_SETS), .val (.int (4 : Int32)), .val (.int (4 : Int32)), .val (.ref A_KATAKANA)] []))
        refine ownEnds.law (fun t k => XS.aloadN X29.here hx rfl (hb hby d2_72) rfl rfl k) ?_
        show ownEnds _ _ _ _ (T29.setTop (mkF m 73 #[.val (.int xi), .val (.int xl), .val (.ref A_ASCII), .val (.ref A_SETS), .val (.int (4 : Int32)), .val (.int (4 : Int32)), .val (.ref A_KATAKANA)] [(.ref A_ASCII)]))
        refine ownRetA X29 hlk hx hret rfl rfl (hb hby d2_73) (by decide) (by decide) ?_
        exact ⟨by (congr 1; unfold EXf; (repeat' split) <;> (try subst_vars) <;> simp_all), rfl, e29⟩
      · refine ownEnds.law (fun t => XS.icmpYes X21.here hx rfl (pc0 := 60) (pc' := 66) rfl (hb hby d2_60) rfl (feq hc60).2 (by decide) (by decide)) ?_
        show ownEnds _ _ _ _ (T21.setTop (mkF m 66 #[.val (.int xi), .val (.int xl), .val .null, .val (.ref A_SETS), .val (.int (4 : Int32)), .val (.int (0 : Int32)), .val (.ref A_ASCII)] []))
        refine ownEnds.law (fun t k => XS.iinc X21.here hx rfl (hb hby d2_66) rfl (l' := #[.val (.int xi), .val (.int xl), .val .null, .val (.ref A_SETS), .val (.int (4 : Int32)), .val (.int (1 : Int32)), .val (.ref A_ASCII)]) rfl (XS.goto X21.here hx rfl (pc0 := 69) (pc' := 32) rfl (hb hby d2_69) (by decide) (by decide) (XS.iload X21.here hx rfl (hb hby d2_32) rfl (XS.iload X21.here hx rfl (hb hby d2_34) rfl k)))) ?_
        show ownEnds _ _ _ _ (T21.setTop (mkF m 36 #[.val (.int xi), .val (.int xl), .val .null, .val (.ref A_SETS), .val (.int (4 : Int32)), .val (.int (1 : Int32)), .val (.ref A_ASCII)] [(.int (4 : Int32)), (.int (1 : Int32))]))
        refine ownEnds.law (fun t => XS.icmpNo X21.here hx rfl (hb hby d2_36) rfl (tlt (by decide : (1 : Int32) < (4 : Int32))).2.1) ?_
        show ownEnds _ _ _ _ (T21.setTop (mkF m 39 #[.val (.int xi), .val (.int xl), .val .null, .val (.ref A_SETS), .val (.int (4 : Int32)), .val (.int (1 : Int32)), .val (.ref A_ASCII)] []))
        refine ownEnds.law (fun t k => XS.aloadN X21.here hx rfl (hb hby d2_39) rfl rfl (XS.iload X21.here hx rfl (hb hby d2_40) rfl k)) ?_
        show ownEnds _ _ _ _ (T21.setTop (mkF m 42 #[.val (.int xi), .val (.int xl), .val .null, .val (.ref A_SETS), .val (.int (4 : Int32)), .val (.int (1 : Int32)), .val (.ref A_ASCII)] [(.int (1 : Int32)), (.ref A_SETS)]))
        obtain ⟨cl30, Ar30, q30, S30, N30, H30, G30⟩ := id V_SETS
        have hi30 := inb_of (j := (1 : Int32)) S30 ⟨by decide, by decide⟩
        have hv30 : cl30.slots[((1 : Int32)).toNatClampNeg]? = some (.ref A_ROMAN) := H30.at hi30 rfl
        refine ownEnds.law (fun t k => X21.aaload hx (j := (1 : Int32)) (v := (.ref A_ROMAN)) (by rw [e21]; exact Ar30.1) (State.isArrayOf_alike hZ.alike Ar30.2.1) rfl Ar30.2.2 hi30 hv30 (g := (mkF m 42 #[.val (.int xi), .val (.int xl), .val .null, .val (.ref A_SETS), .val (.int (4 : Int32)), .val (.int (1 : Int32)), .val (.ref A_ASCII)] [(.int (1 : Int32)), (.ref A_SETS)])) rfl rfl (hb hby d2_42) _ (XS.astore X21.here hx rfl (hb hby d2_43) rfl rfl (l' := #[.val (.int xi), .val (.int xl), .val .null, .val (.ref A_SETS), .val (.int (4 : Int32)), .val (.int (1 : Int32)), .val (.ref A_ROMAN)]) rfl (XS.aload X21.here hx rfl (hb hby d2_45) rfl rfl k))) ?_
        show ownEnds _ _ _ _ (T21.setTop (mkF m 47 #[.val (.int xi), .val (.int xl), .val .null, .val (.ref A_SETS), .val (.int (4 : Int32)), .val (.int (1 : Int32)), .val (.ref A_ROMAN)] [(.ref A_ROMAN)]))
        obtain ⟨T31, X31, e31, st31⟩ := getF X21 hx hZ hown (host := "") (Or.inl (wd_11 hw)) Via.refl e21 F_ROMAN_intermediate (g := (mkF m 47 #[.val (.int xi), .val (.int xl), .val .null, .val (.ref A_SETS), .val (.int (4 : Int32)), .val (.int (1 : Int32)), .val (.ref A_ROMAN)] [(.ref A_ROMAN)])) rfl rfl (hb hby d2_47)
        refine ownEnds.law st31 ?_
        show ownEnds _ _ _ _ (T31.setTop (mkF m 50 #[.val (.int xi), .val (.int xl), .val .null, .val (.ref A_SETS), .val (.int (4 : Int32)), .val (.int (1 : Int32)), .val (.ref A_ROMAN)] [(.int (40 : Int32))]))
        refine ownEnds.law (fun t k => XS.iloadN X31.here hx rfl (hb hby d2_50) rfl k) ?_
        show ownEnds _ _ _ _ (T31.setTop (mkF m 51 #[.val (.int xi), .val (.int xl), .val .null, .val (.ref A_SETS), .val (.int (4 : Int32)), .val (.int (1 : Int32)), .val (.ref A_ROMAN)] [(.int xi), (.int (40 : Int32))]))
        refine ownEnds.law (fun t => XS.icmpNo X31.here hx rfl (hb hby d2_51) rfl (teq hc51).2) ?_
        show ownEnds _ _ _ _ (T31.setTop (mkF m 54 #[.val (.int xi), .val (.int xl), .val .null, .val (.ref A_SETS), .val (.int (4 : Int32)), .val (.int (1 : Int32)), .val (.ref A_ROMAN)] []))
        refine ownEnds.law (fun t k => XS.aload X31.here hx rfl (hb hby d2_54) rfl rfl k) ?_
        show ownEnds _ _ _ _ (T31.setTop (mkF m 56 #[.val (.int xi), .val (.int xl), .val .null, .val (.ref A_SETS), .val (.int (4 : Int32)), .val (.int (1 : Int32)), .val (.ref A_ROMAN)] [(.ref A_ROMAN)]))
        obtain ⟨T32, X32, e32, st32⟩ := getF X31 hx hZ hown (host := "") (Or.inl (wd_17 hw)) Via.refl e31 F_ROMAN_designation (g := (mkF m 56 #[.val (.int xi), .val (.int xl), .val .null, .val (.ref A_SETS), .val (.int (4 : Int32)), .val (.int (1 : Int32)), .val (.ref A_ROMAN)] [(.ref A_ROMAN)])) rfl rfl (hb hby d2_56)
        refine ownEnds.law st32 ?_
        show ownEnds _ _ _ _ (T32.setTop (mkF m 59 #[.val (.int xi), .val (.int xl), .val .null, .val (.ref A_SETS), .val (.int (4 : Int32)), .val (.int (1 : Int32)), .val (.ref A_ROMAN)] [(.int (74 : Int32))]))
        refine ownEnds.law (fun t k => XS.iloadN X32.here hx rfl (hb hby d2_59) rfl k) ?_
        show ownEnds _ _ _ _ (T32.setTop (mkF m 60 #[.val (.int xi), .val (.int xl), .val .null, .val (.ref A_SETS), .val (.int (4 : Int32)), .val (.int (1 : Int32)), .val (.ref A_ROMAN)] [(.int xl), (.int (74 : Int32))]))
        by_cases hc60_2 : (74 : Int32) = xl
        · refine ownEnds.law (fun t => XS.icmpNo X32.here hx rfl (hb hby d2_60) rfl (teq hc60_2).2) ?_
          show ownEnds _ _ _ _ (T32.setTop (mkF m 63 #[.val (.int xi), .val (.int xl), .val .null, .val (.ref A_SETS), .val (.int (4 : Int32)), .val (.int (1 : Int32)), .val (.ref A_ROMAN)] []))
          refine ownEnds.law (fun t k => XS.aload X32.here hx rfl (hb hby d2_63) rfl rfl (XS.astoreN X32.here hx rfl (hb hby d2_65) rfl rfl (l' := #[.val (.int xi), .val (.int xl), .val (.ref A_ROMAN), .val (.ref A_SETS), .val (.int (4 : Int32)), .val (.int (1 : Int32)), .val (.ref A_ROMAN)]) rfl (XS.iinc X32.here hx rfl (hb hby d2_66) rfl (l' := #[.val (.int xi), .val (.int xl), .val (.ref A_ROMAN), .val (.ref A_SETS), .val (.int (4 : Int32)), .val (.int (2 : Int32)), .val (.ref A_ROMAN)]) rfl (XS.goto X32.here hx rfl (pc0 := 69) (pc' := 32) rfl (hb hby d2_69) (by decide) (by decide) (XS.iload X32.here hx rfl (hb hby d2_32) rfl (XS.iload X32.here hx rfl (hb hby d2_34) rfl k)))))) ?_
          show ownEnds _ _ _ _ (T32.setTop (mkF m 36 #[.val (.int xi), .val (.int xl), .val (.ref A_ROMAN), .val (.ref A_SETS), .val (.int (4 : Int32)), .val (.int (2 : Int32)), .val (.ref A_ROMAN)] [(.int (4 : Int32)), (.int (2 : Int32))]))
          refine ownEnds.law (fun t => XS.icmpNo X32.here hx rfl (hb hby d2_36) rfl (tlt (by decide : (2 : Int32) < (4 : Int32))).2.1) ?_
          show ownEnds _ _ _ _ (T32.setTop (mkF m 39 #[.val (.int xi), .val (.int xl), .val (.ref A_ROMAN), .val (.ref A_SETS), .val (.int (4 : Int32)), .val (.int (2 : Int32)), .val (.ref A_ROMAN)] []))
          refine ownEnds.law (fun t k => XS.aloadN X32.here hx rfl (hb hby d2_39) rfl rfl (XS.iload X32.here hx rfl (hb hby d2_40) rfl k)) ?_
          show ownEnds _ _ _ _ (T32.setTop (mkF m 42 #[.val (.int xi), .val (.int xl), .val (.ref A_ROMAN), .val (.ref A_SETS), .val (.int (4 : Int32)), .val (.int (2 : Int32)), .val (.ref A_ROMAN)] [(.int (2 : Int32)), (.ref A_SETS)]))
          obtain ⟨cl33, Ar33, q33, S33, N33, H33, G33⟩ := id V_SETS
          have hi33 := inb_of (j := (2 : Int32)) S33 ⟨by decide, by decide⟩
          have hv33 : cl33.slots[((2 : Int32)).toNatClampNeg]? = some (.ref A_JIS_X_0208) := H33.at hi33 rfl
          refine ownEnds.law (fun t k => X32.aaload hx (j := (2 : Int32)) (v := (.ref A_JIS_X_0208)) (by rw [e32]; exact Ar33.1) (State.isArrayOf_alike hZ.alike Ar33.2.1) rfl Ar33.2.2 hi33 hv33 (g := (mkF m 42 #[.val (.int xi), .val (.int xl), .val (.ref A_ROMAN), .val (.ref A_SETS), .val (.int (4 : Int32)), .val (.int (2 : Int32)), .val (.ref A_ROMAN)] [(.int (2 : Int32)), (.ref A_SETS)])) rfl rfl (hb hby d2_42) _ (XS.astore X32.here hx rfl (hb hby d2_43) rfl rfl (l' := #[.val (.int xi), .val (.int xl), .val (.ref A_ROMAN), .val (.ref A_SETS), .val (.int (4 : Int32)), .val (.int (2 : Int32)), .val (.ref A_JIS_X_0208)]) rfl (XS.aload X32.here hx rfl (hb hby d2_45) rfl rfl k))) ?_
          show ownEnds _ _ _ _ (T32.setTop (mkF m 47 #[.val (.int xi), .val (.int xl), .val (.ref A_ROMAN), .val (.ref A_SETS), .val (.int (4 : Int32)), .val (.int (2 : Int32)), .val (.ref A_JIS_X_0208)] [(.ref A_JIS_X_0208)]))
          obtain ⟨T34, X34, e34, st34⟩ := getF X32 hx hZ hown (host := "") (Or.inl (wd_11 hw)) Via.refl e32 F_JIS_X_0208_intermediate (g := (mkF m 47 #[.val (.int xi), .val (.int xl), .val (.ref A_ROMAN), .val (.ref A_SETS), .val (.int (4 : Int32)), .val (.int (2 : Int32)), .val (.ref A_JIS_X_0208)] [(.ref A_JIS_X_0208)])) rfl rfl (hb hby d2_47)
          refine ownEnds.law st34 ?_
          show ownEnds _ _ _ _ (T34.setTop (mkF m 50 #[.val (.int xi), .val (.int xl), .val (.ref A_ROMAN), .val (.ref A_SETS), .val (.int (4 : Int32)), .val (.int (2 : Int32)), .val (.ref A_JIS_X_0208)] [(.int (36 : Int32))]))
          refine ownEnds.law (fun t k => XS.iloadN X34.here hx rfl (hb hby d2_50) rfl k) ?_
          show ownEnds _ _ _ _ (T34.setTop (mkF m 51 #[.val (.int xi), .val (.int xl), .val (.ref A_ROMAN), .val (.ref A_SETS), .val (.int (4 : Int32)), .val (.int (2 : Int32)), .val (.ref A_JIS_X_0208)] [(.int xi), (.int (36 : Int32))]))
          refine ownEnds.law (fun t => XS.icmpYes X34.here hx rfl (pc0 := 51) (pc' := 66) rfl (hb hby d2_51) rfl (feq (fun q => absurd (q.trans (hc51).symm) (by decide) : ¬ ((36 : Int32) = xi))).2 (by decide) (by decide)) ?_
          show ownEnds _ _ _ _ (T34.setTop (mkF m 66 #[.val (.int xi), .val (.int xl), .val (.ref A_ROMAN), .val (.ref A_SETS), .val (.int (4 : Int32)), .val (.int (2 : Int32)), .val (.ref A_JIS_X_0208)] []))
          refine ownEnds.law (fun t k => XS.iinc X34.here hx rfl (hb hby d2_66) rfl (l' := #[.val (.int xi), .val (.int xl), .val (.ref A_ROMAN), .val (.ref A_SETS), .val (.int (4 : Int32)), .val (.int (3 : Int32)), .val (.ref A_JIS_X_0208)]) rfl (XS.goto X34.here hx rfl (pc0 := 69) (pc' := 32) rfl (hb hby d2_69) (by decide) (by decide) (XS.iload X34.here hx rfl (hb hby d2_32) rfl (XS.iload X34.here hx rfl (hb hby d2_34) rfl k)))) ?_
          show ownEnds _ _ _ _ (T34.setTop (mkF m 36 #[.val (.int xi), .val (.int xl), .val (.ref A_ROMAN), .val (.ref A_SETS), .val (.int (4 : Int32)), .val (.int (3 : Int32)), .val (.ref A_JIS_X_0208)] [(.int (4 : Int32)), (.int (3 : Int32))]))
          refine ownEnds.law (fun t => XS.icmpNo X34.here hx rfl (hb hby d2_36) rfl (tlt (by decide : (3 : Int32) < (4 : Int32))).2.1) ?_
          show ownEnds _ _ _ _ (T34.setTop (mkF m 39 #[.val (.int xi), .val (.int xl), .val (.ref A_ROMAN), .val (.ref A_SETS), .val (.int (4 : Int32)), .val (.int (3 : Int32)), .val (.ref A_JIS_X_0208)] []))
          refine ownEnds.law (fun t k => XS.aloadN X34.here hx rfl (hb hby d2_39) rfl rfl (XS.iload X34.here hx rfl (hb hby d2_40) rfl k)) ?_
          show ownEnds _ _ _ _ (T34.setTop (mkF m 42 #[.val (.int xi), .val (.int xl), .val (.ref A_ROMAN), .val (.ref A_SETS), .val (.int (4 : Int32)), .val (.int (3 : Int32)), .val (.ref A_JIS_X_0208)] [(.int (3 : Int32)), (.ref A_SETS)]))
          obtain ⟨cl35, Ar35, q35, S35, N35, H35, G35⟩ := id V_SETS
          have hi35 := inb_of (j := (3 : Int32)) S35 ⟨by decide, by decide⟩
          have hv35 : cl35.slots[((3 : Int32)).toNatClampNeg]? = some (.ref A_KATAKANA) := H35.at hi35 rfl
          refine ownEnds.law (fun t k => X34.aaload hx (j := (3 : Int32)) (v := (.ref A_KATAKANA)) (by rw [e34]; exact Ar35.1) (State.isArrayOf_alike hZ.alike Ar35.2.1) rfl Ar35.2.2 hi35 hv35 (g := (mkF m 42 #[.val (.int xi), .val (.int xl), .val (.ref A_ROMAN), .val (.ref A_SETS), .val (.int (4 : Int32)), .val (.int (3 : Int32)), .val (.ref A_JIS_X_0208)] [(.int (3 : Int32)), (.ref A_SETS)])) rfl rfl (hb hby d2_42) _ (XS.astore X34.here hx rfl (hb hby d2_43) rfl rfl (l' := #[.val (.int xi), .val (.int xl), .val (.ref A_ROMAN), .val (.ref A_SETS), .val (.int (4 : Int32)), .val (.int (3 : Int32)), .val (.ref A_KATAKANA)]) rfl (XS.aload X34.here hx rfl (hb hby d2_45) rfl rfl k))) ?_
          show ownEnds _ _ _ _ (T34.setTop (mkF m 47 #[.val (.int xi), .val (.int xl), .val (.ref A_ROMAN), .val (.ref A_SETS), .val (.int (4 : Int32)), .val (.int (3 : Int32)), .val (.ref A_KATAKANA)] [(.ref A_KATAKANA)]))
          obtain ⟨T36, X36, e36, st36⟩ := getF X34 hx hZ hown (host := "") (Or.inl (wd_11 hw)) Via.refl e34 F_KATAKANA_intermediate (g := (mkF m 47 #[.val (.int xi), .val (.int xl), .val (.ref A_ROMAN), .val (.ref A_SETS), .val (.int (4 : Int32)), .val (.int (3 : Int32)), .val (.ref A_KATAKANA)] [(.ref A_KATAKANA)])) rfl rfl (hb hby d2_47)
          refine ownEnds.law st36 ?_
          show ownEnds _ _ _ _ (T36.setTop (mkF m 50 #[.val (.int xi), .val (.int xl), .val (.ref A_ROMAN), .val (.ref A_SETS), .val (.int (4 : Int32)), .val (.int (3 : Int32)), .val (.ref A_KATAKANA)] [(.int (40 : Int32))]))
          refine ownEnds.law (fun t k => XS.iloadN X36.here hx rfl (hb hby d2_50) rfl k) ?_
          show ownEnds _ _ _ _ (T36.setTop (mkF m 51 #[.val (.int xi), .val (.int xl), .val (.ref A_ROMAN), .val (.ref A_SETS), .val (.int (4 : Int32)), .val (.int (3 : Int32)), .val (.ref A_KATAKANA)] [(.int xi), (.int (40 : Int32))]))
          refine ownEnds.law (fun t => XS.icmpNo X36.here hx rfl (hb hby d2_51) rfl (teq hc51).2) ?_
          show ownEnds _ _ _ _ (T36.setTop (mkF m 54 #[.val (.int xi), .val (.int xl), .val (.ref A_ROMAN), .val (.ref A_SETS), .val (.int (4 : Int32)), .val (.int (3 : Int32)), .val (.ref A_KATAKANA)] []))
          refine ownEnds.law (fun t k => XS.aload X36.here hx rfl (hb hby d2_54) rfl rfl k) ?_
          show ownEnds _ _ _ _ (T36.setTop (mkF m 56 #[.val (.int xi), .val (.int xl), .val (.ref A_ROMAN), .val (.ref A_SETS), .val (.int (4 : Int32)), .val (.int (3 : Int32)), .val (.ref A_KATAKANA)] [(.ref A_KATAKANA)]))
          obtain ⟨T37, X37, e37, st37⟩ := getF X36 hx hZ hown (host := "") (Or.inl (wd_17 hw)) Via.refl e36 F_KATAKANA_designation (g := (mkF m 56 #[.val (.int xi), .val (.int xl), .val (.ref A_ROMAN), .val (.ref A_SETS), .val (.int (4 : Int32)), .val (.int (3 : Int32)), .val (.ref A_KATAKANA)] [(.ref A_KATAKANA)])) rfl rfl (hb hby d2_56)
          refine ownEnds.law st37 ?_
          show ownEnds _ _ _ _ (T37.setTop (mkF m 59 #[.val (.int xi), .val (.int xl), .val (.ref A_ROMAN), .val (.ref A_SETS), .val (.int (4 : Int32)), .val (.int (3 : Int32)), .val (.ref A_KATAKANA)] [(.int (73 : Int32))]))
          refine ownEnds.law (fun t k => XS.iloadN X37.here hx rfl (hb hby d2_59) rfl k) ?_
          show ownEnds _ _ _ _ (T37.setTop (mkF m 60 #[.val (.int xi), .val (.int xl), .val (.ref A_ROMAN), .val (.ref A_SETS), .val (.int (4 : Int32)), .val (.int (3 : Int32)), .val (.ref A_KATAKANA)] [(.int xl), (.int (73 : Int32))]))
          refine ownEnds.law (fun t => XS.icmpYes X37.here hx rfl (pc0 := 60) (pc' := 66) rfl (hb hby d2_60) rfl (feq (fun q => absurd (q.trans (hc60_2).symm) (by decide) : ¬ ((73 : Int32) = xl))).2 (by decide) (by decide)) ?_
          show ownEnds _ _ _ _ (T37.setTop (mkF m 66 #[.val (.int xi), .val (.int xl), .val (.ref A_ROMAN), .val (.ref A_SETS), .val (.int (4 : Int32)), .val (.int (3 : Int32)), .val (.ref A_KATAKANA)] []))
          refine ownEnds.law (fun t k => XS.iinc X37.here hx rfl (hb hby d2_66) rfl (l' := #[.val (.int xi), .val (.int xl), .val (.ref A_ROMAN), .val (.ref A_SETS), .val (.int (4 : Int32)), .val (.int (4 : Int32)), .val (.ref A_KATAKANA)]) rfl (XS.goto X37.here hx rfl (pc0 := 69) (pc' := 32) rfl (hb hby d2_69) (by decide) (by decide) (XS.iload X37.here hx rfl (hb hby d2_32) rfl (XS.iload X37.here hx rfl (hb hby d2_34) rfl k)))) ?_
          show ownEnds _ _ _ _ (T37.setTop (mkF m 36 #[.val (.int xi), .val (.int xl), .val (.ref A_ROMAN), .val (.ref A_SETS), .val (.int (4 : Int32)), .val (.int (4 : Int32)), .val (.ref A_KATAKANA)] [(.int (4 : Int32)), (.int (4 : Int32))]))
          refine ownEnds.law (fun t => XS.icmpYes X37.here hx rfl (pc0 := 36) (pc' := 72) rfl (hb hby d2_36) rfl (flt (Int32.lt_irrefl)).2.1 (by decide) (by decide)) ?_
          show ownEnds _ _ _ _ (T37.setTop (mkF m 72 #[.val (.int xi), .val (.int xl), .val (.ref A_ROMAN), .val (.ref A_SETS), .val (.int (4 : Int32)), .val (.int (4 : Int32)), .val (.ref A_KATAKANA)] []))
          refine ownEnds.law (fun t k => XS.aloadN X37.here hx rfl (hb hby d2_72) rfl rfl k) ?_
          show ownEnds _ _ _ _ (T37.setTop (mkF m 73 #[.val (.int xi), .val (.int xl), .val (.ref A_ROMAN), .val (.ref A_SETS), .val (.int (4 : Int32)), .val (.int (4 : Int32)), .val (.ref A_KATAKANA)] [(.ref A_ROMAN)]))
          refine ownRetA X37 hlk hx hret rfl rfl (hb hby d2_73) (by decide) (by decide) ?_
          exact ⟨by (congr 1; unfold EXf; (repeat' split) <;> (try subst_vars) <;> simp_all), rfl, e37⟩
        · refine ownEnds.law (fun t => XS.icmpYes X32.here hx rfl (pc0 := 60) (pc' := 66) rfl (hb hby d2_60) rfl (feq hc60_2).2 (by decide) (by decide)) ?_
          show ownEnds _ _ _ _ (T32.setTop (mkF m 66 #[.val (.int xi), .val (.int xl), .val .null, .val (.ref A_SETS), .val (.int (4 : Int32)), .val (.int (1 : Int32)), .val (.ref A_ROMAN)] []))
          refine ownEnds.law (fun t k => XS.iinc X32.here hx rfl (hb hby d2_66) rfl (l' := #[.val (.int xi), .val (.int xl), .val .null, .val (.ref A_SETS), .val (.int (4 : Int32)), .val (.int (2 : Int32)), .val (.ref A_ROMAN)]) rfl (XS.goto X32.here hx rfl (pc0 := 69) (pc' := 32) rfl (hb hby d2_69) (by decide) (by decide) (XS.iload X32.here hx rfl (hb hby d2_32) rfl (XS.iload X32.here hx rfl (hb hby d2_34) rfl k)))) ?_
          show ownEnds _ _ _ _ (T32.setTop (mkF m 36 #[.val (.int xi), .val (.int xl), .val .null, .val (.ref A_SETS), .val (.int (4 : Int32)), .val (.int (2 : Int32)), .val (.ref A_ROMAN)] [(.int (4 : Int32)), (.int (2 : Int32))]))
          refine ownEnds.law (fun t => XS.icmpNo X32.here hx rfl (hb hby d2_36) rfl (tlt (by decide : (2 : Int32) < (4 : Int32))).2.1) ?_
          show ownEnds _ _ _ _ (T32.setTop (mkF m 39 #[.val (.int xi), .val (.int xl), .val .null, .val (.ref A_SETS), .val (.int (4 : Int32)), .val (.int (2 : Int32)), .val (.ref A_ROMAN)] []))
          refine ownEnds.law (fun t k => XS.aloadN X32.here hx rfl (hb hby d2_39) rfl rfl (XS.iload X32.here hx rfl (hb hby d2_40) rfl k)) ?_
          show ownEnds _ _ _ _ (T32.setTop (mkF m 42 #[.val (.int xi), .val (.int xl), .val .null, .val (.ref A_SETS), .val (.int (4 : Int32)), .val (.int (2 : Int32)), .val (.ref A_ROMAN)] [(.int (2 : Int32)), (.ref A_SETS)]))
          obtain ⟨cl38, Ar38, q38, S38, N38, H38, G38⟩ := id V_SETS
          have hi38 := inb_of (j := (2 : Int32)) S38 ⟨by decide, by decide⟩
          have hv38 : cl38.slots[((2 : Int32)).toNatClampNeg]? = some (.ref A_JIS_X_0208) := H38.at hi38 rfl
          refine ownEnds.law (fun t k => X32.aaload hx (j := (2 : Int32)) (v := (.ref A_JIS_X_0208)) (by rw [e32]; exact Ar38.1) (State.isArrayOf_alike hZ.alike Ar38.2.1) rfl Ar38.2.2 hi38 hv38 (g := (mkF m 42 #[.val (.int xi), .val (.int xl), .val .null, .val (.ref A_SETS), .val (.int (4 : Int32)), .val (.int (2 : Int32)), .val (.ref A_ROMAN)] [(.int (2 : Int32)), (.ref A_SETS)])) rfl rfl (hb hby d2_42) _ (XS.astore X32.here hx rfl (hb hby d2_43) rfl rfl (l' := #[.val (.int xi), .val (.int xl), .val .null, .val (.ref A_SETS), .val (.int (4 : Int32)), .val (.int (2 : Int32)), .val (.ref A_JIS_X_0208)]) rfl (XS.aload X32.here hx rfl (hb hby d2_45) rfl rfl k))) ?_
          show ownEnds _ _ _ _ (T32.setTop (mkF m 47 #[.val (.int xi), .val (.int xl), .val .null, .val (.ref A_SETS), .val (.int (4 : Int32)), .val (.int (2 : Int32)), .val (.ref A_JIS_X_0208)] [(.ref A_JIS_X_0208)]))
          obtain ⟨T39, X39, e39, st39⟩ := getF X32 hx hZ hown (host := "") (Or.inl (wd_11 hw)) Via.refl e32 F_JIS_X_0208_intermediate (g := (mkF m 47 #[.val (.int xi), .val (.int xl), .val .null, .val (.ref A_SETS), .val (.int (4 : Int32)), .val (.int (2 : Int32)), .val (.ref A_JIS_X_0208)] [(.ref A_JIS_X_0208)])) rfl rfl (hb hby d2_47)
          refine ownEnds.law st39 ?_
          show ownEnds _ _ _ _ (T39.setTop (mkF m 50 #[.val (.int xi), .val (.int xl), .val .null, .val (.ref A_SETS), .val (.int (4 : Int32)), .val (.int (2 : Int32)), .val (.ref A_JIS_X_0208)] [(.int (36 : Int32))]))
          refine ownEnds.law (fun t k => XS.iloadN X39.here hx rfl (hb hby d2_50) rfl k) ?_
          show ownEnds _ _ _ _ (T39.setTop (mkF m 51 #[.val (.int xi), .val (.int xl), .val .null, .val (.ref A_SETS), .val (.int (4 : Int32)), .val (.int (2 : Int32)), .val (.ref A_JIS_X_0208)] [(.int xi), (.int (36 : Int32))]))
          refine ownEnds.law (fun t => XS.icmpYes X39.here hx rfl (pc0 := 51) (pc' := 66) rfl (hb hby d2_51) rfl (feq (fun q => absurd (q.trans (hc51).symm) (by decide) : ¬ ((36 : Int32) = xi))).2 (by decide) (by decide)) ?_
          show ownEnds _ _ _ _ (T39.setTop (mkF m 66 #[.val (.int xi), .val (.int xl), .val .null, .val (.ref A_SETS), .val (.int (4 : Int32)), .val (.int (2 : Int32)), .val (.ref A_JIS_X_0208)] []))
          refine ownEnds.law (fun t k => XS.iinc X39.here hx rfl (hb hby d2_66) rfl (l' := #[.val (.int xi), .val (.int xl), .val .null, .val (.ref A_SETS), .val (.int (4 : Int32)), .val (.int (3 : Int32)), .val (.ref A_JIS_X_0208)]) rfl (XS.goto X39.here hx rfl (pc0 := 69) (pc' := 32) rfl (hb hby d2_69) (by decide) (by decide) (XS.iload X39.here hx rfl (hb hby d2_32) rfl (XS.iload X39.here hx rfl (hb hby d2_34) rfl k)))) ?_
          show ownEnds _ _ _ _ (T39.setTop (mkF m 36 #[.val (.int xi), .val (.int xl), .val .null, .val (.ref A_SETS), .val (.int (4 : Int32)), .val (.int (3 : Int32)), .val (.ref A_JIS_X_0208)] [(.int (4 : Int32)), (.int (3 : Int32))]))
          refine ownEnds.law (fun t => XS.icmpNo X39.here hx rfl (hb hby d2_36) rfl (tlt (by decide : (3 : Int32) < (4 : Int32))).2.1) ?_
          show ownEnds _ _ _ _ (T39.setTop (mkF m 39 #[.val (.int xi), .val (.int xl), .val .null, .val (.ref A_SETS), .val (.int (4 : Int32)), .val (.int (3 : Int32)), .val (.ref A_JIS_X_0208)] []))
          refine ownEnds.law (fun t k => XS.aloadN X39.here hx rfl (hb hby d2_39) rfl rfl (XS.iload X39.here hx rfl (hb hby d2_40) rfl k)) ?_
          show ownEnds _ _ _ _ (T39.setTop (mkF m 42 #[.val (.int xi), .val (.int xl), .val .null, .val (.ref A_SETS), .val (.int (4 : Int32)), .val (.int (3 : Int32)), .val (.ref A_JIS_X_0208)] [(.int (3 : Int32)), (.ref A_SETS)]))
          obtain ⟨cl40, Ar40, q40, S40, N40, H40, G40⟩ := id V_SETS
          have hi40 := inb_of (j := (3 : Int32)) S40 ⟨by decide, by decide⟩
          have hv40 : cl40.slots[((3 : Int32)).toNatClampNeg]? = some (.ref A_KATAKANA) := H40.at hi40 rfl
          refine ownEnds.law (fun t k => X39.aaload hx (j := (3 : Int32)) (v := (.ref A_KATAKANA)) (by rw [e39]; exact Ar40.1) (State.isArrayOf_alike hZ.alike Ar40.2.1) rfl Ar40.2.2 hi40 hv40 (g := (mkF m 42 #[.val (.int xi), .val (.int xl), .val .null, .val (.ref A_SETS), .val (.int (4 : Int32)), .val (.int (3 : Int32)), .val (.ref A_JIS_X_0208)] [(.int (3 : Int32)), (.ref A_SETS)])) rfl rfl (hb hby d2_42) _ (XS.astore X39.here hx rfl (hb hby d2_43) rfl rfl (l' := #[.val (.int xi), .val (.int xl), .val .null, .val (.ref A_SETS), .val (.int (4 : Int32)), .val (.int (3 : Int32)), .val (.ref A_KATAKANA)]) rfl (XS.aload X39.here hx rfl (hb hby d2_45) rfl rfl k))) ?_
          show ownEnds _ _ _ _ (T39.setTop (mkF m 47 #[.val (.int xi), .val (.int xl), .val .null, .val (.ref A_SETS), .val (.int (4 : Int32)), .val (.int (3 : Int32)), .val (.ref A_KATAKANA)] [(.ref A_KATAKANA)]))
          obtain ⟨T41, X41, e41, st41⟩ := getF X39 hx hZ hown (host := "") (Or.inl (wd_11 hw)) Via.refl e39 F_KATAKANA_intermediate (g := (mkF m 47 #[.val (.int xi), .val (.int xl), .val .null, .val (.ref A_SETS), .val (.int (4 : Int32)), .val (.int (3 : Int32)), .val (.ref A_KATAKANA)] [(.ref A_KATAKANA)])) rfl rfl (hb hby d2_47)
          refine ownEnds.law st41 ?_
          show ownEnds _ _ _ _ (T41.setTop (mkF m 50 #[.val (.int xi), .val (.int xl), .val .null, .val (.ref A_SETS), .val (.int (4 : Int32)), .val (.int (3 : Int32)), .val (.ref A_KATAKANA)] [(.int (40 : Int32))]))
          refine ownEnds.law (fun t k => XS.iloadN X41.here hx rfl (hb hby d2_50) rfl k) ?_
          show ownEnds _ _ _ _ (T41.setTop (mkF m 51 #[.val (.int xi), .val (.int xl), .val .null, .val (.ref A_SETS), .val (.int (4 : Int32)), .val (.int (3 : Int32)), .val (.ref A_KATAKANA)] [(.int xi), (.int (40 : Int32))]))
          refine ownEnds.law (fun t => XS.icmpNo X41.here hx rfl (hb hby d2_51) rfl (teq hc51).2) ?_
          show ownEnds _ _ _ _ (T41.setTop (mkF m 54 #[.val (.int xi), .val (.int xl), .val .null, .val (.ref A_SETS), .val (.int (4 : Int32)), .val (.int (3 : Int32)), .val (.ref A_KATAKANA)] []))
          refine ownEnds.law (fun t k => XS.aload X41.here hx rfl (hb hby d2_54) rfl rfl k) ?_
          show ownEnds _ _ _ _ (T41.setTop (mkF m 56 #[.val (.int xi), .val (.int xl), .val .null, .val (.ref A_SETS), .val (.int (4 : Int32)), .val (.int (3 : Int32)), .val (.ref A_KATAKANA)] [(.ref A_KATAKANA)]))
          obtain ⟨T42, X42, e42, st42⟩ := getF X41 hx hZ hown (host := "") (Or.inl (wd_17 hw)) Via.refl e41 F_KATAKANA_designation (g := (mkF m 56 #[.val (.int xi), .val (.int xl), .val .null, .val (.ref A_SETS), .val (.int (4 : Int32)), .val (.int (3 : Int32)), .val (.ref A_KATAKANA)] [(.ref A_KATAKANA)])) rfl rfl (hb hby d2_56)
          refine ownEnds.law st42 ?_
          show ownEnds _ _ _ _ (T42.setTop (mkF m 59 #[.val (.int xi), .val (.int xl), .val .null, .val (.ref A_SETS), .val (.int (4 : Int32)), .val (.int (3 : Int32)), .val (.ref A_KATAKANA)] [(.int (73 : Int32))]))
          refine ownEnds.law (fun t k => XS.iloadN X42.here hx rfl (hb hby d2_59) rfl k) ?_
          show ownEnds _ _ _ _ (T42.setTop (mkF m 60 #[.val (.int xi), .val (.int xl), .val .null, .val (.ref A_SETS), .val (.int (4 : Int32)), .val (.int (3 : Int32)), .val (.ref A_KATAKANA)] [(.int xl), (.int (73 : Int32))]))
          by_cases hc60_3 : (73 : Int32) = xl
          · refine ownEnds.law (fun t => XS.icmpNo X42.here hx rfl (hb hby d2_60) rfl (teq hc60_3).2) ?_
            show ownEnds _ _ _ _ (T42.setTop (mkF m 63 #[.val (.int xi), .val (.int xl), .val .null, .val (.ref A_SETS), .val (.int (4 : Int32)), .val (.int (3 : Int32)), .val (.ref A_KATAKANA)] []))
            refine ownEnds.law (fun t k => XS.aload X42.here hx rfl (hb hby d2_63) rfl rfl (XS.astoreN X42.here hx rfl (hb hby d2_65) rfl rfl (l' := #[.val (.int xi), .val (.int xl), .val (.ref A_KATAKANA), .val (.ref A_SETS), .val (.int (4 : Int32)), .val (.int (3 : Int32)), .val (.ref A_KATAKANA)]) rfl (XS.iinc X42.here hx rfl (hb hby d2_66) rfl (l' := #[.val (.int xi), .val (.int xl), .val (.ref A_KATAKANA), .val (.ref A_SETS), .val (.int (4 : Int32)), .val (.int (4 : Int32)), .val (.ref A_KATAKANA)]) rfl (XS.goto X42.here hx rfl (pc0 := 69) (pc' := 32) rfl (hb hby d2_69) (by decide) (by decide) (XS.iload X42.here hx rfl (hb hby d2_32) rfl (XS.iload X42.here hx rfl (hb hby d2_34) rfl k)))))) ?_
            show ownEnds _ _ _ _ (T42.setTop (mkF m 36 #[.val (.int xi), .val (.int xl), .val (.ref A_KATAKANA), .val (.ref A_SETS), .val (.int (4 : Int32)), .val (.int (4 : Int32)), .val (.ref A_KATAKANA)] [(.int (4 : Int32)), (.int (4 : Int32))]))
            refine ownEnds.law (fun t => XS.icmpYes X42.here hx rfl (pc0 := 36) (pc' := 72) rfl (hb hby d2_36) rfl (flt (Int32.lt_irrefl)).2.1 (by decide) (by decide)) ?_
            show ownEnds _ _ _ _ (T42.setTop (mkF m 72 #[.val (.int xi), .val (.int xl), .val (.ref A_KATAKANA), .val (.ref A_SETS), .val (.int (4 : Int32)), .val (.int (4 : Int32)), .val (.ref A_KATAKANA)] []))
            refine ownEnds.law (fun t k => XS.aloadN X42.here hx rfl (hb hby d2_72) rfl rfl k) ?_
            show ownEnds _ _ _ _ (T42.setTop (mkF m 73 #[.val (.int xi), .val (.int xl), .val (.ref A_KATAKANA), .val (.ref A_SETS), .val (.int (4 : Int32)), .val (.int (4 : Int32)), .val (.ref A_KATAKANA)] [(.ref A_KATAKANA)]))
            refine ownRetA X42 hlk hx hret rfl rfl (hb hby d2_73) (by decide) (by decide) ?_
            exact ⟨by (congr 1; unfold EXf; (repeat' split) <;> (try subst_vars) <;> simp_all), rfl, e42⟩
          · refine ownEnds.law (fun t => XS.icmpYes X42.here hx rfl (pc0 := 60) (pc' := 66) rfl (hb hby d2_60) rfl (feq hc60_3).2 (by decide) (by decide)) ?_
            show ownEnds _ _ _ _ (T42.setTop (mkF m 66 #[.val (.int xi), .val (.int xl), .val .null, .val (.ref A_SETS), .val (.int (4 : Int32)), .val (.int (3 : Int32)), .val (.ref A_KATAKANA)] []))
            refine ownEnds.law (fun t k => XS.iinc X42.here hx rfl (hb hby d2_66) rfl (l' := #[.val (.int xi), .val (.int xl), .val .null, .val (.ref A_SETS), .val (.int (4 : Int32)), .val (.int (4 : Int32)), .val (.ref A_KATAKANA)]) rfl (XS.goto X42.here hx rfl (pc0 := 69) (pc' := 32) rfl (hb hby d2_69) (by decide) (by decide) (XS.iload X42.here hx rfl (hb hby d2_32) rfl (XS.iload X42.here hx rfl (hb hby d2_34) rfl k)))) ?_
            show ownEnds _ _ _ _ (T42.setTop (mkF m 36 #[.val (.int xi), .val (.int xl), .val .null, .val (.ref A_SETS), .val (.int (4 : Int32)), .val (.int (4 : Int32)), .val (.ref A_KATAKANA)] [(.int (4 : Int32)), (.int (4 : Int32))]))
            refine ownEnds.law (fun t => XS.icmpYes X42.here hx rfl (pc0 := 36) (pc' := 72) rfl (hb hby d2_36) rfl (flt (Int32.lt_irrefl)).2.1 (by decide) (by decide)) ?_
            show ownEnds _ _ _ _ (T42.setTop (mkF m 72 #[.val (.int xi), .val (.int xl), .val .null, .val (.ref A_SETS), .val (.int (4 : Int32)), .val (.int (4 : Int32)), .val (.ref A_KATAKANA)] []))
            refine ownEnds.law (fun t k => XS.aloadN X42.here hx rfl (hb hby d2_72) rfl rfl k) ?_
            show ownEnds _ _ _ _ (T42.setTop (mkF m 73 #[.val (.int xi), .val (.int xl), .val .null, .val (.ref A_SETS), .val (.int (4 : Int32)), .val (.int (4 : Int32)), .val (.ref A_KATAKANA)] [.null]))
            refine ownRetA X42 hlk hx hret rfl rfl (hb hby d2_73) (by decide) (by decide) ?_
            exact ⟨by (congr 1; unfold EXf; (repeat' split) <;> (try subst_vars) <;> simp_all), rfl, e42⟩
    · refine ownEnds.law (fun t => XS.icmpYes X20.here hx rfl (pc0 := 51) (pc' := 66) rfl (hb hby d2_51) rfl (feq hc51).2 (by decide) (by decide)) ?_
      show ownEnds _ _ _ _ (T20.setTop (mkF m 66 #[.val (.int xi), .val (.int xl), .val .null, .val (.ref A_SETS), .val (.int (4 : Int32)), .val (.int (0 : Int32)), .val (.ref A_ASCII)] []))
      refine ownEnds.law (fun t k => XS.iinc X20.here hx rfl (hb hby d2_66) rfl (l' := #[.val (.int xi), .val (.int xl), .val .null, .val (.ref A_SETS), .val (.int (4 : Int32)), .val (.int (1 : Int32)), .val (.ref A_ASCII)]) rfl (XS.goto X20.here hx rfl (pc0 := 69) (pc' := 32) rfl (hb hby d2_69) (by decide) (by decide) (XS.iload X20.here hx rfl (hb hby d2_32) rfl (XS.iload X20.here hx rfl (hb hby d2_34) rfl k)))) ?_
      show ownEnds _ _ _ _ (T20.setTop (mkF m 36 #[.val (.int xi), .val (.int xl), .val .null, .val (.ref A_SETS), .val (.int (4 : Int32)), .val (.int (1 : Int32)), .val (.ref A_ASCII)] [(.int (4 : Int32)), (.int (1 : Int32))]))
      refine ownEnds.law (fun t => XS.icmpNo X20.here hx rfl (hb hby d2_36) rfl (tlt (by decide : (1 : Int32) < (4 : Int32))).2.1) ?_
      show ownEnds _ _ _ _ (T20.setTop (mkF m 39 #[.val (.int xi), .val (.int xl), .val .null, .val (.ref A_SETS), .val (.int (4 : Int32)), .val (.int (1 : Int32)), .val (.ref A_ASCII)] []))
      refine ownEnds.law (fun t k => XS.aloadN X20.here hx rfl (hb hby d2_39) rfl rfl (XS.iload X20.here hx rfl (hb hby d2_40) rfl k)) ?_
      show ownEnds _ _ _ _ (T20.setTop (mkF m 42 #[.val (.int xi), .val (.int xl), .val .null, .val (.ref A_SETS), .val (.int (4 : Int32)), .val (.int (1 : Int32)), .val (.ref A_ASCII)] [(.int (1 : Int32)), (.ref A_SETS)]))
      obtain ⟨cl43, Ar43, q43, S43, N43, H43, G43⟩ := id V_SETS
      have hi43 := inb_of (j := (1 : Int32)) S43 ⟨by decide, by decide⟩
      have hv43 : cl43.slots[((1 : Int32)).toNatClampNeg]? = some (.ref A_ROMAN) := H43.at hi43 rfl
      refine ownEnds.law (fun t k => X20.aaload hx (j := (1 : Int32)) (v := (.ref A_ROMAN)) (by rw [e20]; exact Ar43.1) (State.isArrayOf_alike hZ.alike Ar43.2.1) rfl Ar43.2.2 hi43 hv43 (g := (mkF m 42 #[.val (.int xi), .val (.int xl), .val .null, .val (.ref A_SETS), .val (.int (4 : Int32)), .val (.int (1 : Int32)), .val (.ref A_ASCII)] [(.int (1 : Int32)), (.ref A_SETS)])) rfl rfl (hb hby d2_42) _ (XS.astore X20.here hx rfl (hb hby d2_43) rfl rfl (l' := #[.val (.int xi), .val (.int xl), .val .null, .val (.ref A_SETS), .val (.int (4 : Int32)), .val (.int (1 : Int32)), .val (.ref A_ROMAN)]) rfl (XS.aload X20.here hx rfl (hb hby d2_45) rfl rfl k))) ?_
      show ownEnds _ _ _ _ (T20.setTop (mkF m 47 #[.val (.int xi), .val (.int xl), .val .null, .val (.ref A_SETS), .val (.int (4 : Int32)), .val (.int (1 : Int32)), .val (.ref A_ROMAN)] [(.ref A_ROMAN)]))
      obtain ⟨T44, X44, e44, st44⟩ := getF X20 hx hZ hown (host := "") (Or.inl (wd_11 hw)) Via.refl e20 F_ROMAN_intermediate (g := (mkF m 47 #[.val (.int xi), .val (.int xl), .val .null, .val (.ref A_SETS), .val (.int (4 : Int32)), .val (.int (1 : Int32)), .val (.ref A_ROMAN)] [(.ref A_ROMAN)])) rfl rfl (hb hby d2_47)
      refine ownEnds.law st44 ?_
      show ownEnds _ _ _ _ (T44.setTop (mkF m 50 #[.val (.int xi), .val (.int xl), .val .null, .val (.ref A_SETS), .val (.int (4 : Int32)), .val (.int (1 : Int32)), .val (.ref A_ROMAN)] [(.int (40 : Int32))]))
      refine ownEnds.law (fun t k => XS.iloadN X44.here hx rfl (hb hby d2_50) rfl k) ?_
      show ownEnds _ _ _ _ (T44.setTop (mkF m 51 #[.val (.int xi), .val (.int xl), .val .null, .val (.ref A_SETS), .val (.int (4 : Int32)), .val (.int (1 : Int32)), .val (.ref A_ROMAN)] [(.int xi), (.int (40 : Int32))]))
      refine ownEnds.law (fun t => XS.icmpYes X44.here hx rfl (pc0 := 51) (pc' := 66) rfl (hb hby d2_51) rfl (feq hc51).2 (by decide) (by decide)) ?_
      show ownEnds _ _ _ _ (T44.setTop (mkF m 66 #[.val (.int xi), .val (.int xl), .val .null, .val (.ref A_SETS), .val (.int (4 : Int32)), .val (.int (1 : Int32)), .val (.ref A_ROMAN)] []))
      refine ownEnds.law (fun t k => XS.iinc X44.here hx rfl (hb hby d2_66) rfl (l' := #[.val (.int xi), .val (.int xl), .val .null, .val (.ref A_SETS), .val (.int (4 : Int32)), .val (.int (2 : Int32)), .val (.ref A_ROMAN)]) rfl (XS.goto X44.here hx rfl (pc0 := 69) (pc' := 32) rfl (hb hby d2_69) (by decide) (by decide) (XS.iload X44.here hx rfl (hb hby d2_32) rfl (XS.iload X44.here hx rfl (hb hby d2_34) rfl k)))) ?_
      show ownEnds _ _ _ _ (T44.setTop (mkF m 36 #[.val (.int xi), .val (.int xl), .val .null, .val (.ref A_SETS), .val (.int (4 : Int32)), .val (.int (2 : Int32)), .val (.ref A_ROMAN)] [(.int (4 : Int32)), (.int (2 : Int32))]))
      refine ownEnds.law (fun t => XS.icmpNo X44.here hx rfl (hb hby d2_36) rfl (tlt (by decide : (2 : Int32) < (4 : Int32))).2.1) ?_
      show ownEnds _ _ _ _ (T44.setTop (mkF m 39 #[.val (.int xi), .val (.int xl), .val .null, .val (.ref A_SETS), .val (.int (4 : Int32)), .val (.int (2 : Int32)), .val (.ref A_ROMAN)] []))
      refine ownEnds.law (fun t k => XS.aloadN X44.here hx rfl (hb hby d2_39) rfl rfl (XS.iload X44.here hx rfl (hb hby d2_40) rfl k)) ?_
      show ownEnds _ _ _ _ (T44.setTop (mkF m 42 #[.val (.int xi), .val (.int xl), .val .null, .val (.ref A_SETS), .val (.int (4 : Int32)), .val (.int (2 : Int32)), .val (.ref A_ROMAN)] [(.int (2 : Int32)), (.ref A_SETS)]))
      obtain ⟨cl45, Ar45, q45, S45, N45, H45, G45⟩ := id V_SETS
      have hi45 := inb_of (j := (2 : Int32)) S45 ⟨by decide, by decide⟩
      have hv45 : cl45.slots[((2 : Int32)).toNatClampNeg]? = some (.ref A_JIS_X_0208) := H45.at hi45 rfl
      refine ownEnds.law (fun t k => X44.aaload hx (j := (2 : Int32)) (v := (.ref A_JIS_X_0208)) (by rw [e44]; exact Ar45.1) (State.isArrayOf_alike hZ.alike Ar45.2.1) rfl Ar45.2.2 hi45 hv45 (g := (mkF m 42 #[.val (.int xi), .val (.int xl), .val .null, .val (.ref A_SETS), .val (.int (4 : Int32)), .val (.int (2 : Int32)), .val (.ref A_ROMAN)] [(.int (2 : Int32)), (.ref A_SETS)])) rfl rfl (hb hby d2_42) _ (XS.astore X44.here hx rfl (hb hby d2_43) rfl rfl (l' := #[.val (.int xi), .val (.int xl), .val .null, .val (.ref A_SETS), .val (.int (4 : Int32)), .val (.int (2 : Int32)), .val (.ref A_JIS_X_0208)]) rfl (XS.aload X44.here hx rfl (hb hby d2_45) rfl rfl k))) ?_
      show ownEnds _ _ _ _ (T44.setTop (mkF m 47 #[.val (.int xi), .val (.int xl), .val .null, .val (.ref A_SETS), .val (.int (4 : Int32)), .val (.int (2 : Int32)), .val (.ref A_JIS_X_0208)] [(.ref A_JIS_X_0208)]))
      obtain ⟨T46, X46, e46, st46⟩ := getF X44 hx hZ hown (host := "") (Or.inl (wd_11 hw)) Via.refl e44 F_JIS_X_0208_intermediate (g := (mkF m 47 #[.val (.int xi), .val (.int xl), .val .null, .val (.ref A_SETS), .val (.int (4 : Int32)), .val (.int (2 : Int32)), .val (.ref A_JIS_X_0208)] [(.ref A_JIS_X_0208)])) rfl rfl (hb hby d2_47)
      refine ownEnds.law st46 ?_
      show ownEnds _ _ _ _ (T46.setTop (mkF m 50 #[.val (.int xi), .val (.int xl), .val .null, .val (.ref A_SETS), .val (.int (4 : Int32)), .val (.int (2 : Int32)), .val (.ref A_JIS_X_0208)] [(.int (36 : Int32))]))
      refine ownEnds.law (fun t k => XS.iloadN X46.here hx rfl (hb hby d2_50) rfl k) ?_
      show ownEnds _ _ _ _ (T46.setTop (mkF m 51 #[.val (.int xi), .val (.int xl), .val .null, .val (.ref A_SETS), .val (.int (4 : Int32)), .val (.int (2 : Int32)), .val (.ref A_JIS_X_0208)] [(.int xi), (.int (36 : Int32))]))
      by_cases hc51_2 : (36 : Int32) = xi
      · refine ownEnds.law (fun t => XS.icmpNo X46.here hx rfl (hb hby d2_51) rfl (teq hc51_2).2) ?_
        show ownEnds _ _ _ _ (T46.setTop (mkF m 54 #[.val (.int xi), .val (.int xl), .val .null, .val (.ref A_SETS), .val (.int (4 : Int32)), .val (.int (2 : Int32)), .val (.ref A_JIS_X_0208)] []))
        refine ownEnds.law (fun t k => XS.aload X46.here hx rfl (hb hby d2_54) rfl rfl k) ?_
        show ownEnds _ _ _ _ (T46.setTop (mkF m 56 #[.val (.int xi), .val (.int xl), .val .null, .val (.ref A_SETS), .val (.int (4 : Int32)), .val (.int (2 : Int32)), .val (.ref A_JIS_X_0208)] [(.ref A_JIS_X_0208)]))
        obtain ⟨T47, X47, e47, st47⟩ := getF X46 hx hZ hown (host := "") (Or.inl (wd_17 hw)) Via.refl e46 F_JIS_X_0208_designation (g := (mkF m 56 #[.val (.int xi), .val (.int xl), .val .null, .val (.ref A_SETS), .val (.int (4 : Int32)), .val (.int (2 : Int32)), .val (.ref A_JIS_X_0208)] [(.ref A_JIS_X_0208)])) rfl rfl (hb hby d2_56)
        refine ownEnds.law st47 ?_
        show ownEnds _ _ _ _ (T47.setTop (mkF m 59 #[.val (.int xi), .val (.int xl), .val .null, .val (.ref A_SETS), .val (.int (4 : Int32)), .val (.int (2 : Int32)), .val (.ref A_JIS_X_0208)] [(.int (66 : Int32))]))
        refine ownEnds.law (fun t k => XS.iloadN X47.here hx rfl (hb hby d2_59) rfl k) ?_
        show ownEnds _ _ _ _ (T47.setTop (mkF m 60 #[.val (.int xi), .val (.int xl), .val .null, .val (.ref A_SETS), .val (.int (4 : Int32)), .val (.int (2 : Int32)), .val (.ref A_JIS_X_0208)] [(.int xl), (.int (66 : Int32))]))
        by_cases hc60 : (66 : Int32) = xl
        · refine ownEnds.law (fun t => XS.icmpNo X47.here hx rfl (hb hby d2_60) rfl (teq hc60).2) ?_
          show ownEnds _ _ _ _ (T47.setTop (mkF m 63 #[.val (.int xi), .val (.int xl), .val .null, .val (.ref A_SETS), .val (.int (4 : Int32)), .val (.int (2 : Int32)), .val (.ref A_JIS_X_0208)] []))
          refine ownEnds.law (fun t k => XS.aload X47.here hx rfl (hb hby d2_63) rfl rfl (XS.astoreN X47.here hx rfl (hb hby d2_65) rfl rfl (l' := #[.val (.int xi), .val (.int xl), .val (.ref A_JIS_X_0208), .val (.ref A_SETS), .val (.int (4 : Int32)), .val (.int (2 : Int32)), .val (.ref A_JIS_X_0208)]) rfl (XS.iinc X47.here hx rfl (hb hby d2_66) rfl (l' := #[.val (.int xi), .val (.int xl), .val (.ref A_JIS_X_0208), .val (.ref A_SETS), .val (.int (4 : Int32)), .val (.int (3 : Int32)), .val (.ref A_JIS_X_0208)]) rfl (XS.goto X47.here hx rfl (pc0 := 69) (pc' := 32) rfl (hb hby d2_69) (by decide) (by decide) (XS.iload X47.here hx rfl (hb hby d2_32) rfl (XS.iload X47.here hx rfl (hb hby d2_34) rfl k)))))) ?_
          show ownEnds _ _ _ _ (T47.setTop (mkF m 36 #[.val (.int xi), .val (.int xl), .val (.ref A_JIS_X_0208), .val (.ref A_SETS), .val (.int (4 : Int32)), .val (.int (3 : Int32)), .val (.ref A_JIS_X_0208)] [(.int (4 : Int32)), (.int (3 : Int32))]))
          refine ownEnds.law (fun t => XS.icmpNo X47.here hx rfl (hb hby d2_36) rfl (tlt (by decide : (3 : Int32) < (4 : Int32))).2.1) ?_
          show ownEnds _ _ _ _ (T47.setTop (mkF m 39 #[.val (.int xi), .val (.int xl), .val (.ref A_JIS_X_0208), .val (.ref A_SETS), .val (.int (4 : Int32)), .val (.int (3 : Int32)), .val (.ref A_JIS_X_0208)] []))
          refine ownEnds.law (fun t k => XS.aloadN X47.here hx rfl (hb hby d2_39) rfl rfl (XS.iload X47.here hx rfl (hb hby d2_40) rfl k)) ?_
          show ownEnds _ _ _ _ (T47.setTop (mkF m 42 #[.val (.int xi), .val (.int xl), .val (.ref A_JIS_X_0208), .val (.ref A_SETS), .val (.int (4 : Int32)), .val (.int (3 : Int32)), .val (.ref A_JIS_X_0208)] [(.int (3 : Int32)), (.ref A_SETS)]))
          obtain ⟨cl48, Ar48, q48, S48, N48, H48, G48⟩ := id V_SETS
          have hi48 := inb_of (j := (3 : Int32)) S48 ⟨by decide, by decide⟩
          have hv48 : cl48.slots[((3 : Int32)).toNatClampNeg]? = some (.ref A_KATAKANA) := H48.at hi48 rfl
          refine ownEnds.law (fun t k => X47.aaload hx (j := (3 : Int32)) (v := (.ref A_KATAKANA)) (by rw [e47]; exact Ar48.1) (State.isArrayOf_alike hZ.alike Ar48.2.1) rfl Ar48.2.2 hi48 hv48 (g := (mkF m 42 #[.val (.int xi), .val (.int xl), .val (.ref A_JIS_X_0208), .val (.ref A_SETS), .val (.int (4 : Int32)), .val (.int (3 : Int32)), .val (.ref A_JIS_X_0208)] [(.int (3 : Int32)), (.ref A_SETS)])) rfl rfl (hb hby d2_42) _ (XS.astore X47.here hx rfl (hb hby d2_43) rfl rfl (l' := #[.val (.int xi), .val (.int xl), .val (.ref A_JIS_X_0208), .val (.ref A_SETS), .val (.int (4 : Int32)), .val (.int (3 : Int32)), .val (.ref A_KATAKANA)]) rfl (XS.aload X47.here hx rfl (hb hby d2_45) rfl rfl k))) ?_
          show ownEnds _ _ _ _ (T47.setTop (mkF m 47 #[.val (.int xi), .val (.int xl), .val (.ref A_JIS_X_0208), .val (.ref A_SETS), .val (.int (4 : Int32)), .val (.int (3 : Int32)), .val (.ref A_KATAKANA)] [(.ref A_KATAKANA)]))
          obtain ⟨T49, X49, e49, st49⟩ := getF X47 hx hZ hown (host := "") (Or.inl (wd_11 hw)) Via.refl e47 F_KATAKANA_intermediate (g := (mkF m 47 #[.val (.int xi), .val (.int xl), .val (.ref A_JIS_X_0208), .val (.ref A_SETS), .val (.int (4 : Int32)), .val (.int (3 : Int32)), .val (.ref A_KATAKANA)] [(.ref A_KATAKANA)])) rfl rfl (hb hby d2_47)
          refine ownEnds.law st49 ?_
          show ownEnds _ _ _ _ (T49.setTop (mkF m 50 #[.val (.int xi), .val (.int xl), .val (.ref A_JIS_X_0208), .val (.ref A_SETS), .val (.int (4 : Int32)), .val (.int (3 : Int32)), .val (.ref A_KATAKANA)] [(.int (40 : Int32))]))
          refine ownEnds.law (fun t k => XS.iloadN X49.here hx rfl (hb hby d2_50) rfl k) ?_
          show ownEnds _ _ _ _ (T49.setTop (mkF m 51 #[.val (.int xi), .val (.int xl), .val (.ref A_JIS_X_0208), .val (.ref A_SETS), .val (.int (4 : Int32)), .val (.int (3 : Int32)), .val (.ref A_KATAKANA)] [(.int xi), (.int (40 : Int32))]))
          refine ownEnds.law (fun t => XS.icmpYes X49.here hx rfl (pc0 := 51) (pc' := 66) rfl (hb hby d2_51) rfl (feq hc51).2 (by decide) (by decide)) ?_
          show ownEnds _ _ _ _ (T49.setTop (mkF m 66 #[.val (.int xi), .val (.int xl), .val (.ref A_JIS_X_0208), .val (.ref A_SETS), .val (.int (4 : Int32)), .val (.int (3 : Int32)), .val (.ref A_KATAKANA)] []))
          refine ownEnds.law (fun t k => XS.iinc X49.here hx rfl (hb hby d2_66) rfl (l' := #[.val (.int xi), .val (.int xl), .val (.ref A_JIS_X_0208), .val (.ref A_SETS), .val (.int (4 : Int32)), .val (.int (4 : Int32)), .val (.ref A_KATAKANA)]) rfl (XS.goto X49.here hx rfl (pc0 := 69) (pc' := 32) rfl (hb hby d2_69) (by decide) (by decide) (XS.iload X49.here hx rfl (hb hby d2_32) rfl (XS.iload X49.here hx rfl (hb hby d2_34) rfl k)))) ?_
          show ownEnds _ _ _ _ (T49.setTop (mkF m 36 #[.val (.int xi), .val (.int xl), .val (.ref A_JIS_X_0208), .val (.ref A_SETS), .val (.int (4 : Int32)), .val (.int (4 : Int32)), .val (.ref A_KATAKANA)] [(.int (4 : Int32)), (.int (4 : Int32))]))
          refine ownEnds.law (fun t => XS.icmpYes X49.here hx rfl (pc0 := 36) (pc' := 72) rfl (hb hby d2_36) rfl (flt (Int32.lt_irrefl)).2.1 (by decide) (by decide)) ?_
          show ownEnds _ _ _ _ (T49.setTop (mkF m 72 #[.val (.int xi), .val (.int xl), .val (.ref A_JIS_X_0208), .val (.ref A_SETS), .val (.int (4 : Int32)), .val (.int (4 : Int32)), .val (.ref A_KATAKANA)] []))
          refine ownEnds.law (fun t k => XS.aloadN X49.here hx rfl (hb hby d2_72) rfl rfl k) ?_
          show ownEnds _ _ _ _ (T49.setTop (mkF m 73 #[.val (.int xi), .val (.int xl), .val (.ref A_JIS_X_0208), .val (.ref A_SETS), .val (.int (4 : Int32)), .val (.int (4 : Int32)), .val (.ref A_KATAKANA)] [(.ref A_JIS_X_0208)]))
          refine ownRetA X49 hlk hx hret rfl rfl (hb hby d2_73) (by decide) (by decide) ?_
          exact ⟨by (congr 1; unfold EXf; (repeat' split) <;> (try subst_vars) <;> simp_all), rfl, e49⟩
        · refine ownEnds.law (fun t => XS.icmpYes X47.here hx rfl (pc0 := 60) (pc' := 66) rfl (hb hby d2_60) rfl (feq hc60).2 (by decide) (by decide)) ?_
          show ownEnds _ _ _ _ (T47.setTop (mkF m 66 #[.val (.int xi), .val (.int xl), .val .null, .val (.ref A_SETS), .val (.int (4 : Int32)), .val (.int (2 : Int32)), .val (.ref A_JIS_X_0208)] []))
          refine ownEnds.law (fun t k => XS.iinc X47.here hx rfl (hb hby d2_66) rfl (l' := #[.val (.int xi), .val (.int xl), .val .null, .val (.ref A_SETS), .val (.int (4 : Int32)), .val (.int (3 : Int32)), .val (.ref A_JIS_X_0208)]) rfl (XS.goto X47.here hx rfl (pc0 := 69) (pc' := 32) rfl (hb hby d2_69) (by decide) (by decide) (XS.iload X47.here hx rfl (hb hby d2_32) rfl (XS.iload X47.here hx rfl (hb hby d2_34) rfl k)))) ?_
          show ownEnds _ _ _ _ (T47.setTop (mkF m 36 #[.val (.int xi), .val (.int xl), .val .null, .val (.ref A_SETS), .val (.int (4 : Int32)), .val (.int (3 : Int32)), .val (.ref A_JIS_X_0208)] [(.int (4 : Int32)), (.int (3 : Int32))]))
          refine ownEnds.law (fun t => XS.icmpNo X47.here hx rfl (hb hby d2_36) rfl (tlt (by decide : (3 : Int32) < (4 : Int32))).2.1) ?_
          show ownEnds _ _ _ _ (T47.setTop (mkF m 39 #[.val (.int xi), .val (.int xl), .val .null, .val (.ref A_SETS), .val (.int (4 : Int32)), .val (.int (3 : Int32)), .val (.ref A_JIS_X_0208)] []))
          refine ownEnds.law (fun t k => XS.aloadN X47.here hx rfl (hb hby d2_39) rfl rfl (XS.iload X47.here hx rfl (hb hby d2_40) rfl k)) ?_
          show ownEnds _ _ _ _ (T47.setTop (mkF m 42 #[.val (.int xi), .val (.int xl), .val .null, .val (.ref A_SETS), .val (.int (4 : Int32)), .val (.int (3 : Int32)), .val (.ref A_JIS_X_0208)] [(.int (3 : Int32)), (.ref A_SETS)]))
          obtain ⟨cl50, Ar50, q50, S50, N50, H50, G50⟩ := id V_SETS
          have hi50 := inb_of (j := (3 : Int32)) S50 ⟨by decide, by decide⟩
          have hv50 : cl50.slots[((3 : Int32)).toNatClampNeg]? = some (.ref A_KATAKANA) := H50.at hi50 rfl
          refine ownEnds.law (fun t k => X47.aaload hx (j := (3 : Int32)) (v := (.ref A_KATAKANA)) (by rw [e47]; exact Ar50.1) (State.isArrayOf_alike hZ.alike Ar50.2.1) rfl Ar50.2.2 hi50 hv50 (g := (mkF m 42 #[.val (.int xi), .val (.int xl), .val .null, .val (.ref A_SETS), .val (.int (4 : Int32)), .val (.int (3 : Int32)), .val (.ref A_JIS_X_0208)] [(.int (3 : Int32)), (.ref A_SETS)])) rfl rfl (hb hby d2_42) _ (XS.astore X47.here hx rfl (hb hby d2_43) rfl rfl (l' := #[.val (.int xi), .val (.int xl), .val .null, .val (.ref A_SETS), .val (.int (4 : Int32)), .val (.int (3 : Int32)), .val (.ref A_KATAKANA)]) rfl (XS.aload X47.here hx rfl (hb hby d2_45) rfl rfl k))) ?_
          show ownEnds _ _ _ _ (T47.setTop (mkF m 47 #[.val (.int xi), .val (.int xl), .val .null, .val (.ref A_SETS), .val (.int (4 : Int32)), .val (.int (3 : Int32)), .val (.ref A_KATAKANA)] [(.ref A_KATAKANA)]))
          obtain ⟨T51, X51, e51, st51⟩ := getF X47 hx hZ hown (host := "") (Or.inl (wd_11 hw)) Via.refl e47 F_KATAKANA_intermediate (g := (mkF m 47 #[.val (.int xi), .val (.int xl), .val .null, .val (.ref A_SETS), .val (.int (4 : Int32)), .val (.int (3 : Int32)), .val (.ref A_KATAKANA)] [(.ref A_KATAKANA)])) rfl rfl (hb hby d2_47)
          refine ownEnds.law st51 ?_
          show ownEnds _ _ _ _ (T51.setTop (mkF m 50 #[.val (.int xi), .val (.int xl), .val .null, .val (.ref A_SETS), .val (.int (4 : Int32)), .val (.int (3 : Int32)), .val (.ref A_KATAKANA)] [(.int (40 : Int32))]))
          refine ownEnds.law (fun t k => XS.iloadN X51.here hx rfl (hb hby d2_50) rfl k) ?_
          show ownEnds _ _ _ _ (T51.setTop (mkF m 51 #[.val (.int xi), .val (.int xl), .val .null, .val (.ref A_SETS), .val (.int (4 : Int32)), .val (.int (3 : Int32)), .val (.ref A_KATAKANA)] [(.int xi), (.int (40 : Int32))]))
          refine ownEnds.law (fun t => XS.icmpYes X51.here hx rfl (pc0 := 51) (pc' := 66) rfl (hb hby d2_51) rfl (feq hc51).2 (by decide) (by decide)) ?_
          show ownEnds _ _ _ _ (T51.setTop (mkF m 66 #[.val (.int xi), .val (.int xl), .val .null, .val (.ref A_SETS), .val (.int (4 : Int32)), .val (.int (3 : Int32)), .val (.ref A_KATAKANA)] []))
          refine ownEnds.law (fun t k => XS.iinc X51.here hx rfl (hb hby d2_66) rfl (l' := #[.val (.int xi), .val (.int xl), .val .null, .val (.ref A_SETS), .val (.int (4 : Int32)), .val (.int (4 : Int32)), .val (.ref A_KATAKANA)]) rfl (XS.goto X51.here hx rfl (pc0 := 69) (pc' := 32) rfl (hb hby d2_69) (by decide) (by decide) (XS.iload X51.here hx rfl (hb hby d2_32) rfl (XS.iload X51.here hx rfl (hb hby d2_34) rfl k)))) ?_
          show ownEnds _ _ _ _ (T51.setTop (mkF m 36 #[.val (.int xi), .val (.int xl), .val .null, .val (.ref A_SETS), .val (.int (4 : Int32)), .val (.int (4 : Int32)), .val (.ref A_KATAKANA)] [(.int (4 : Int32)), (.int (4 : Int32))]))
          refine ownEnds.law (fun t => XS.icmpYes X51.here hx rfl (pc0 := 36) (pc' := 72) rfl (hb hby d2_36) rfl (flt (Int32.lt_irrefl)).2.1 (by decide) (by decide)) ?_
          show ownEnds _ _ _ _ (T51.setTop (mkF m 72 #[.val (.int xi), .val (.int xl), .val .null, .val (.ref A_SETS), .val (.int (4 : Int32)), .val (.int (4 : Int32)), .val (.ref A_KATAKANA)] []))
          refine ownEnds.law (fun t k => XS.aloadN X51.here hx rfl (hb hby d2_72) rfl rfl k) ?_
          show ownEnds _ _ _ _ (T51.setTop (mkF m 73 #[.val (.int xi), .val (.int xl), .val .null, .val (.ref A_SETS), .val (.int (4 : Int32)), .val (.int (4 : Int32)), .val (.ref A_KATAKANA)] [.null]))
          refine ownRetA X51 hlk hx hret rfl rfl (hb hby d2_73) (by decide) (by decide) ?_
          exact ⟨by (congr 1; unfold EXf; (repeat' split) <;> (try subst_vars) <;> simp_all), rfl, e51⟩
      · refine ownEnds.law (fun t => XS.icmpYes X46.here hx rfl (pc0 := 51) (pc' := 66) rfl (hb hby d2_51) rfl (feq hc51_2).2 (by decide) (by decide)) ?_
        show ownEnds _ _ _ _ (T46.setTop (mkF m 66 #[.val (.int xi), .val (.int xl), .val .null, .val (.ref A_SETS), .val (.int (4 : Int32)), .val (.int (2 : Int32)), .val (.ref A_JIS_X_0208)] []))
        refine ownEnds.law (fun t k => XS.iinc X46.here hx rfl (hb hby d2_66) rfl (l' := #[.val (.int xi), .val (.int xl), .val .null, .val (.ref A_SETS), .val (.int (4 : Int32)), .val (.int (3 : Int32)), .val (.ref A_JIS_X_0208)]) rfl (XS.goto X46.here hx rfl (pc0 := 69) (pc' := 32) rfl (hb hby d2_69) (by decide) (by decide) (XS.iload X46.here hx rfl (hb hby d2_32) rfl (XS.iload X46.here hx rfl (hb hby d2_34) rfl k)))) ?_
        show ownEnds _ _ _ _ (T46.setTop (mkF m 36 #[.val (.int xi), .val (.int xl), .val .null, .val (.ref A_SETS), .val (.int (4 : Int32)), .val (.int (3 : Int32)), .val (.ref A_JIS_X_0208)] [(.int (4 : Int32)), (.int (3 : Int32))]))
        refine ownEnds.law (fun t => XS.icmpNo X46.here hx rfl (hb hby d2_36) rfl (tlt (by decide : (3 : Int32) < (4 : Int32))).2.1) ?_
        show ownEnds _ _ _ _ (T46.setTop (mkF m 39 #[.val (.int xi), .val (.int xl), .val .null, .val (.ref A_SETS), .val (.int (4 : Int32)), .val (.int (3 : Int32)), .val (.ref A_JIS_X_0208)] []))
        refine ownEnds.law (fun t k => XS.aloadN X46.here hx rfl (hb hby d2_39) rfl rfl (XS.iload X46.here hx rfl (hb hby d2_40) rfl k)) ?_
        show ownEnds _ _ _ _ (T46.setTop (mkF m 42 #[.val (.int xi), .val (.int xl), .val .null, .val (.ref A_SETS), .val (.int (4 : Int32)), .val (.int (3 : Int32)), .val (.ref A_JIS_X_0208)] [(.int (3 : Int32)), (.ref A_SETS)]))
        obtain ⟨cl52, Ar52, q52, S52, N52, H52, G52⟩ := id V_SETS
        have hi52 := inb_of (j := (3 : Int32)) S52 ⟨by decide, by decide⟩
        have hv52 : cl52.slots[((3 : Int32)).toNatClampNeg]? = some (.ref A_KATAKANA) := H52.at hi52 rfl
        refine ownEnds.law (fun t k => X46.aaload hx (j := (3 : Int32)) (v := (.ref A_KATAKANA)) (by rw [e46]; exact Ar52.1) (State.isArrayOf_alike hZ.alike Ar52.2.1) rfl Ar52.2.2 hi52 hv52 (g := (mkF m 42 #[.val (.int xi), .val (.int xl), .val .null, .val (.ref A_SETS), .val (.int (4 : Int32)), .val (.int (3 : Int32)), .val (.ref A_JIS_X_0208)] [(.int (3 : Int32)), (.ref A_SETS)])) rfl rfl (hb hby d2_42) _ (XS.astore X46.here hx rfl (hb hby d2_43) rfl rfl (l' := #[.val (.int xi), .val (.int xl), .val .null, .val (.ref A_SETS), .val (.int (4 : Int32)), .val (.int (3 : Int32)), .val (.ref A_KATAKANA)]) rfl (XS.aload X46.here hx rfl (hb hby d2_45) rfl rfl k))) ?_
        show ownEnds _ _ _ _ (T46.setTop (mkF m 47 #[.val (.int xi), .val (.int xl), .val .null, .val (.ref A_SETS), .val (.int (4 : Int32)), .val (.int (3 : Int32)), .val (.ref A_KATAKANA)] [(.ref A_KATAKANA)]))
        obtain ⟨T53, X53, e53, st53⟩ := getF X46 hx hZ hown (host := "") (Or.inl (wd_11 hw)) Via.refl e46 F_KATAKANA_intermediate (g := (mkF m 47 #[.val (.int xi), .val (.int xl), .val .null, .val (.ref A_SETS), .val (.int (4 : Int32)), .val (.int (3 : Int32)), .val (.ref A_KATAKANA)] [(.ref A_KATAKANA)])) rfl rfl (hb hby d2_47)
        refine ownEnds.law st53 ?_
        show ownEnds _ _ _ _ (T53.setTop (mkF m 50 #[.val (.int xi), .val (.int xl), .val .null, .val (.ref A_SETS), .val (.int (4 : Int32)), .val (.int (3 : Int32)), .val (.ref A_KATAKANA)] [(.int (40 : Int32))]))
        refine ownEnds.law (fun t k => XS.iloadN X53.here hx rfl (hb hby d2_50) rfl k) ?_
        show ownEnds _ _ _ _ (T53.setTop (mkF m 51 #[.val (.int xi), .val (.int xl), .val .null, .val (.ref A_SETS), .val (.int (4 : Int32)), .val (.int (3 : Int32)), .val (.ref A_KATAKANA)] [(.int xi), (.int (40 : Int32))]))
        refine ownEnds.law (fun t => XS.icmpYes X53.here hx rfl (pc0 := 51) (pc' := 66) rfl (hb hby d2_51) rfl (feq hc51).2 (by decide) (by decide)) ?_
        show ownEnds _ _ _ _ (T53.setTop (mkF m 66 #[.val (.int xi), .val (.int xl), .val .null, .val (.ref A_SETS), .val (.int (4 : Int32)), .val (.int (3 : Int32)), .val (.ref A_KATAKANA)] []))
        refine ownEnds.law (fun t k => XS.iinc X53.here hx rfl (hb hby d2_66) rfl (l' := #[.val (.int xi), .val (.int xl), .val .null, .val (.ref A_SETS), .val (.int (4 : Int32)), .val (.int (4 : Int32)), .val (.ref A_KATAKANA)]) rfl (XS.goto X53.here hx rfl (pc0 := 69) (pc' := 32) rfl (hb hby d2_69) (by decide) (by decide) (XS.iload X53.here hx rfl (hb hby d2_32) rfl (XS.iload X53.here hx rfl (hb hby d2_34) rfl k)))) ?_
        show ownEnds _ _ _ _ (T53.setTop (mkF m 36 #[.val (.int xi), .val (.int xl), .val .null, .val (.ref A_SETS), .val (.int (4 : Int32)), .val (.int (4 : Int32)), .val (.ref A_KATAKANA)] [(.int (4 : Int32)), (.int (4 : Int32))]))
        refine ownEnds.law (fun t => XS.icmpYes X53.here hx rfl (pc0 := 36) (pc' := 72) rfl (hb hby d2_36) rfl (flt (Int32.lt_irrefl)).2.1 (by decide) (by decide)) ?_
        show ownEnds _ _ _ _ (T53.setTop (mkF m 72 #[.val (.int xi), .val (.int xl), .val .null, .val (.ref A_SETS), .val (.int (4 : Int32)), .val (.int (4 : Int32)), .val (.ref A_KATAKANA)] []))
        refine ownEnds.law (fun t k => XS.aloadN X53.here hx rfl (hb hby d2_72) rfl rfl k) ?_
        show ownEnds _ _ _ _ (T53.setTop (mkF m 73 #[.val (.int xi), .val (.int xl), .val .null, .val (.ref A_SETS), .val (.int (4 : Int32)), .val (.int (4 : Int32)), .val (.ref A_KATAKANA)] [.null]))
        refine ownRetA X53 hlk hx hret rfl rfl (hb hby d2_73) (by decide) (by decide) ?_
        exact ⟨by (congr 1; unfold EXf; (repeat' split) <;> (try subst_vars) <;> simp_all), rfl, e53⟩
set_option maxRecDepth 65536 in
set_option maxHeartbeats 40000000 in
theorem rm0 (l : Launch) (Z : State) (a0 : Array Value) (hw : ∀ d ∈ tables_1, d.before a0 Z = true) (xa : Int32) (xb : Int32) (xm : Int32) (A_ASCII A_ROMAN A_JIS_X_0208 A_KATAKANA A_SETS : Addr) (kS : ClassId) (h0 : Heap) (n0 : Nat) (Z0 : n0 ≤ h0.size) (S_ASCII : Sta Z h0 "com/example/seven_bit_codecs/sevenbitcodecs/Iso2022JpCharset$GraphicSet" "ASCII" "Lcom/example/seven_bit_codecs/sevenbitcodecs/Iso2022JpCharset$GraphicSet;" (.ref A_ASCII)) (S_ROMAN : Sta Z h0 "com/example/seven_bit_codecs/sevenbitcodecs/Iso2022JpCharset$GraphicSet" "ROMAN" "Lcom/example/seven_bit_codecs/sevenbitcodecs/Iso2022JpCharset$GraphicSet;" (.ref A_ROMAN)) (S_JIS_X_0208 : Sta Z h0 "com/example/seven_bit_codecs/sevenbitcodecs/Iso2022JpCharset$GraphicSet" "JIS_X_0208" "Lcom/example/seven_bit_codecs/sevenbitcodecs/Iso2022JpCharset$GraphicSet;" (.ref A_JIS_X_0208)) (S_KATAKANA : Sta Z h0 "com/example/seven_bit_codecs/sevenbitcodecs/Iso2022JpCharset$GraphicSet" "KATAKANA" "Lcom/example/seven_bit_codecs/sevenbitcodecs/Iso2022JpCharset$GraphicSet;" (.ref A_KATAKANA)) (S_SETS : Sta Z h0 "com/example/seven_bit_codecs/sevenbitcodecs/Iso2022JpCharset$GraphicSet" "SETS" "[Lcom/example/seven_bit_codecs/sevenbitcodecs/Iso2022JpCharset$GraphicSet;" (.ref A_SETS)) (V_SETS : Arv Z h0 A_SETS kS (.object "com/example/seven_bit_codecs/sevenbitcodecs/Iso2022JpCharset$GraphicSet") (4 : Int32) [(.ref A_ASCII), (.ref A_ROMAN), (.ref A_JIS_X_0208), (.ref A_KATAKANA)] .null) (F_ASCII_intermediate : Fld Z h0 A_ASCII "com/example/seven_bit_codecs/sevenbitcodecs/Iso2022JpCharset$GraphicSet" "intermediate" "B" (.int (40 : Int32))) (F_ASCII_designation : Fld Z h0 A_ASCII "com/example/seven_bit_codecs/sevenbitcodecs/Iso2022JpCharset$GraphicSet" "designation" "B" (.int (66 : Int32))) (F_ROMAN_intermediate : Fld Z h0 A_ROMAN "com/example/seven_bit_codecs/sevenbitcodecs/Iso2022JpCharset$GraphicSet" "intermediate" "B" (.int (40 : Int32))) (F_ROMAN_designation : Fld Z h0 A_ROMAN "com/example/seven_bit_codecs/sevenbitcodecs/Iso2022JpCharset$GraphicSet" "designation" "B" (.int (74 : Int32))) (F_JIS_X_0208_intermediate : Fld Z h0 A_JIS_X_0208 "com/example/seven_bit_codecs/sevenbitcodecs/Iso2022JpCharset$GraphicSet" "intermediate" "B" (.int (36 : Int32))) (F_JIS_X_0208_designation : Fld Z h0 A_JIS_X_0208 "com/example/seven_bit_codecs/sevenbitcodecs/Iso2022JpCharset$GraphicSet" "designation" "B" (.int (66 : Int32))) (F_KATAKANA_intermediate : Fld Z h0 A_KATAKANA "com/example/seven_bit_codecs/sevenbitcodecs/Iso2022JpCharset$GraphicSet" "intermediate" "B" (.int (40 : Int32))) (F_KATAKANA_designation : Fld Z h0 A_KATAKANA "com/example/seven_bit_codecs/sevenbitcodecs/Iso2022JpCharset$GraphicSet" "designation" "B" (.int (73 : Int32))) :
    ownMet l Z x code maxLocals ret tables_1 room_1 #[(.int xa), (.int xb), (.int xm)] h0 (fun v h L => v = some (.int 1) ∧ Fr n0 L) := by
  refine ownMet.of (plainFor_of_name pn_0) ?_
  intro p e s m below meth c T0 hx hby hml hZ hown hnm hret hlk X0 e0
  have hown : s.vm.findClass "com/example/seven_bit_codecs/sevenbitcodecs/GraphicSetSelectedByPinLaw" = some m.cls := hown
  have hml : c.maxLocals = 7 := hml
  have hret : meth.sig.returnType = some .boolean := hret
  refine ownEnds.cast (ef_rm0 m xa xb xm) ?_
  have J86u : ∀ (i0 l0 : Int32), ownEnds p.tables e below (ownPost s (fun v h L => v = some (.int 1) ∧ Fr n0 L) room_1.cells room_1.slots) (T0.setTop (mkF m 86 #[.val (.int xa), .val (.int xb), .val (.int xm), .val (.int i0), .val (.int l0), .unset, .unset] [])) := by
    intro i0 l0
    show ownEnds _ _ _ _ (T0.setTop (mkF m 86 #[.val (.int xa), .val (.int xb), .val (.int xm), .val (.int i0), .val (.int l0), .unset, .unset] []))
    refine ownEnds.law (fun t k => XS.iloadN X0.here hx rfl (hb hby at_86) rfl (XS.iload X0.here hx rfl (hb hby at_87) rfl k)) ?_
    show ownEnds _ _ _ _ (T0.setTop (mkF m 89 #[.val (.int xa), .val (.int xb), .val (.int xm), .val (.int i0), .val (.int l0), .unset, .unset] [(.int l0), (.int i0)]))
    obtain ⟨v1, T1, L1, X1, hQ1, st1⟩ := ownCallS X0 hx hZ hown (y := (⟨"com/example/seven_bit_codecs/sevenbitcodecs/GraphicSetSelectedByPinLaw", "expected", "(BB)Lcom/example/seven_bit_codecs/sevenbitcodecs/Iso2022JpCharset$GraphicSet;"⟩ : MethodName)) (as := [(.int i0), (.int l0)]) (wd_0 hw) (wd_1 hw) (wd_2 hw) (wd_3 hw) (by decide) (rm1 l Z a0 hw i0 l0 A_ASCII A_ROMAN A_JIS_X_0208 A_KATAKANA h0 n0 Z0 S_ASCII S_ROMAN S_JIS_X_0208 S_KATAKANA) e0 0 (by decide) (by decide) (by decide) (by decide) (g := (mkF m 89 #[.val (.int xa), .val (.int xb), .val (.int xm), .val (.int i0), .val (.int l0), .unset, .unset] [(.int l0), (.int i0)])) rfl (by rw [hml]; rfl) (rest := []) pd_0 rfl rfl (by show 2 * 0 + _ ≤ _; exact Nat.le_of_eq rfl) (hb hby at_89)
    obtain ⟨ve1, e_ve1⟩ : ∃ z : Value, z = EXf i0 l0 A_ASCII A_ROMAN A_JIS_X_0208 A_KATAKANA := ⟨_, rfl⟩
    have h_ve1 : ve1.isRef = true := by rw [e_ve1]; exact EXf_ref _ _ _ _ _ _
    obtain ⟨hv1, rfl, e1⟩ := hQ1
    rw [List.append_nil] at X1
    rw [← e_ve1] at hv1
    subst hv1
    refine ownEnds.law st1 ?_
    show ownEnds _ _ _ _ (T1.setTop (mkF m 92 #[.val (.int xa), .val (.int xb), .val (.int xm), .val (.int i0), .val (.int l0), .unset, .unset] [ve1]))
    refine ownEnds.law (fun t k => XS.astore X1.here hx rfl (hb hby at_92) rfl h_ve1 (l' := #[.val (.int xa), .val (.int xb), .val (.int xm), .val (.int i0), .val (.int l0), .val ve1, .unset]) (by rcases ref_cases h_ve1 with h | ⟨a, h⟩ <;> rw [h] <;> rfl) (XS.iloadN X1.here hx rfl (hb hby at_94) rfl (XS.iload X1.here hx rfl (hb hby at_95) rfl k))) ?_
    show ownEnds _ _ _ _ (T1.setTop (mkF m 97 #[.val (.int xa), .val (.int xb), .val (.int xm), .val (.int i0), .val (.int l0), .val ve1, .unset] [(.int l0), (.int i0)]))
    obtain ⟨v2, T2, L2, X2, hQ2, st2⟩ := ownCallS X1 hx hZ hown (y := (⟨"com/example/seven_bit_codecs/sevenbitcodecs/Iso2022JpCharset$GraphicSet", "selectedBy", "(BB)Lcom/example/seven_bit_codecs/sevenbitcodecs/Iso2022JpCharset$GraphicSet;"⟩ : MethodName)) (as := [(.int i0), (.int l0)]) (wd_4 hw) (wd_5 hw) (wd_6 hw) (wd_7 hw) (by decide) (rm2 l Z a0 hw i0 l0 A_ASCII A_ROMAN A_JIS_X_0208 A_KATAKANA A_SETS kS h0 n0 Z0 S_JIS_X_0208 S_SETS V_SETS F_ASCII_intermediate F_ASCII_designation F_ROMAN_intermediate F_ROMAN_designation F_JIS_X_0208_intermediate F_JIS_X_0208_designation F_KATAKANA_intermediate F_KATAKANA_designation) e1 0 (by decide) (by decide) (by decide) (by decide) (g := (mkF m 97 #[.val (.int xa), .val (.int xb), .val (.int xm), .val (.int i0), .val (.int l0), .val ve1, .unset] [(.int l0), (.int i0)])) rfl (by rw [hml]; rfl) (rest := []) pd_0 rfl rfl (by show 2 * 0 + _ ≤ _; exact Nat.le_of_eq rfl) (hb hby at_97)
    obtain ⟨ve2, e_ve2⟩ : ∃ z : Value, z = EXf i0 l0 A_ASCII A_ROMAN A_JIS_X_0208 A_KATAKANA := ⟨_, rfl⟩
    have h_ve2 : ve2.isRef = true := by rw [e_ve2]; exact EXf_ref _ _ _ _ _ _
    obtain ⟨hv2, rfl, e2⟩ := hQ2
    rw [List.append_nil] at X2
    rw [← e_ve2] at hv2
    subst hv2
    refine ownEnds.law st2 ?_
    show ownEnds _ _ _ _ (T2.setTop (mkF m 100 #[.val (.int xa), .val (.int xb), .val (.int xm), .val (.int i0), .val (.int l0), .val ve1, .unset] [ve2]))
    refine ownEnds.law (fun t k => XS.astore X2.here hx rfl (hb hby at_100) rfl h_ve2 (l' := #[.val (.int xa), .val (.int xb), .val (.int xm), .val (.int i0), .val (.int l0), .val ve1, .val ve2]) (by rcases ref_cases h_ve2 with h | ⟨a, h⟩ <;> rw [h] <;> rfl) (XS.aload X2.here hx rfl (hb hby at_102) rfl h_ve2 (XS.aload X2.here hx rfl (hb hby at_104) rfl h_ve1 k))) ?_
    show ownEnds _ _ _ _ (T2.setTop (mkF m 106 #[.val (.int xa), .val (.int xb), .val (.int xm), .val (.int i0), .val (.int l0), .val ve1, .val ve2] [ve1, ve2]))
    have hc106 : ve2 = ve1 := e_ve2.trans e_ve1.symm
    refine ownEnds.law (fun t => Jvm.RoadKit.acmp (g := (mkF m 106 #[.val (.int xa), .val (.int xb), .val (.int xm), .val (.int i0), .val (.int l0), .val ve1, .val ve2] [ve1, ve2])) X2 hx rfl h_ve2 h_ve1 (pc0 := 106) (pc' := 109) (same := true) rfl (hb hby at_106) rfl (decide_eq_true hc106) (by decide) (by decide)) ?_
    show ownEnds _ _ _ _ (T2.setTop (mkF m 109 #[.val (.int xa), .val (.int xb), .val (.int xm), .val (.int i0), .val (.int l0), .val ve1, .val ve2] []))
    refine ownEnds.law (fun t k => XS.iconst X2.here hx rfl (hb hby at_109) (XS.goto X2.here hx rfl (pc0 := 110) (pc' := 114) rfl (hb hby at_110) (by decide) (by decide) k)) ?_
    show ownEnds _ _ _ _ (T2.setTop (mkF m 114 #[.val (.int xa), .val (.int xb), .val (.int xm), .val (.int i0), .val (.int l0), .val ve1, .val ve2] [(.int (1 : Int32))]))
    refine ownRetN X2 hlk hx (t := .boolean) hret (by simp) (hb hby at_114) (by decide) (by decide) ?_
    exact ⟨rfl, Fr.nil n0⟩
  have J86v : ∀ (i0 l0 t0 : Int32), ownEnds p.tables e below (ownPost s (fun v h L => v = some (.int 1) ∧ Fr n0 L) room_1.cells room_1.slots) (T0.setTop (mkF m 86 #[.val (.int xa), .val (.int xb), .val (.int xm), .val (.int i0), .val (.int l0), .val (.int t0), .unset] [])) := by
    intro i0 l0 t0
    show ownEnds _ _ _ _ (T0.setTop (mkF m 86 #[.val (.int xa), .val (.int xb), .val (.int xm), .val (.int i0), .val (.int l0), .val (.int t0), .unset] []))
    refine ownEnds.law (fun t k => XS.iloadN X0.here hx rfl (hb hby at_86) rfl (XS.iload X0.here hx rfl (hb hby at_87) rfl k)) ?_
    show ownEnds _ _ _ _ (T0.setTop (mkF m 89 #[.val (.int xa), .val (.int xb), .val (.int xm), .val (.int i0), .val (.int l0), .val (.int t0), .unset] [(.int l0), (.int i0)]))
    obtain ⟨v3, T3, L3, X3, hQ3, st3⟩ := ownCallS X0 hx hZ hown (y := (⟨"com/example/seven_bit_codecs/sevenbitcodecs/GraphicSetSelectedByPinLaw", "expected", "(BB)Lcom/example/seven_bit_codecs/sevenbitcodecs/Iso2022JpCharset$GraphicSet;"⟩ : MethodName)) (as := [(.int i0), (.int l0)]) (wd_0 hw) (wd_1 hw) (wd_2 hw) (wd_3 hw) (by decide) (rm1 l Z a0 hw i0 l0 A_ASCII A_ROMAN A_JIS_X_0208 A_KATAKANA h0 n0 Z0 S_ASCII S_ROMAN S_JIS_X_0208 S_KATAKANA) e0 0 (by decide) (by decide) (by decide) (by decide) (g := (mkF m 89 #[.val (.int xa), .val (.int xb), .val (.int xm), .val (.int i0), .val (.int l0), .val (.int t0), .unset] [(.int l0), (.int i0)])) rfl (by rw [hml]; rfl) (rest := []) pd_0 rfl rfl (by show 2 * 0 + _ ≤ _; exact Nat.le_of_eq rfl) (hb hby at_89)
    obtain ⟨ve3, e_ve3⟩ : ∃ z : Value, z = EXf i0 l0 A_ASCII A_ROMAN A_JIS_X_0208 A_KATAKANA := ⟨_, rfl⟩
    have h_ve3 : ve3.isRef = true := by rw [e_ve3]; exact EXf_ref _ _ _ _ _ _
    obtain ⟨hv3, rfl, e3⟩ := hQ3
    rw [List.append_nil] at X3
    rw [← e_ve3] at hv3
    subst hv3
    refine ownEnds.law st3 ?_
    show ownEnds _ _ _ _ (T3.setTop (mkF m 92 #[.val (.int xa), .val (.int xb), .val (.int xm), .val (.int i0), .val (.int l0), .val (.int t0), .unset] [ve3]))
    refine ownEnds.law (fun t k => XS.astore X3.here hx rfl (hb hby at_92) rfl h_ve3 (l' := #[.val (.int xa), .val (.int xb), .val (.int xm), .val (.int i0), .val (.int l0), .val ve3, .unset]) (by rcases ref_cases h_ve3 with h | ⟨a, h⟩ <;> rw [h] <;> rfl) (XS.iloadN X3.here hx rfl (hb hby at_94) rfl (XS.iload X3.here hx rfl (hb hby at_95) rfl k))) ?_
    show ownEnds _ _ _ _ (T3.setTop (mkF m 97 #[.val (.int xa), .val (.int xb), .val (.int xm), .val (.int i0), .val (.int l0), .val ve3, .unset] [(.int l0), (.int i0)]))
    obtain ⟨v4, T4, L4, X4, hQ4, st4⟩ := ownCallS X3 hx hZ hown (y := (⟨"com/example/seven_bit_codecs/sevenbitcodecs/Iso2022JpCharset$GraphicSet", "selectedBy", "(BB)Lcom/example/seven_bit_codecs/sevenbitcodecs/Iso2022JpCharset$GraphicSet;"⟩ : MethodName)) (as := [(.int i0), (.int l0)]) (wd_4 hw) (wd_5 hw) (wd_6 hw) (wd_7 hw) (by decide) (rm2 l Z a0 hw i0 l0 A_ASCII A_ROMAN A_JIS_X_0208 A_KATAKANA A_SETS kS h0 n0 Z0 S_JIS_X_0208 S_SETS V_SETS F_ASCII_intermediate F_ASCII_designation F_ROMAN_intermediate F_ROMAN_designation F_JIS_X_0208_intermediate F_JIS_X_0208_designation F_KATAKANA_intermediate F_KATAKANA_designation) e3 0 (by decide) (by decide) (by decide) (by decide) (g := (mkF m 97 #[.val (.int xa), .val (.int xb), .val (.int xm), .val (.int i0), .val (.int l0), .val ve3, .unset] [(.int l0), (.int i0)])) rfl (by rw [hml]; rfl) (rest := []) pd_0 rfl rfl (by show 2 * 0 + _ ≤ _; exact Nat.le_of_eq rfl) (hb hby at_97)
    obtain ⟨ve4, e_ve4⟩ : ∃ z : Value, z = EXf i0 l0 A_ASCII A_ROMAN A_JIS_X_0208 A_KATAKANA := ⟨_, rfl⟩
    have h_ve4 : ve4.isRef = true := by rw [e_ve4]; exact EXf_ref _ _ _ _ _ _
    obtain ⟨hv4, rfl, e4⟩ := hQ4
    rw [List.append_nil] at X4
    rw [← e_ve4] at hv4
    subst hv4
    refine ownEnds.law st4 ?_
    show ownEnds _ _ _ _ (T4.setTop (mkF m 100 #[.val (.int xa), .val (.int xb), .val (.int xm), .val (.int i0), .val (.int l0), .val ve3, .unset] [ve4]))
    refine ownEnds.law (fun t k => XS.astore X4.here hx rfl (hb hby at_100) rfl h_ve4 (l' := #[.val (.int xa), .val (.int xb), .val (.int xm), .val (.int i0), .val (.int l0), .val ve3, .val ve4]) (by rcases ref_cases h_ve4 with h | ⟨a, h⟩ <;> rw [h] <;> rfl) (XS.aload X4.here hx rfl (hb hby at_102) rfl h_ve4 (XS.aload X4.here hx rfl (hb hby at_104) rfl h_ve3 k))) ?_
    show ownEnds _ _ _ _ (T4.setTop (mkF m 106 #[.val (.int xa), .val (.int xb), .val (.int xm), .val (.int i0), .val (.int l0), .val ve3, .val ve4] [ve3, ve4]))
    have hc106 : ve4 = ve3 := e_ve4.trans e_ve3.symm
    refine ownEnds.law (fun t => Jvm.RoadKit.acmp (g := (mkF m 106 #[.val (.int xa), .val (.int xb), .val (.int xm), .val (.int i0), .val (.int l0), .val ve3, .val ve4] [ve3, ve4])) X4 hx rfl h_ve4 h_ve3 (pc0 := 106) (pc' := 109) (same := true) rfl (hb hby at_106) rfl (decide_eq_true hc106) (by decide) (by decide)) ?_
    show ownEnds _ _ _ _ (T4.setTop (mkF m 109 #[.val (.int xa), .val (.int xb), .val (.int xm), .val (.int i0), .val (.int l0), .val ve3, .val ve4] []))
    refine ownEnds.law (fun t k => XS.iconst X4.here hx rfl (hb hby at_109) (XS.goto X4.here hx rfl (pc0 := 110) (pc' := 114) rfl (hb hby at_110) (by decide) (by decide) k)) ?_
    show ownEnds _ _ _ _ (T4.setTop (mkF m 114 #[.val (.int xa), .val (.int xb), .val (.int xm), .val (.int i0), .val (.int l0), .val ve3, .val ve4] [(.int (1 : Int32))]))
    refine ownRetN X4 hlk hx (t := .boolean) hret (by simp) (hb hby at_114) (by decide) (by decide) ?_
    exact ⟨rfl, Fr.nil n0⟩
  have J26 : ∀ (i0 : Int32), ownEnds p.tables e below (ownPost s (fun v h L => v = some (.int 1) ∧ Fr n0 L) room_1.cells room_1.slots) (T0.setTop (mkF m 26 #[.val (.int xa), .val (.int xb), .val (.int xm), .val (.int i0), .unset, .unset, .unset] [])) := by
    intro i0
    show ownEnds _ _ _ _ (T0.setTop (mkF m 26 #[.val (.int xa), .val (.int xb), .val (.int xm), .val (.int i0), .unset, .unset, .unset] []))
    refine ownEnds.law (fun t k => XS.iloadN X0.here hx rfl (hb hby at_26) rfl (XS.iconst X0.here hx rfl (hb hby at_27) (XS.iand X0.here hx rfl (hb hby at_28) rfl k))) ?_
    show ownEnds _ _ _ _ (T0.setTop (mkF m 29 #[.val (.int xa), .val (.int xb), .val (.int xm), .val (.int i0), .unset, .unset, .unset] [(.int (xm &&& (2 : Int32)))]))
    by_cases hc29 : (xm &&& (2 : Int32)) = (0 : Int32)
    · refine ownEnds.law (fun t => XS.ifYes X0.here hx rfl (pc0 := 29) (pc' := 82) rfl (hb hby at_29) rfl ((if0 _ _).trans (teq hc29).1) (by decide) (by decide)) ?_
      show ownEnds _ _ _ _ (T0.setTop (mkF m 82 #[.val (.int xa), .val (.int xb), .val (.int xm), .val (.int i0), .unset, .unset, .unset] []))
      refine ownEnds.law (fun t k => XS.iloadN X0.here hx rfl (hb hby at_82) rfl (XS.i2b X0.here hx rfl (hb hby at_83) rfl (XS.istore X0.here hx rfl (hb hby at_84) rfl (l' := #[.val (.int xa), .val (.int xb), .val (.int xm), .val (.int i0), .val (.int (xb.toInt8.toInt32)), .unset, .unset]) rfl k))) ?_
      show ownEnds _ _ _ _ (T0.setTop (mkF m 86 #[.val (.int xa), .val (.int xb), .val (.int xm), .val (.int i0), .val (.int (xb.toInt8.toInt32)), .unset, .unset] []))
      exact J86u _ _
    · refine ownEnds.law (fun t => XS.ifNo X0.here hx rfl (hb hby at_29) rfl ((if0 _ _).trans (feq hc29).1)) ?_
      show ownEnds _ _ _ _ (T0.setTop (mkF m 32 #[.val (.int xa), .val (.int xb), .val (.int xm), .val (.int i0), .unset, .unset, .unset] []))
      refine ownEnds.law (fun t k => XS.iloadN X0.here hx rfl (hb hby at_32) rfl (XS.iconst X0.here hx rfl (hb hby at_33) (XS.iand X0.here hx rfl (hb hby at_34) rfl (XS.istore X0.here hx rfl (hb hby at_35) rfl (l' := #[.val (.int xa), .val (.int xb), .val (.int xm), .val (.int i0), .unset, .val (.int (xb &&& (3 : Int32))), .unset]) rfl (XS.iload X0.here hx rfl (hb hby at_37) rfl k))))) ?_
      show ownEnds _ _ _ _ (T0.setTop (mkF m 39 #[.val (.int xa), .val (.int xb), .val (.int xm), .val (.int i0), .unset, .val (.int (xb &&& (3 : Int32))), .unset] [(.int (xb &&& (3 : Int32)))]))
      by_cases hc39 : (xb &&& (3 : Int32)) = (0 : Int32)
      · refine ownEnds.law (fun t => XS.ifNo X0.here hx rfl (hb hby at_39) rfl ((if0 _ _).trans (teq hc39).2)) ?_
        show ownEnds _ _ _ _ (T0.setTop (mkF m 42 #[.val (.int xa), .val (.int xb), .val (.int xm), .val (.int i0), .unset, .val (.int (xb &&& (3 : Int32))), .unset] []))
        refine ownEnds.law (fun t k => XS.bipush X0.here hx rfl (hb hby at_42) (XS.istore X0.here hx rfl (hb hby at_44) rfl (l' := #[.val (.int xa), .val (.int xb), .val (.int xm), .val (.int i0), .val (.int (66 : Int32)), .val (.int (xb &&& (3 : Int32))), .unset]) rfl (XS.goto X0.here hx rfl (pc0 := 46) (pc' := 79) rfl (hb hby at_46) (by decide) (by decide) (XS.goto X0.here hx rfl (pc0 := 79) (pc' := 86) rfl (hb hby at_79) (by decide) (by decide) k)))) ?_
        show ownEnds _ _ _ _ (T0.setTop (mkF m 86 #[.val (.int xa), .val (.int xb), .val (.int xm), .val (.int i0), .val (.int (66 : Int32)), .val (.int (xb &&& (3 : Int32))), .unset] []))
        exact J86v _ _ _
      · refine ownEnds.law (fun t => XS.ifYes X0.here hx rfl (pc0 := 39) (pc' := 49) rfl (hb hby at_39) rfl ((if0 _ _).trans (feq hc39).2) (by decide) (by decide)) ?_
        show ownEnds _ _ _ _ (T0.setTop (mkF m 49 #[.val (.int xa), .val (.int xb), .val (.int xm), .val (.int i0), .unset, .val (.int (xb &&& (3 : Int32))), .unset] []))
        refine ownEnds.law (fun t k => XS.iload X0.here hx rfl (hb hby at_49) rfl (XS.iconst X0.here hx rfl (hb hby at_51) k)) ?_
        show ownEnds _ _ _ _ (T0.setTop (mkF m 52 #[.val (.int xa), .val (.int xb), .val (.int xm), .val (.int i0), .unset, .val (.int (xb &&& (3 : Int32))), .unset] [(.int (1 : Int32)), (.int (xb &&& (3 : Int32)))]))
        by_cases hc52 : (xb &&& (3 : Int32)) = (1 : Int32)
        · refine ownEnds.law (fun t => XS.icmpNo X0.here hx rfl (hb hby at_52) rfl (teq hc52).2) ?_
          show ownEnds _ _ _ _ (T0.setTop (mkF m 55 #[.val (.int xa), .val (.int xb), .val (.int xm), .val (.int i0), .unset, .val (.int (xb &&& (3 : Int32))), .unset] []))
          refine ownEnds.law (fun t k => XS.bipush X0.here hx rfl (hb hby at_55) (XS.istore X0.here hx rfl (hb hby at_57) rfl (l' := #[.val (.int xa), .val (.int xb), .val (.int xm), .val (.int i0), .val (.int (74 : Int32)), .val (.int (xb &&& (3 : Int32))), .unset]) rfl (XS.goto X0.here hx rfl (pc0 := 59) (pc' := 79) rfl (hb hby at_59) (by decide) (by decide) (XS.goto X0.here hx rfl (pc0 := 79) (pc' := 86) rfl (hb hby at_79) (by decide) (by decide) k)))) ?_
          show ownEnds _ _ _ _ (T0.setTop (mkF m 86 #[.val (.int xa), .val (.int xb), .val (.int xm), .val (.int i0), .val (.int (74 : Int32)), .val (.int (xb &&& (3 : Int32))), .unset] []))
          exact J86v _ _ _
        · refine ownEnds.law (fun t => XS.icmpYes X0.here hx rfl (pc0 := 52) (pc' := 62) rfl (hb hby at_52) rfl (feq hc52).2 (by decide) (by decide)) ?_
          show ownEnds _ _ _ _ (T0.setTop (mkF m 62 #[.val (.int xa), .val (.int xb), .val (.int xm), .val (.int i0), .unset, .val (.int (xb &&& (3 : Int32))), .unset] []))
          refine ownEnds.law (fun t k => XS.iload X0.here hx rfl (hb hby at_62) rfl (XS.iconst X0.here hx rfl (hb hby at_64) k)) ?_
          show ownEnds _ _ _ _ (T0.setTop (mkF m 65 #[.val (.int xa), .val (.int xb), .val (.int xm), .val (.int i0), .unset, .val (.int (xb &&& (3 : Int32))), .unset] [(.int (2 : Int32)), (.int (xb &&& (3 : Int32)))]))
          by_cases hc65 : (xb &&& (3 : Int32)) = (2 : Int32)
          · refine ownEnds.law (fun t => XS.icmpNo X0.here hx rfl (hb hby at_65) rfl (teq hc65).2) ?_
            show ownEnds _ _ _ _ (T0.setTop (mkF m 68 #[.val (.int xa), .val (.int xb), .val (.int xm), .val (.int i0), .unset, .val (.int (xb &&& (3 : Int32))), .unset] []))
            refine ownEnds.law (fun t k => XS.bipush X0.here hx rfl (hb hby at_68) (XS.istore X0.here hx rfl (hb hby at_70) rfl (l' := #[.val (.int xa), .val (.int xb), .val (.int xm), .val (.int i0), .val (.int (73 : Int32)), .val (.int (xb &&& (3 : Int32))), .unset]) rfl (XS.goto X0.here hx rfl (pc0 := 72) (pc' := 79) rfl (hb hby at_72) (by decide) (by decide) (XS.goto X0.here hx rfl (pc0 := 79) (pc' := 86) rfl (hb hby at_79) (by decide) (by decide) k)))) ?_
            show ownEnds _ _ _ _ (T0.setTop (mkF m 86 #[.val (.int xa), .val (.int xb), .val (.int xm), .val (.int i0), .val (.int (73 : Int32)), .val (.int (xb &&& (3 : Int32))), .unset] []))
            exact J86v _ _ _
          · refine ownEnds.law (fun t => XS.icmpYes X0.here hx rfl (pc0 := 65) (pc' := 75) rfl (hb hby at_65) rfl (feq hc65).2 (by decide) (by decide)) ?_
            show ownEnds _ _ _ _ (T0.setTop (mkF m 75 #[.val (.int xa), .val (.int xb), .val (.int xm), .val (.int i0), .unset, .val (.int (xb &&& (3 : Int32))), .unset] []))
            refine ownEnds.law (fun t k => XS.bipush X0.here hx rfl (hb hby at_75) (XS.istore X0.here hx rfl (hb hby at_77) rfl (l' := #[.val (.int xa), .val (.int xb), .val (.int xm), .val (.int i0), .val (.int (64 : Int32)), .val (.int (xb &&& (3 : Int32))), .unset]) rfl (XS.goto X0.here hx rfl (pc0 := 79) (pc' := 86) rfl (hb hby at_79) (by decide) (by decide) k))) ?_
            show ownEnds _ _ _ _ (T0.setTop (mkF m 86 #[.val (.int xa), .val (.int xb), .val (.int xm), .val (.int i0), .val (.int (64 : Int32)), .val (.int (xb &&& (3 : Int32))), .unset] []))
            exact J86v _ _ _
  show ownEnds _ _ _ _ (T0.setTop (mkF m 0 #[.val (.int xa), .val (.int xb), .val (.int xm), .unset, .unset, .unset, .unset] []))
  refine ownEnds.law (fun t k => XS.iloadN X0.here hx rfl (hb hby at_0) rfl (XS.iconst X0.here hx rfl (hb hby at_1) (XS.iand X0.here hx rfl (hb hby at_2) rfl k))) ?_
  show ownEnds _ _ _ _ (T0.setTop (mkF m 3 #[.val (.int xa), .val (.int xb), .val (.int xm), .unset, .unset, .unset, .unset] [(.int (xm &&& (1 : Int32)))]))
  by_cases hc3 : (xm &&& (1 : Int32)) = (0 : Int32)
  · refine ownEnds.law (fun t => XS.ifYes X0.here hx rfl (pc0 := 3) (pc' := 23) rfl (hb hby at_3) rfl ((if0 _ _).trans (teq hc3).1) (by decide) (by decide)) ?_
    show ownEnds _ _ _ _ (T0.setTop (mkF m 23 #[.val (.int xa), .val (.int xb), .val (.int xm), .unset, .unset, .unset, .unset] []))
    refine ownEnds.law (fun t k => XS.iloadN X0.here hx rfl (hb hby at_23) rfl (XS.i2b X0.here hx rfl (hb hby at_24) rfl (XS.istoreN X0.here hx rfl (hb hby at_25) rfl (l' := #[.val (.int xa), .val (.int xb), .val (.int xm), .val (.int (xa.toInt8.toInt32)), .unset, .unset, .unset]) rfl k))) ?_
    show ownEnds _ _ _ _ (T0.setTop (mkF m 26 #[.val (.int xa), .val (.int xb), .val (.int xm), .val (.int (xa.toInt8.toInt32)), .unset, .unset, .unset] []))
    exact J26 _
  · refine ownEnds.law (fun t => XS.ifNo X0.here hx rfl (hb hby at_3) rfl ((if0 _ _).trans (feq hc3).1)) ?_
    show ownEnds _ _ _ _ (T0.setTop (mkF m 6 #[.val (.int xa), .val (.int xb), .val (.int xm), .unset, .unset, .unset, .unset] []))
    refine ownEnds.law (fun t k => XS.iloadN X0.here hx rfl (hb hby at_6) rfl (XS.iconst X0.here hx rfl (hb hby at_7) (XS.iand X0.here hx rfl (hb hby at_8) rfl k))) ?_
    show ownEnds _ _ _ _ (T0.setTop (mkF m 9 #[.val (.int xa), .val (.int xb), .val (.int xm), .unset, .unset, .unset, .unset] [(.int (xa &&& (1 : Int32)))]))
    by_cases hc9 : (xa &&& (1 : Int32)) = (0 : Int32)
    · refine ownEnds.law (fun t => XS.ifNo X0.here hx rfl (hb hby at_9) rfl ((if0 _ _).trans (teq hc9).2)) ?_
      show ownEnds _ _ _ _ (T0.setTop (mkF m 12 #[.val (.int xa), .val (.int xb), .val (.int xm), .unset, .unset, .unset, .unset] []))
      refine ownEnds.law (fun t k => XS.bipush X0.here hx rfl (hb hby at_12) (XS.goto X0.here hx rfl (pc0 := 14) (pc' := 19) rfl (hb hby at_14) (by decide) (by decide) (XS.istoreN X0.here hx rfl (hb hby at_19) rfl (l' := #[.val (.int xa), .val (.int xb), .val (.int xm), .val (.int (40 : Int32)), .unset, .unset, .unset]) rfl (XS.goto X0.here hx rfl (pc0 := 20) (pc' := 26) rfl (hb hby at_20) (by decide) (by decide) k)))) ?_
      show ownEnds _ _ _ _ (T0.setTop (mkF m 26 #[.val (.int xa), .val (.int xb), .val (.int xm), .val (.int (40 : Int32)), .unset, .unset, .unset] []))
      exact J26 _
    · refine ownEnds.law (fun t => XS.ifYes X0.here hx rfl (pc0 := 9) (pc' := 17) rfl (hb hby at_9) rfl ((if0 _ _).trans (feq hc9).2) (by decide) (by decide)) ?_
      show ownEnds _ _ _ _ (T0.setTop (mkF m 17 #[.val (.int xa), .val (.int xb), .val (.int xm), .unset, .unset, .unset, .unset] []))
      refine ownEnds.law (fun t k => XS.bipush X0.here hx rfl (hb hby at_17) (XS.istoreN X0.here hx rfl (hb hby at_19) rfl (l' := #[.val (.int xa), .val (.int xb), .val (.int xm), .val (.int (36 : Int32)), .unset, .unset, .unset]) rfl (XS.goto X0.here hx rfl (pc0 := 20) (pc' := 26) rfl (hb hby at_20) (by decide) (by decide) k))) ?_
      show ownEnds _ _ _ _ (T0.setTop (mkF m 26 #[.val (.int xa), .val (.int xb), .val (.int xm), .val (.int (36 : Int32)), .unset, .unset, .unset] []))
      exact J26 _
set_option maxRecDepth 65536 in
set_option maxHeartbeats 40000000 in
theorem comes_1 {Post : Tables → Env → Array Value → State → Outcome → State → Prop} (hpost : ∀ tb e args s v u, (limb_1_1.after args s (.returned v) u = true ∧ limb_1_2.after args s (.returned v) u = true ∧ True) → FrameEnd s (.returned v) u (Jvm.fieldLocs frame_1_writes args s ++ Jvm.arrayLocs frame_1_arrays args s ++ Jvm.staticLocs frame_1_statics s) 0 0 → Post tb e args s (.returned v) u) :
    ArmFor flags0 classFile x code maxLocals ret World_1 tables_1 room_1 Calls_1 rest_1 Pre_1 Post := by
  intro l hfl _ _ p e ha hc hk s m args below hf hA hF happ hP
  obtain ⟨hcalls, hrest, hpre⟩ := hP
  obtain ⟨-, -, -, hnamed, -, -, -, hat⟩ := (Spec.applies_iff hf).mp happ
  obtain ⟨hg, hn⟩ := and_e (Cond.before_iff.mp (show (Jvm.Cond.and given_1 narrow_1).before args s = true from hpre))
  obtain ⟨gg1, gg2⟩ := and_e hg
  obtain ⟨gg3, gg4⟩ := and_e gg2
  obtain ⟨gg5, gg6⟩ := and_e gg4
  obtain ⟨w0, w1, w2, rfl⟩ : ∃ w0 w1 w2 : Value, args = #[w0, w1, w2] := by
    have hs : args.size = 3 := by simpa [Cond.value, given_1] using gg1
    obtain ⟨L⟩ := args
    match L, hs with
    | [w0, w1, w2], _ => exact ⟨w0, w1, w2, rfl⟩
  have hw := fun d (hd : d ∈ tables_1) => atoms_spec (ws := Jvm.Cond.code x code maxLocals ret :: tables_1) hat d (List.mem_cons_of_mem _ hd)
  have hfit : Fit s := fun {y c} hc i hi => by
    obtain ⟨ha, rfl⟩ := Array.getElem?_eq_some_iff.mp hc
    have q := List.all_eq_true.mp ((Array.all_eq_true_iff_forall_mem.mp hF) _ (Array.getElem_mem ha)) i (List.mem_range.mpr hi)
    simpa [Array.getElem?_eq_getElem hi] using q
  obtain ⟨i0, ei0⟩ := is_v gg3
  obtain rfl : w0 = (.int i0) := Option.some.inj ei0
  obtain ⟨i1, ei1⟩ := is_v gg5
  obtain rfl : w1 = (.int i1) := Option.some.inj ei1
  obtain ⟨i2, ei2⟩ := is_v gg6
  obtain rfl : w2 = (.int i2) := Option.some.inj ei2
  obtain ⟨na1, nb1⟩ := and_e hn
  obtain ⟨na2, nb2⟩ := and_e nb1
  obtain ⟨na3, nb3⟩ := and_e nb2
  obtain ⟨na4, nb4⟩ := and_e nb3
  obtain ⟨na5, nb5⟩ := and_e nb4
  obtain ⟨na6, nb6⟩ := and_e nb5
  obtain ⟨na7, nb7⟩ := and_e nb6
  obtain ⟨na8, nb8⟩ := and_e nb7
  obtain ⟨na9, nb9⟩ := and_e nb8
  obtain ⟨na10, nb10⟩ := and_e nb9
  obtain ⟨na11, nb11⟩ := and_e nb10
  obtain ⟨na12, nb12⟩ := and_e nb11
  obtain ⟨na13, nb13⟩ := and_e nb12
  obtain ⟨na14, nb14⟩ := and_e nb13
  obtain ⟨na15, nb15⟩ := and_e nb14
  obtain ⟨na16, nb16⟩ := and_e nb15
  obtain ⟨na17, nb17⟩ := and_e nb16
  obtain ⟨A_ASCII, ev_ASCII⟩ := exa_v na3
  have S_ASCII := Sta.start ev_ASCII (Or.inr ⟨(wd_6 hw), (wd_10 hw)⟩)
  have E_ASCII := Exa.start ev_ASCII na3
  obtain ⟨A_ROMAN, ev_ROMAN⟩ := exa_v na6
  have S_ROMAN := Sta.start ev_ROMAN (Or.inr ⟨(wd_6 hw), (wd_13 hw)⟩)
  have E_ROMAN := Exa.start ev_ROMAN na6
  obtain ⟨A_JIS_X_0208, ev_JIS_X_0208⟩ := exa_v na9
  have S_JIS_X_0208 := Sta.start ev_JIS_X_0208 (Or.inr ⟨(wd_6 hw), (wd_14 hw)⟩)
  have E_JIS_X_0208 := Exa.start ev_JIS_X_0208 na9
  obtain ⟨A_KATAKANA, ev_KATAKANA⟩ := exa_v na12
  have S_KATAKANA := Sta.start ev_KATAKANA (Or.inr ⟨(wd_6 hw), (wd_15 hw)⟩)
  have E_KATAKANA := Exa.start ev_KATAKANA na12
  obtain ⟨A_SETS, ev_SETS⟩ := arr_v na1
  have S_SETS := Sta.start ev_SETS (Or.inr ⟨(wd_6 hw), (wd_9 hw)⟩)
  obtain ⟨cl_SETS, Ar_SETS⟩ := Arr.start ev_SETS na1
  have len_SETS := ownEqV na2 rfl
  have el_SETS_0 := ownEqV na4 ev_ASCII
  have F_ASCII_intermediate := Fld.start ((ownFieldAt ev_ASCII).symm.trans (ownEqV na5 rfl))
  have el_SETS_1 := ownEqV na7 ev_ROMAN
  have F_ROMAN_intermediate := Fld.start ((ownFieldAt ev_ROMAN).symm.trans (ownEqV na8 rfl))
  have el_SETS_2 := ownEqV na10 ev_JIS_X_0208
  have F_JIS_X_0208_intermediate := Fld.start ((ownFieldAt ev_JIS_X_0208).symm.trans (ownEqV na11 rfl))
  have el_SETS_3 := ownEqV na13 ev_KATAKANA
  have F_KATAKANA_intermediate := Fld.start ((ownFieldAt ev_KATAKANA).symm.trans (ownEqV na14 rfl))
  have F_JIS_X_0208_designation := Fld.start ((ownFieldAt ev_JIS_X_0208).symm.trans (ownEqV na15 rfl))
  have F_ASCII_designation := Fld.start ((ownFieldAt ev_ASCII).symm.trans (ownEqV na16 rfl))
  have F_ROMAN_designation := Fld.start ((ownFieldAt ev_ROMAN).symm.trans (ownEqV na17 rfl))
  have F_KATAKANA_designation := Fld.start ((ownFieldAt ev_KATAKANA).symm.trans (ownEqV nb17 rfl))
  obtain ⟨lenA, lenB⟩ := ownLen ev_SETS Ar_SETS len_SETS
  have g_0 := ownEl ev_SETS Ar_SETS rfl el_SETS_0
  have g_1 := ownEl ev_SETS Ar_SETS rfl el_SETS_1
  have g_2 := ownEl ev_SETS Ar_SETS rfl el_SETS_2
  have g_3 := ownEl ev_SETS Ar_SETS rfl el_SETS_3
  have V_SETS : Arv s s.heap A_SETS cl_SETS.cls (.object "com/example/seven_bit_codecs/sevenbitcodecs/Iso2022JpCharset$GraphicSet") (4 : Int32) [(.ref A_ASCII), (.ref A_ROMAN), (.ref A_JIS_X_0208), (.ref A_KATAKANA)] .null := Arv.start hfit Ar_SETS lenA lenB (by decide) rfl ⟨g_0, g_1, g_2, g_3, trivial⟩
  obtain ⟨n, o, h1, h2, h3, _, L, rfl, ⟨rfl, N⟩, hq⟩ := rm0 l s _ hw i0 i1 i2 A_ASCII A_ROMAN A_JIS_X_0208 A_KATAKANA A_SETS cl_SETS.cls s.heap s.heap.size (Nat.le_refl _) S_ASCII S_ROMAN S_JIS_X_0208 S_KATAKANA S_SETS V_SETS F_ASCII_intermediate F_ASCII_designation F_ROMAN_intermediate F_ROMAN_designation F_JIS_X_0208_intermediate F_JIS_X_0208_designation F_KATAKANA_intermediate F_KATAKANA_designation p e ha hc hk s m _ below hf ((Spec.applies_iff_loose hf).mp happ).1 ⟨rfl, State.Warmed39.refl s, rfl⟩ trivial
  refine ⟨n, _, h1, h2, h3, hpost _ _ _ _ _ _ ⟨Cond.after_iff.mpr rfl, Cond.after_iff.mpr (eq_i res_at (Term.int_eval (1)) rfl), trivial⟩ ⟨hq.1, hq.2.1, (hq.2.2.sift fun y hy => Or.inr (N y hy)).mono (by decide) (by decide)⟩⟩
theorem main_1_1 : Claimed_1_1 := comes_1 fun _ _ _ _ _ _ h hF => ⟨h.1, hF⟩
theorem main_1_2 : Claimed_1_2 := comes_1 fun _ _ _ _ _ _ h hF => ⟨h.2.1, hF⟩
end Jvm.Pilot.@@N@@
namespace Jvm.Pilot.@@N@@
open Jvm Jvm.ClassFile Sem Op Lib Jvm.Free Jvm.Stand Jvm.Pilot.@@N@@.Jvm.D
/-! MADE BY PROGRAM (witnessworld.py) out of the Statement's table words and the real class files: 13 classes; the members and pool entries that the words name. The judged class is class 1, her method 1. -/
namespace start1
open Jvm.ClassFile
def u (s : String) : CpInfo := .utf8 (stringToUtf16 s)
/-- a pool by its gaps: so many unusable entries, then the entry; so many at the end -/
def gap : Nat → List CpInfo → List CpInfo
  | 0, r => r
  | n + 1, r => .unusable :: gap n r
def poolList (es : List (Nat × CpInfo)) (last : Nat) : List CpInfo := es.foldr (fun e r => gap e.1 (e.2 :: r)) (gap last [])
def pool (es : List (Nat × CpInfo)) (last : Nat) : Array CpInfo := ⟨poolList es last⟩
def fileOf (pool : Array CpInfo) (this : Nat) (attrs : Array Attribute := #[]) (ms : Array MethodInfo := #[]) (fl : Nat := 33) (sup : Nat := 0) (ifs : Array Nat := #[]) (fds : Array FieldInfo := #[]) : ClassFile where
  minorVersion := 0
  majorVersion := 65
  constantPool := pool
  accessFlags := fl
  thisClass := this
  superClass := sup
  interfaces := ifs
  fields := fds
  methods := ms
  attributes := attrs
def plain (name : String) (sup : Option ClassId) : Class where
  name := name
  kind := .ordinary
  loader := none
  accessFlags := 33
  super := sup
  interfaces := #[]
  cf := none
  fields := #[]
  methods := #[]
  instanceTypes := #[]
  staticTypes := #[]
  resolved := #[]
  callSites := []
  init := .initialized
  statics := none
  mirror := none

def pool0 : Array CpInfo := pool [(5, u "<init>"), (0, u "()V"), (1, .class_ 10), (1, u "java/lang/Object")] 113

def k0m0 : Method := { name := "<init>", desc := "()V", sig := { parameters := [], returnType := none }, accessFlags := 1, code := none }
/-- java/lang/Object -/
def k0 : Class := { plain "java/lang/Object" none with
  accessFlags := 33
  interfaces := #[]
  cf := some (fileOf pool0 8 #[] #[{ accessFlags := 1, nameIndex := 5, descriptorIndex := 6, attributes := #[] }] 33 0 #[] #[])
  fields := #[]
  methods := #[k0m0]
  instanceTypes := #[]
  staticTypes := #[]
  resolved := Array.replicate 124 none
  statics := none }

def pool1 : Array CpInfo := pool [(2, .class_ 4), (1, u "java/lang/Object"), (0, u "<init>"), (0, u "()V"), (0, .methodref 8 9), (0, .class_ 10), (0, .nameAndType 11 12), (0, u "com/example/seven_bit_codecs/sevenbitcodecs/GraphicSetSelectedByPinLaw"), (0, u "expected"), (0, u "(BB)Lcom/example/seven_bit_codecs/sevenbitcodecs/Iso2022JpCharset$GraphicSet;"), (0, .methodref 14 15), (0, .class_ 16), (0, .nameAndType 17 12), (0, u "com/example/seven_bit_codecs/sevenbitcodecs/Iso2022JpCharset$GraphicSet"), (0, u "selectedBy"), (0, .fieldref 14 19), (0, .nameAndType 20 21), (0, u "ASCII"), (0, u "Lcom/example/seven_bit_codecs/sevenbitcodecs/Iso2022JpCharset$GraphicSet;"), (0, .fieldref 14 23), (0, .nameAndType 24 21), (0, u "ROMAN"), (0, .fieldref 14 26), (0, .nameAndType 27 21), (0, u "KATAKANA"), (0, .fieldref 14 29), (0, .nameAndType 30 21), (0, u "JIS_X_0208"), (2, u "law"), (0, u "(III)Z")] 7

def k1m0 : Method := { name := "<init>", desc := "()V", sig := { parameters := [], returnType := none }, accessFlags := 2, code := none }
def k1c1 : Code := { maxStack := 2, maxLocals := 7, code := code, exceptionTable := #[], attributes := #[] }
def k1m1 : Method := { name := "law", desc := "(III)Z", sig := { parameters := [.int, .int, .int], returnType := some .boolean }, accessFlags := 9, code := some k1c1 }
def k1c2 : Code := { maxStack := 2, maxLocals := 3, code := method_3_code, exceptionTable := #[], attributes := #[] }
def k1m2 : Method := { name := "expected", desc := "(BB)Lcom/example/seven_bit_codecs/sevenbitcodecs/Iso2022JpCharset$GraphicSet;", sig := { parameters := [.byte, .byte], returnType := some (.object "com/example/seven_bit_codecs/sevenbitcodecs/Iso2022JpCharset$GraphicSet") }, accessFlags := 10, code := some k1c2 }
/-- com/example/seven_bit_codecs/sevenbitcodecs/GraphicSetSelectedByPinLaw -/
def k1 : Class := { plain "com/example/seven_bit_codecs/sevenbitcodecs/GraphicSetSelectedByPinLaw" (some 0) with
  accessFlags := 49
  interfaces := #[]
  cf := some (fileOf pool1 8 #[] #[{ accessFlags := 2, nameIndex := 5, descriptorIndex := 6, attributes := #[] }, { accessFlags := 9, nameIndex := 33, descriptorIndex := 34, attributes := #[] }, { accessFlags := 10, nameIndex := 11, descriptorIndex := 12, attributes := #[] }] 49 2 #[] #[])
  fields := #[]
  methods := #[k1m0, k1m1, k1m2]
  instanceTypes := #[]
  staticTypes := #[]
  resolved := Array.replicate 42 none
  statics := none }

def pool2 : Array CpInfo := pool [(1, .class_ 2), (0, u "java/lang/constant/Constable"), (0, .class_ 4), (0, u "java/lang/Object")] 6

/-- java/lang/constant/Constable -/
def k2 : Class := { plain "java/lang/constant/Constable" (some 0) with
  accessFlags := 1537
  interfaces := #[]
  cf := some (fileOf pool2 1 #[] #[] 1537 3 #[] #[])
  fields := #[]
  methods := #[]
  instanceTypes := #[]
  staticTypes := #[]
  resolved := Array.replicate 11 none
  statics := none }

def pool3 : Array CpInfo := pool [(1, .class_ 2), (0, u "java/lang/Comparable"), (0, .class_ 4), (0, u "java/lang/Object")] 7

/-- java/lang/Comparable -/
def k3 : Class := { plain "java/lang/Comparable" (some 0) with
  accessFlags := 1537
  interfaces := #[]
  cf := some (fileOf pool3 1 #[] #[] 1537 3 #[] #[])
  fields := #[]
  methods := #[]
  instanceTypes := #[]
  staticTypes := #[]
  resolved := Array.replicate 12 none
  statics := none }

def pool4 : Array CpInfo := pool [(1, .class_ 2), (0, u "java/io/Serializable"), (0, .class_ 4), (0, u "java/lang/Object")] 2

/-- java/io/Serializable -/
def k4 : Class := { plain "java/io/Serializable" (some 0) with
  accessFlags := 1537
  interfaces := #[]
  cf := some (fileOf pool4 1 #[] #[] 1537 3 #[] #[])
  fields := #[]
  methods := #[]
  instanceTypes := #[]
  staticTypes := #[]
  resolved := Array.replicate 7 none
  statics := none }

def pool5 : Array CpInfo := pool [(2, .class_ 4), (1, u "java/lang/Enum"), (0, u "name"), (0, u "Ljava/lang/String;"), (2, u "ordinal"), (0, u "I"), (1, .class_ 14), (1, u "java/lang/Object"), (4, u "hash"), (86, .class_ 108), (1, u "java/lang/Enum$EnumDesc"), (2, .class_ 112), (0, u "java/lang/constant/Constable"), (0, .class_ 114), (0, u "java/lang/Comparable"), (0, .class_ 116), (0, u "java/io/Serializable")] 87

/-- java/lang/Enum -/
def k5 : Class := { plain "java/lang/Enum" (some 0) with
  accessFlags := 1057
  interfaces := #[2, 3, 4]
  cf := some (fileOf pool5 2 #[.nestMembers #[106]] #[] 1057 12 #[111, 113, 115] #[{ accessFlags := 18, nameIndex := 5, descriptorIndex := 6, attributes := #[] }, { accessFlags := 18, nameIndex := 9, descriptorIndex := 10, attributes := #[] }, { accessFlags := 2, nameIndex := 19, descriptorIndex := 10, attributes := #[] }])
  fields := #[{ name := "name", type := (.object "java/lang/String"), accessFlags := 18, slot := 0, constantValue := 0 }, { name := "ordinal", type := .int, accessFlags := 18, slot := 1, constantValue := 0 }, { name := "hash", type := .int, accessFlags := 2, slot := 2, constantValue := 0 }]
  methods := #[]
  instanceTypes := #[(.object "java/lang/String"), .int, .int]
  staticTypes := #[]
  resolved := Array.replicate 204 none
  statics := none }

def pool6 : Array CpInfo := pool [(1, .class_ 2), (0, u "com/example/seven_bit_codecs/sevenbitcodecs/Iso2022JpCharset$GraphicSet"), (2, u "ASCII"), (0, u "Lcom/example/seven_bit_codecs/sevenbitcodecs/Iso2022JpCharset$GraphicSet;"), (2, u "ROMAN"), (0, .fieldref 1 11), (0, .nameAndType 12 6), (0, u "JIS_X_0208"), (2, u "KATAKANA"), (2, u "$VALUES"), (0, u "[Lcom/example/seven_bit_codecs/sevenbitcodecs/Iso2022JpCharset$GraphicSet;"), (6, .class_ 28), (1, u "java/lang/Enum"), (6, .fieldref 1 36), (0, .nameAndType 37 38), (0, u "intermediate"), (0, u "B"), (0, .fieldref 1 40), (0, .nameAndType 41 38), (0, u "designation"), (2, u "width"), (0, u "I"), (2, u "lineMustLeave"), (0, u "Z"), (0, .fieldref 1 51), (0, .nameAndType 52 19), (0, u "SETS"), (20, u "selectedBy"), (0, u "(BB)Lcom/example/seven_bit_codecs/sevenbitcodecs/Iso2022JpCharset$GraphicSet;"), (7, .class_ 83), (0, u "com/example/seven_bit_codecs/sevenbitcodecs/Iso2022JpCharset")] 2

def k6c0 : Code := { maxStack := 2, maxLocals := 7, code := prog_20_method_4_code, exceptionTable := #[], attributes := #[] }
def k6m0 : Method := { name := "selectedBy", desc := "(BB)Lcom/example/seven_bit_codecs/sevenbitcodecs/Iso2022JpCharset$GraphicSet;", sig := { parameters := [.byte, .byte], returnType := some (.object "com/example/seven_bit_codecs/sevenbitcodecs/Iso2022JpCharset$GraphicSet") }, accessFlags := 8, code := some k6c0 }
/-- com/example/seven_bit_codecs/sevenbitcodecs/Iso2022JpCharset$GraphicSet -/
def k6 : Class := { plain "com/example/seven_bit_codecs/sevenbitcodecs/Iso2022JpCharset$GraphicSet" (some 5) with
  accessFlags := 16432
  interfaces := #[]
  cf := some (fileOf pool6 1 #[.nestHost 82] #[{ accessFlags := 8, nameIndex := 73, descriptorIndex := 74, attributes := #[] }] 16432 26 #[] #[{ accessFlags := 16409, nameIndex := 5, descriptorIndex := 6, attributes := #[] }, { accessFlags := 16409, nameIndex := 9, descriptorIndex := 6, attributes := #[] }, { accessFlags := 16409, nameIndex := 12, descriptorIndex := 6, attributes := #[] }, { accessFlags := 16409, nameIndex := 15, descriptorIndex := 6, attributes := #[] }, { accessFlags := 24, nameIndex := 52, descriptorIndex := 19, attributes := #[] }, { accessFlags := 16, nameIndex := 37, descriptorIndex := 38, attributes := #[] }, { accessFlags := 16, nameIndex := 41, descriptorIndex := 38, attributes := #[] }, { accessFlags := 16, nameIndex := 44, descriptorIndex := 45, attributes := #[] }, { accessFlags := 16, nameIndex := 48, descriptorIndex := 49, attributes := #[] }, { accessFlags := 4122, nameIndex := 18, descriptorIndex := 19, attributes := #[] }])
  fields := #[{ name := "ASCII", type := (.object "com/example/seven_bit_codecs/sevenbitcodecs/Iso2022JpCharset$GraphicSet"), accessFlags := 16409, slot := 0, constantValue := 0 }, { name := "ROMAN", type := (.object "com/example/seven_bit_codecs/sevenbitcodecs/Iso2022JpCharset$GraphicSet"), accessFlags := 16409, slot := 1, constantValue := 0 }, { name := "JIS_X_0208", type := (.object "com/example/seven_bit_codecs/sevenbitcodecs/Iso2022JpCharset$GraphicSet"), accessFlags := 16409, slot := 2, constantValue := 0 }, { name := "KATAKANA", type := (.object "com/example/seven_bit_codecs/sevenbitcodecs/Iso2022JpCharset$GraphicSet"), accessFlags := 16409, slot := 3, constantValue := 0 }, { name := "SETS", type := (.array (.object "com/example/seven_bit_codecs/sevenbitcodecs/Iso2022JpCharset$GraphicSet")), accessFlags := 24, slot := 4, constantValue := 0 }, { name := "intermediate", type := .byte, accessFlags := 16, slot := 3, constantValue := 0 }, { name := "designation", type := .byte, accessFlags := 16, slot := 4, constantValue := 0 }, { name := "width", type := .int, accessFlags := 16, slot := 5, constantValue := 0 }, { name := "lineMustLeave", type := .boolean, accessFlags := 16, slot := 6, constantValue := 0 }, { name := "$VALUES", type := (.array (.object "com/example/seven_bit_codecs/sevenbitcodecs/Iso2022JpCharset$GraphicSet")), accessFlags := 4122, slot := 5, constantValue := 0 }]
  methods := #[k6m0]
  instanceTypes := #[(.object "java/lang/String"), .int, .int, .byte, .byte, .int, .boolean]
  staticTypes := #[(.object "com/example/seven_bit_codecs/sevenbitcodecs/Iso2022JpCharset$GraphicSet"), (.object "com/example/seven_bit_codecs/sevenbitcodecs/Iso2022JpCharset$GraphicSet"), (.object "com/example/seven_bit_codecs/sevenbitcodecs/Iso2022JpCharset$GraphicSet"), (.object "com/example/seven_bit_codecs/sevenbitcodecs/Iso2022JpCharset$GraphicSet"), (.array (.object "com/example/seven_bit_codecs/sevenbitcodecs/Iso2022JpCharset$GraphicSet")), (.array (.object "com/example/seven_bit_codecs/sevenbitcodecs/Iso2022JpCharset$GraphicSet"))]
  resolved := Array.replicate 86 none
  statics := some 0 }

def pool7 : Array CpInfo := pool [(1, u "java/lang/Cloneable"), (0, .class_ 1), (0, u "java/lang/Object"), (0, .class_ 3)] 3

/-- java/lang/Cloneable -/
def k7 : Class := { plain "java/lang/Cloneable" (some 0) with
  accessFlags := 1537
  interfaces := #[]
  cf := some (fileOf pool7 2 #[] #[] 1537 4 #[] #[])
  fields := #[]
  methods := #[]
  instanceTypes := #[]
  staticTypes := #[]
  resolved := Array.replicate 8 none
  statics := none }

/-- the primitive byte -/
def k8 : Class := { plain "byte" none with kind := .primitive 'B', accessFlags := 0x411 }
/-- [B -/
def k9 : Class := { plain "[B" (some 0) with kind := .array 8 .byte, interfaces := #[7, 4], accessFlags := 1041 }

/-- the primitive int -/
def k10 : Class := { plain "int" none with kind := .primitive 'I', accessFlags := 0x411 }
/-- [I -/
def k11 : Class := { plain "[I" (some 0) with kind := .array 10 .int, interfaces := #[7, 4], accessFlags := 1041 }

/-- [Lcom/example/seven_bit_codecs/sevenbitcodecs/Iso2022JpCharset$GraphicSet; -/
def k12 : Class := { plain "[Lcom/example/seven_bit_codecs/sevenbitcodecs/Iso2022JpCharset$GraphicSet;" (some 0) with kind := .array 6 (.object "com/example/seven_bit_codecs/sevenbitcodecs/Iso2022JpCharset$GraphicSet"), interfaces := #[7, 4], accessFlags := 1041 }

def heap : Heap := #[{ cls := 6, slots := #[.ref 2, .ref 3, .ref 4, .ref 5, .ref 1, .null], vm := .statics 6 },
  { cls := 12, slots := #[.ref 2, .ref 3, .ref 4, .ref 5], vm := .none },
  { cls := 6, slots := #[.null, .int 0, .int 0, .int 40, .int 66, .int 1, .int 0], vm := .none },
  { cls := 6, slots := #[.null, .int 1, .int 0, .int 40, .int 74, .int 1, .int 0], vm := .none },
  { cls := 6, slots := #[.null, .int 2, .int 0, .int 36, .int 66, .int 1, .int 0], vm := .none },
  { cls := 6, slots := #[.null, .int 3, .int 0, .int 40, .int 73, .int 1, .int 0], vm := .none }]
def classes : Array Class := #[k0, k1, k2, k3, k4, k5, k6, k7, k8, k9, k10, k11, k12]
def interned : List (Array UInt16 × Addr) := []
def slotsUsed : Nat := 38
def theMethod : MethodId := ⟨1, 1⟩
def args0 : Array Value := #[.int 5, .int 6, .int 7]
def aboutOver (below : List Frame) : State where
  vm := { classes := classes, interned := interned.toArray }
  heap := heap
  slotsUsed := slotsUsed
  threads := #[{ frames := .invoking theMethod args0 :: below }]
def below0 : List Frame := [.native { method := ⟨0, 0⟩, args := #[] }]
def about1 : State := aboutOver below0
def p0 : Program := .bare "" "" ""
def e0 : Env := launch0.env 0 0 0
theorem w_frames : about1.frames = Frame.invoking theMethod args0 :: below0 := rfl
set_option maxRecDepth 65536 in
theorem w_args : argsFit about1.vm theMethod args0 = true := by decide +kernel
set_option maxRecDepth 65536 in
theorem w_heap : heapFits about1 = true := by decide +kernel
set_option maxRecDepth 65536 in
theorem w_runnable : about1.curStatus? = some .runnable := by decide +kernel
set_option maxRecDepth 65536 in
theorem w_alone : about1.alone = true := by decide +kernel
set_option maxRecDepth 65536 in
theorem w_named : about1.methodNamed? x = some theMethod := by decide +kernel
set_option maxRecDepth 65536 in
theorem w_hears : about1.hears theMethod below0 = true := by decide +kernel
set_option maxRecDepth 65536 in
theorem w_ripe : about1.ripe theMethod args0 below0 = true := by decide +kernel
theorem w_running : about1.status = .running := rfl
set_option maxRecDepth 65536 in
theorem w_room : about1.hasRoom e0.platform room_1 = true :=
  launch0.hasRoom_least _ room_1 (by decide +kernel) (by decide +kernel) (by decide +kernel) (by decide +kernel) (by decide +kernel) (by decide +kernel)
theorem allAtoms_all (ts : List Jvm.Cond) (a : Array Jvm.Value) (st : Jvm.State) : (allAtoms ts).before a st = ts.all (fun c => c.before a st) := by
  induction ts with
  | nil => rfl
  | cons c t ih =>
    show (Jvm.Cond.and c (allAtoms t)).before a st = _
    rw [Jvm.Cond.before_and, ih, List.all_cons]
def words1 : List Jvm.Cond := Jvm.Cond.code x code maxLocals ret :: tables_1
/-- a 'code' word, met by the world's own term for the bytes: nothing is compared byte by byte -/
theorem code_word {y : MethodName} {bytes : ByteArray} {mx : Nat} {rt : Option FieldType} {a : Array Value} {s : State} {m : MethodId} {meth : Method} {c : Code} (h1 : s.methodNamed? y = some m) (h2 : s.vm.method? m = some meth) (h3 : meth.code = some c) (h4 : c.code = bytes)
    (h5 : (c.maxLocals == mx && c.exceptionTable.isEmpty && decide (c.maxStack ≤ mostOperands) && decide (meth.sig.returnType = rt) && !meth.locks && decide (parseMethodDescriptor y.desc = some meth.sig)) = true) : (Jvm.Cond.code y bytes mx rt).before a s = true := by
  simp only [Bool.and_eq_true, beq_iff_eq, Bool.not_eq_true', decide_eq_true_eq] at h5
  obtain ⟨⟨⟨⟨⟨g1, g2⟩, g3⟩, g4⟩, g5⟩, g6⟩ := h5
  simp [Cond.before, Cond.holds, Cond.value, h1, h2, h3, h4, g1, g2, g3, g4, g5, g6]
def isCode : Jvm.Cond → Bool
  | .code _ _ _ _ => true
  | _ => false
theorem all_split {L : List Jvm.Cond} {P : Jvm.Cond → Bool} (h1 : L.all (fun c => isCode c || P c) = true) (h2 : ∀ c ∈ L.filter isCode, P c = true) : L.all P = true := by
  refine List.all_eq_true.mpr fun c hc => ?_
  have h := List.all_eq_true.mp h1 c hc
  rcases Bool.eq_false_or_eq_true (isCode c) with hi | hi
  · exact h2 c (List.mem_filter.mpr ⟨hc, hi⟩)
  · simpa [hi] using h
set_option maxRecDepth 65536 in
theorem w_c0 : (Jvm.Cond.code x code maxLocals ret).before args0 about1 = true := code_word (m := ⟨1, 1⟩) (meth := k1m1) (c := k1c1) (by decide +kernel) rfl rfl rfl (by decide +kernel)
set_option maxRecDepth 65536 in
theorem w_c1 : (Jvm.Cond.code ({ cls := "com/example/seven_bit_codecs/sevenbitcodecs/GraphicSetSelectedByPinLaw", name := "expected", desc := "(BB)Lcom/example/seven_bit_codecs/sevenbitcodecs/Iso2022JpCharset$GraphicSet;" } : Jvm.MethodName) method_3_code (3 : Nat) (Option.some (Jvm.ClassFile.FieldType.object "com/example/seven_bit_codecs/sevenbitcodecs/Iso2022JpCharset$GraphicSet"))).before args0 about1 = true := code_word (m := ⟨1, 2⟩) (meth := k1m2) (c := k1c2) (by decide +kernel) rfl rfl rfl (by decide +kernel)
set_option maxRecDepth 65536 in
theorem w_c2 : (Jvm.Cond.code ({ cls := "com/example/seven_bit_codecs/sevenbitcodecs/Iso2022JpCharset$GraphicSet", name := "selectedBy", desc := "(BB)Lcom/example/seven_bit_codecs/sevenbitcodecs/Iso2022JpCharset$GraphicSet;" } : Jvm.MethodName) prog_20_method_4_code (7 : Nat) (Option.some (Jvm.ClassFile.FieldType.object "com/example/seven_bit_codecs/sevenbitcodecs/Iso2022JpCharset$GraphicSet"))).before args0 about1 = true := code_word (m := ⟨6, 0⟩) (meth := k6m0) (c := k6c0) (by decide +kernel) rfl rfl rfl (by decide +kernel)
def codes1 : List Jvm.Cond := [Jvm.Cond.code x code maxLocals ret, Jvm.Cond.code ({ cls := "com/example/seven_bit_codecs/sevenbitcodecs/GraphicSetSelectedByPinLaw", name := "expected", desc := "(BB)Lcom/example/seven_bit_codecs/sevenbitcodecs/Iso2022JpCharset$GraphicSet;" } : Jvm.MethodName) method_3_code (3 : Nat) (Option.some (Jvm.ClassFile.FieldType.object "com/example/seven_bit_codecs/sevenbitcodecs/Iso2022JpCharset$GraphicSet")), Jvm.Cond.code ({ cls := "com/example/seven_bit_codecs/sevenbitcodecs/Iso2022JpCharset$GraphicSet", name := "selectedBy", desc := "(BB)Lcom/example/seven_bit_codecs/sevenbitcodecs/Iso2022JpCharset$GraphicSet;" } : Jvm.MethodName) prog_20_method_4_code (7 : Nat) (Option.some (Jvm.ClassFile.FieldType.object "com/example/seven_bit_codecs/sevenbitcodecs/Iso2022JpCharset$GraphicSet"))]
set_option maxRecDepth 65536 in
theorem codes_eq : words1.filter isCode = codes1 := rfl
theorem w_codes : ∀ c ∈ words1.filter isCode, c.before args0 about1 = true := by
  rw [codes_eq]
  intro c hc
  simp only [codes1, List.mem_cons, List.not_mem_nil, or_false] at hc
  rcases hc with rfl | rfl | rfl
  · exact w_c0
  · exact w_c1
  · exact w_c2
set_option maxRecDepth 65536 in
theorem w_t1 : words1.all (fun c => isCode c || c.before args0 about1) = true := by decide +kernel
theorem w_tables : (allAtoms (Jvm.Cond.code x code maxLocals ret :: tables_1)).before args0 about1 = true := by
  rw [allAtoms_all]
  show words1.all (fun c => c.before args0 about1) = true
  refine all_split ?_ w_codes
  rw [w_t1]
set_option maxRecDepth 65536 in
theorem w_case : (Jvm.Cond.and given_1 narrow_1).before args0 about1 = true := by decide +kernel
theorem w_applies : (headSpec (Jvm.Cond.code x code maxLocals ret :: tables_1) room_1).applies x e0.platform about1 = true :=
  (Spec.applies_iff w_frames).mpr ⟨w_running, w_runnable, w_alone, w_named, w_hears, w_ripe, w_room, w_tables⟩
theorem atStart : AtStart classFile x code maxLocals ret World_1 tables_1 room_1 Calls_1 rest_1 Pre_1 launch0 p0 e0 about1 theMethod args0 below0 :=
  ⟨lists_1, trivial, launch0.admits_env _ _ _, launch0.least_env, fairChoices_fair.cas, fairChoices_fair.clock, w_frames, w_args, w_heap, w_applies, trivial, trivial, w_case⟩
end start1
theorem witness_1 : WitnessClaimed_1 := ⟨start1.p0, start1.e0, start1.about1, start1.theMethod, start1.args0, start1.below0, start1.atStart⟩
end Jvm.Pilot.@@N@@
