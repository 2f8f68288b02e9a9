import JvmDerived
import JvmDerived.Pilot.@@N@@Statement
import JvmDerived.Pilot.@@N@@Code
set_option linter.unusedVariables false
set_option linter.unusedSimpArgs false
namespace Jvm.Pilot.@@N@@
open Jvm Jvm.ClassFile Sem Op Lib Jvm.Free Jvm.Stand Jvm.LawKit Jvm.RoadKit Bundle Jvm.Pilot.@@N@@.Jvm.D
def ownEnds (tb : Tables) (e : Env) (below : List Frame) (Φ : State → Outcome → Prop) (A : State) : Prop :=
  ∃ s₂ o, Steps tb e below A s₂ ∧ s₂.status = .running ∧ Ended s₂ below o ∧ Φ s₂ o
theorem ownEnds.law {tb : Tables} {e : Env} {below : List Frame} {Φ : State → Outcome → Prop} {A B : State} (k : ∀ t, Steps tb e below B t → Steps tb e below A t) (h : ownEnds tb e below Φ B) : ownEnds tb e below Φ A := by
  obtain ⟨s2, o, h1, h2⟩ := h
  exact ⟨s2, o, k _ h1, h2⟩
theorem ownEnds.tr {tb : Tables} {e : Env} {below : List Frame} {Φ : State → Outcome → Prop} {A B : State} (k : Steps tb e below A B) (h : ownEnds tb e below Φ B) : ownEnds tb e below Φ A := by
  obtain ⟨s2, o, h1, h2⟩ := h
  exact ⟨s2, o, k.trans h1, h2⟩
theorem ownEnds.cast {tb : Tables} {e : Env} {below : List Frame} {Φ : State → Outcome → Prop} {T : State} {g g' : JFrame} (q : g = g') (h : ownEnds tb e below Φ (T.setTop g')) : ownEnds tb e below Φ (T.setTop g) := q ▸ h
def ownPost (s : State) (Q : Option Value → Heap → List Loc → Prop) (C S : Nat) : State → Outcome → Prop := fun U o => ∃ v L, o = .returned v ∧ Q v U.heap L ∧ FrameEnd s o U L C S
abbrev ownMet (l : Launch) (Z : State) (y : MethodName) (bytes : ByteArray) (maxL : Nat) (rt : Option FieldType) (ws : List Jvm.Cond) (rm : Room) (as : Array Value) (h0 : Heap) (Q : Option Value → Heap → List Loc → Prop) : Prop :=
  MetFree l y (head1 (Jvm.Cond.code y bytes maxL rt :: ws) rm) (fun a U => a = as ∧ Z.Warmed39 U.vm ∧ U.heap = h0) (fun _ _ _ _ _ => True) (fun _ U o U' => ∃ v L, o = .returned v ∧ Q v U'.heap L ∧ FrameEnd U o U' L rm.cells rm.slots)
theorem ownMet.of {l : Launch} {Z : State} {y : MethodName} {bytes : ByteArray} {maxL : Nat} {rt : Option FieldType} {ws : List Jvm.Cond} {rm : Room} {as : Array Value} {h0 : Heap} {Q : Option Value → Heap → List Loc → Prop} (hpl : plainFor y = true)
    (body : ∀ (p : Program) (e : Env) (s : State) (m : MethodId) (below : List Frame) (meth : Method) (c : Code) (T0 : State), p.tables.exec = Jvm.exec → c.code = bytes → c.maxLocals = maxL → Z.Warmed39 s.vm → s.vm.findClass y.cls = some m.cls → meth.name = y.name → meth.sig.returnType = rt → meth.locks = false →
      Stand p l e rm s m as below meth c T0 [] 0 0 → T0.heap = h0 → ownEnds p.tables e below (ownPost s Q rm.cells rm.slots) (T0.setTop (entryFrame m as maxL))) : ownMet l Z y bytes maxL rt ws rm as h0 Q := by
  refine MetFree.of_bodySF hpl hisR ?_
  intro p e s m args below meth c s₁ Bd hml0 hP hK
  obtain ⟨rfl, hZ, hh⟩ := hP
  exact body p e s m below meth c s₁ Bd.exec Bd.bytes hml0 hZ (findClass_of_methodNamed Bd.named) (name_of_methodNamed Bd.named Bd.method).1 Bd.returns Bd.notSynchronized (Stand.of_body Bd) (by rw [← hh, Bd.state]; rfl)
theorem ownEqV {args : Array Value} {first s : State} {o : Option Outcome} {idx : List Nat} {a b : Term} {v : Value} (h : (Cond.eq a b).value args first o s idx = some true) (hb : b.eval args first o idx s = some v) : a.eval args first o idx s = some v := by
  simp only [Cond.value, hb] at h
  cases ha : a.eval args first o idx s with
  | none => simp [ha] at h
  | some x => cases x <;> cases v <;> simp_all
theorem ownFieldAt {args : Array Value} {first s : State} {o : Option Outcome} {idx : List Nat} {t : Term} {a : Addr} {C n d : String} (ev : t.eval args first o idx s = some (.ref a)) : (Term.field t C n d).eval args first o idx s = s.fieldOf? a C n d := by
  simp [Term.eval, ev]
theorem ownLen {s : State} {args : Array Value} {t : Term} {a : Addr} {cl : Cell} {ty : FieldType} {z : Int32} (ev : t.eval args s none [] s = some (.ref a)) (A : Arr s s.heap a cl ty) (h : (Term.length t).eval args s none [] s = some (.int z)) : cl.slots.size < 2 ^ 31 ∧ cl.slots.size.toInt32 = z := by
  have q := A.fin (Vm.Alike.refl _)
  simp only [Term.eval, ev, q, Option.bind_eq_bind, Option.bind_some, Option.pure_def] at h
  split at h
  · rename_i hs
    exact ⟨hs, by simpa using h⟩
  · cases h
theorem ownEl {s : State} {args : Array Value} {t i : Term} {a : Addr} {cl : Cell} {ty : FieldType} {j : Int32} {v : Value} (ev : t.eval args s none [] s = some (.ref a)) (A : Arr s s.heap a cl ty) (ej : i.eval args s none [] s = some (.int j)) (h : (Term.elem t i).eval args s none [] s = some v) : cl.slots[j.toNatClampNeg]? = some v := by
  have q := A.fin (Vm.Alike.refl _)
  simp only [Term.eval, ev, ej, q, Option.bind_eq_bind, Option.bind_some] at h
  split at h
  · cases h
  · exact h
section OwnKit
variable {p : Program} {l : Launch} {e : Env} {R : Room} {s : State} {m : MethodId} {args : Array Value} {below : List Frame} {meth : Method} {c : Code} {T : State} {locs : List Loc} {cells slots : Nat} {Z : State} {a0 : Array Value} {h : Heap}
theorem ownRet (X : Stand p l e R s m args below meth c T locs cells slots) (hlk : meth.locks = false) {v : Option Value} (hv : meth.sig.returnType = none → v = none) {g : JFrame} {Q : Option Value → Heap → List Loc → Prop} {C S : Nat}
    (hst : ∀ fs, (∀ (f : JFrame) (acts : List Action), f.method = m → f.locked = none → f.entered = [] → (doReturn e (T.setTop f) acts v).1 = T.setFrames fs) → Steps p.tables e below (T.setTop g) (T.setFrames fs))
    (hc : cells ≤ C) (hs : slots ≤ S) (hQ : Q v T.heap locs) : ownEnds p.tables e below (ownPost s Q C S) (T.setTop g) := by
  obtain ⟨fs, hr, hrun, hended, hW, hsame⟩ := X.leave (v := v) hv hlk
  exact ⟨_, _, hst fs hr, hrun, hended, v, locs, rfl, hQ, ⟨_, rfl⟩, hW, hsame.mono hc hs⟩
theorem ownRetN (X : Stand p l e R s m args below meth c T locs cells slots) (hlk : meth.locks = false) (hx : p.tables.exec = Jvm.exec) {pc : Nat} {Ls : Array Slot} {z : Int32} {t : FieldType} {rest : List Value} (hret : meth.sig.returnType = some t) (ht : t = .boolean ∨ t = .byte ∨ t = .char ∨ t = .short)
    (hd : decode c.code pc = .ok (.ireturn, 1)) {Q : Option Value → Heap → List Loc → Prop} {C S : Nat} (hc : cells ≤ C) (hs : slots ≤ S) (hQ : Q (some (.int (nar t z))) T.heap locs) : ownEnds p.tables e below (ownPost s Q C S) (T.setTop (mkF m pc Ls (.int z :: rest))) :=
  ownRet X hlk (fun h => by rw [hret] at h; cases h) (fun fs hr => retN X hx hret ht hd hr) hc hs hQ
theorem ownRetI (X : Stand p l e R s m args below meth c T locs cells slots) (hlk : meth.locks = false) (hx : p.tables.exec = Jvm.exec) {pc : Nat} {Ls : Array Slot} {z : Int32} {rest : List Value} (hret : meth.sig.returnType = some .int)
    (hd : decode c.code pc = .ok (.ireturn, 1)) {Q : Option Value → Heap → List Loc → Prop} {C S : Nat} (hc : cells ≤ C) (hs : slots ≤ S) (hQ : Q (some (.int z)) T.heap locs) : ownEnds p.tables e below (ownPost s Q C S) (T.setTop (mkF m pc Ls (.int z :: rest))) :=
  ownRet X hlk (fun h => by rw [hret] at h; cases h) (fun fs hr => retOut X hx hret rfl (Or.inl ⟨rfl, Or.inl rfl, z, rfl⟩) hd hr) hc hs hQ
theorem ownRetL (X : Stand p l e R s m args below meth c T locs cells slots) (hlk : meth.locks = false) (hx : p.tables.exec = Jvm.exec) {pc : Nat} {Ls : Array Slot} {z : Int64} {rest : List Value} (hret : meth.sig.returnType = some .long)
    (hd : decode c.code pc = .ok (.lreturn, 1)) {Q : Option Value → Heap → List Loc → Prop} {C S : Nat} (hc : cells ≤ C) (hs : slots ≤ S) (hQ : Q (some (.long z)) T.heap locs) : ownEnds p.tables e below (ownPost s Q C S) (T.setTop (mkF m pc Ls (.long z :: rest))) :=
  ownRet X hlk (fun h => by rw [hret] at h; cases h) (fun fs hr => retOut X hx hret rfl (Or.inr (Or.inl ⟨rfl, rfl, z, rfl⟩)) hd hr) hc hs hQ
theorem ownRetA (X : Stand p l e R s m args below meth c T locs cells slots) (hlk : meth.locks = false) (hx : p.tables.exec = Jvm.exec) {pc : Nat} {Ls : Array Slot} {w : Value} {t : FieldType} {rest : List Value} (hret : meth.sig.returnType = some t) (ht : t.isReference = true) (hw : w.isRef = true)
    (hd : decode c.code pc = .ok (.areturn, 1)) {Q : Option Value → Heap → List Loc → Prop} {C S : Nat} (hc : cells ≤ C) (hs : slots ≤ S) (hQ : Q (some w) T.heap locs) : ownEnds p.tables e below (ownPost s Q C S) (T.setTop (mkF m pc Ls (w :: rest))) :=
  ownRet X hlk (fun h => by rw [hret] at h; cases h) (fun fs hr => retOut X hx hret (by rcases ref_cases hw with rfl | ⟨a, rfl⟩ <;> cases t <;> first | rfl | (simp [FieldType.isReference] at ht)) (Or.inr (Or.inr (Or.inr (Or.inr ⟨rfl, ht, hw⟩)))) hd hr) hc hs hQ
theorem ownRetV (X : Stand p l e R s m args below meth c T locs cells slots) (hlk : meth.locks = false) (hx : p.tables.exec = Jvm.exec) {pc : Nat} {Ls : Array Slot} (hret : meth.sig.returnType = none)
    (hd : decode c.code pc = .ok (.return_, 1)) {Q : Option Value → Heap → List Loc → Prop} {C S : Nat} (hc : cells ≤ C) (hs : slots ≤ S) (hQ : Q none T.heap locs) : ownEnds p.tables e below (ownPost s Q C S) (T.setTop (mkF m pc Ls [])) :=
  ownRet X hlk (fun _ => rfl) (fun fs hr => X.returnOut hx hret hd hr) hc hs hQ
theorem ownCallS (X : Stand p l e R s m args below meth c T locs cells slots) (hx : p.tables.exec = Jvm.exec) (hZ : Z.Warmed39 s.vm) {own : String} {index : Nat} (hown : s.vm.findClass own = some m.cls) {y : MethodName} {bytes : ByteArray} {maxL : Nat} {rt : Option FieldType} {rm : Room} {as : List Value} {Q : Option Value → Heap → List Loc → Prop}
    (w1 : (Cond.methodLink own index y).before a0 Z = true) (w2 : (Cond.static y).before a0 Z = true) (w3 : (Cond.initialized y.cls).before a0 Z = true) (w4 : (Cond.code y bytes maxL rt).before a0 Z = true) (hy : y.cls ≠ "java/lang/invoke/MethodHandle" ∧ y.cls ≠ "java/lang/invoke/VarHandle")
    (hM : ownMet l Z y bytes maxL rt [] rm as.toArray h Q) (eT : T.heap = h) (W : Nat) (hf : rm.frames + 1 ≤ R.frames) (hl : W + (maxL + 11) + rm.locals ≤ R.locals) (hc : cells + rm.cells ≤ R.cells) (hs : slots + rm.slots ≤ R.slots)
    {g : JFrame} (hg : g.method = m) (hsize : g.locals.size = c.maxLocals) {rest : List Value} {ps : List FieldType} {r : Option FieldType} (hd : parseMethodDescriptor y.desc = some ⟨ps, r⟩) (hlen : as.length = ps.length) (hstack : g.stack = as.reverse ++ rest) (hW : 2 * g.monitorRoom + (rest.map fun v => v.category).sum ≤ W)
    (hdg : decode c.code g.pc = .ok (.invokestatic index, 3)) :
    ∃ v T' L, Stand p l e R s m args below meth c T' (locs ++ L) (cells + rm.cells) (slots + rm.slots) ∧ Q v T'.heap L ∧ ∀ t, Steps p.tables e below (T'.setTop { g with pc := g.pc + 3, stack := v.toList ++ rest }) t → Steps p.tables e below (T.setTop g) t := by
  obtain ⟨v, _, ⟨T1, L1, k1, n1⟩, -, X1, ⟨Lc, hQ, l1, y1, z1⟩, st⟩ := Jvm.LawKit.callS X hx (y := y) hown (mvT hZ w1) (mvT hZ w2) (mvT hZ w3) (mvT hZ w4) hy (backOf (W := W) hM hZ w4 w3 hf hl) hg hsize (argsL := as) (rest := rest) (lenOf hd hlen) hstack hW hdg (fun _ _ => ⟨rfl, eT, hc, hs⟩)
  dsimp only [Pt.U, Pt.locs, Pt.cells, Pt.slots] at X1 l1 y1 z1 st hQ
  subst l1 y1 z1
  exact ⟨v, T1, Lc, X1, hQ, st⟩
theorem ownCallC (X : Stand p l e R s m args below meth c T locs cells slots) (hx : p.tables.exec = Jvm.exec) (hZ : Z.Warmed39 s.vm) {own : String} {index : Nat} (hown : s.vm.findClass own = some m.cls) {y : MethodName} (hy1 : y.name = "<init>") {bytes : ByteArray} {maxL : Nat} {rm : Room} {a : Addr} {as : List Value} {Q : Option Value → Heap → List Loc → Prop}
    (w1 : (Cond.methodLink own index y).before a0 Z = true) (w2 : (Cond.instanceMethod y).before a0 Z = true) (w3 : (Cond.initialized y.cls).before a0 Z = true) (w4 : (Cond.code y bytes maxL none).before a0 Z = true) (hy : y.cls ≠ "java/lang/invoke/MethodHandle" ∧ y.cls ≠ "java/lang/invoke/VarHandle")
    (hM : ownMet l Z y bytes maxL none [] rm (.ref a :: as).toArray h Q) (eT : T.heap = h) (W : Nat) (hf : rm.frames + 1 ≤ R.frames) (hl : W + (maxL + 11) + rm.locals ≤ R.locals) (hc : cells + rm.cells ≤ R.cells) (hs : slots + rm.slots ≤ R.slots)
    {g : JFrame} (hg : g.method = m) (hsize : g.locals.size = c.maxLocals) {rest : List Value} {ps : List FieldType} {r : Option FieldType} (hd : parseMethodDescriptor y.desc = some ⟨ps, r⟩) (hlen : as.length = ps.length) (hstack : g.stack = as.reverse ++ .ref a :: rest) (hW : 2 * g.monitorRoom + (rest.map fun v => v.category).sum ≤ W)
    (hdg : decode c.code g.pc = .ok (.invokespecial index, 3)) :
    ∃ v T' L, Stand p l e R s m args below meth c T' (locs ++ L) (cells + rm.cells) (slots + rm.slots) ∧ Q v T'.heap L ∧ ∀ t, Steps p.tables e below (T'.setTop { g with pc := g.pc + 3, stack := v.toList ++ rest }) t → Steps p.tables e below (T.setTop g) t := by
  obtain ⟨v, _, ⟨T1, L1, k1, n1⟩, -, X1, ⟨Lc, hQ, l1, y1, z1⟩, st⟩ := X.specialBack hx (y := y) hy1 hown (mvT hZ w1) (mvT hZ w2) (mvT hZ w4) hy (backOf (W := W) hM hZ w4 w3 hf hl) hg hsize (Steps.refl _) (a := a) (argsL := as) (rest := rest) (lenOf hd hlen) hstack hW hdg (fun _ _ => ⟨rfl, eT, hc, hs⟩)
  dsimp only [Pt.U, Pt.locs, Pt.cells, Pt.slots] at X1 l1 y1 z1 st hQ
  subst l1 y1 z1
  exact ⟨v, T1, Lc, X1, hQ, fun t k => st.trans k⟩
theorem ownCallV (X : Stand p l e R s m args below meth c T locs cells slots) (hx : p.tables.exec = Jvm.exec) (hZ : Z.Warmed39 s.vm) {own C : String} {index : Nat} (hown : s.vm.findClass own = some m.cls) {y z : MethodName} {bytes : ByteArray} {maxL : Nat} {rt : Option FieldType} {rm : Room} {a : Addr} {as : List Value} {Q : Option Value → Heap → List Loc → Prop}
    (w1 : (Cond.methodLink own index y).before a0 Z = true) (w2 : (Cond.declares y).before a0 Z = true) (hnf : NotFace s y) (w5 : (Cond.selects C y z).before a0 Z = true) (w6 : (Cond.instanceMethod z).before a0 Z = true) (w3 : (Cond.initialized z.cls).before a0 Z = true) (w4 : (Cond.code z bytes maxL rt).before a0 Z = true) (hy : y.cls ≠ "java/lang/invoke/MethodHandle" ∧ y.cls ≠ "java/lang/invoke/VarHandle")
    (hM : ownMet l Z z bytes maxL rt [] rm (.ref a :: as).toArray h Q) (eT : T.heap = h) (E : Exa Z h a C) (W : Nat) (hf : rm.frames + 1 ≤ R.frames) (hl : W + (maxL + 11) + rm.locals ≤ R.locals) (hc : cells + rm.cells ≤ R.cells) (hs : slots + rm.slots ≤ R.slots)
    {g : JFrame} (hg : g.method = m) (hsize : g.locals.size = c.maxLocals) {rest : List Value} {ps : List FieldType} {r : Option FieldType} (hd : parseMethodDescriptor y.desc = some ⟨ps, r⟩) (hlen : as.length = ps.length) (hstack : g.stack = as.reverse ++ .ref a :: rest) (hW : 2 * g.monitorRoom + (rest.map fun v => v.category).sum ≤ W)
    (hdg : decode c.code g.pc = .ok (.invokevirtual index, 3)) :
    ∃ v T' L, Stand p l e R s m args below meth c T' (locs ++ L) (cells + rm.cells) (slots + rm.slots) ∧ Q v T'.heap L ∧ ∀ t, Steps p.tables e below (T'.setTop { g with pc := g.pc + 3, stack := v.toList ++ rest }) t → Steps p.tables e below (T.setTop g) t := by
  obtain ⟨cq, kq, qa, qb, qc⟩ := isOf hZ eT E
  obtain ⟨v, _, ⟨T1, L1, k1, n1⟩, -, X1, ⟨Lc, hQ, l1, y1, z1⟩, st⟩ := X.virtualBack hx (y := y) (z := z) hown (mvT hZ w1) (mvT hZ w2) hnf (mvT hZ w5) (mvT hZ w6) hy (backOf (W := W) hM hZ w4 w3 hf hl) qa qc hg hsize (Steps.refl _) (argsL := as) (rest := rest) (lenOf hd hlen) hstack hW hdg (fun _ _ => ⟨rfl, eT, hc, hs⟩)
  dsimp only [Pt.U, Pt.locs, Pt.cells, Pt.slots] at X1 l1 y1 z1 st hQ
  subst l1 y1 z1
  exact ⟨v, T1, Lc, X1, hQ, fun t k => st.trans k⟩
theorem ownSelfSel {y z : MethodName} {C : String} (hz : z.cls = y.cls) (wz : (Cond.selects C z z).before args s = true) (hinst : (Cond.instanceMethod y).before args s = true) (hpriv : s.PrivateAt y) (hy : y.cls ≠ "java/lang/invoke/MethodHandle" ∧ y.cls ≠ "java/lang/invoke/VarHandle") : (Cond.selects y.cls y y).before args s = true := by
  obtain ⟨c2, r2, m2, q1, q2, q3, q4, kP, hkP, hkPi⟩ := Cond.selects_spec wz
  exact selects_self_of_private (by rw [← hz]; exact findClass_of_methodNamed q3) hkP hkPi hpriv hinst hy
theorem ownCallP (X : Stand p l e R s m args below meth c T locs cells slots) (hx : p.tables.exec = Jvm.exec) (hZ : Z.Warmed39 s.vm) {own C D : String} {index : Nat} (hown : s.vm.findClass own = some m.cls) {y z : MethodName} {bytes : ByteArray} {maxL : Nat} {rt : Option FieldType} {rm : Room} {a : Addr} {as : List Value} {Q : Option Value → Heap → List Loc → Prop}
    (w1 : (Cond.methodLink own index y).before a0 Z = true) (hz : z.cls = y.cls) (w5 : (Cond.selects C z z).before a0 Z = true) (w6 : (Cond.instanceMethod y).before a0 Z = true) (w7 : (Cond.privateMethod y).before a0 Z = true) (w3 : (Cond.initialized y.cls).before a0 Z = true) (w4 : (Cond.code y bytes maxL rt).before a0 Z = true) (hy : y.cls ≠ "java/lang/invoke/MethodHandle" ∧ y.cls ≠ "java/lang/invoke/VarHandle")
    (hM : ownMet l Z y bytes maxL rt [] rm (.ref a :: as).toArray h Q) (eT : T.heap = h) (E : Exa Z h a D) (W : Nat) (hf : rm.frames + 1 ≤ R.frames) (hl : W + (maxL + 11) + rm.locals ≤ R.locals) (hc : cells + rm.cells ≤ R.cells) (hs : slots + rm.slots ≤ R.slots)
    {g : JFrame} (hg : g.method = m) (hsize : g.locals.size = c.maxLocals) {rest : List Value} {ps : List FieldType} {r : Option FieldType} (hd : parseMethodDescriptor y.desc = some ⟨ps, r⟩) (hlen : as.length = ps.length) (hstack : g.stack = as.reverse ++ .ref a :: rest) (hW : 2 * g.monitorRoom + (rest.map fun v => v.category).sum ≤ W)
    (hdg : decode c.code g.pc = .ok (.invokevirtual index, 3)) :
    ∃ v T' L, Stand p l e R s m args below meth c T' (locs ++ L) (cells + rm.cells) (slots + rm.slots) ∧ Q v T'.heap L ∧ ∀ t, Steps p.tables e below (T'.setTop { g with pc := g.pc + 3, stack := v.toList ++ rest }) t → Steps p.tables e below (T.setTop g) t := by
  obtain ⟨cq, q1, q2⟩ := E.cell
  have hpv : s.PrivateAt y := Cond.privateMethod_at (mvP hZ w7 (args := #[]))
  obtain ⟨v, _, ⟨T1, L1, k1, n1⟩, -, X1, ⟨Lc, hQ, l1, y1, z1⟩, st⟩ := X.privateBack hx (y := y) hown (mvT hZ w1) (mvT hZ w6) (ownSelfSel hz (mvT hZ w5) (mvT hZ w6) hpv hy) hpv (mvT hZ w4) hy (backOf (W := W) hM hZ w4 w3 hf hl) hg hsize (Steps.refl _) (a := a) (by rw [eT]; exact q1) q2 (argsL := as) (rest := rest) (lenOf hd hlen) hstack hW hdg (fun _ _ => ⟨rfl, eT, hc, hs⟩)
  dsimp only [Pt.U, Pt.locs, Pt.cells, Pt.slots] at X1 l1 y1 z1 st hQ
  subst l1 y1 z1
  exact ⟨v, T1, Lc, X1, hQ, fun t k => st.trans k⟩
end OwnKit
theorem wd_0 {Z : State} {a0 : Array Value} (hw : ∀ d ∈ tables_1, d.before a0 Z = true) : (Jvm.Cond.methodLink "com/example/libreach/libreach/engine/StateLayoutUnpackPinLaw" (7 : Nat) ({ cls := "com/example/libreach/libreach/engine/StateLayoutUnpackPinLaw", name := "width", desc := "(I)I" } : Jvm.MethodName)).before a0 Z = true := hw _ (List.mem_of_getElem? (i := 0) rfl)
theorem wd_1 {Z : State} {a0 : Array Value} (hw : ∀ d ∈ tables_1, d.before a0 Z = true) : (Jvm.Cond.static ({ cls := "com/example/libreach/libreach/engine/StateLayoutUnpackPinLaw", name := "width", desc := "(I)I" } : Jvm.MethodName)).before a0 Z = true := hw _ (List.mem_of_getElem? (i := 1) rfl)
theorem wd_2 {Z : State} {a0 : Array Value} (hw : ∀ d ∈ tables_1, d.before a0 Z = true) : (Jvm.Cond.initialized "com/example/libreach/libreach/engine/StateLayoutUnpackPinLaw").before a0 Z = true := hw _ (List.mem_of_getElem? (i := 2) rfl)
theorem wd_3 {Z : State} {a0 : Array Value} (hw : ∀ d ∈ tables_1, d.before a0 Z = true) : (Jvm.Cond.code ({ cls := "com/example/libreach/libreach/engine/StateLayoutUnpackPinLaw", name := "width", desc := "(I)I" } : Jvm.MethodName) method_3_code (2 : Nat) (Option.some Jvm.ClassFile.FieldType.int)).before a0 Z = true := hw _ (List.mem_of_getElem? (i := 3) rfl)
theorem wd_4 {Z : State} {a0 : Array Value} (hw : ∀ d ∈ tables_1, d.before a0 Z = true) : (Jvm.Cond.classLink "com/example/libreach/libreach/engine/StateLayoutUnpackPinLaw" (13 : Nat) "com/example/libreach/libreach/engine/StateLayout").before a0 Z = true := hw _ (List.mem_of_getElem? (i := 4) rfl)
theorem wd_5 {Z : State} {a0 : Array Value} (hw : ∀ d ∈ tables_1, d.before a0 Z = true) : (Jvm.Cond.instantiable "com/example/libreach/libreach/engine/StateLayout" (6 : Nat)).before a0 Z = true := hw _ (List.mem_of_getElem? (i := 5) rfl)
theorem wd_6 {Z : State} {a0 : Array Value} (hw : ∀ d ∈ tables_1, d.before a0 Z = true) : (Jvm.Cond.initialized "com/example/libreach/libreach/engine/StateLayout").before a0 Z = true := hw _ (List.mem_of_getElem? (i := 6) rfl)
theorem wd_7 {Z : State} {a0 : Array Value} (hw : ∀ d ∈ tables_1, d.before a0 Z = true) : (Jvm.Cond.arrayClass Jvm.ClassFile.FieldType.int).before a0 Z = true := hw _ (List.mem_of_getElem? (i := 7) rfl)
theorem wd_8 {Z : State} {a0 : Array Value} (hw : ∀ d ∈ tables_1, d.before a0 Z = true) : (Jvm.Cond.methodLink "com/example/libreach/libreach/engine/StateLayoutUnpackPinLaw" (15 : Nat) ({ cls := "com/example/libreach/libreach/engine/StateLayout", name := "<init>", desc := "([I)V" } : Jvm.MethodName)).before a0 Z = true := hw _ (List.mem_of_getElem? (i := 8) rfl)
theorem wd_9 {Z : State} {a0 : Array Value} (hw : ∀ d ∈ tables_1, d.before a0 Z = true) : (Jvm.Cond.instanceMethod ({ cls := "com/example/libreach/libreach/engine/StateLayout", name := "<init>", desc := "([I)V" } : Jvm.MethodName)).before a0 Z = true := hw _ (List.mem_of_getElem? (i := 9) rfl)
theorem wd_10 {Z : State} {a0 : Array Value} (hw : ∀ d ∈ tables_1, d.before a0 Z = true) : (Jvm.Cond.code ({ cls := "com/example/libreach/libreach/engine/StateLayout", name := "<init>", desc := "([I)V" } : Jvm.MethodName) prog_17_method_1_code (7 : Nat) (Option.none : Option Jvm.ClassFile.FieldType)).before a0 Z = true := hw _ (List.mem_of_getElem? (i := 10) rfl)
theorem wd_11 {Z : State} {a0 : Array Value} (hw : ∀ d ∈ tables_1, d.before a0 Z = true) : (Jvm.Cond.methodLink "com/example/libreach/libreach/engine/StateLayout" (1 : Nat) ({ cls := "java/lang/Object", name := "<init>", desc := "()V" } : Jvm.MethodName)).before a0 Z = true := hw _ (List.mem_of_getElem? (i := 11) rfl)
theorem wd_12 {Z : State} {a0 : Array Value} (hw : ∀ d ∈ tables_1, d.before a0 Z = true) : (Jvm.Cond.instanceMethod ({ cls := "java/lang/Object", name := "<init>", desc := "()V" } : Jvm.MethodName)).before a0 Z = true := hw _ (List.mem_of_getElem? (i := 12) rfl)
theorem wd_13 {Z : State} {a0 : Array Value} (hw : ∀ d ∈ tables_1, d.before a0 Z = true) : (Jvm.Cond.code ({ cls := "java/lang/Object", name := "<init>", desc := "()V" } : Jvm.MethodName) object_method_1_code (1 : Nat) (Option.none : Option Jvm.ClassFile.FieldType)).before a0 Z = true := hw _ (List.mem_of_getElem? (i := 13) rfl)
theorem wd_14 {Z : State} {a0 : Array Value} (hw : ∀ d ∈ tables_1, d.before a0 Z = true) : (Jvm.Cond.methodLink "com/example/libreach/libreach/engine/StateLayout" (7 : Nat) ({ cls := "[I", name := "clone", desc := "()Ljava/lang/Object;" } : Jvm.MethodName)).before a0 Z = true := hw _ (List.mem_of_getElem? (i := 14) rfl)
theorem wd_15 {Z : State} {a0 : Array Value} (hw : ∀ d ∈ tables_1, d.before a0 Z = true) : (Jvm.Cond.sameMethod "[I" "java/lang/Object" "clone" "()Ljava/lang/Object;").before a0 Z = true := hw _ (List.mem_of_getElem? (i := 15) rfl)
theorem wd_17 {Z : State} {a0 : Array Value} (hw : ∀ d ∈ tables_1, d.before a0 Z = true) : (Jvm.Cond.instanceMethod ({ cls := "java/lang/Object", name := "clone", desc := "()Ljava/lang/Object;" } : Jvm.MethodName)).before a0 Z = true := hw _ (List.mem_of_getElem? (i := 17) rfl)
theorem wd_18 {Z : State} {a0 : Array Value} (hw : ∀ d ∈ tables_1, d.before a0 Z = true) : (Jvm.Cond.selects "[I" ({ cls := "[I", name := "clone", desc := "()Ljava/lang/Object;" } : Jvm.MethodName) ({ cls := "java/lang/Object", name := "clone", desc := "()Ljava/lang/Object;" } : Jvm.MethodName)).before a0 Z = true := hw _ (List.mem_of_getElem? (i := 18) rfl)
theorem wd_19 {Z : State} {a0 : Array Value} (hw : ∀ d ∈ tables_1, d.before a0 Z = true) : (Jvm.Cond.native ({ cls := "java/lang/Object", name := "clone", desc := "()Ljava/lang/Object;" } : Jvm.MethodName)).before a0 Z = true := hw _ (List.mem_of_getElem? (i := 19) rfl)
theorem wd_20 {Z : State} {a0 : Array Value} (hw : ∀ d ∈ tables_1, d.before a0 Z = true) : (Jvm.Cond.castable "[I" "java/lang/Cloneable").before a0 Z = true := hw _ (List.mem_of_getElem? (i := 20) rfl)
theorem wd_21 {Z : State} {a0 : Array Value} (hw : ∀ d ∈ tables_1, d.before a0 Z = true) : (Jvm.Cond.classLink "com/example/libreach/libreach/engine/StateLayout" (8 : Nat) "[I").before a0 Z = true := hw _ (List.mem_of_getElem? (i := 21) rfl)
theorem wd_23 {Z : State} {a0 : Array Value} (hw : ∀ d ∈ tables_1, d.before a0 Z = true) : (Jvm.Cond.fieldLink "com/example/libreach/libreach/engine/StateLayout" (13 : Nat) "com/example/libreach/libreach/engine/StateLayout" "widths" "[I").before a0 Z = true := hw _ (List.mem_of_getElem? (i := 23) rfl)
theorem wd_24 {Z : State} {a0 : Array Value} (hw : ∀ d ∈ tables_1, d.before a0 Z = true) : (Jvm.Cond.laysFinal "com/example/libreach/libreach/engine/StateLayout" "com/example/libreach/libreach/engine/StateLayout" "widths" "[I").before a0 Z = true := hw _ (List.mem_of_getElem? (i := 24) rfl)
theorem wd_25 {Z : State} {a0 : Array Value} (hw : ∀ d ∈ tables_1, d.before a0 Z = true) : (Jvm.Cond.fieldLink "com/example/libreach/libreach/engine/StateLayout" (18 : Nat) "com/example/libreach/libreach/engine/StateLayout" "word" "[I").before a0 Z = true := hw _ (List.mem_of_getElem? (i := 25) rfl)
theorem wd_26 {Z : State} {a0 : Array Value} (hw : ∀ d ∈ tables_1, d.before a0 Z = true) : (Jvm.Cond.laysFinal "com/example/libreach/libreach/engine/StateLayout" "com/example/libreach/libreach/engine/StateLayout" "word" "[I").before a0 Z = true := hw _ (List.mem_of_getElem? (i := 26) rfl)
theorem wd_27 {Z : State} {a0 : Array Value} (hw : ∀ d ∈ tables_1, d.before a0 Z = true) : (Jvm.Cond.fieldLink "com/example/libreach/libreach/engine/StateLayout" (21 : Nat) "com/example/libreach/libreach/engine/StateLayout" "shift" "[I").before a0 Z = true := hw _ (List.mem_of_getElem? (i := 27) rfl)
theorem wd_28 {Z : State} {a0 : Array Value} (hw : ∀ d ∈ tables_1, d.before a0 Z = true) : (Jvm.Cond.laysFinal "com/example/libreach/libreach/engine/StateLayout" "com/example/libreach/libreach/engine/StateLayout" "shift" "[I").before a0 Z = true := hw _ (List.mem_of_getElem? (i := 28) rfl)
theorem wd_29 {Z : State} {a0 : Array Value} (hw : ∀ d ∈ tables_1, d.before a0 Z = true) : (Jvm.Cond.arrayClass Jvm.ClassFile.FieldType.long).before a0 Z = true := hw _ (List.mem_of_getElem? (i := 29) rfl)
theorem wd_30 {Z : State} {a0 : Array Value} (hw : ∀ d ∈ tables_1, d.before a0 Z = true) : (Jvm.Cond.fieldLink "com/example/libreach/libreach/engine/StateLayout" (24 : Nat) "com/example/libreach/libreach/engine/StateLayout" "largest" "[J").before a0 Z = true := hw _ (List.mem_of_getElem? (i := 30) rfl)
theorem wd_31 {Z : State} {a0 : Array Value} (hw : ∀ d ∈ tables_1, d.before a0 Z = true) : (Jvm.Cond.laysFinal "com/example/libreach/libreach/engine/StateLayout" "com/example/libreach/libreach/engine/StateLayout" "largest" "[J").before a0 Z = true := hw _ (List.mem_of_getElem? (i := 31) rfl)
theorem wd_32 {Z : State} {a0 : Array Value} (hw : ∀ d ∈ tables_1, d.before a0 Z = true) : (Jvm.Cond.constantLong "com/example/libreach/libreach/engine/StateLayout" (30 : Nat) (-1 : Int64)).before a0 Z = true := hw _ (List.mem_of_getElem? (i := 32) rfl)
theorem wd_33 {Z : State} {a0 : Array Value} (hw : ∀ d ∈ tables_1, d.before a0 Z = true) : (Jvm.Cond.fieldLink "com/example/libreach/libreach/engine/StateLayout" (32 : Nat) "com/example/libreach/libreach/engine/StateLayout" "words" "I").before a0 Z = true := hw _ (List.mem_of_getElem? (i := 33) rfl)
theorem wd_34 {Z : State} {a0 : Array Value} (hw : ∀ d ∈ tables_1, d.before a0 Z = true) : (Jvm.Cond.laysFinal "com/example/libreach/libreach/engine/StateLayout" "com/example/libreach/libreach/engine/StateLayout" "words" "I").before a0 Z = true := hw _ (List.mem_of_getElem? (i := 34) rfl)
theorem wd_35 {Z : State} {a0 : Array Value} (hw : ∀ d ∈ tables_1, d.before a0 Z = true) : (Jvm.Cond.methodLink "com/example/libreach/libreach/engine/StateLayout" (36 : Nat) ({ cls := "java/util/Arrays", name := "copyOf", desc := "([II)[I" } : Jvm.MethodName)).before a0 Z = true := hw _ (List.mem_of_getElem? (i := 35) rfl)
theorem wd_36 {Z : State} {a0 : Array Value} (hw : ∀ d ∈ tables_1, d.before a0 Z = true) : (Jvm.Cond.static ({ cls := "java/util/Arrays", name := "copyOf", desc := "([II)[I" } : Jvm.MethodName)).before a0 Z = true := hw _ (List.mem_of_getElem? (i := 36) rfl)
theorem wd_37 {Z : State} {a0 : Array Value} (hw : ∀ d ∈ tables_1, d.before a0 Z = true) : (Jvm.Cond.initialized "java/util/Arrays").before a0 Z = true := hw _ (List.mem_of_getElem? (i := 37) rfl)
theorem wd_38 {Z : State} {a0 : Array Value} (hw : ∀ d ∈ tables_1, d.before a0 Z = true) : (Jvm.Cond.code ({ cls := "java/util/Arrays", name := "copyOf", desc := "([II)[I" } : Jvm.MethodName) jdk_65_method_123_code (3 : Nat) (Option.some (Jvm.ClassFile.FieldType.array Jvm.ClassFile.FieldType.int))).before a0 Z = true := hw _ (List.mem_of_getElem? (i := 38) rfl)
theorem wd_39 {Z : State} {a0 : Array Value} (hw : ∀ d ∈ tables_1, d.before a0 Z = true) : (Jvm.Cond.methodLink "java/util/Arrays" (316 : Nat) ({ cls := "[I", name := "clone", desc := "()Ljava/lang/Object;" } : Jvm.MethodName)).before a0 Z = true := hw _ (List.mem_of_getElem? (i := 39) rfl)
theorem wd_40 {Z : State} {a0 : Array Value} (hw : ∀ d ∈ tables_1, d.before a0 Z = true) : (Jvm.Cond.classLink "java/util/Arrays" (317 : Nat) "[I").before a0 Z = true := hw _ (List.mem_of_getElem? (i := 40) rfl)
theorem wd_41 {Z : State} {a0 : Array Value} (hw : ∀ d ∈ tables_1, d.before a0 Z = true) : (Jvm.Cond.fieldLink "com/example/libreach/libreach/engine/StateLayout" (42 : Nat) "com/example/libreach/libreach/engine/StateLayout" "runs" "[I").before a0 Z = true := hw _ (List.mem_of_getElem? (i := 41) rfl)
theorem wd_42 {Z : State} {a0 : Array Value} (hw : ∀ d ∈ tables_1, d.before a0 Z = true) : (Jvm.Cond.laysFinal "com/example/libreach/libreach/engine/StateLayout" "com/example/libreach/libreach/engine/StateLayout" "runs" "[I").before a0 Z = true := hw _ (List.mem_of_getElem? (i := 42) rfl)
theorem wd_43 {Z : State} {a0 : Array Value} (hw : ∀ d ∈ tables_1, d.before a0 Z = true) : (Jvm.Cond.constantLong "com/example/libreach/libreach/engine/StateLayoutUnpackPinLaw" (18 : Nat) (-1 : Int64)).before a0 Z = true := hw _ (List.mem_of_getElem? (i := 43) rfl)
theorem wd_44 {Z : State} {a0 : Array Value} (hw : ∀ d ∈ tables_1, d.before a0 Z = true) : (Jvm.Cond.constantLong "com/example/libreach/libreach/engine/StateLayoutUnpackPinLaw" (20 : Nat) (-7 : Int64)).before a0 Z = true := hw _ (List.mem_of_getElem? (i := 44) rfl)
theorem wd_45 {Z : State} {a0 : Array Value} (hw : ∀ d ∈ tables_1, d.before a0 Z = true) : (Jvm.Cond.methodLink "com/example/libreach/libreach/engine/StateLayoutUnpackPinLaw" (22 : Nat) ({ cls := "com/example/libreach/libreach/engine/StateLayout", name := "unpack", desc := "([JI[J)V" } : Jvm.MethodName)).before a0 Z = true := hw _ (List.mem_of_getElem? (i := 45) rfl)
theorem wd_46 {Z : State} {a0 : Array Value} (hw : ∀ d ∈ tables_1, d.before a0 Z = true) : (Jvm.Cond.declares ({ cls := "com/example/libreach/libreach/engine/StateLayout", name := "unpack", desc := "([JI[J)V" } : Jvm.MethodName)).before a0 Z = true := hw _ (List.mem_of_getElem? (i := 46) rfl)
theorem wd_47 {Z : State} {a0 : Array Value} (hw : ∀ d ∈ tables_1, d.before a0 Z = true) : (Jvm.Cond.instanceMethod ({ cls := "com/example/libreach/libreach/engine/StateLayout", name := "unpack", desc := "([JI[J)V" } : Jvm.MethodName)).before a0 Z = true := hw _ (List.mem_of_getElem? (i := 47) rfl)
theorem wd_48 {Z : State} {a0 : Array Value} (hw : ∀ d ∈ tables_1, d.before a0 Z = true) : (Jvm.Cond.selects "com/example/libreach/libreach/engine/StateLayout" ({ cls := "com/example/libreach/libreach/engine/StateLayout", name := "unpack", desc := "([JI[J)V" } : Jvm.MethodName) ({ cls := "com/example/libreach/libreach/engine/StateLayout", name := "unpack", desc := "([JI[J)V" } : Jvm.MethodName)).before a0 Z = true := hw _ (List.mem_of_getElem? (i := 48) rfl)
theorem wd_49 {Z : State} {a0 : Array Value} (hw : ∀ d ∈ tables_1, d.before a0 Z = true) : (Jvm.Cond.code ({ cls := "com/example/libreach/libreach/engine/StateLayout", name := "unpack", desc := "([JI[J)V" } : Jvm.MethodName) prog_17_method_8_code (12 : Nat) (Option.none : Option Jvm.ClassFile.FieldType)).before a0 Z = true := hw _ (List.mem_of_getElem? (i := 49) rfl)
theorem wd_50 {Z : State} {a0 : Array Value} (hw : ∀ d ∈ tables_1, d.before a0 Z = true) : (Jvm.Cond.methodLink "com/example/libreach/libreach/engine/StateLayoutUnpackPinLaw" (26 : Nat) ({ cls := "com/example/libreach/libreach/engine/StateLayoutUnpackPinLaw", name := "field", desc := "(JII)J" } : Jvm.MethodName)).before a0 Z = true := hw _ (List.mem_of_getElem? (i := 50) rfl)
theorem wd_51 {Z : State} {a0 : Array Value} (hw : ∀ d ∈ tables_1, d.before a0 Z = true) : (Jvm.Cond.static ({ cls := "com/example/libreach/libreach/engine/StateLayoutUnpackPinLaw", name := "field", desc := "(JII)J" } : Jvm.MethodName)).before a0 Z = true := hw _ (List.mem_of_getElem? (i := 51) rfl)
theorem wd_52 {Z : State} {a0 : Array Value} (hw : ∀ d ∈ tables_1, d.before a0 Z = true) : (Jvm.Cond.code ({ cls := "com/example/libreach/libreach/engine/StateLayoutUnpackPinLaw", name := "field", desc := "(JII)J" } : Jvm.MethodName) method_4_code (4 : Nat) (Option.some Jvm.ClassFile.FieldType.long)).before a0 Z = true := hw _ (List.mem_of_getElem? (i := 52) rfl)
theorem wd_53 {Z : State} {a0 : Array Value} (hw : ∀ d ∈ tables_1, d.before a0 Z = true) : (Jvm.Cond.methodLink "java/util/Arrays" (304 : Nat) ({ cls := "java/lang/Math", name := "min", desc := "(II)I" } : Jvm.MethodName)).before a0 Z = true := hw _ (List.mem_of_getElem? (i := 53) rfl)
theorem wd_54 {Z : State} {a0 : Array Value} (hw : ∀ d ∈ tables_1, d.before a0 Z = true) : (Jvm.Cond.static ({ cls := "java/lang/Math", name := "min", desc := "(II)I" } : Jvm.MethodName)).before a0 Z = true := hw _ (List.mem_of_getElem? (i := 54) rfl)
theorem wd_55 {Z : State} {a0 : Array Value} (hw : ∀ d ∈ tables_1, d.before a0 Z = true) : (Jvm.Cond.initialized "java/lang/Math").before a0 Z = true := hw _ (List.mem_of_getElem? (i := 55) rfl)
theorem wd_56 {Z : State} {a0 : Array Value} (hw : ∀ d ∈ tables_1, d.before a0 Z = true) : (Jvm.Cond.code ({ cls := "java/lang/Math", name := "min", desc := "(II)I" } : Jvm.MethodName) jdk_29_method_69_code (2 : Nat) (Option.some Jvm.ClassFile.FieldType.int)).before a0 Z = true := hw _ (List.mem_of_getElem? (i := 56) rfl)
theorem wd_57 {Z : State} {a0 : Array Value} (hw : ∀ d ∈ tables_1, d.before a0 Z = true) : (Jvm.Cond.methodLink "java/util/Arrays" (150 : Nat) ({ cls := "java/lang/System", name := "arraycopy", desc := "(Ljava/lang/Object;ILjava/lang/Object;II)V" } : Jvm.MethodName)).before a0 Z = true := hw _ (List.mem_of_getElem? (i := 57) rfl)
theorem wd_58 {Z : State} {a0 : Array Value} (hw : ∀ d ∈ tables_1, d.before a0 Z = true) : (Jvm.Cond.static ({ cls := "java/lang/System", name := "arraycopy", desc := "(Ljava/lang/Object;ILjava/lang/Object;II)V" } : Jvm.MethodName)).before a0 Z = true := hw _ (List.mem_of_getElem? (i := 58) rfl)
theorem wd_59 {Z : State} {a0 : Array Value} (hw : ∀ d ∈ tables_1, d.before a0 Z = true) : (Jvm.Cond.initialized "java/lang/System").before a0 Z = true := hw _ (List.mem_of_getElem? (i := 59) rfl)
theorem wd_60 {Z : State} {a0 : Array Value} (hw : ∀ d ∈ tables_1, d.before a0 Z = true) : (Jvm.Cond.native ({ cls := "java/lang/System", name := "arraycopy", desc := "(Ljava/lang/Object;ILjava/lang/Object;II)V" } : Jvm.MethodName)).before a0 Z = true := hw _ (List.mem_of_getElem? (i := 60) rfl)
theorem ef_rm7 : ∀ (m : MethodId) (xa : Int32) (xb : Int32), entryFrame m #[(.int xa), (.int xb)] 2 = mkF m 0 #[.val (.int xa), .val (.int xb)] [] := by intros; first | (simp [entryFrame, mkF, argsToLocals, Value.category]; done) | rfl
theorem d7_0 : decode jdk_29_method_69_code 0 = .ok (.iload_n 0, 1) := by decide +kernel
theorem d7_1 : decode jdk_29_method_69_code 1 = .ok (.iload_n 1, 1) := by decide +kernel
theorem d7_2 : decode jdk_29_method_69_code 2 = .ok (.if_icmp .gt 7, 3) := by decide +kernel
theorem d7_9 : decode jdk_29_method_69_code 9 = .ok (.iload_n 1, 1) := by decide +kernel
theorem d7_10 : decode jdk_29_method_69_code 10 = .ok (.ireturn, 1) := by decide +kernel
theorem d7_5 : decode jdk_29_method_69_code 5 = .ok (.iload_n 0, 1) := by decide +kernel
theorem d7_6 : decode jdk_29_method_69_code 6 = .ok (.goto 4, 3) := by decide +kernel
theorem ef_rm1 : ∀ (m : MethodId) (xa : Int32), entryFrame m #[(.int xa)] 2 = mkF m 0 #[.val (.int xa), .unset] [] := by intros; first | (simp [entryFrame, mkF, argsToLocals, Value.category]; done) | rfl
theorem d1_0 : decode method_3_code 0 = .ok (.iload_n 0, 1) := by decide +kernel
theorem d1_1 : decode method_3_code 1 = .ok (.bipush 63, 2) := by decide +kernel
theorem d1_3 : decode method_3_code 3 = .ok (.iand, 1) := by decide +kernel
theorem d1_4 : decode method_3_code 4 = .ok (.istore_n 1, 1) := by decide +kernel
theorem d1_5 : decode method_3_code 5 = .ok (.iload_n 1, 1) := by decide +kernel
theorem d1_6 : decode method_3_code 6 = .ok (.ifCond .ne 8, 3) := by decide +kernel
theorem d1_9 : decode method_3_code 9 = .ok (.bipush 63, 2) := by decide +kernel
theorem d1_11 : decode method_3_code 11 = .ok (.goto 4, 3) := by decide +kernel
theorem d1_15 : decode method_3_code 15 = .ok (.ireturn, 1) := by decide +kernel
theorem d1_14 : decode method_3_code 14 = .ok (.iload_n 1, 1) := by decide +kernel
theorem pn_1 : plainName "com/example/libreach/libreach/engine/StateLayoutUnpackPinLaw" = true := by first | (simp [plainName, overriddenIn]; done) | decide +kernel
theorem ef_rm6 : ∀ (m : MethodId) (qa : Int64) (xs : Int32) (xn : Int32), entryFrame m #[(.long qa), (.int xs), (.int xn)] 4 = mkF m 0 #[.val (.long qa), .second, .val (.int xs), .val (.int xn)] [] := by intros; first | (simp [entryFrame, mkF, argsToLocals, Value.category]; done) | rfl
theorem d6_0 : decode method_4_code 0 = .ok (.lload_n 0, 1) := by decide +kernel
theorem d6_1 : decode method_4_code 1 = .ok (.iload_n 2, 1) := by decide +kernel
theorem d6_2 : decode method_4_code 2 = .ok (.lushr, 1) := by decide +kernel
theorem d6_3 : decode method_4_code 3 = .ok (.lconst 1, 1) := by decide +kernel
theorem d6_4 : decode method_4_code 4 = .ok (.iload_n 3, 1) := by decide +kernel
theorem d6_5 : decode method_4_code 5 = .ok (.lshl, 1) := by decide +kernel
theorem d6_6 : decode method_4_code 6 = .ok (.lconst 1, 1) := by decide +kernel
theorem d6_7 : decode method_4_code 7 = .ok (.lsub, 1) := by decide +kernel
theorem d6_8 : decode method_4_code 8 = .ok (.land, 1) := by decide +kernel
theorem d6_9 : decode method_4_code 9 = .ok (.lreturn, 1) := by decide +kernel
theorem pn_6 : plainName "com/example/libreach/libreach/engine/StateLayoutUnpackPinLaw" = true := by first | (simp [plainName, overriddenIn]; done) | decide +kernel
theorem ef_rm4_2 : ∀ (m : MethodId) (oa : Addr), entryFrame m #[(.ref oa), (.int (2 : Int32))] 3 = mkF m 0 #[.val (.ref oa), .val (.int (2 : Int32)), .unset] [] := by intros; first | (simp [entryFrame, mkF, argsToLocals, Value.category]; done) | rfl
theorem d4_0 : decode jdk_65_method_123_code 0 = .ok (.iload_n 1, 1) := by decide +kernel
theorem d4_1 : decode jdk_65_method_123_code 1 = .ok (.aload_n 0, 1) := by decide +kernel
theorem d4_2 : decode jdk_65_method_123_code 2 = .ok (.arraylength, 1) := by decide +kernel
theorem d4_3 : decode jdk_65_method_123_code 3 = .ok (.if_icmp .ne 11, 3) := by decide +kernel
theorem d4_14 : decode jdk_65_method_123_code 14 = .ok (.iload_n 1, 1) := by decide +kernel
theorem d4_15 : decode jdk_65_method_123_code 15 = .ok (.newarray .int, 2) := by decide +kernel
theorem d4_17 : decode jdk_65_method_123_code 17 = .ok (.astore_n 2, 1) := by decide +kernel
theorem d4_18 : decode jdk_65_method_123_code 18 = .ok (.aload_n 0, 1) := by decide +kernel
theorem d4_19 : decode jdk_65_method_123_code 19 = .ok (.iconst 0, 1) := by decide +kernel
theorem d4_20 : decode jdk_65_method_123_code 20 = .ok (.aload_n 2, 1) := by decide +kernel
theorem d4_21 : decode jdk_65_method_123_code 21 = .ok (.iconst 0, 1) := by decide +kernel
theorem d4_22 : decode jdk_65_method_123_code 22 = .ok (.aload_n 0, 1) := by decide +kernel
theorem d4_23 : decode jdk_65_method_123_code 23 = .ok (.arraylength, 1) := by decide +kernel
theorem d4_24 : decode jdk_65_method_123_code 24 = .ok (.iload_n 1, 1) := by decide +kernel
theorem pd_0 : parseMethodDescriptor "(II)I" = some ⟨[.int, .int], some .int⟩ := by decide +kernel
theorem d4_25 : decode jdk_65_method_123_code 25 = .ok (.invokestatic 304, 3) := by decide +kernel
theorem d4_28 : decode jdk_65_method_123_code 28 = .ok (.invokestatic 150, 3) := by decide +kernel
theorem d4_31 : decode jdk_65_method_123_code 31 = .ok (.aload_n 2, 1) := by decide +kernel
theorem d4_32 : decode jdk_65_method_123_code 32 = .ok (.areturn, 1) := by decide +kernel
theorem pn_4 : plainName "java/util/Arrays" = true := by first | (simp [plainName, overriddenIn]; done) | decide +kernel
theorem ef_rm4_3 : ∀ (m : MethodId) (oa : Addr), entryFrame m #[(.ref oa), (.int (3 : Int32))] 3 = mkF m 0 #[.val (.ref oa), .val (.int (3 : Int32)), .unset] [] := by intros; first | (simp [entryFrame, mkF, argsToLocals, Value.category]; done) | rfl
theorem ef_rm4_4 : ∀ (m : MethodId) (oa : Addr), entryFrame m #[(.ref oa), (.int (4 : Int32))] 3 = mkF m 0 #[.val (.ref oa), .val (.int (4 : Int32)), .unset] [] := by intros; first | (simp [entryFrame, mkF, argsToLocals, Value.category]; done) | rfl
theorem ef_rm4_5 : ∀ (m : MethodId) (oa : Addr), entryFrame m #[(.ref oa), (.int (5 : Int32))] 3 = mkF m 0 #[.val (.ref oa), .val (.int (5 : Int32)), .unset] [] := by intros; first | (simp [entryFrame, mkF, argsToLocals, Value.category]; done) | rfl
theorem d4_6 : decode jdk_65_method_123_code 6 = .ok (.aload_n 0, 1) := by decide +kernel
theorem d4_7 : decode jdk_65_method_123_code 7 = .ok (.invokevirtual 316, 3) := by decide +kernel
theorem d4_10 : decode jdk_65_method_123_code 10 = .ok (.checkcast 317, 3) := by decide +kernel
theorem d4_13 : decode jdk_65_method_123_code 13 = .ok (.areturn, 1) := by decide +kernel
theorem ef_rm2 : ∀ (m : MethodId) (oa : Addr) (ob : Addr), entryFrame m #[(.ref oa), (.ref ob)] 7 = mkF m 0 #[.val (.ref oa), .val (.ref ob), .unset, .unset, .unset, .unset, .unset] [] := by intros; first | (simp [entryFrame, mkF, argsToLocals, Value.category]; done) | rfl
theorem d2_0 : decode prog_17_method_1_code 0 = .ok (.aload_n 0, 1) := by decide +kernel
theorem d2_1 : decode prog_17_method_1_code 1 = .ok (.invokespecial 1, 3) := by decide +kernel
theorem d2_4 : decode prog_17_method_1_code 4 = .ok (.aload_n 0, 1) := by decide +kernel
theorem d2_5 : decode prog_17_method_1_code 5 = .ok (.aload_n 1, 1) := by decide +kernel
theorem d2_6 : decode prog_17_method_1_code 6 = .ok (.invokevirtual 7, 3) := by decide +kernel
theorem d2_9 : decode prog_17_method_1_code 9 = .ok (.checkcast 8, 3) := by decide +kernel
theorem d2_12 : decode prog_17_method_1_code 12 = .ok (.putfield 13, 3) := by decide +kernel
theorem d2_15 : decode prog_17_method_1_code 15 = .ok (.aload_n 0, 1) := by decide +kernel
theorem d2_16 : decode prog_17_method_1_code 16 = .ok (.aload_n 1, 1) := by decide +kernel
theorem d2_17 : decode prog_17_method_1_code 17 = .ok (.arraylength, 1) := by decide +kernel
theorem d2_18 : decode prog_17_method_1_code 18 = .ok (.newarray .int, 2) := by decide +kernel
theorem d2_20 : decode prog_17_method_1_code 20 = .ok (.putfield 18, 3) := by decide +kernel
theorem d2_23 : decode prog_17_method_1_code 23 = .ok (.aload_n 0, 1) := by decide +kernel
theorem d2_24 : decode prog_17_method_1_code 24 = .ok (.aload_n 1, 1) := by decide +kernel
theorem d2_25 : decode prog_17_method_1_code 25 = .ok (.arraylength, 1) := by decide +kernel
theorem d2_26 : decode prog_17_method_1_code 26 = .ok (.newarray .int, 2) := by decide +kernel
theorem d2_28 : decode prog_17_method_1_code 28 = .ok (.putfield 21, 3) := by decide +kernel
theorem d2_31 : decode prog_17_method_1_code 31 = .ok (.aload_n 0, 1) := by decide +kernel
theorem d2_32 : decode prog_17_method_1_code 32 = .ok (.aload_n 1, 1) := by decide +kernel
theorem d2_33 : decode prog_17_method_1_code 33 = .ok (.arraylength, 1) := by decide +kernel
theorem d2_34 : decode prog_17_method_1_code 34 = .ok (.newarray .long, 2) := by decide +kernel
theorem d2_36 : decode prog_17_method_1_code 36 = .ok (.putfield 24, 3) := by decide +kernel
theorem d2_39 : decode prog_17_method_1_code 39 = .ok (.iconst 0, 1) := by decide +kernel
theorem d2_40 : decode prog_17_method_1_code 40 = .ok (.istore_n 2, 1) := by decide +kernel
theorem d2_41 : decode prog_17_method_1_code 41 = .ok (.iconst 0, 1) := by decide +kernel
theorem d2_42 : decode prog_17_method_1_code 42 = .ok (.istore_n 3, 1) := by decide +kernel
theorem d2_43 : decode prog_17_method_1_code 43 = .ok (.iconst 0, 1) := by decide +kernel
theorem d2_44 : decode prog_17_method_1_code 44 = .ok (.istore 4, 2) := by decide +kernel
theorem d2_46 : decode prog_17_method_1_code 46 = .ok (.iload 4, 2) := by decide +kernel
theorem d2_48 : decode prog_17_method_1_code 48 = .ok (.aload_n 1, 1) := by decide +kernel
theorem d2_49 : decode prog_17_method_1_code 49 = .ok (.arraylength, 1) := by decide +kernel
theorem d2_50 : decode prog_17_method_1_code 50 = .ok (.if_icmp .ge 66, 3) := by decide +kernel
theorem d2_53 : decode prog_17_method_1_code 53 = .ok (.iload_n 3, 1) := by decide +kernel
theorem d2_54 : decode prog_17_method_1_code 54 = .ok (.aload_n 1, 1) := by decide +kernel
theorem d2_55 : decode prog_17_method_1_code 55 = .ok (.iload 4, 2) := by decide +kernel
theorem d2_57 : decode prog_17_method_1_code 57 = .ok (.iaload, 1) := by decide +kernel
theorem d2_58 : decode prog_17_method_1_code 58 = .ok (.iadd, 1) := by decide +kernel
theorem d2_59 : decode prog_17_method_1_code 59 = .ok (.bipush 64, 2) := by decide +kernel
theorem d2_61 : decode prog_17_method_1_code 61 = .ok (.if_icmp .le 8, 3) := by decide +kernel
theorem d2_69 : decode prog_17_method_1_code 69 = .ok (.aload_n 0, 1) := by decide +kernel
theorem d2_70 : decode prog_17_method_1_code 70 = .ok (.getfield 18, 3) := by decide +kernel
theorem d2_73 : decode prog_17_method_1_code 73 = .ok (.iload 4, 2) := by decide +kernel
theorem d2_75 : decode prog_17_method_1_code 75 = .ok (.iload_n 2, 1) := by decide +kernel
theorem d2_76 : decode prog_17_method_1_code 76 = .ok (.iastore, 1) := by decide +kernel
theorem d2_77 : decode prog_17_method_1_code 77 = .ok (.aload_n 0, 1) := by decide +kernel
theorem d2_78 : decode prog_17_method_1_code 78 = .ok (.getfield 21, 3) := by decide +kernel
theorem d2_81 : decode prog_17_method_1_code 81 = .ok (.iload 4, 2) := by decide +kernel
theorem d2_83 : decode prog_17_method_1_code 83 = .ok (.iload_n 3, 1) := by decide +kernel
theorem d2_84 : decode prog_17_method_1_code 84 = .ok (.iastore, 1) := by decide +kernel
theorem d2_85 : decode prog_17_method_1_code 85 = .ok (.aload_n 0, 1) := by decide +kernel
theorem d2_86 : decode prog_17_method_1_code 86 = .ok (.getfield 24, 3) := by decide +kernel
theorem d2_89 : decode prog_17_method_1_code 89 = .ok (.iload 4, 2) := by decide +kernel
theorem d2_91 : decode prog_17_method_1_code 91 = .ok (.ldc2_w 30, 3) := by decide +kernel
theorem d2_94 : decode prog_17_method_1_code 94 = .ok (.bipush 64, 2) := by decide +kernel
theorem d2_96 : decode prog_17_method_1_code 96 = .ok (.aload_n 1, 1) := by decide +kernel
theorem d2_97 : decode prog_17_method_1_code 97 = .ok (.iload 4, 2) := by decide +kernel
theorem d2_99 : decode prog_17_method_1_code 99 = .ok (.iaload, 1) := by decide +kernel
theorem d2_100 : decode prog_17_method_1_code 100 = .ok (.isub, 1) := by decide +kernel
theorem d2_101 : decode prog_17_method_1_code 101 = .ok (.lushr, 1) := by decide +kernel
theorem d2_102 : decode prog_17_method_1_code 102 = .ok (.lastore, 1) := by decide +kernel
theorem d2_103 : decode prog_17_method_1_code 103 = .ok (.iload_n 3, 1) := by decide +kernel
theorem d2_104 : decode prog_17_method_1_code 104 = .ok (.aload_n 1, 1) := by decide +kernel
theorem d2_105 : decode prog_17_method_1_code 105 = .ok (.iload 4, 2) := by decide +kernel
theorem d2_107 : decode prog_17_method_1_code 107 = .ok (.iaload, 1) := by decide +kernel
theorem d2_108 : decode prog_17_method_1_code 108 = .ok (.iadd, 1) := by decide +kernel
theorem d2_109 : decode prog_17_method_1_code 109 = .ok (.istore_n 3, 1) := by decide +kernel
theorem d2_110 : decode prog_17_method_1_code 110 = .ok (.iinc 4 1, 3) := by decide +kernel
theorem d2_113 : decode prog_17_method_1_code 113 = .ok (.goto (-67), 3) := by decide +kernel
theorem d2_116 : decode prog_17_method_1_code 116 = .ok (.aload_n 0, 1) := by decide +kernel
theorem d2_117 : decode prog_17_method_1_code 117 = .ok (.aload_n 1, 1) := by decide +kernel
theorem d2_118 : decode prog_17_method_1_code 118 = .ok (.arraylength, 1) := by decide +kernel
theorem d2_119 : decode prog_17_method_1_code 119 = .ok (.ifCond .ne 7, 3) := by decide +kernel
theorem d2_126 : decode prog_17_method_1_code 126 = .ok (.iload_n 2, 1) := by decide +kernel
theorem d2_127 : decode prog_17_method_1_code 127 = .ok (.iconst 1, 1) := by decide +kernel
theorem d2_128 : decode prog_17_method_1_code 128 = .ok (.iadd, 1) := by decide +kernel
theorem d2_129 : decode prog_17_method_1_code 129 = .ok (.putfield 32, 3) := by decide +kernel
theorem d2_132 : decode prog_17_method_1_code 132 = .ok (.iconst 0, 1) := by decide +kernel
theorem d2_133 : decode prog_17_method_1_code 133 = .ok (.istore 4, 2) := by decide +kernel
theorem d2_135 : decode prog_17_method_1_code 135 = .ok (.aload_n 1, 1) := by decide +kernel
theorem d2_136 : decode prog_17_method_1_code 136 = .ok (.arraylength, 1) := by decide +kernel
theorem d2_137 : decode prog_17_method_1_code 137 = .ok (.iconst 1, 1) := by decide +kernel
theorem d2_138 : decode prog_17_method_1_code 138 = .ok (.iadd, 1) := by decide +kernel
theorem d2_139 : decode prog_17_method_1_code 139 = .ok (.newarray .int, 2) := by decide +kernel
theorem d2_141 : decode prog_17_method_1_code 141 = .ok (.astore 5, 2) := by decide +kernel
theorem d2_143 : decode prog_17_method_1_code 143 = .ok (.iconst 0, 1) := by decide +kernel
theorem d2_144 : decode prog_17_method_1_code 144 = .ok (.istore 6, 2) := by decide +kernel
theorem d2_146 : decode prog_17_method_1_code 146 = .ok (.iload 6, 2) := by decide +kernel
theorem d2_148 : decode prog_17_method_1_code 148 = .ok (.aload_n 1, 1) := by decide +kernel
theorem d2_149 : decode prog_17_method_1_code 149 = .ok (.arraylength, 1) := by decide +kernel
theorem d2_150 : decode prog_17_method_1_code 150 = .ok (.if_icmp .ge 56, 3) := by decide +kernel
theorem d2_153 : decode prog_17_method_1_code 153 = .ok (.iload 6, 2) := by decide +kernel
theorem d2_155 : decode prog_17_method_1_code 155 = .ok (.ifCond .eq 35, 3) := by decide +kernel
theorem d2_190 : decode prog_17_method_1_code 190 = .ok (.aload 5, 2) := by decide +kernel
theorem d2_192 : decode prog_17_method_1_code 192 = .ok (.iload 4, 2) := by decide +kernel
theorem d2_194 : decode prog_17_method_1_code 194 = .ok (.iinc 4 1, 3) := by decide +kernel
theorem d2_197 : decode prog_17_method_1_code 197 = .ok (.iload 6, 2) := by decide +kernel
theorem d2_199 : decode prog_17_method_1_code 199 = .ok (.iastore, 1) := by decide +kernel
theorem d2_200 : decode prog_17_method_1_code 200 = .ok (.iinc 6 1, 3) := by decide +kernel
theorem d2_203 : decode prog_17_method_1_code 203 = .ok (.goto (-57), 3) := by decide +kernel
theorem d2_158 : decode prog_17_method_1_code 158 = .ok (.aload_n 0, 1) := by decide +kernel
theorem d2_159 : decode prog_17_method_1_code 159 = .ok (.getfield 18, 3) := by decide +kernel
theorem d2_162 : decode prog_17_method_1_code 162 = .ok (.iload 6, 2) := by decide +kernel
theorem d2_164 : decode prog_17_method_1_code 164 = .ok (.iaload, 1) := by decide +kernel
theorem d2_165 : decode prog_17_method_1_code 165 = .ok (.aload_n 0, 1) := by decide +kernel
theorem d2_166 : decode prog_17_method_1_code 166 = .ok (.getfield 18, 3) := by decide +kernel
theorem d2_169 : decode prog_17_method_1_code 169 = .ok (.iload 6, 2) := by decide +kernel
theorem d2_171 : decode prog_17_method_1_code 171 = .ok (.iconst 1, 1) := by decide +kernel
theorem d2_172 : decode prog_17_method_1_code 172 = .ok (.isub, 1) := by decide +kernel
theorem d2_173 : decode prog_17_method_1_code 173 = .ok (.iaload, 1) := by decide +kernel
theorem d2_174 : decode prog_17_method_1_code 174 = .ok (.if_icmp .ne 16, 3) := by decide +kernel
theorem d2_177 : decode prog_17_method_1_code 177 = .ok (.aload_n 1, 1) := by decide +kernel
theorem d2_178 : decode prog_17_method_1_code 178 = .ok (.iload 6, 2) := by decide +kernel
theorem d2_180 : decode prog_17_method_1_code 180 = .ok (.iaload, 1) := by decide +kernel
theorem d2_181 : decode prog_17_method_1_code 181 = .ok (.aload_n 1, 1) := by decide +kernel
theorem d2_182 : decode prog_17_method_1_code 182 = .ok (.iload 6, 2) := by decide +kernel
theorem d2_184 : decode prog_17_method_1_code 184 = .ok (.iconst 1, 1) := by decide +kernel
theorem d2_185 : decode prog_17_method_1_code 185 = .ok (.isub, 1) := by decide +kernel
theorem d2_186 : decode prog_17_method_1_code 186 = .ok (.iaload, 1) := by decide +kernel
theorem d2_187 : decode prog_17_method_1_code 187 = .ok (.if_icmp .eq 13, 3) := by decide +kernel
theorem d2_206 : decode prog_17_method_1_code 206 = .ok (.aload 5, 2) := by decide +kernel
theorem d2_208 : decode prog_17_method_1_code 208 = .ok (.iload 4, 2) := by decide +kernel
theorem d2_210 : decode prog_17_method_1_code 210 = .ok (.iinc 4 1, 3) := by decide +kernel
theorem d2_213 : decode prog_17_method_1_code 213 = .ok (.aload_n 1, 1) := by decide +kernel
theorem d2_214 : decode prog_17_method_1_code 214 = .ok (.arraylength, 1) := by decide +kernel
theorem d2_215 : decode prog_17_method_1_code 215 = .ok (.iastore, 1) := by decide +kernel
theorem d2_216 : decode prog_17_method_1_code 216 = .ok (.aload_n 0, 1) := by decide +kernel
theorem d2_217 : decode prog_17_method_1_code 217 = .ok (.aload 5, 2) := by decide +kernel
theorem d2_219 : decode prog_17_method_1_code 219 = .ok (.iload 4, 2) := by decide +kernel
theorem pd_1 : parseMethodDescriptor "([II)[I" = some ⟨[(.array .int), .int], some (.array .int)⟩ := by decide +kernel
theorem d2_221 : decode prog_17_method_1_code 221 = .ok (.invokestatic 36, 3) := by decide +kernel
theorem d2_224 : decode prog_17_method_1_code 224 = .ok (.putfield 42, 3) := by decide +kernel
theorem d2_227 : decode prog_17_method_1_code 227 = .ok (.return_, 1) := by decide +kernel
theorem d2_64 : decode prog_17_method_1_code 64 = .ok (.iinc 2 1, 3) := by decide +kernel
theorem d2_67 : decode prog_17_method_1_code 67 = .ok (.iconst 0, 1) := by decide +kernel
theorem d2_68 : decode prog_17_method_1_code 68 = .ok (.istore_n 3, 1) := by decide +kernel
theorem pn_2 : plainName "com/example/libreach/libreach/engine/StateLayout" = true := by first | (simp [plainName, overriddenIn]; done) | decide +kernel
theorem ef_rm5 : ∀ (m : MethodId) (oa : Addr) (ob : Addr) (xf : Int32) (oc : Addr), entryFrame m #[(.ref oa), (.ref ob), (.int xf), (.ref oc)] 12 = mkF m 0 #[.val (.ref oa), .val (.ref ob), .val (.int xf), .val (.ref oc), .unset, .unset, .unset, .unset, .unset, .unset, .unset, .unset] [] := by intros; first | (simp [entryFrame, mkF, argsToLocals, Value.category]; done) | rfl
theorem d5_67 : decode prog_17_method_8_code 67 = .ok (.iload 11, 2) := by decide +kernel
theorem d5_69 : decode prog_17_method_8_code 69 = .ok (.aload_n 0, 1) := by decide +kernel
theorem d5_70 : decode prog_17_method_8_code 70 = .ok (.getfield 42, 3) := by decide +kernel
theorem d5_73 : decode prog_17_method_8_code 73 = .ok (.iload 4, 2) := by decide +kernel
theorem d5_75 : decode prog_17_method_8_code 75 = .ok (.iconst 1, 1) := by decide +kernel
theorem d5_76 : decode prog_17_method_8_code 76 = .ok (.iadd, 1) := by decide +kernel
theorem d5_77 : decode prog_17_method_8_code 77 = .ok (.iaload, 1) := by decide +kernel
theorem d5_78 : decode prog_17_method_8_code 78 = .ok (.if_icmp .ge 25, 3) := by decide +kernel
theorem d5_81 : decode prog_17_method_8_code 81 = .ok (.aload_n 3, 1) := by decide +kernel
theorem d5_82 : decode prog_17_method_8_code 82 = .ok (.iload 11, 2) := by decide +kernel
theorem d5_84 : decode prog_17_method_8_code 84 = .ok (.lload 9, 2) := by decide +kernel
theorem d5_86 : decode prog_17_method_8_code 86 = .ok (.lload 7, 2) := by decide +kernel
theorem d5_88 : decode prog_17_method_8_code 88 = .ok (.land, 1) := by decide +kernel
theorem d5_89 : decode prog_17_method_8_code 89 = .ok (.lastore, 1) := by decide +kernel
theorem d5_90 : decode prog_17_method_8_code 90 = .ok (.lload 9, 2) := by decide +kernel
theorem d5_92 : decode prog_17_method_8_code 92 = .ok (.iload 6, 2) := by decide +kernel
theorem d5_94 : decode prog_17_method_8_code 94 = .ok (.lushr, 1) := by decide +kernel
theorem d5_95 : decode prog_17_method_8_code 95 = .ok (.lstore 9, 2) := by decide +kernel
theorem d5_97 : decode prog_17_method_8_code 97 = .ok (.iinc 11 1, 3) := by decide +kernel
theorem d5_100 : decode prog_17_method_8_code 100 = .ok (.goto (-33), 3) := by decide +kernel
theorem d5_103 : decode prog_17_method_8_code 103 = .ok (.iinc 4 1, 3) := by decide +kernel
theorem d5_106 : decode prog_17_method_8_code 106 = .ok (.goto (-103), 3) := by decide +kernel
theorem d5_3 : decode prog_17_method_8_code 3 = .ok (.iload 4, 2) := by decide +kernel
theorem d5_5 : decode prog_17_method_8_code 5 = .ok (.aload_n 0, 1) := by decide +kernel
theorem d5_6 : decode prog_17_method_8_code 6 = .ok (.getfield 42, 3) := by decide +kernel
theorem d5_9 : decode prog_17_method_8_code 9 = .ok (.arraylength, 1) := by decide +kernel
theorem d5_10 : decode prog_17_method_8_code 10 = .ok (.iconst 1, 1) := by decide +kernel
theorem d5_11 : decode prog_17_method_8_code 11 = .ok (.isub, 1) := by decide +kernel
theorem d5_12 : decode prog_17_method_8_code 12 = .ok (.if_icmp .ge 97, 3) := by decide +kernel
theorem d5_109 : decode prog_17_method_8_code 109 = .ok (.return_, 1) := by decide +kernel
theorem d5_15 : decode prog_17_method_8_code 15 = .ok (.aload_n 0, 1) := by decide +kernel
theorem d5_16 : decode prog_17_method_8_code 16 = .ok (.getfield 42, 3) := by decide +kernel
theorem d5_19 : decode prog_17_method_8_code 19 = .ok (.iload 4, 2) := by decide +kernel
theorem d5_21 : decode prog_17_method_8_code 21 = .ok (.iaload, 1) := by decide +kernel
theorem d5_22 : decode prog_17_method_8_code 22 = .ok (.istore 5, 2) := by decide +kernel
theorem d5_24 : decode prog_17_method_8_code 24 = .ok (.aload_n 0, 1) := by decide +kernel
theorem d5_25 : decode prog_17_method_8_code 25 = .ok (.getfield 13, 3) := by decide +kernel
theorem d5_28 : decode prog_17_method_8_code 28 = .ok (.iload 5, 2) := by decide +kernel
theorem d5_30 : decode prog_17_method_8_code 30 = .ok (.iaload, 1) := by decide +kernel
theorem d5_31 : decode prog_17_method_8_code 31 = .ok (.istore 6, 2) := by decide +kernel
theorem d5_33 : decode prog_17_method_8_code 33 = .ok (.aload_n 0, 1) := by decide +kernel
theorem d5_34 : decode prog_17_method_8_code 34 = .ok (.getfield 24, 3) := by decide +kernel
theorem d5_37 : decode prog_17_method_8_code 37 = .ok (.iload 5, 2) := by decide +kernel
theorem d5_39 : decode prog_17_method_8_code 39 = .ok (.laload, 1) := by decide +kernel
theorem d5_40 : decode prog_17_method_8_code 40 = .ok (.lstore 7, 2) := by decide +kernel
theorem d5_42 : decode prog_17_method_8_code 42 = .ok (.aload_n 1, 1) := by decide +kernel
theorem d5_43 : decode prog_17_method_8_code 43 = .ok (.iload_n 2, 1) := by decide +kernel
theorem d5_44 : decode prog_17_method_8_code 44 = .ok (.aload_n 0, 1) := by decide +kernel
theorem d5_45 : decode prog_17_method_8_code 45 = .ok (.getfield 18, 3) := by decide +kernel
theorem d5_48 : decode prog_17_method_8_code 48 = .ok (.iload 5, 2) := by decide +kernel
theorem d5_50 : decode prog_17_method_8_code 50 = .ok (.iaload, 1) := by decide +kernel
theorem d5_51 : decode prog_17_method_8_code 51 = .ok (.iadd, 1) := by decide +kernel
theorem d5_52 : decode prog_17_method_8_code 52 = .ok (.laload, 1) := by decide +kernel
theorem d5_53 : decode prog_17_method_8_code 53 = .ok (.aload_n 0, 1) := by decide +kernel
theorem d5_54 : decode prog_17_method_8_code 54 = .ok (.getfield 21, 3) := by decide +kernel
theorem d5_57 : decode prog_17_method_8_code 57 = .ok (.iload 5, 2) := by decide +kernel
theorem d5_59 : decode prog_17_method_8_code 59 = .ok (.iaload, 1) := by decide +kernel
theorem d5_60 : decode prog_17_method_8_code 60 = .ok (.lushr, 1) := by decide +kernel
theorem d5_61 : decode prog_17_method_8_code 61 = .ok (.lstore 9, 2) := by decide +kernel
theorem d5_63 : decode prog_17_method_8_code 63 = .ok (.iload 5, 2) := by decide +kernel
theorem d5_65 : decode prog_17_method_8_code 65 = .ok (.istore 11, 2) := by decide +kernel
theorem d5_0 : decode prog_17_method_8_code 0 = .ok (.iconst 0, 1) := by decide +kernel
theorem d5_1 : decode prog_17_method_8_code 1 = .ok (.istore 4, 2) := by decide +kernel
theorem pn_5 : plainName "com/example/libreach/libreach/engine/StateLayout" = true := by first | (simp [plainName, overriddenIn]; done) | decide +kernel
theorem ef_rm0 : ∀ (m : MethodId) (xa : Int32) (xb : Int32) (s0 : Int64) (s1 : Int64) (s2 : Int64) (s3 : Int64), entryFrame m #[(.int xa), (.int xb), (.long s0), (.long s1), (.long s2), (.long s3)] maxLocals = mkF m 0 #[.val (.int xa), .val (.int xb), .val (.long s0), .second, .val (.long s1), .second, .val (.long s2), .second, .val (.long s3), .second, .unset, .unset, .unset, .unset, .unset, .unset, .unset, .unset, .unset, .unset, .unset, .unset, .unset, .unset, .unset, .unset, .unset, .unset] [] := by intros; first | (simp [entryFrame, mkF, argsToLocals, Value.category, maxLocals]; done) | rfl
theorem pd_2 : parseMethodDescriptor "([I)V" = some ⟨[(.array .int)], none⟩ := by decide +kernel
theorem pd_3 : parseMethodDescriptor "([JI[J)V" = some ⟨[(.array .long), .int, (.array .long)], none⟩ := by decide +kernel
theorem pd_4 : parseMethodDescriptor "(JII)J" = some ⟨[.long, .int, .int], some .long⟩ := by decide +kernel
theorem pd_5 : parseMethodDescriptor "(I)I" = some ⟨[.int], some .int⟩ := by decide +kernel
theorem pn_0 : plainName "com/example/libreach/libreach/engine/StateLayoutUnpackPinLaw" = true := by first | (simp [plainName, overriddenIn]; done) | decide +kernel
def FMin (a b : Int32) : Int32 := if b < a then b else a
def FWd (b : Int32) : Int32 := if b &&& 63 = 0 then 63 else b &&& 63
def FF (q : Int64) (s n : Int32) : Int64 := ((q.toUInt64 >>> (s &&& 0x3f).toInt64.toUInt64).toInt64) &&& (((1 : Int64) <<< (n &&& 0x3f).toInt64) - (1 : Int64))
def LI1 (a b : Int32) : Int32 := if (64 : Int32) < a + b then (1 : Int32) else (0 : Int32)
def LS1 (a b : Int32) : Int32 := if (64 : Int32) < a + b then (0 : Int32) else a
def LI2 (a b c : Int32) : Int32 := if (64 : Int32) < (LS1 a b + b) + c then LI1 a b + (1 : Int32) else LI1 a b
def LS2 (a b c : Int32) : Int32 := if (64 : Int32) < (LS1 a b + b) + c then (0 : Int32) else LS1 a b + b
def LI3 (a b c d : Int32) : Int32 := if (64 : Int32) < (LS2 a b c + c) + d then LI2 a b c + (1 : Int32) else LI2 a b c
def LS3 (a b c d : Int32) : Int32 := if (64 : Int32) < (LS2 a b c + c) + d then (0 : Int32) else LS2 a b c + c
def LM (w : Int32) : Int64 := (((-1 : Int64).toUInt64 >>> (((64 : Int32) - w) &&& 0x3f).toInt64.toUInt64).toInt64)
def SR (q : Int64) (s : Int32) : Int64 := ((q.toUInt64 >>> (s &&& 0x3f).toInt64.toUInt64).toInt64)
def XV (q : Int64) (s w : Int32) : Int64 := SR q s &&& LM w
def GW (i : Int32) (a b c d : Int64) : Int64 := if i = 0 then a else if i = 1 then b else if i = 2 then c else d
abbrev N1 (a b : Int32) : Prop := LI1 a b = (0 : Int32) ∧ b = a
abbrev N2 (a b c : Int32) : Prop := LI2 a b c = LI1 a b ∧ c = b
abbrev N3 (a b c d : Int32) : Prop := LI3 a b c d = LI2 a b c ∧ d = c
def GK1 (a b : Int32) : Int32 := if N1 a b then (0 : Int32) else (0 : Int32) + 1
def GK2 (a b c : Int32) : Int32 := if N2 a b c then GK1 a b else GK1 a b + 1
def GK3 (a b c d : Int32) : Int32 := if N3 a b c d then GK2 a b c else GK2 a b c + 1
def GE2 (a b c d : Int32) : Int32 := if N3 a b c d then (4 : Int32) else (3 : Int32)
def GE1 (a b c d : Int32) : Int32 := if N2 a b c then GE2 a b c d else (2 : Int32)
def GE0 (a b c d : Int32) : Int32 := if N1 a b then GE1 a b c d else (1 : Int32)
def RB (k len : Int32) : Prop := ¬ k < 0 ∧ k < len ∧ ¬ k + 1 < 0 ∧ k + 1 < len ∧ k < len - 1
def RunOK (a b c d : Int32) (rs : List Value) (len : Int32) : Prop :=
  rs.getD (0 : Int32).toNatClampNeg (.int (0 : Int32)) = .int 0 ∧ (¬ N1 a b → rs.getD (GK1 a b).toNatClampNeg (.int (0 : Int32)) = .int 1) ∧ (¬ N2 a b c → rs.getD (GK2 a b c).toNatClampNeg (.int (0 : Int32)) = .int 2) ∧ (¬ N3 a b c d → rs.getD (GK3 a b c d).toNatClampNeg (.int (0 : Int32)) = .int 3) ∧
  rs.getD ((0 : Int32) + 1).toNatClampNeg (.int (0 : Int32)) = .int (GE0 a b c d) ∧ rs.getD (GK1 a b + 1).toNatClampNeg (.int (0 : Int32)) = .int (GE1 a b c d) ∧ rs.getD (GK2 a b c + 1).toNatClampNeg (.int (0 : Int32)) = .int (GE2 a b c d) ∧ rs.getD (GK3 a b c d + 1).toNatClampNeg (.int (0 : Int32)) = .int 4 ∧
  RB (0 : Int32) len ∧ RB (GK1 a b) len ∧ RB (GK2 a b c) len ∧ RB (GK3 a b c d) len ∧ ¬ GK3 a b c d + 1 < len - 1
instance (k len : Int32) : Decidable (RB k len) := by unfold RB; infer_instance
theorem own_wr {w : Int32} (h : 0 < w.toInt ∧ w.toInt < 64) : ¬ (64 : Int32) < (0 : Int32) + w := by
  rw [Int32.zero_add, Int32.lt_iff_toInt_lt]
  simp only [Int32.reduceToInt]
  omega
theorem own_fw (b : Int32) : 0 < (FWd b).toInt ∧ (FWd b).toInt < 64 := by
  have e : (b &&& 63).toInt = b.toInt % (2 ^ 6 : Nat) := c_mask b 63 6 (by decide) (by decide)
  unfold FWd
  split
  · decide
  · rename_i h
    rw [← Int32.toInt_inj] at h
    simp only [Int32.reduceToInt] at h
    omega
theorem own_I1 (a b : Int32) : LI1 a b = 0 ∨ LI1 a b = 1 := by
  unfold LI1
  split <;> simp
theorem own_I2 (a b c : Int32) : LI2 a b c = 0 ∨ LI2 a b c = 1 ∨ LI2 a b c = 2 := by
  unfold LI2
  rcases own_I1 a b with h | h <;> rw [h] <;> split <;> decide
theorem own_I3 (a b c d : Int32) : LI3 a b c d = 0 ∨ LI3 a b c d = 1 ∨ LI3 a b c d = 2 ∨ LI3 a b c d = 3 := by
  unfold LI3
  rcases own_I2 a b c with h | h | h <;> rw [h] <;> split <;> decide
def IR (i : Int32) : Prop := i = 0 ∨ i = 1 ∨ i = 2 ∨ i = 3
theorem own_r0 : IR 0 := Or.inl rfl
theorem own_r1 (a b : Int32) : IR (LI1 a b) := by rcases own_I1 a b with h | h <;> rw [h] <;> simp [IR]
theorem own_r2 (a b c : Int32) : IR (LI2 a b c) := by rcases own_I2 a b c with h | h | h <;> rw [h] <;> simp [IR]
theorem own_r3 (a b c d : Int32) : IR (LI3 a b c d) := own_I3 a b c d
theorem own_lm : ∀ n : Fin 64, 0 < n.val → LM (Int32.ofNat n.val) = ((1 : Int64) <<< (Int32.ofNat n.val &&& 0x3f).toInt64) - (1 : Int64) := by decide +kernel
theorem own_ff {q : Int64} {s w : Int32} (h : 0 < w.toInt ∧ w.toInt < 64) : XV q s w = FF q s w := by
  have e : w = Int32.ofNat w.toInt.toNat := by
    apply Int32.toInt_inj.mp
    rw [Int32.toInt_ofNat_of_lt (by omega)]
    omega
  unfold XV FF SR
  rw [e, own_lm ⟨w.toInt.toNat, by omega⟩ (by show 0 < w.toInt.toNat; omega)]
def StOK (f : Int32) (vs : List Value) (a b c d : Int64) : Prop := ∀ i, IR i → (¬ f + i < 0 ∧ f + i < 8) ∧ vs.getD (f + i).toNatClampNeg (.long (0 : Int64)) = .long (GW i a b c d)
theorem own_st {f : Int32} (hf : f = 0 ∨ f = 1 ∨ f = 2 ∨ f = 3) (a b c d m : Int64) : StOK f (((((([.long m, .long m, .long m, .long m, .long m, .long m, .long m, .long m] : List Value).set f.toNatClampNeg (.long a)).set (f + 1).toNatClampNeg (.long b)).set (f + 2).toNatClampNeg (.long c)).set (f + 3).toNatClampNeg (.long d))) a b c d := by
  intro i hi
  rcases hf with rfl | rfl | rfl | rfl <;> rcases hi with rfl | rfl | rfl | rfl <;> exact ⟨by decide, rfl⟩
theorem own_f (b : Int32) : ((b.toUInt32 >>> ((3 : Int32) &&& 31).toUInt32).toInt32 &&& 3) = 0 ∨ ((b.toUInt32 >>> ((3 : Int32) &&& 31).toUInt32).toInt32 &&& 3) = 1 ∨ ((b.toUInt32 >>> ((3 : Int32) &&& 31).toUInt32).toInt32 &&& 3) = 2 ∨ ((b.toUInt32 >>> ((3 : Int32) &&& 31).toUInt32).toInt32 &&& 3) = 3 := by
  generalize (b.toUInt32 >>> ((3 : Int32) &&& 31).toUInt32).toInt32 = z
  have e : (z &&& 3).toInt = z.toInt % (2 ^ 2 : Nat) := c_mask z 3 2 (by decide) (by decide)
  generalize z &&& 3 = r at *
  simp only [← Int32.toInt_inj, Int32.reduceToInt]
  omega
theorem own_gv {i : Int32} (hi : IR i) (a b c d : Int64) : (¬ i < 0 ∧ i < 4) ∧ ([.long a, .long b, .long c, .long d] : List Value).getD i.toNatClampNeg (.long (0 : Int64)) = .long (GW i a b c d) := by
  rcases hi with rfl | rfl | rfl | rfl <;> exact ⟨by decide, rfl⟩
theorem own_e2 (a b c d : Int32) : (2 : Int32) < GE2 a b c d ∧ GE2 a b c d < 5 := by unfold GE2; split <;> decide
theorem own_e1 (a b c d : Int32) : (1 : Int32) < GE1 a b c d := by
  unfold GE1
  split
  · unfold GE2; split <;> decide
  · decide
theorem own_e0 (a b c d : Int32) : (0 : Int32) < GE0 a b c d := by
  unfold GE0
  split
  · unfold GE1; split
    · unfold GE2; split <;> decide
    · decide
  · decide
theorem own_un (z : Int32) (h0 : 0 ≤ z.toInt) (h1 : z.toInt < 64) : (z &&& 0x3f).toInt64.toUInt64.toNat = z.toInt.toNat := by
  have c : (z &&& 0x3f).toInt = z.toInt % (2 ^ 6 : Nat) := c_mask z 0x3f 6 (by decide) (by decide)
  have i := c_i2l (z &&& 0x3f)
  generalize (z &&& 0x3f).toInt64 = y at *
  have t : y.toInt = if 2 * y.toBitVec.toNat < 2 ^ 64 then (y.toBitVec.toNat : Int) else (y.toBitVec.toNat : Int) - (2 ^ 64 : Nat) := BitVec.toInt_eq_toNat_cond y.toBitVec
  show y.toBitVec.toNat = _
  split at t <;> omega
theorem own_srr (q : Int64) (s w : Int32) (hs : 0 ≤ s.toInt) (hw : 0 ≤ w.toInt) (h : s.toInt + w.toInt < 64) : SR (SR q s) w = SR q (s + w) := by
  have ha := c_iadd s w
  have hr := rng32 (s + w)
  have hsum : (s + w).toInt = s.toInt + w.toInt := by
    have := rng32 s
    omega
  have e1 := own_un s hs (by omega)
  have e2 := own_un w hw (by omega)
  have e3 := own_un (s + w) (by omega) (by omega)
  unfold SR
  generalize (s &&& 0x3f).toInt64.toUInt64 = a at *
  generalize (w &&& 0x3f).toInt64.toUInt64 = b at *
  generalize ((s + w) &&& 0x3f).toInt64.toUInt64 = c at *
  have e4 : (q.toUInt64 >>> a).toInt64.toUInt64 = q.toUInt64 >>> a := rfl
  rw [e4]
  congr 1
  apply UInt64.toNat_inj.mp
  rw [UInt64.toNat_shiftRight, UInt64.toNat_shiftRight, UInt64.toNat_shiftRight, ← Nat.shiftRight_add]
  congr 1
  omega
theorem own_S1 {a b : Int32} (h0 : 0 < a.toInt ∧ a.toInt < 64) : 0 ≤ (LS1 a b).toInt ∧ (LS1 a b).toInt < 64 := by
  unfold LS1
  split
  · decide
  · omega
theorem own_nw {s v w : Int32} (hs : 0 ≤ s.toInt ∧ s.toInt < 64) (hv : 0 < v.toInt ∧ v.toInt < 64) (hw : 0 < w.toInt ∧ w.toInt < 64) (hc : ¬ (64 : Int32) < (s + v) + w) : s.toInt + v.toInt < 64 ∧ (s + v).toInt = s.toInt + v.toInt := by
  have e1 := c_iadd s v
  have r1 := rng32 (s + v)
  have e2 := c_iadd (s + v) w
  have r2 := rng32 ((s + v) + w)
  rw [Int32.lt_iff_toInt_lt] at hc
  simp only [Int32.reduceToInt] at hc
  omega
theorem own_S2 {a b c : Int32} (h0 : 0 < a.toInt ∧ a.toInt < 64) (h1 : 0 < b.toInt ∧ b.toInt < 64) (h2 : 0 < c.toInt ∧ c.toInt < 64) : 0 ≤ (LS2 a b c).toInt ∧ (LS2 a b c).toInt < 64 := by
  have hs := own_S1 (b := b) h0
  unfold LS2
  split
  · decide
  · rename_i hc
    have q := own_nw hs h1 h2 hc
    omega
theorem own_sh1 {w0 w1 w2 w3 : Int32} {s0 s1 s2 s3 : Int64} (hN : N1 w0 w1) (h0 : 0 < w0.toInt ∧ w0.toInt < 64) (h1 : 0 < w1.toInt ∧ w1.toInt < 64) (h2 : 0 < w2.toInt ∧ w2.toInt < 64) (h3 : 0 < w3.toInt ∧ w3.toInt < 64) : SR (SR (GW (0 : Int32) s0 s1 s2 s3) (0 : Int32)) w0 = SR (GW (LI1 w0 w1) s0 s1 s2 s3) (LS1 w0 w1) := by
  obtain ⟨hI, hw⟩ := hN
  have hc : ¬ (64 : Int32) < w0 + w1 := fun c => by rw [LI1, if_pos c] at hI; exact absurd hI (by decide)
  have e0 : (0 : Int32).toInt = 0 := rfl
  rw [hI, LS1, if_neg hc, own_srr _ _ _ (by decide) (by omega) (by omega), Int32.zero_add]
theorem own_sh2 {w0 w1 w2 w3 : Int32} {s0 s1 s2 s3 : Int64} (hN : N2 w0 w1 w2) (h0 : 0 < w0.toInt ∧ w0.toInt < 64) (h1 : 0 < w1.toInt ∧ w1.toInt < 64) (h2 : 0 < w2.toInt ∧ w2.toInt < 64) (h3 : 0 < w3.toInt ∧ w3.toInt < 64) : SR (SR (GW (LI1 w0 w1) s0 s1 s2 s3) (LS1 w0 w1)) w1 = SR (GW (LI2 w0 w1 w2) s0 s1 s2 s3) (LS2 w0 w1 w2) := by
  obtain ⟨hI, hw⟩ := hN
  have hc : ¬ (64 : Int32) < (LS1 w0 w1 + w1) + w2 := fun c => by
    rw [LI2, if_pos c] at hI
    rcases own_I1 w0 w1 with h | h <;> rw [h] at hI <;> exact absurd hI (by decide)
  have hs := own_S1 (b := w1) h0
  have q := own_nw hs h1 h2 hc
  rw [hI, LS2, if_neg hc, own_srr _ _ _ hs.1 (by omega) q.1]
theorem own_sh3 {w0 w1 w2 w3 : Int32} {s0 s1 s2 s3 : Int64} (hN : N3 w0 w1 w2 w3) (h0 : 0 < w0.toInt ∧ w0.toInt < 64) (h1 : 0 < w1.toInt ∧ w1.toInt < 64) (h2 : 0 < w2.toInt ∧ w2.toInt < 64) (h3 : 0 < w3.toInt ∧ w3.toInt < 64) : SR (SR (GW (LI2 w0 w1 w2) s0 s1 s2 s3) (LS2 w0 w1 w2)) w2 = SR (GW (LI3 w0 w1 w2 w3) s0 s1 s2 s3) (LS3 w0 w1 w2 w3) := by
  obtain ⟨hI, hw⟩ := hN
  have hc : ¬ (64 : Int32) < (LS2 w0 w1 w2 + w2) + w3 := fun c => by
    rw [LI3, if_pos c] at hI
    rcases own_I2 w0 w1 w2 with h | h | h <;> rw [h] at hI <;> exact absurd hI (by decide)
  have hs := own_S2 h0 h1 h2
  have q := own_nw hs h2 h3 hc
  rw [hI, LS3, if_neg hc, own_srr _ _ _ hs.1 (by omega) q.1]
set_option maxRecDepth 65536 in
set_option maxHeartbeats 40000000 in
theorem rm7 (l : Launch) (Z : State) (a0 : Array Value) (hw : ∀ d ∈ tables_1, d.before a0 Z = true) (xa : Int32) (xb : Int32)  (h0 : Heap) (n0 : Nat) (Z0 : n0 ≤ h0.size)  :
    ownMet l Z (⟨"java/lang/Math", "min", "(II)I"⟩ : MethodName) jdk_29_method_69_code 2 (some .int) [] ({ frames := 0, cells := 0, slots := 0, locals := 0 } : Room) #[(.int xa), (.int xb)] h0 (fun v h L => v = some (.int (FMin xa xb)) ∧ L = [] ∧ h = h0) := by
  refine ownMet.of (Jvm.Free.JP.mathPlain rfl (by decide +kernel)) ?_
  intro p e s m below meth c T0 hx hby hml hZ hown hnm hret hlk X0 e0
  refine ownEnds.cast (ef_rm7 m xa xb) ?_
  show ownEnds _ _ _ _ (T0.setTop (mkF m 0 #[.val (.int xa), .val (.int xb)] []))
  refine ownEnds.law (fun t k => XS.iloadN X0.here hx rfl (hb hby d7_0) rfl (XS.iloadN X0.here hx rfl (hb hby d7_1) rfl k)) ?_
  show ownEnds _ _ _ _ (T0.setTop (mkF m 2 #[.val (.int xa), .val (.int xb)] [(.int xb), (.int xa)]))
  by_cases hc2 : xb < xa
  · refine ownEnds.law (fun t => XS.icmpYes X0.here hx rfl (pc0 := 2) (pc' := 9) rfl (hb hby d7_2) rfl (tlt hc2).2.2.1 (by decide) (by decide)) ?_
    show ownEnds _ _ _ _ (T0.setTop (mkF m 9 #[.val (.int xa), .val (.int xb)] []))
    refine ownEnds.law (fun t k => XS.iloadN X0.here hx rfl (hb hby d7_9) rfl k) ?_
    show ownEnds _ _ _ _ (T0.setTop (mkF m 10 #[.val (.int xa), .val (.int xb)] [(.int xb)]))
    refine ownRetI X0 hlk hx hret (hb hby d7_10) (by decide) (by decide) ?_
    exact ⟨by rw [FMin, if_pos hc2], rfl, e0⟩
  · refine ownEnds.law (fun t => XS.icmpNo X0.here hx rfl (hb hby d7_2) rfl (flt hc2).2.2.1) ?_
    show ownEnds _ _ _ _ (T0.setTop (mkF m 5 #[.val (.int xa), .val (.int xb)] []))
    refine ownEnds.law (fun t k => XS.iloadN X0.here hx rfl (hb hby d7_5) rfl (XS.goto X0.here hx rfl (pc0 := 6) (pc' := 10) rfl (hb hby d7_6) (by decide) (by decide) k)) ?_
    show ownEnds _ _ _ _ (T0.setTop (mkF m 10 #[.val (.int xa), .val (.int xb)] [(.int xa)]))
    refine ownRetI X0 hlk hx hret (hb hby d7_10) (by decide) (by decide) ?_
    exact ⟨by rw [FMin, if_neg hc2], rfl, e0⟩
set_option maxRecDepth 65536 in
set_option maxHeartbeats 40000000 in
theorem rm1 (l : Launch) (Z : State) (a0 : Array Value) (hw : ∀ d ∈ tables_1, d.before a0 Z = true) (xa : Int32)  (h0 : Heap) (n0 : Nat) (Z0 : n0 ≤ h0.size)  :
    ownMet l Z (⟨"com/example/libreach/libreach/engine/StateLayoutUnpackPinLaw", "width", "(I)I"⟩ : MethodName) method_3_code 2 (some .int) [] ({ frames := 0, cells := 0, slots := 0, locals := 0 } : Room) #[(.int xa)] h0 (fun v h L => v = some (.int (FWd xa)) ∧ L = [] ∧ h = h0) := by
  refine ownMet.of (plainFor_of_name pn_1) ?_
  intro p e s m below meth c T0 hx hby hml hZ hown hnm hret hlk X0 e0
  refine ownEnds.cast (ef_rm1 m xa) ?_
  show ownEnds _ _ _ _ (T0.setTop (mkF m 0 #[.val (.int xa), .unset] []))
  refine ownEnds.law (fun t k => XS.iloadN X0.here hx rfl (hb hby d1_0) rfl (XS.bipush X0.here hx rfl (hb hby d1_1) (XS.iand X0.here hx rfl (hb hby d1_3) rfl (XS.istoreN X0.here hx rfl (hb hby d1_4) rfl (l' := #[.val (.int xa), .val (.int (xa &&& (63 : Int32)))]) rfl (XS.iloadN X0.here hx rfl (hb hby d1_5) rfl k))))) ?_
  show ownEnds _ _ _ _ (T0.setTop (mkF m 6 #[.val (.int xa), .val (.int (xa &&& (63 : Int32)))] [(.int (xa &&& (63 : Int32)))]))
  by_cases hc6 : (xa &&& (63 : Int32)) = (0 : Int32)
  · refine ownEnds.law (fun t => XS.ifNo X0.here hx rfl (hb hby d1_6) rfl ((if0 _ _).trans (teq hc6).2)) ?_
    show ownEnds _ _ _ _ (T0.setTop (mkF m 9 #[.val (.int xa), .val (.int (xa &&& (63 : Int32)))] []))
    refine ownEnds.law (fun t k => XS.bipush X0.here hx rfl (hb hby d1_9) (XS.goto X0.here hx rfl (pc0 := 11) (pc' := 15) rfl (hb hby d1_11) (by decide) (by decide) k)) ?_
    show ownEnds _ _ _ _ (T0.setTop (mkF m 15 #[.val (.int xa), .val (.int (xa &&& (63 : Int32)))] [(.int (63 : Int32))]))
    refine ownRetI X0 hlk hx hret (hb hby d1_15) (by decide) (by decide) ?_
    exact ⟨by rw [FWd, if_pos hc6], rfl, e0⟩
  · refine ownEnds.law (fun t => XS.ifYes X0.here hx rfl (pc0 := 6) (pc' := 14) rfl (hb hby d1_6) rfl ((if0 _ _).trans (feq hc6).2) (by decide) (by decide)) ?_
    show ownEnds _ _ _ _ (T0.setTop (mkF m 14 #[.val (.int xa), .val (.int (xa &&& (63 : Int32)))] []))
    refine ownEnds.law (fun t k => XS.iloadN X0.here hx rfl (hb hby d1_14) rfl k) ?_
    show ownEnds _ _ _ _ (T0.setTop (mkF m 15 #[.val (.int xa), .val (.int (xa &&& (63 : Int32)))] [(.int (xa &&& (63 : Int32)))]))
    refine ownRetI X0 hlk hx hret (hb hby d1_15) (by decide) (by decide) ?_
    exact ⟨by rw [FWd, if_neg hc6], rfl, e0⟩
set_option maxRecDepth 65536 in
set_option maxHeartbeats 40000000 in
theorem rm6 (l : Launch) (Z : State) (a0 : Array Value) (hw : ∀ d ∈ tables_1, d.before a0 Z = true) (qa : Int64) (xs : Int32) (xn : Int32)  (h0 : Heap) (n0 : Nat) (Z0 : n0 ≤ h0.size)  :
    ownMet l Z (⟨"com/example/libreach/libreach/engine/StateLayoutUnpackPinLaw", "field", "(JII)J"⟩ : MethodName) method_4_code 4 (some .long) [] ({ frames := 0, cells := 0, slots := 0, locals := 0 } : Room) #[(.long qa), (.int xs), (.int xn)] h0 (fun v h L => v = some (.long (FF qa xs xn)) ∧ L = [] ∧ h = h0) := by
  refine ownMet.of (plainFor_of_name pn_6) ?_
  intro p e s m below meth c T0 hx hby hml hZ hown hnm hret hlk X0 e0
  refine ownEnds.cast (ef_rm6 m qa xs xn) ?_
  show ownEnds _ _ _ _ (T0.setTop (mkF m 0 #[.val (.long qa), .second, .val (.int xs), .val (.int xn)] []))
  refine ownEnds.law (fun t k => XS.lloadN X0.here hx rfl (hb hby d6_0) rfl (XS.iloadN X0.here hx rfl (hb hby d6_1) rfl (XS.lushr X0.here hx rfl (hb hby d6_2) rfl (XS.lconst X0.here hx rfl (hb hby d6_3) (XS.iloadN X0.here hx rfl (hb hby d6_4) rfl (XS.lshl X0.here hx rfl (hb hby d6_5) rfl (XS.lconst X0.here hx rfl (hb hby d6_6) (XS.lsub X0.here hx rfl (hb hby d6_7) rfl (XS.land X0.here hx rfl (hb hby d6_8) rfl k))))))))) ?_
  show ownEnds _ _ _ _ (T0.setTop (mkF m 9 #[.val (.long qa), .second, .val (.int xs), .val (.int xn)] [(.long (((qa.toUInt64 >>> (xs &&& 0x3f).toInt64.toUInt64).toInt64) &&& (((1 : Int64) <<< (xn &&& 0x3f).toInt64) - (1 : Int64))))]))
  refine ownRetL X0 hlk hx hret (hb hby d6_9) (by decide) (by decide) ?_
  exact ⟨rfl, rfl, e0⟩
set_option maxRecDepth 65536 in
set_option maxHeartbeats 40000000 in
theorem rm4_2 (l : Launch) (Z : State) (a0 : Array Value) (hw : ∀ d ∈ tables_1, d.before a0 Z = true) (oa : Addr) (ka : ClassId) (u0 u1 u2 u3 u4 : Value) (h0 : Heap) (n0 : Nat) (Z0 : n0 ≤ h0.size) (Va : Arv Z h0 oa ka .int (5 : Int32) [u0, u1, u2, u3, u4] (.int (0 : Int32))) (Ea : Exa Z h0 oa "[I") :
    ownMet l Z (⟨"java/util/Arrays", "copyOf", "([II)[I"⟩ : MethodName) jdk_65_method_123_code 3 (some (.array .int)) [] ({ frames := 1, cells := 1, slots := 2, locals := 40 } : Room) #[(.ref oa), (.int (2 : Int32))] h0 (fun v h L => ∃ (b : Addr) (kb : ClassId), v = some (.ref b) ∧ Fr n0 L ∧ Keep h0 h [] ∧ n0 ≤ b ∧ h0.size ≤ b ∧ Arv Z h b kb .int (2 : Int32) [u0, u1] (.int (0 : Int32))) := by
  refine ownMet.of (plainFor_of_name pn_4) ?_
  intro p e s m below meth c T0 hx hby hml hZ hown hnm hret hlk X0 e0
  refine ownEnds.cast (ef_rm4_2 m oa) ?_
  show ownEnds _ _ _ _ (T0.setTop (mkF m 0 #[.val (.ref oa), .val (.int (2 : Int32)), .unset] []))
  refine ownEnds.law (fun t k => XS.iloadN X0.here hx rfl (hb hby d4_0) rfl (XS.aloadN X0.here hx rfl (hb hby d4_1) rfl rfl k)) ?_
  show ownEnds _ _ _ _ (T0.setTop (mkF m 2 #[.val (.ref oa), .val (.int (2 : Int32)), .unset] [(.ref oa), (.int (2 : Int32))]))
  obtain ⟨cl1, Ar1, -, S1, N1, -, -⟩ := id Va
  refine ownEnds.law (X0.arraylength hx (by rw [e0]; exact Ar1.1) (State.isArrayOf_alike hZ.alike Ar1.2.1) (g := (mkF m 2 #[.val (.ref oa), .val (.int (2 : Int32)), .unset] [(.ref oa), (.int (2 : Int32))])) rfl rfl (hb hby d4_2)) ?_
  rw [len_of S1 N1]
  show ownEnds _ _ _ _ (T0.setTop (mkF m 3 #[.val (.ref oa), .val (.int (2 : Int32)), .unset] [(.int (5 : Int32)), (.int (2 : Int32))]))
  refine ownEnds.law (fun t => XS.icmpYes X0.here hx rfl (pc0 := 3) (pc' := 14) rfl (hb hby d4_3) rfl (feq (by decide : ¬ ((2 : Int32) = (5 : Int32)))).2 (by decide) (by decide)) ?_
  show ownEnds _ _ _ _ (T0.setTop (mkF m 14 #[.val (.ref oa), .val (.int (2 : Int32)), .unset] []))
  refine ownEnds.law (fun t k => XS.iloadN X0.here hx rfl (hb hby d4_14) rfl k) ?_
  show ownEnds _ _ _ _ (T0.setTop (mkF m 15 #[.val (.ref oa), .val (.int (2 : Int32)), .unset] [(.int (2 : Int32))]))
  obtain ⟨T2, h2, k2, X2, e2, E2, A2, st2⟩ := newP X0 hx hZ (aty := .int) (wd_7 hw) e0 (g := (mkF m 15 #[.val (.ref oa), .val (.int (2 : Int32)), .unset] [(.int (2 : Int32))])) rfl (hb hby d4_15) rfl (by decide) (cap := 2) (by decide) (by decide) (by decide) (by decide)
  obtain ⟨b2, g2⟩ : ∃ z, z = h0.size := ⟨_, rfl⟩
  rw [← g2] at A2 st2
  refine ownEnds.law st2 ?_
  have V_b2 : Arv Z h2 b2 k2 .int (2 : Int32) [(.int (0 : Int32)), (.int (0 : Int32))] (.int (0 : Int32)) := (Arv.new A2 (by decide)).pad (pad_rep [] (.int (0 : Int32)) 2)
  have ne_oa_b2 : oa ≠ b2 := Nat.ne_of_lt (Nat.lt_of_lt_of_eq Va.lt g2.symm)
  have g_b2 : n0 ≤ b2 := Nat.le_trans Z0 (Nat.le_of_eq g2.symm)
  have sz_b2 : h0.size ≤ b2 := Nat.le_trans (Keep.refl h0 []).1 (Nat.le_of_eq g2.symm)
  have Z2 : n0 ≤ h2.size := Nat.le_trans Z0 E2.1
  have KK2 : Keep h0 h2 [] := (Keep.refl h0 []).ext E2
  show ownEnds _ _ _ _ (T2.setTop (mkF m 17 #[.val (.ref oa), .val (.int (2 : Int32)), .unset] [(.ref b2)]))
  refine ownEnds.law (fun t k => XS.astoreN X2.here hx rfl (hb hby d4_17) rfl rfl (l' := #[.val (.ref oa), .val (.int (2 : Int32)), .val (.ref b2)]) rfl (XS.aloadN X2.here hx rfl (hb hby d4_18) rfl rfl (XS.iconst X2.here hx rfl (hb hby d4_19) (XS.aloadN X2.here hx rfl (hb hby d4_20) rfl rfl (XS.iconst X2.here hx rfl (hb hby d4_21) (XS.aloadN X2.here hx rfl (hb hby d4_22) rfl rfl k)))))) ?_
  show ownEnds _ _ _ _ (T2.setTop (mkF m 23 #[.val (.ref oa), .val (.int (2 : Int32)), .val (.ref b2)] [(.ref oa), (.int (0 : Int32)), (.ref b2), (.int (0 : Int32)), (.ref oa)]))
  have f4 := (Arv.ext Va E2)
  obtain ⟨cl3, Ar3, -, S3, N3, -, -⟩ := id f4
  refine ownEnds.law (X2.arraylength hx (by rw [e2]; exact Ar3.1) (State.isArrayOf_alike hZ.alike Ar3.2.1) (g := (mkF m 23 #[.val (.ref oa), .val (.int (2 : Int32)), .val (.ref b2)] [(.ref oa), (.int (0 : Int32)), (.ref b2), (.int (0 : Int32)), (.ref oa)])) rfl rfl (hb hby d4_23)) ?_
  rw [len_of S3 N3]
  show ownEnds _ _ _ _ (T2.setTop (mkF m 24 #[.val (.ref oa), .val (.int (2 : Int32)), .val (.ref b2)] [(.int (5 : Int32)), (.int (0 : Int32)), (.ref b2), (.int (0 : Int32)), (.ref oa)]))
  refine ownEnds.law (fun t k => XS.iloadN X2.here hx rfl (hb hby d4_24) rfl k) ?_
  show ownEnds _ _ _ _ (T2.setTop (mkF m 25 #[.val (.ref oa), .val (.int (2 : Int32)), .val (.ref b2)] [(.int (2 : Int32)), (.int (5 : Int32)), (.int (0 : Int32)), (.ref b2), (.int (0 : Int32)), (.ref oa)]))
  obtain ⟨v5, T5, L5, X5, hQ5, st5⟩ := ownCallS X2 hx hZ hown (y := (⟨"java/lang/Math", "min", "(II)I"⟩ : MethodName)) (as := [(.int (5 : Int32)), (.int (2 : Int32))]) (wd_53 hw) (wd_54 hw) (wd_55 hw) (wd_56 hw) (by decide) (rm7 l Z a0 hw (5 : Int32) (2 : Int32) h2 n0 Z2) e2 4 (by decide) (by decide) (by decide) (by decide) (g := (mkF m 25 #[.val (.ref oa), .val (.int (2 : Int32)), .val (.ref b2)] [(.int (2 : Int32)), (.int (5 : Int32)), (.int (0 : Int32)), (.ref b2), (.int (0 : Int32)), (.ref oa)])) rfl (by rw [hml]; rfl) (rest := [(.int (0 : Int32)), (.ref b2), (.int (0 : Int32)), (.ref oa)]) pd_0 rfl rfl (by show 2 * 0 + _ ≤ _; exact Nat.le_of_eq rfl) (hb hby d4_25)
  obtain ⟨hv5, rfl, e5⟩ := hQ5
  rw [List.append_nil] at X5
  have hw5 : v5 = some (.int (2 : Int32)) := hv5.trans (by decide)
  subst hw5
  refine ownEnds.law st5 ?_
  show ownEnds _ _ _ _ (T5.setTop (mkF m 28 #[.val (.ref oa), .val (.int (2 : Int32)), .val (.ref b2)] [(.int (2 : Int32)), (.int (0 : Int32)), (.ref b2), (.int (0 : Int32)), (.ref oa)]))
  obtain ⟨T6, h6, L6, X6, e6, N6, Kq6, Vc6, st6⟩ := cpA X5 hx hZ hown (wd_57 hw) (wd_60 hw) (wd_58 hw) (wd_59 hw) e5 f4 V_b2 (us := [u0, u1]) (Or.inl ⟨rfl, rfl⟩) (by decide) (by decide) (by decide) (by decide) (by decide) rfl (by decide) (Fr.nil n0) g_b2 (g := (mkF m 28 #[.val (.ref oa), .val (.int (2 : Int32)), .val (.ref b2)] [(.int (2 : Int32)), (.int (0 : Int32)), (.ref b2), (.int (0 : Int32)), (.ref oa)])) rfl (by rw [hml]; rfl) rfl (hb hby d4_28) (by decide) (W := 0) (by show 2 * 0 + _ ≤ _; exact Nat.le_of_eq rfl) (by decide)
  have V6 : Arv Z h6 b2 k2 .int (2 : Int32) [u0, u1] (.int (0 : Int32)) := Vc6
  refine ownEnds.law st6 ?_
  have Z6 : n0 ≤ h6.size := Nat.le_trans Z2 Kq6.1
  have KK6 : Keep h0 h6 [] := Keep.trans (KK2) Kq6 (allS (Or.inr sz_b2) all0)
  show ownEnds _ _ _ _ (T6.setTop (mkF m 31 #[.val (.ref oa), .val (.int (2 : Int32)), .val (.ref b2)] []))
  refine ownEnds.law (fun t k => XS.aloadN X6.here hx rfl (hb hby d4_31) rfl rfl k) ?_
  show ownEnds _ _ _ _ (T6.setTop (mkF m 32 #[.val (.ref oa), .val (.int (2 : Int32)), .val (.ref b2)] [(.ref b2)]))
  refine ownRetA X6 hlk hx hret rfl rfl (hb hby d4_32) (by decide) (by decide) ?_
  rw [e6]
  exact ⟨b2, k2, rfl, N6, KK6, g_b2, sz_b2, V6⟩
set_option maxRecDepth 65536 in
set_option maxHeartbeats 40000000 in
theorem rm4_3 (l : Launch) (Z : State) (a0 : Array Value) (hw : ∀ d ∈ tables_1, d.before a0 Z = true) (oa : Addr) (ka : ClassId) (u0 u1 u2 u3 u4 : Value) (h0 : Heap) (n0 : Nat) (Z0 : n0 ≤ h0.size) (Va : Arv Z h0 oa ka .int (5 : Int32) [u0, u1, u2, u3, u4] (.int (0 : Int32))) (Ea : Exa Z h0 oa "[I") :
    ownMet l Z (⟨"java/util/Arrays", "copyOf", "([II)[I"⟩ : MethodName) jdk_65_method_123_code 3 (some (.array .int)) [] ({ frames := 1, cells := 1, slots := 3, locals := 40 } : Room) #[(.ref oa), (.int (3 : Int32))] h0 (fun v h L => ∃ (b : Addr) (kb : ClassId), v = some (.ref b) ∧ Fr n0 L ∧ Keep h0 h [] ∧ n0 ≤ b ∧ h0.size ≤ b ∧ Arv Z h b kb .int (3 : Int32) [u0, u1, u2] (.int (0 : Int32))) := by
  refine ownMet.of (plainFor_of_name pn_4) ?_
  intro p e s m below meth c T0 hx hby hml hZ hown hnm hret hlk X0 e0
  refine ownEnds.cast (ef_rm4_3 m oa) ?_
  show ownEnds _ _ _ _ (T0.setTop (mkF m 0 #[.val (.ref oa), .val (.int (3 : Int32)), .unset] []))
  refine ownEnds.law (fun t k => XS.iloadN X0.here hx rfl (hb hby d4_0) rfl (XS.aloadN X0.here hx rfl (hb hby d4_1) rfl rfl k)) ?_
  show ownEnds _ _ _ _ (T0.setTop (mkF m 2 #[.val (.ref oa), .val (.int (3 : Int32)), .unset] [(.ref oa), (.int (3 : Int32))]))
  obtain ⟨cl1, Ar1, -, S1, N1, -, -⟩ := id Va
  refine ownEnds.law (X0.arraylength hx (by rw [e0]; exact Ar1.1) (State.isArrayOf_alike hZ.alike Ar1.2.1) (g := (mkF m 2 #[.val (.ref oa), .val (.int (3 : Int32)), .unset] [(.ref oa), (.int (3 : Int32))])) rfl rfl (hb hby d4_2)) ?_
  rw [len_of S1 N1]
  show ownEnds _ _ _ _ (T0.setTop (mkF m 3 #[.val (.ref oa), .val (.int (3 : Int32)), .unset] [(.int (5 : Int32)), (.int (3 : Int32))]))
  refine ownEnds.law (fun t => XS.icmpYes X0.here hx rfl (pc0 := 3) (pc' := 14) rfl (hb hby d4_3) rfl (feq (by decide : ¬ ((3 : Int32) = (5 : Int32)))).2 (by decide) (by decide)) ?_
  show ownEnds _ _ _ _ (T0.setTop (mkF m 14 #[.val (.ref oa), .val (.int (3 : Int32)), .unset] []))
  refine ownEnds.law (fun t k => XS.iloadN X0.here hx rfl (hb hby d4_14) rfl k) ?_
  show ownEnds _ _ _ _ (T0.setTop (mkF m 15 #[.val (.ref oa), .val (.int (3 : Int32)), .unset] [(.int (3 : Int32))]))
  obtain ⟨T2, h2, k2, X2, e2, E2, A2, st2⟩ := newP X0 hx hZ (aty := .int) (wd_7 hw) e0 (g := (mkF m 15 #[.val (.ref oa), .val (.int (3 : Int32)), .unset] [(.int (3 : Int32))])) rfl (hb hby d4_15) rfl (by decide) (cap := 3) (by decide) (by decide) (by decide) (by decide)
  obtain ⟨b2, g2⟩ : ∃ z, z = h0.size := ⟨_, rfl⟩
  rw [← g2] at A2 st2
  refine ownEnds.law st2 ?_
  have V_b2 : Arv Z h2 b2 k2 .int (3 : Int32) [(.int (0 : Int32)), (.int (0 : Int32)), (.int (0 : Int32))] (.int (0 : Int32)) := (Arv.new A2 (by decide)).pad (pad_rep [] (.int (0 : Int32)) 3)
  have ne_oa_b2 : oa ≠ b2 := Nat.ne_of_lt (Nat.lt_of_lt_of_eq Va.lt g2.symm)
  have g_b2 : n0 ≤ b2 := Nat.le_trans Z0 (Nat.le_of_eq g2.symm)
  have sz_b2 : h0.size ≤ b2 := Nat.le_trans (Keep.refl h0 []).1 (Nat.le_of_eq g2.symm)
  have Z2 : n0 ≤ h2.size := Nat.le_trans Z0 E2.1
  have KK2 : Keep h0 h2 [] := (Keep.refl h0 []).ext E2
  show ownEnds _ _ _ _ (T2.setTop (mkF m 17 #[.val (.ref oa), .val (.int (3 : Int32)), .unset] [(.ref b2)]))
  refine ownEnds.law (fun t k => XS.astoreN X2.here hx rfl (hb hby d4_17) rfl rfl (l' := #[.val (.ref oa), .val (.int (3 : Int32)), .val (.ref b2)]) rfl (XS.aloadN X2.here hx rfl (hb hby d4_18) rfl rfl (XS.iconst X2.here hx rfl (hb hby d4_19) (XS.aloadN X2.here hx rfl (hb hby d4_20) rfl rfl (XS.iconst X2.here hx rfl (hb hby d4_21) (XS.aloadN X2.here hx rfl (hb hby d4_22) rfl rfl k)))))) ?_
  show ownEnds _ _ _ _ (T2.setTop (mkF m 23 #[.val (.ref oa), .val (.int (3 : Int32)), .val (.ref b2)] [(.ref oa), (.int (0 : Int32)), (.ref b2), (.int (0 : Int32)), (.ref oa)]))
  have f4 := (Arv.ext Va E2)
  obtain ⟨cl3, Ar3, -, S3, N3, -, -⟩ := id f4
  refine ownEnds.law (X2.arraylength hx (by rw [e2]; exact Ar3.1) (State.isArrayOf_alike hZ.alike Ar3.2.1) (g := (mkF m 23 #[.val (.ref oa), .val (.int (3 : Int32)), .val (.ref b2)] [(.ref oa), (.int (0 : Int32)), (.ref b2), (.int (0 : Int32)), (.ref oa)])) rfl rfl (hb hby d4_23)) ?_
  rw [len_of S3 N3]
  show ownEnds _ _ _ _ (T2.setTop (mkF m 24 #[.val (.ref oa), .val (.int (3 : Int32)), .val (.ref b2)] [(.int (5 : Int32)), (.int (0 : Int32)), (.ref b2), (.int (0 : Int32)), (.ref oa)]))
  refine ownEnds.law (fun t k => XS.iloadN X2.here hx rfl (hb hby d4_24) rfl k) ?_
  show ownEnds _ _ _ _ (T2.setTop (mkF m 25 #[.val (.ref oa), .val (.int (3 : Int32)), .val (.ref b2)] [(.int (3 : Int32)), (.int (5 : Int32)), (.int (0 : Int32)), (.ref b2), (.int (0 : Int32)), (.ref oa)]))
  obtain ⟨v5, T5, L5, X5, hQ5, st5⟩ := ownCallS X2 hx hZ hown (y := (⟨"java/lang/Math", "min", "(II)I"⟩ : MethodName)) (as := [(.int (5 : Int32)), (.int (3 : Int32))]) (wd_53 hw) (wd_54 hw) (wd_55 hw) (wd_56 hw) (by decide) (rm7 l Z a0 hw (5 : Int32) (3 : Int32) h2 n0 Z2) e2 4 (by decide) (by decide) (by decide) (by decide) (g := (mkF m 25 #[.val (.ref oa), .val (.int (3 : Int32)), .val (.ref b2)] [(.int (3 : Int32)), (.int (5 : Int32)), (.int (0 : Int32)), (.ref b2), (.int (0 : Int32)), (.ref oa)])) rfl (by rw [hml]; rfl) (rest := [(.int (0 : Int32)), (.ref b2), (.int (0 : Int32)), (.ref oa)]) pd_0 rfl rfl (by show 2 * 0 + _ ≤ _; exact Nat.le_of_eq rfl) (hb hby d4_25)
  obtain ⟨hv5, rfl, e5⟩ := hQ5
  rw [List.append_nil] at X5
  have hw5 : v5 = some (.int (3 : Int32)) := hv5.trans (by decide)
  subst hw5
  refine ownEnds.law st5 ?_
  show ownEnds _ _ _ _ (T5.setTop (mkF m 28 #[.val (.ref oa), .val (.int (3 : Int32)), .val (.ref b2)] [(.int (3 : Int32)), (.int (0 : Int32)), (.ref b2), (.int (0 : Int32)), (.ref oa)]))
  obtain ⟨T6, h6, L6, X6, e6, N6, Kq6, Vc6, st6⟩ := cpA X5 hx hZ hown (wd_57 hw) (wd_60 hw) (wd_58 hw) (wd_59 hw) e5 f4 V_b2 (us := [u0, u1, u2]) (Or.inl ⟨rfl, rfl⟩) (by decide) (by decide) (by decide) (by decide) (by decide) rfl (by decide) (Fr.nil n0) g_b2 (g := (mkF m 28 #[.val (.ref oa), .val (.int (3 : Int32)), .val (.ref b2)] [(.int (3 : Int32)), (.int (0 : Int32)), (.ref b2), (.int (0 : Int32)), (.ref oa)])) rfl (by rw [hml]; rfl) rfl (hb hby d4_28) (by decide) (W := 0) (by show 2 * 0 + _ ≤ _; exact Nat.le_of_eq rfl) (by decide)
  have V6 : Arv Z h6 b2 k2 .int (3 : Int32) [u0, u1, u2] (.int (0 : Int32)) := Vc6
  refine ownEnds.law st6 ?_
  have Z6 : n0 ≤ h6.size := Nat.le_trans Z2 Kq6.1
  have KK6 : Keep h0 h6 [] := Keep.trans (KK2) Kq6 (allS (Or.inr sz_b2) all0)
  show ownEnds _ _ _ _ (T6.setTop (mkF m 31 #[.val (.ref oa), .val (.int (3 : Int32)), .val (.ref b2)] []))
  refine ownEnds.law (fun t k => XS.aloadN X6.here hx rfl (hb hby d4_31) rfl rfl k) ?_
  show ownEnds _ _ _ _ (T6.setTop (mkF m 32 #[.val (.ref oa), .val (.int (3 : Int32)), .val (.ref b2)] [(.ref b2)]))
  refine ownRetA X6 hlk hx hret rfl rfl (hb hby d4_32) (by decide) (by decide) ?_
  rw [e6]
  exact ⟨b2, k2, rfl, N6, KK6, g_b2, sz_b2, V6⟩
set_option maxRecDepth 65536 in
set_option maxHeartbeats 40000000 in
theorem rm4_4 (l : Launch) (Z : State) (a0 : Array Value) (hw : ∀ d ∈ tables_1, d.before a0 Z = true) (oa : Addr) (ka : ClassId) (u0 u1 u2 u3 u4 : Value) (h0 : Heap) (n0 : Nat) (Z0 : n0 ≤ h0.size) (Va : Arv Z h0 oa ka .int (5 : Int32) [u0, u1, u2, u3, u4] (.int (0 : Int32))) (Ea : Exa Z h0 oa "[I") :
    ownMet l Z (⟨"java/util/Arrays", "copyOf", "([II)[I"⟩ : MethodName) jdk_65_method_123_code 3 (some (.array .int)) [] ({ frames := 1, cells := 1, slots := 4, locals := 40 } : Room) #[(.ref oa), (.int (4 : Int32))] h0 (fun v h L => ∃ (b : Addr) (kb : ClassId), v = some (.ref b) ∧ Fr n0 L ∧ Keep h0 h [] ∧ n0 ≤ b ∧ h0.size ≤ b ∧ Arv Z h b kb .int (4 : Int32) [u0, u1, u2, u3] (.int (0 : Int32))) := by
  refine ownMet.of (plainFor_of_name pn_4) ?_
  intro p e s m below meth c T0 hx hby hml hZ hown hnm hret hlk X0 e0
  refine ownEnds.cast (ef_rm4_4 m oa) ?_
  show ownEnds _ _ _ _ (T0.setTop (mkF m 0 #[.val (.ref oa), .val (.int (4 : Int32)), .unset] []))
  refine ownEnds.law (fun t k => XS.iloadN X0.here hx rfl (hb hby d4_0) rfl (XS.aloadN X0.here hx rfl (hb hby d4_1) rfl rfl k)) ?_
  show ownEnds _ _ _ _ (T0.setTop (mkF m 2 #[.val (.ref oa), .val (.int (4 : Int32)), .unset] [(.ref oa), (.int (4 : Int32))]))
  obtain ⟨cl1, Ar1, -, S1, N1, -, -⟩ := id Va
  refine ownEnds.law (X0.arraylength hx (by rw [e0]; exact Ar1.1) (State.isArrayOf_alike hZ.alike Ar1.2.1) (g := (mkF m 2 #[.val (.ref oa), .val (.int (4 : Int32)), .unset] [(.ref oa), (.int (4 : Int32))])) rfl rfl (hb hby d4_2)) ?_
  rw [len_of S1 N1]
  show ownEnds _ _ _ _ (T0.setTop (mkF m 3 #[.val (.ref oa), .val (.int (4 : Int32)), .unset] [(.int (5 : Int32)), (.int (4 : Int32))]))
  refine ownEnds.law (fun t => XS.icmpYes X0.here hx rfl (pc0 := 3) (pc' := 14) rfl (hb hby d4_3) rfl (feq (by decide : ¬ ((4 : Int32) = (5 : Int32)))).2 (by decide) (by decide)) ?_
  show ownEnds _ _ _ _ (T0.setTop (mkF m 14 #[.val (.ref oa), .val (.int (4 : Int32)), .unset] []))
  refine ownEnds.law (fun t k => XS.iloadN X0.here hx rfl (hb hby d4_14) rfl k) ?_
  show ownEnds _ _ _ _ (T0.setTop (mkF m 15 #[.val (.ref oa), .val (.int (4 : Int32)), .unset] [(.int (4 : Int32))]))
  obtain ⟨T2, h2, k2, X2, e2, E2, A2, st2⟩ := newP X0 hx hZ (aty := .int) (wd_7 hw) e0 (g := (mkF m 15 #[.val (.ref oa), .val (.int (4 : Int32)), .unset] [(.int (4 : Int32))])) rfl (hb hby d4_15) rfl (by decide) (cap := 4) (by decide) (by decide) (by decide) (by decide)
  obtain ⟨b2, g2⟩ : ∃ z, z = h0.size := ⟨_, rfl⟩
  rw [← g2] at A2 st2
  refine ownEnds.law st2 ?_
  have V_b2 : Arv Z h2 b2 k2 .int (4 : Int32) [(.int (0 : Int32)), (.int (0 : Int32)), (.int (0 : Int32)), (.int (0 : Int32))] (.int (0 : Int32)) := (Arv.new A2 (by decide)).pad (pad_rep [] (.int (0 : Int32)) 4)
  have ne_oa_b2 : oa ≠ b2 := Nat.ne_of_lt (Nat.lt_of_lt_of_eq Va.lt g2.symm)
  have g_b2 : n0 ≤ b2 := Nat.le_trans Z0 (Nat.le_of_eq g2.symm)
  have sz_b2 : h0.size ≤ b2 := Nat.le_trans (Keep.refl h0 []).1 (Nat.le_of_eq g2.symm)
  have Z2 : n0 ≤ h2.size := Nat.le_trans Z0 E2.1
  have KK2 : Keep h0 h2 [] := (Keep.refl h0 []).ext E2
  show ownEnds _ _ _ _ (T2.setTop (mkF m 17 #[.val (.ref oa), .val (.int (4 : Int32)), .unset] [(.ref b2)]))
  refine ownEnds.law (fun t k => XS.astoreN X2.here hx rfl (hb hby d4_17) rfl rfl (l' := #[.val (.ref oa), .val (.int (4 : Int32)), .val (.ref b2)]) rfl (XS.aloadN X2.here hx rfl (hb hby d4_18) rfl rfl (XS.iconst X2.here hx rfl (hb hby d4_19) (XS.aloadN X2.here hx rfl (hb hby d4_20) rfl rfl (XS.iconst X2.here hx rfl (hb hby d4_21) (XS.aloadN X2.here hx rfl (hb hby d4_22) rfl rfl k)))))) ?_
  show ownEnds _ _ _ _ (T2.setTop (mkF m 23 #[.val (.ref oa), .val (.int (4 : Int32)), .val (.ref b2)] [(.ref oa), (.int (0 : Int32)), (.ref b2), (.int (0 : Int32)), (.ref oa)]))
  have f4 := (Arv.ext Va E2)
  obtain ⟨cl3, Ar3, -, S3, N3, -, -⟩ := id f4
  refine ownEnds.law (X2.arraylength hx (by rw [e2]; exact Ar3.1) (State.isArrayOf_alike hZ.alike Ar3.2.1) (g := (mkF m 23 #[.val (.ref oa), .val (.int (4 : Int32)), .val (.ref b2)] [(.ref oa), (.int (0 : Int32)), (.ref b2), (.int (0 : Int32)), (.ref oa)])) rfl rfl (hb hby d4_23)) ?_
  rw [len_of S3 N3]
  show ownEnds _ _ _ _ (T2.setTop (mkF m 24 #[.val (.ref oa), .val (.int (4 : Int32)), .val (.ref b2)] [(.int (5 : Int32)), (.int (0 : Int32)), (.ref b2), (.int (0 : Int32)), (.ref oa)]))
  refine ownEnds.law (fun t k => XS.iloadN X2.here hx rfl (hb hby d4_24) rfl k) ?_
  show ownEnds _ _ _ _ (T2.setTop (mkF m 25 #[.val (.ref oa), .val (.int (4 : Int32)), .val (.ref b2)] [(.int (4 : Int32)), (.int (5 : Int32)), (.int (0 : Int32)), (.ref b2), (.int (0 : Int32)), (.ref oa)]))
  obtain ⟨v5, T5, L5, X5, hQ5, st5⟩ := ownCallS X2 hx hZ hown (y := (⟨"java/lang/Math", "min", "(II)I"⟩ : MethodName)) (as := [(.int (5 : Int32)), (.int (4 : Int32))]) (wd_53 hw) (wd_54 hw) (wd_55 hw) (wd_56 hw) (by decide) (rm7 l Z a0 hw (5 : Int32) (4 : Int32) h2 n0 Z2) e2 4 (by decide) (by decide) (by decide) (by decide) (g := (mkF m 25 #[.val (.ref oa), .val (.int (4 : Int32)), .val (.ref b2)] [(.int (4 : Int32)), (.int (5 : Int32)), (.int (0 : Int32)), (.ref b2), (.int (0 : Int32)), (.ref oa)])) rfl (by rw [hml]; rfl) (rest := [(.int (0 : Int32)), (.ref b2), (.int (0 : Int32)), (.ref oa)]) pd_0 rfl rfl (by show 2 * 0 + _ ≤ _; exact Nat.le_of_eq rfl) (hb hby d4_25)
  obtain ⟨hv5, rfl, e5⟩ := hQ5
  rw [List.append_nil] at X5
  have hw5 : v5 = some (.int (4 : Int32)) := hv5.trans (by decide)
  subst hw5
  refine ownEnds.law st5 ?_
  show ownEnds _ _ _ _ (T5.setTop (mkF m 28 #[.val (.ref oa), .val (.int (4 : Int32)), .val (.ref b2)] [(.int (4 : Int32)), (.int (0 : Int32)), (.ref b2), (.int (0 : Int32)), (.ref oa)]))
  obtain ⟨T6, h6, L6, X6, e6, N6, Kq6, Vc6, st6⟩ := cpA X5 hx hZ hown (wd_57 hw) (wd_60 hw) (wd_58 hw) (wd_59 hw) e5 f4 V_b2 (us := [u0, u1, u2, u3]) (Or.inl ⟨rfl, rfl⟩) (by decide) (by decide) (by decide) (by decide) (by decide) rfl (by decide) (Fr.nil n0) g_b2 (g := (mkF m 28 #[.val (.ref oa), .val (.int (4 : Int32)), .val (.ref b2)] [(.int (4 : Int32)), (.int (0 : Int32)), (.ref b2), (.int (0 : Int32)), (.ref oa)])) rfl (by rw [hml]; rfl) rfl (hb hby d4_28) (by decide) (W := 0) (by show 2 * 0 + _ ≤ _; exact Nat.le_of_eq rfl) (by decide)
  have V6 : Arv Z h6 b2 k2 .int (4 : Int32) [u0, u1, u2, u3] (.int (0 : Int32)) := Vc6
  refine ownEnds.law st6 ?_
  have Z6 : n0 ≤ h6.size := Nat.le_trans Z2 Kq6.1
  have KK6 : Keep h0 h6 [] := Keep.trans (KK2) Kq6 (allS (Or.inr sz_b2) all0)
  show ownEnds _ _ _ _ (T6.setTop (mkF m 31 #[.val (.ref oa), .val (.int (4 : Int32)), .val (.ref b2)] []))
  refine ownEnds.law (fun t k => XS.aloadN X6.here hx rfl (hb hby d4_31) rfl rfl k) ?_
  show ownEnds _ _ _ _ (T6.setTop (mkF m 32 #[.val (.ref oa), .val (.int (4 : Int32)), .val (.ref b2)] [(.ref b2)]))
  refine ownRetA X6 hlk hx hret rfl rfl (hb hby d4_32) (by decide) (by decide) ?_
  rw [e6]
  exact ⟨b2, k2, rfl, N6, KK6, g_b2, sz_b2, V6⟩
set_option maxRecDepth 65536 in
set_option maxHeartbeats 40000000 in
theorem rm4_5 (l : Launch) (Z : State) (a0 : Array Value) (hw : ∀ d ∈ tables_1, d.before a0 Z = true) (oa : Addr) (ka : ClassId) (u0 u1 u2 u3 u4 : Value) (h0 : Heap) (n0 : Nat) (Z0 : n0 ≤ h0.size) (Va : Arv Z h0 oa ka .int (5 : Int32) [u0, u1, u2, u3, u4] (.int (0 : Int32))) (Ea : Exa Z h0 oa "[I") :
    ownMet l Z (⟨"java/util/Arrays", "copyOf", "([II)[I"⟩ : MethodName) jdk_65_method_123_code 3 (some (.array .int)) [] ({ frames := 1, cells := 1, slots := 5, locals := 40 } : Room) #[(.ref oa), (.int (5 : Int32))] h0 (fun v h L => ∃ (b : Addr) (kb : ClassId), v = some (.ref b) ∧ Fr n0 L ∧ Keep h0 h [] ∧ n0 ≤ b ∧ h0.size ≤ b ∧ Arv Z h b kb .int (5 : Int32) [u0, u1, u2, u3, u4] (.int (0 : Int32))) := by
  refine ownMet.of (plainFor_of_name pn_4) ?_
  intro p e s m below meth c T0 hx hby hml hZ hown hnm hret hlk X0 e0
  refine ownEnds.cast (ef_rm4_5 m oa) ?_
  show ownEnds _ _ _ _ (T0.setTop (mkF m 0 #[.val (.ref oa), .val (.int (5 : Int32)), .unset] []))
  refine ownEnds.law (fun t k => XS.iloadN X0.here hx rfl (hb hby d4_0) rfl (XS.aloadN X0.here hx rfl (hb hby d4_1) rfl rfl k)) ?_
  show ownEnds _ _ _ _ (T0.setTop (mkF m 2 #[.val (.ref oa), .val (.int (5 : Int32)), .unset] [(.ref oa), (.int (5 : Int32))]))
  obtain ⟨cl1, Ar1, -, S1, N1, -, -⟩ := id Va
  refine ownEnds.law (X0.arraylength hx (by rw [e0]; exact Ar1.1) (State.isArrayOf_alike hZ.alike Ar1.2.1) (g := (mkF m 2 #[.val (.ref oa), .val (.int (5 : Int32)), .unset] [(.ref oa), (.int (5 : Int32))])) rfl rfl (hb hby d4_2)) ?_
  rw [len_of S1 N1]
  show ownEnds _ _ _ _ (T0.setTop (mkF m 3 #[.val (.ref oa), .val (.int (5 : Int32)), .unset] [(.int (5 : Int32)), (.int (5 : Int32))]))
  refine ownEnds.law (fun t => XS.icmpNo X0.here hx rfl (hb hby d4_3) rfl (teq (rfl : (5 : Int32) = (5 : Int32))).2) ?_
  show ownEnds _ _ _ _ (T0.setTop (mkF m 6 #[.val (.ref oa), .val (.int (5 : Int32)), .unset] []))
  refine ownEnds.law (fun t k => XS.aloadN X0.here hx rfl (hb hby d4_6) rfl rfl k) ?_
  show ownEnds _ _ _ _ (T0.setTop (mkF m 7 #[.val (.ref oa), .val (.int (5 : Int32)), .unset] [(.ref oa)]))
  obtain ⟨T2, h2, X2, e2, E2, Vh2, A2, st2⟩ := cloneH X0 hx hZ hown (wd_39 hw) (wd_15 hw) (wd_19 hw) (wd_17 hw) (wd_18 hw) (wd_20 hw) e0 (hs := []) Va Ea (g := (mkF m 7 #[.val (.ref oa), .val (.int (5 : Int32)), .unset] [(.ref oa)])) rfl (by rw [hml]; rfl) rfl (hb hby d4_7) (by decide) (W := 0) (cap := 5) (by show 2 * 0 + _ ≤ _; exact Nat.le_of_eq rfl) (by decide) (by decide) (by decide) (by decide)
  obtain ⟨b2, g2⟩ : ∃ z, z = h0.size := ⟨_, rfl⟩
  rw [← g2] at Vh2 A2 st2
  refine ownEnds.law st2 ?_
  have V_b2 : Arv Z h2 b2 ka .int (5 : Int32) [u0, u1, u2, u3, u4] (.int (0 : Int32)) := Vh2
  have ne_oa_b2 : oa ≠ b2 := Nat.ne_of_lt (Nat.lt_of_lt_of_eq Va.lt g2.symm)
  have g_b2 : n0 ≤ b2 := Nat.le_trans Z0 (Nat.le_of_eq g2.symm)
  have sz_b2 : h0.size ≤ b2 := Nat.le_trans (Keep.refl h0 []).1 (Nat.le_of_eq g2.symm)
  have Z2 : n0 ≤ h2.size := Nat.le_trans Z0 E2.1
  have KK2 : Keep h0 h2 [] := (Keep.refl h0 []).ext E2
  show ownEnds _ _ _ _ (T2.setTop (mkF m 10 #[.val (.ref oa), .val (.int (5 : Int32)), .unset] [(.ref b2)]))
  obtain ⟨T3, X3, e3, st3⟩ := castY X2 hx hZ hown (wd_40 hw) e2 (Ins.self A2) (g := (mkF m 10 #[.val (.ref oa), .val (.int (5 : Int32)), .unset] [(.ref b2)])) rfl rfl (hb hby d4_10)
  refine ownEnds.law st3 ?_
  show ownEnds _ _ _ _ (T3.setTop (mkF m 13 #[.val (.ref oa), .val (.int (5 : Int32)), .unset] [(.ref b2)]))
  refine ownRetA X3 hlk hx hret rfl rfl (hb hby d4_13) (by decide) (by decide) ?_
  rw [e3]
  exact ⟨b2, ka, rfl, (Fr.nil n0), KK2, g_b2, sz_b2, V_b2⟩
theorem own_run000 {w0 w1 w2 w3 : Int32} (h1 : ¬ N1 w0 w1) (h2 : ¬ N2 w0 w1 w2) (h3 : ¬ N3 w0 w1 w2 w3) : RunOK w0 w1 w2 w3 [(.int (0 : Int32)), (.int (1 : Int32)), (.int (2 : Int32)), (.int (3 : Int32)), (.int (4 : Int32))] (5 : Int32) := by
  simp only [RunOK, GK1, GK2, GK3, GE0, GE1, GE2, if_neg h1, if_neg h2, if_neg h3]
  exact ⟨rfl, fun _ => rfl, fun _ => rfl, fun _ => rfl, rfl, rfl, rfl, rfl, by decide, by decide, by decide, by decide, by decide⟩
theorem own_run001 {w0 w1 w2 w3 : Int32} (h1 : ¬ N1 w0 w1) (h2 : ¬ N2 w0 w1 w2) (h3 : N3 w0 w1 w2 w3) : RunOK w0 w1 w2 w3 [(.int (0 : Int32)), (.int (1 : Int32)), (.int (2 : Int32)), (.int (4 : Int32))] (4 : Int32) := by
  simp only [RunOK, GK1, GK2, GK3, GE0, GE1, GE2, if_neg h1, if_neg h2, if_pos h3]
  exact ⟨rfl, fun _ => rfl, fun _ => rfl, fun q => absurd h3 q, rfl, rfl, rfl, rfl, by decide, by decide, by decide, by decide, by decide⟩
theorem own_run010 {w0 w1 w2 w3 : Int32} (h1 : ¬ N1 w0 w1) (h2 : N2 w0 w1 w2) (h3 : ¬ N3 w0 w1 w2 w3) : RunOK w0 w1 w2 w3 [(.int (0 : Int32)), (.int (1 : Int32)), (.int (3 : Int32)), (.int (4 : Int32))] (4 : Int32) := by
  simp only [RunOK, GK1, GK2, GK3, GE0, GE1, GE2, if_neg h1, if_pos h2, if_neg h3]
  exact ⟨rfl, fun _ => rfl, fun q => absurd h2 q, fun _ => rfl, rfl, rfl, rfl, rfl, by decide, by decide, by decide, by decide, by decide⟩
theorem own_run011 {w0 w1 w2 w3 : Int32} (h1 : ¬ N1 w0 w1) (h2 : N2 w0 w1 w2) (h3 : N3 w0 w1 w2 w3) : RunOK w0 w1 w2 w3 [(.int (0 : Int32)), (.int (1 : Int32)), (.int (4 : Int32))] (3 : Int32) := by
  simp only [RunOK, GK1, GK2, GK3, GE0, GE1, GE2, if_neg h1, if_pos h2, if_pos h3]
  exact ⟨rfl, fun _ => rfl, fun q => absurd h2 q, fun q => absurd h3 q, rfl, rfl, rfl, rfl, by decide, by decide, by decide, by decide, by decide⟩
theorem own_run100 {w0 w1 w2 w3 : Int32} (h1 : N1 w0 w1) (h2 : ¬ N2 w0 w1 w2) (h3 : ¬ N3 w0 w1 w2 w3) : RunOK w0 w1 w2 w3 [(.int (0 : Int32)), (.int (2 : Int32)), (.int (3 : Int32)), (.int (4 : Int32))] (4 : Int32) := by
  simp only [RunOK, GK1, GK2, GK3, GE0, GE1, GE2, if_pos h1, if_neg h2, if_neg h3]
  exact ⟨rfl, fun q => absurd h1 q, fun _ => rfl, fun _ => rfl, rfl, rfl, rfl, rfl, by decide, by decide, by decide, by decide, by decide⟩
theorem own_run101 {w0 w1 w2 w3 : Int32} (h1 : N1 w0 w1) (h2 : ¬ N2 w0 w1 w2) (h3 : N3 w0 w1 w2 w3) : RunOK w0 w1 w2 w3 [(.int (0 : Int32)), (.int (2 : Int32)), (.int (4 : Int32))] (3 : Int32) := by
  simp only [RunOK, GK1, GK2, GK3, GE0, GE1, GE2, if_pos h1, if_neg h2, if_pos h3]
  exact ⟨rfl, fun q => absurd h1 q, fun _ => rfl, fun q => absurd h3 q, rfl, rfl, rfl, rfl, by decide, by decide, by decide, by decide, by decide⟩
theorem own_run110 {w0 w1 w2 w3 : Int32} (h1 : N1 w0 w1) (h2 : N2 w0 w1 w2) (h3 : ¬ N3 w0 w1 w2 w3) : RunOK w0 w1 w2 w3 [(.int (0 : Int32)), (.int (3 : Int32)), (.int (4 : Int32))] (3 : Int32) := by
  simp only [RunOK, GK1, GK2, GK3, GE0, GE1, GE2, if_pos h1, if_pos h2, if_neg h3]
  exact ⟨rfl, fun q => absurd h1 q, fun q => absurd h2 q, fun _ => rfl, rfl, rfl, rfl, rfl, by decide, by decide, by decide, by decide, by decide⟩
theorem own_run111 {w0 w1 w2 w3 : Int32} (h1 : N1 w0 w1) (h2 : N2 w0 w1 w2) (h3 : N3 w0 w1 w2 w3) : RunOK w0 w1 w2 w3 [(.int (0 : Int32)), (.int (4 : Int32))] (2 : Int32) := by
  simp only [RunOK, GK1, GK2, GK3, GE0, GE1, GE2, if_pos h1, if_pos h2, if_pos h3]
  exact ⟨rfl, fun q => absurd h1 q, fun q => absurd h2 q, fun q => absurd h3 q, rfl, rfl, rfl, rfl, by decide, by decide, by decide, by decide, by decide⟩
set_option maxRecDepth 65536 in
set_option maxHeartbeats 40000000 in
theorem rm2 (l : Launch) (Z : State) (a0 : Array Value) (hw : ∀ d ∈ tables_1, d.before a0 Z = true) (oa : Addr) (ob : Addr) (w0 w1 w2 w3 : Int32) (k_ob : ClassId) (h0 : Heap) (n0 : Nat) (Z0 : n0 ≤ h0.size) (E_oa : Exa Z h0 oa "com/example/libreach/libreach/engine/StateLayout") (g_oa : n0 ≤ oa) (F_oa_widths : Fld Z h0 oa "com/example/libreach/libreach/engine/StateLayout" "widths" "[I" .null) (F_oa_word : Fld Z h0 oa "com/example/libreach/libreach/engine/StateLayout" "word" "[I" .null) (F_oa_shift : Fld Z h0 oa "com/example/libreach/libreach/engine/StateLayout" "shift" "[I" .null) (F_oa_largest : Fld Z h0 oa "com/example/libreach/libreach/engine/StateLayout" "largest" "[J" .null) (F_oa_words : Fld Z h0 oa "com/example/libreach/libreach/engine/StateLayout" "words" "I" (.int (0 : Int32))) (F_oa_runs : Fld Z h0 oa "com/example/libreach/libreach/engine/StateLayout" "runs" "[I" .null) (E_ob : Exa Z h0 ob "[I") (V_ob : Arv Z h0 ob k_ob .int (4 : Int32) [(.int w0), (.int w1), (.int w2), (.int w3)] (.int (0 : Int32))) (hr0 : 0 < w0.toInt ∧ w0.toInt < 64) :
    ownMet l Z (⟨"com/example/libreach/libreach/engine/StateLayout", "<init>", "([I)V"⟩ : MethodName) prog_17_method_1_code 7 none [] ({ frames := 2, cells := 6, slots := 40, locals := 60 } : Room) #[(.ref oa), (.ref ob)] h0 (fun v h L => v = none ∧ Fr n0 L ∧ Keep h0 h [oa] ∧ ∃ (c0 c1 c2 c3 c4 : Addr) (k0 k1 k2 k3 k4 : ClassId) (rs : List Value) (len : Int32), Exa Z h oa "com/example/libreach/libreach/engine/StateLayout" ∧ Fld Z h oa "com/example/libreach/libreach/engine/StateLayout" "widths" "[I" (.ref c0) ∧ Arv Z h c0 k0 .int (4 : Int32) [(.int w0), (.int w1), (.int w2), (.int w3)] (.int (0 : Int32)) ∧ Fld Z h oa "com/example/libreach/libreach/engine/StateLayout" "word" "[I" (.ref c1) ∧ Arv Z h c1 k1 .int (4 : Int32) [(.int (0 : Int32)), (.int (LI1 w0 w1)), (.int (LI2 w0 w1 w2)), (.int (LI3 w0 w1 w2 w3))] (.int (0 : Int32)) ∧ Fld Z h oa "com/example/libreach/libreach/engine/StateLayout" "shift" "[I" (.ref c2) ∧ Arv Z h c2 k2 .int (4 : Int32) [(.int (0 : Int32)), (.int (LS1 w0 w1)), (.int (LS2 w0 w1 w2)), (.int (LS3 w0 w1 w2 w3))] (.int (0 : Int32)) ∧ Fld Z h oa "com/example/libreach/libreach/engine/StateLayout" "largest" "[J" (.ref c3) ∧ Arv Z h c3 k3 .long (4 : Int32) [(.long (LM w0)), (.long (LM w1)), (.long (LM w2)), (.long (LM w3))] (.long (0 : Int64)) ∧ Fld Z h oa "com/example/libreach/libreach/engine/StateLayout" "runs" "[I" (.ref c4) ∧ Arv Z h c4 k4 .int len rs (.int (0 : Int32)) ∧ RunOK w0 w1 w2 w3 rs len) := by
  refine ownMet.of (plainFor_of_name pn_2) ?_
  intro p e s m below meth c T0 hx hby hml hZ hown hnm hret hlk X0 e0
  refine ownEnds.cast (ef_rm2 m oa ob) ?_
  have ne_oa_ob : oa ≠ ob := ne_exa E_oa E_ob (by decide)
  show ownEnds _ _ _ _ (T0.setTop (mkF m 0 #[.val (.ref oa), .val (.ref ob), .unset, .unset, .unset, .unset, .unset] []))
  refine ownEnds.law (fun t k => XS.aloadN X0.here hx rfl (hb hby d2_0) rfl rfl k) ?_
  show ownEnds _ _ _ _ (T0.setTop (mkF m 1 #[.val (.ref oa), .val (.ref ob), .unset, .unset, .unset, .unset, .unset] [(.ref oa)]))
  obtain ⟨T1, X1, e1, st1⟩ := initO X0 hx hZ hown (wd_11 hw) (wd_12 hw) (wd_13 hw) e0 (g := (mkF m 1 #[.val (.ref oa), .val (.ref ob), .unset, .unset, .unset, .unset, .unset] [(.ref oa)])) rfl (by rw [hml]; rfl) rfl (hb hby d2_1) (by decide) (W := 0) (by show 2 * 0 + _ ≤ _; exact Nat.le_of_eq rfl) (by decide)
  refine ownEnds.law st1 ?_
  show ownEnds _ _ _ _ (T1.setTop (mkF m 4 #[.val (.ref oa), .val (.ref ob), .unset, .unset, .unset, .unset, .unset] []))
  refine ownEnds.law (fun t k => XS.aloadN X1.here hx rfl (hb hby d2_4) rfl rfl (XS.aloadN X1.here hx rfl (hb hby d2_5) rfl rfl k)) ?_
  show ownEnds _ _ _ _ (T1.setTop (mkF m 6 #[.val (.ref oa), .val (.ref ob), .unset, .unset, .unset, .unset, .unset] [(.ref ob), (.ref oa)]))
  obtain ⟨T2, h2, X2, e2, E2, Vh2, A2, st2⟩ := cloneH X1 hx hZ hown (wd_14 hw) (wd_15 hw) (wd_19 hw) (wd_17 hw) (wd_18 hw) (wd_20 hw) e1 (hs := []) V_ob E_ob (g := (mkF m 6 #[.val (.ref oa), .val (.ref ob), .unset, .unset, .unset, .unset, .unset] [(.ref ob), (.ref oa)])) rfl (by rw [hml]; rfl) rfl (hb hby d2_6) (by decide) (W := 1) (cap := 4) (by show 2 * 0 + _ ≤ _; exact Nat.le_of_eq rfl) (by decide) (by decide) (by decide) (by decide)
  obtain ⟨b2, g2⟩ : ∃ z, z = h0.size := ⟨_, rfl⟩
  rw [← g2] at Vh2 A2 st2
  refine ownEnds.law st2 ?_
  have V_b2 : Arv Z h2 b2 k_ob .int (4 : Int32) [(.int w0), (.int w1), (.int w2), (.int w3)] (.int (0 : Int32)) := Vh2
  have ne_oa_b2 : oa ≠ b2 := Nat.ne_of_lt (Nat.lt_of_lt_of_eq E_oa.lt g2.symm)
  have ne_ob_b2 : ob ≠ b2 := Nat.ne_of_lt (Nat.lt_of_lt_of_eq E_ob.lt g2.symm)
  have g_b2 : n0 ≤ b2 := Nat.le_trans Z0 (Nat.le_of_eq g2.symm)
  have sz_b2 : h0.size ≤ b2 := Nat.le_trans (Keep.refl h0 [oa]).1 (Nat.le_of_eq g2.symm)
  have Z2 : n0 ≤ h2.size := Nat.le_trans Z0 E2.1
  have KK2 : Keep h0 h2 [oa] := (Keep.refl h0 [oa]).ext E2
  show ownEnds _ _ _ _ (T2.setTop (mkF m 9 #[.val (.ref oa), .val (.ref ob), .unset, .unset, .unset, .unset, .unset] [(.ref b2), (.ref oa)]))
  obtain ⟨T3, X3, e3, st3⟩ := castY X2 hx hZ hown (wd_21 hw) e2 (Ins.self A2) (g := (mkF m 9 #[.val (.ref oa), .val (.ref ob), .unset, .unset, .unset, .unset, .unset] [(.ref b2), (.ref oa)])) rfl rfl (hb hby d2_9)
  refine ownEnds.law st3 ?_
  show ownEnds _ _ _ _ (T3.setTop (mkF m 12 #[.val (.ref oa), .val (.ref ob), .unset, .unset, .unset, .unset, .unset] [(.ref b2), (.ref oa)]))
  have f4 := (Exa.ext E2 E_oa)
  have f5 := (Fld.ext E2 F_oa_widths)
  obtain ⟨T6, h6, X6, e6, W6, st6⟩ := putF X3 hx hZ hown (host := "") (Or.inl (wd_23 hw)) Via.refl e3 f5 f4 (Or.inr ⟨(wd_24 hw), rfl, hnm⟩) (wd_5 hw) (ty := (.array .int)) (by decide) rfl rfl (g := (mkF m 12 #[.val (.ref oa), .val (.ref ob), .unset, .unset, .unset, .unset, .unset] [(.ref b2), (.ref oa)])) rfl rfl (hb hby d2_12)
  refine ownEnds.law st6 ?_
  have N6 := Fr.snoc X6 (Fr.nil n0) g_oa
  have KK6 : Keep h0 h6 [oa] := (KK2).wr W6 (Or.inl (List.mem_of_getElem? (i := 0) rfl))
  have Z6 : n0 ≤ h6.size := by rw [W6.size]; exact Z2
  have Fw6 : Fld Z h6 oa "com/example/libreach/libreach/engine/StateLayout" "widths" "[I" (.ref b2) := Fld.same W6 f5
  show ownEnds _ _ _ _ (T6.setTop (mkF m 15 #[.val (.ref oa), .val (.ref ob), .unset, .unset, .unset, .unset, .unset] []))
  refine ownEnds.law (fun t k => XS.aloadN X6.here hx rfl (hb hby d2_15) rfl rfl (XS.aloadN X6.here hx rfl (hb hby d2_16) rfl rfl k)) ?_
  show ownEnds _ _ _ _ (T6.setTop (mkF m 17 #[.val (.ref oa), .val (.ref ob), .unset, .unset, .unset, .unset, .unset] [(.ref ob), (.ref oa)]))
  have f8 := (Arv.other (Arv.ext V_ob E2) W6 (Ne.symm ne_oa_ob))
  obtain ⟨cl7, Ar7, -, S7, N7, -, -⟩ := id f8
  refine ownEnds.law (X6.arraylength hx (by rw [e6]; exact Ar7.1) (State.isArrayOf_alike hZ.alike Ar7.2.1) (g := (mkF m 17 #[.val (.ref oa), .val (.ref ob), .unset, .unset, .unset, .unset, .unset] [(.ref ob), (.ref oa)])) rfl rfl (hb hby d2_17)) ?_
  rw [len_of S7 N7]
  show ownEnds _ _ _ _ (T6.setTop (mkF m 18 #[.val (.ref oa), .val (.ref ob), .unset, .unset, .unset, .unset, .unset] [(.int (4 : Int32)), (.ref oa)]))
  obtain ⟨T9, h9, k9, X9, e9, E9, A9, Ax9, st9⟩ := newPE X6 hx hZ (aty := .int) (wd_7 hw) e6 (g := (mkF m 18 #[.val (.ref oa), .val (.ref ob), .unset, .unset, .unset, .unset, .unset] [(.int (4 : Int32)), (.ref oa)])) rfl (hb hby d2_18) rfl (by decide) (cap := 4) (by decide) (by decide) (by decide) (by decide) (ad := "[I") (by decide)
  obtain ⟨b9, g9⟩ : ∃ z, z = h6.size := ⟨_, rfl⟩
  rw [← g9] at A9 st9 Ax9
  refine ownEnds.law st9 ?_
  have V_b9 : Arv Z h9 b9 k9 .int (4 : Int32) [(.int (0 : Int32)), (.int (0 : Int32)), (.int (0 : Int32)), (.int (0 : Int32))] (.int (0 : Int32)) := (Arv.new A9 (by decide)).pad (pad_rep [] (.int (0 : Int32)) 4)
  have f10 := (Exa.wr W6 f4)
  have ne_oa_b9 : oa ≠ b9 := Nat.ne_of_lt (Nat.lt_of_lt_of_eq f10.lt g9.symm)
  have f11 := (Exa.wr W6 (Exa.ext E2 E_ob))
  have ne_ob_b9 : ob ≠ b9 := Nat.ne_of_lt (Nat.lt_of_lt_of_eq f11.lt g9.symm)
  have f12 := (Arv.other V_b2 W6 (Ne.symm ne_oa_b2))
  have ne_b2_b9 : b2 ≠ b9 := Nat.ne_of_lt (Nat.lt_of_lt_of_eq f12.lt g9.symm)
  have g_b9 : n0 ≤ b9 := Nat.le_trans Z6 (Nat.le_of_eq g9.symm)
  have sz_b9 : h0.size ≤ b9 := Nat.le_trans (KK6).1 (Nat.le_of_eq g9.symm)
  have Z9 : n0 ≤ h9.size := Nat.le_trans Z6 E9.1
  have KK9 : Keep h0 h9 [oa] := (KK6).ext E9
  show ownEnds _ _ _ _ (T9.setTop (mkF m 20 #[.val (.ref oa), .val (.ref ob), .unset, .unset, .unset, .unset, .unset] [(.ref b9), (.ref oa)]))
  have f13 := (Exa.ext E9 f10)
  have f14 := (Fld.ext E9 (Fld.other W6 (Fld.ext E2 F_oa_word) (Or.inr (slot_ne (Or.inr (wd_26 hw)) (Or.inr (wd_24 hw)) (by decide) (t := (.array .int)) (t' := (.array .int)) (by decide) (by decide)))))
  obtain ⟨T15, h15, X15, e15, W15, st15⟩ := putF X9 hx hZ hown (host := "") (Or.inl (wd_25 hw)) Via.refl e9 f14 f13 (Or.inr ⟨(wd_26 hw), rfl, hnm⟩) (wd_5 hw) (ty := (.array .int)) (by decide) rfl rfl (g := (mkF m 20 #[.val (.ref oa), .val (.ref ob), .unset, .unset, .unset, .unset, .unset] [(.ref b9), (.ref oa)])) rfl rfl (hb hby d2_20)
  refine ownEnds.law st15 ?_
  have N15 := Fr.snoc X15 N6 g_oa
  have KK15 : Keep h0 h15 [oa] := (KK9).wr W15 (Or.inl (List.mem_of_getElem? (i := 0) rfl))
  have Z15 : n0 ≤ h15.size := by rw [W15.size]; exact Z9
  have Fw15 : Fld Z h15 oa "com/example/libreach/libreach/engine/StateLayout" "word" "[I" (.ref b9) := Fld.same W15 f14
  show ownEnds _ _ _ _ (T15.setTop (mkF m 23 #[.val (.ref oa), .val (.ref ob), .unset, .unset, .unset, .unset, .unset] []))
  refine ownEnds.law (fun t k => XS.aloadN X15.here hx rfl (hb hby d2_23) rfl rfl (XS.aloadN X15.here hx rfl (hb hby d2_24) rfl rfl k)) ?_
  show ownEnds _ _ _ _ (T15.setTop (mkF m 25 #[.val (.ref oa), .val (.ref ob), .unset, .unset, .unset, .unset, .unset] [(.ref ob), (.ref oa)]))
  have f17 := (Arv.other (Arv.ext f8 E9) W15 (Ne.symm ne_oa_ob))
  obtain ⟨cl16, Ar16, -, S16, N16, -, -⟩ := id f17
  refine ownEnds.law (X15.arraylength hx (by rw [e15]; exact Ar16.1) (State.isArrayOf_alike hZ.alike Ar16.2.1) (g := (mkF m 25 #[.val (.ref oa), .val (.ref ob), .unset, .unset, .unset, .unset, .unset] [(.ref ob), (.ref oa)])) rfl rfl (hb hby d2_25)) ?_
  rw [len_of S16 N16]
  show ownEnds _ _ _ _ (T15.setTop (mkF m 26 #[.val (.ref oa), .val (.ref ob), .unset, .unset, .unset, .unset, .unset] [(.int (4 : Int32)), (.ref oa)]))
  obtain ⟨T18, h18, k18, X18, e18, E18, A18, Ax18, st18⟩ := newPE X15 hx hZ (aty := .int) (wd_7 hw) e15 (g := (mkF m 26 #[.val (.ref oa), .val (.ref ob), .unset, .unset, .unset, .unset, .unset] [(.int (4 : Int32)), (.ref oa)])) rfl (hb hby d2_26) rfl (by decide) (cap := 4) (by decide) (by decide) (by decide) (by decide) (ad := "[I") (by decide)
  obtain ⟨b18, g18⟩ : ∃ z, z = h15.size := ⟨_, rfl⟩
  rw [← g18] at A18 st18 Ax18
  refine ownEnds.law st18 ?_
  have V_b18 : Arv Z h18 b18 k18 .int (4 : Int32) [(.int (0 : Int32)), (.int (0 : Int32)), (.int (0 : Int32)), (.int (0 : Int32))] (.int (0 : Int32)) := (Arv.new A18 (by decide)).pad (pad_rep [] (.int (0 : Int32)) 4)
  have f19 := (Exa.wr W15 f13)
  have ne_oa_b18 : oa ≠ b18 := Nat.ne_of_lt (Nat.lt_of_lt_of_eq f19.lt g18.symm)
  have f20 := (Exa.wr W15 (Exa.ext E9 f11))
  have ne_ob_b18 : ob ≠ b18 := Nat.ne_of_lt (Nat.lt_of_lt_of_eq f20.lt g18.symm)
  have f21 := (Arv.other (Arv.ext f12 E9) W15 (Ne.symm ne_oa_b2))
  have ne_b2_b18 : b2 ≠ b18 := Nat.ne_of_lt (Nat.lt_of_lt_of_eq f21.lt g18.symm)
  have f22 := (Arv.other V_b9 W15 (Ne.symm ne_oa_b9))
  have ne_b9_b18 : b9 ≠ b18 := Nat.ne_of_lt (Nat.lt_of_lt_of_eq f22.lt g18.symm)
  have g_b18 : n0 ≤ b18 := Nat.le_trans Z15 (Nat.le_of_eq g18.symm)
  have sz_b18 : h0.size ≤ b18 := Nat.le_trans (KK15).1 (Nat.le_of_eq g18.symm)
  have Z18 : n0 ≤ h18.size := Nat.le_trans Z15 E18.1
  have KK18 : Keep h0 h18 [oa] := (KK15).ext E18
  show ownEnds _ _ _ _ (T18.setTop (mkF m 28 #[.val (.ref oa), .val (.ref ob), .unset, .unset, .unset, .unset, .unset] [(.ref b18), (.ref oa)]))
  have f23 := (Exa.ext E18 f19)
  have f24 := (Fld.ext E18 (Fld.other W15 (Fld.ext E9 (Fld.other W6 (Fld.ext E2 F_oa_shift) (Or.inr (slot_ne (Or.inr (wd_28 hw)) (Or.inr (wd_24 hw)) (by decide) (t := (.array .int)) (t' := (.array .int)) (by decide) (by decide))))) (Or.inr (slot_ne (Or.inr (wd_28 hw)) (Or.inr (wd_26 hw)) (by decide) (t := (.array .int)) (t' := (.array .int)) (by decide) (by decide)))))
  obtain ⟨T25, h25, X25, e25, W25, st25⟩ := putF X18 hx hZ hown (host := "") (Or.inl (wd_27 hw)) Via.refl e18 f24 f23 (Or.inr ⟨(wd_28 hw), rfl, hnm⟩) (wd_5 hw) (ty := (.array .int)) (by decide) rfl rfl (g := (mkF m 28 #[.val (.ref oa), .val (.ref ob), .unset, .unset, .unset, .unset, .unset] [(.ref b18), (.ref oa)])) rfl rfl (hb hby d2_28)
  refine ownEnds.law st25 ?_
  have N25 := Fr.snoc X25 N15 g_oa
  have KK25 : Keep h0 h25 [oa] := (KK18).wr W25 (Or.inl (List.mem_of_getElem? (i := 0) rfl))
  have Z25 : n0 ≤ h25.size := by rw [W25.size]; exact Z18
  have Fw25 : Fld Z h25 oa "com/example/libreach/libreach/engine/StateLayout" "shift" "[I" (.ref b18) := Fld.same W25 f24
  show ownEnds _ _ _ _ (T25.setTop (mkF m 31 #[.val (.ref oa), .val (.ref ob), .unset, .unset, .unset, .unset, .unset] []))
  refine ownEnds.law (fun t k => XS.aloadN X25.here hx rfl (hb hby d2_31) rfl rfl (XS.aloadN X25.here hx rfl (hb hby d2_32) rfl rfl k)) ?_
  show ownEnds _ _ _ _ (T25.setTop (mkF m 33 #[.val (.ref oa), .val (.ref ob), .unset, .unset, .unset, .unset, .unset] [(.ref ob), (.ref oa)]))
  have f27 := (Arv.other (Arv.ext f17 E18) W25 (Ne.symm ne_oa_ob))
  obtain ⟨cl26, Ar26, -, S26, N26, -, -⟩ := id f27
  refine ownEnds.law (X25.arraylength hx (by rw [e25]; exact Ar26.1) (State.isArrayOf_alike hZ.alike Ar26.2.1) (g := (mkF m 33 #[.val (.ref oa), .val (.ref ob), .unset, .unset, .unset, .unset, .unset] [(.ref ob), (.ref oa)])) rfl rfl (hb hby d2_33)) ?_
  rw [len_of S26 N26]
  show ownEnds _ _ _ _ (T25.setTop (mkF m 34 #[.val (.ref oa), .val (.ref ob), .unset, .unset, .unset, .unset, .unset] [(.int (4 : Int32)), (.ref oa)]))
  obtain ⟨T28, h28, k28, X28, e28, E28, A28, st28⟩ := newP X25 hx hZ (aty := .long) (wd_29 hw) e25 (g := (mkF m 34 #[.val (.ref oa), .val (.ref ob), .unset, .unset, .unset, .unset, .unset] [(.int (4 : Int32)), (.ref oa)])) rfl (hb hby d2_34) rfl (by decide) (cap := 4) (by decide) (by decide) (by decide) (by decide)
  obtain ⟨b28, g28⟩ : ∃ z, z = h25.size := ⟨_, rfl⟩
  rw [← g28] at A28 st28
  refine ownEnds.law st28 ?_
  have V_b28 : Arv Z h28 b28 k28 .long (4 : Int32) [(.long (0 : Int64)), (.long (0 : Int64)), (.long (0 : Int64)), (.long (0 : Int64))] (.long (0 : Int64)) := (Arv.new A28 (by decide)).pad (pad_rep [] (.long (0 : Int64)) 4)
  have f29 := (Exa.wr W25 f23)
  have ne_oa_b28 : oa ≠ b28 := Nat.ne_of_lt (Nat.lt_of_lt_of_eq f29.lt g28.symm)
  have f30 := (Exa.wr W25 (Exa.ext E18 f20))
  have ne_ob_b28 : ob ≠ b28 := Nat.ne_of_lt (Nat.lt_of_lt_of_eq f30.lt g28.symm)
  have f31 := (Arv.other (Arv.ext f21 E18) W25 (Ne.symm ne_oa_b2))
  have ne_b2_b28 : b2 ≠ b28 := Nat.ne_of_lt (Nat.lt_of_lt_of_eq f31.lt g28.symm)
  have f32 := (Arv.other (Arv.ext f22 E18) W25 (Ne.symm ne_oa_b9))
  have ne_b9_b28 : b9 ≠ b28 := Nat.ne_of_lt (Nat.lt_of_lt_of_eq f32.lt g28.symm)
  have f33 := (Arv.other V_b18 W25 (Ne.symm ne_oa_b18))
  have ne_b18_b28 : b18 ≠ b28 := Nat.ne_of_lt (Nat.lt_of_lt_of_eq f33.lt g28.symm)
  have g_b28 : n0 ≤ b28 := Nat.le_trans Z25 (Nat.le_of_eq g28.symm)
  have sz_b28 : h0.size ≤ b28 := Nat.le_trans (KK25).1 (Nat.le_of_eq g28.symm)
  have Z28 : n0 ≤ h28.size := Nat.le_trans Z25 E28.1
  have KK28 : Keep h0 h28 [oa] := (KK25).ext E28
  show ownEnds _ _ _ _ (T28.setTop (mkF m 36 #[.val (.ref oa), .val (.ref ob), .unset, .unset, .unset, .unset, .unset] [(.ref b28), (.ref oa)]))
  have f34 := (Exa.ext E28 f29)
  have f35 := (Fld.ext E28 (Fld.other W25 (Fld.ext E18 (Fld.other W15 (Fld.ext E9 (Fld.other W6 (Fld.ext E2 F_oa_largest) (Or.inr (slot_ne (Or.inr (wd_31 hw)) (Or.inr (wd_24 hw)) (by decide) (t := (.array .long)) (t' := (.array .int)) (by decide) (by decide))))) (Or.inr (slot_ne (Or.inr (wd_31 hw)) (Or.inr (wd_26 hw)) (by decide) (t := (.array .long)) (t' := (.array .int)) (by decide) (by decide))))) (Or.inr (slot_ne (Or.inr (wd_31 hw)) (Or.inr (wd_28 hw)) (by decide) (t := (.array .long)) (t' := (.array .int)) (by decide) (by decide)))))
  obtain ⟨T36, h36, X36, e36, W36, st36⟩ := putF X28 hx hZ hown (host := "") (Or.inl (wd_30 hw)) Via.refl e28 f35 f34 (Or.inr ⟨(wd_31 hw), rfl, hnm⟩) (wd_5 hw) (ty := (.array .long)) (by decide) rfl rfl (g := (mkF m 36 #[.val (.ref oa), .val (.ref ob), .unset, .unset, .unset, .unset, .unset] [(.ref b28), (.ref oa)])) rfl rfl (hb hby d2_36)
  refine ownEnds.law st36 ?_
  have N36 := Fr.snoc X36 N25 g_oa
  have KK36 : Keep h0 h36 [oa] := (KK28).wr W36 (Or.inl (List.mem_of_getElem? (i := 0) rfl))
  have Z36 : n0 ≤ h36.size := by rw [W36.size]; exact Z28
  have Fw36 : Fld Z h36 oa "com/example/libreach/libreach/engine/StateLayout" "largest" "[J" (.ref b28) := Fld.same W36 f35
  show ownEnds _ _ _ _ (T36.setTop (mkF m 39 #[.val (.ref oa), .val (.ref ob), .unset, .unset, .unset, .unset, .unset] []))
  refine ownEnds.law (fun t k => XS.iconst X36.here hx rfl (hb hby d2_39) (XS.istoreN X36.here hx rfl (hb hby d2_40) rfl (l' := #[.val (.ref oa), .val (.ref ob), .val (.int (0 : Int32)), .unset, .unset, .unset, .unset]) rfl (XS.iconst X36.here hx rfl (hb hby d2_41) (XS.istoreN X36.here hx rfl (hb hby d2_42) rfl (l' := #[.val (.ref oa), .val (.ref ob), .val (.int (0 : Int32)), .val (.int (0 : Int32)), .unset, .unset, .unset]) rfl (XS.iconst X36.here hx rfl (hb hby d2_43) (XS.istore X36.here hx rfl (hb hby d2_44) rfl (l' := #[.val (.ref oa), .val (.ref ob), .val (.int (0 : Int32)), .val (.int (0 : Int32)), .val (.int (0 : Int32)), .unset, .unset]) rfl (XS.iload X36.here hx rfl (hb hby d2_46) rfl (XS.aloadN X36.here hx rfl (hb hby d2_48) rfl rfl k)))))))) ?_
  show ownEnds _ _ _ _ (T36.setTop (mkF m 49 #[.val (.ref oa), .val (.ref ob), .val (.int (0 : Int32)), .val (.int (0 : Int32)), .val (.int (0 : Int32)), .unset, .unset] [(.ref ob), (.int (0 : Int32))]))
  have f38 := (Arv.other (Arv.ext f27 E28) W36 (Ne.symm ne_oa_ob))
  obtain ⟨cl37, Ar37, -, S37, N37, -, -⟩ := id f38
  refine ownEnds.law (X36.arraylength hx (by rw [e36]; exact Ar37.1) (State.isArrayOf_alike hZ.alike Ar37.2.1) (g := (mkF m 49 #[.val (.ref oa), .val (.ref ob), .val (.int (0 : Int32)), .val (.int (0 : Int32)), .val (.int (0 : Int32)), .unset, .unset] [(.ref ob), (.int (0 : Int32))])) rfl rfl (hb hby d2_49)) ?_
  rw [len_of S37 N37]
  show ownEnds _ _ _ _ (T36.setTop (mkF m 50 #[.val (.ref oa), .val (.ref ob), .val (.int (0 : Int32)), .val (.int (0 : Int32)), .val (.int (0 : Int32)), .unset, .unset] [(.int (4 : Int32)), (.int (0 : Int32))]))
  refine ownEnds.law (fun t => XS.icmpNo X36.here hx rfl (hb hby d2_50) rfl (tlt (by decide : (0 : Int32) < (4 : Int32))).2.1) ?_
  show ownEnds _ _ _ _ (T36.setTop (mkF m 53 #[.val (.ref oa), .val (.ref ob), .val (.int (0 : Int32)), .val (.int (0 : Int32)), .val (.int (0 : Int32)), .unset, .unset] []))
  refine ownEnds.law (fun t k => XS.iloadN X36.here hx rfl (hb hby d2_53) rfl (XS.aloadN X36.here hx rfl (hb hby d2_54) rfl rfl (XS.iload X36.here hx rfl (hb hby d2_55) rfl k))) ?_
  show ownEnds _ _ _ _ (T36.setTop (mkF m 57 #[.val (.ref oa), .val (.ref ob), .val (.int (0 : Int32)), .val (.int (0 : Int32)), .val (.int (0 : Int32)), .unset, .unset] [(.int (0 : Int32)), (.ref ob), (.int (0 : Int32))]))
  obtain ⟨cl39, Ar39, q39, S39, N39, H39, G39⟩ := id f38
  have hi39 := inb_of (j := (0 : Int32)) S39 ⟨by decide, by decide⟩
  have hv39 : cl39.slots[((0 : Int32)).toNatClampNeg]? = some (.int w0) := H39.at hi39 rfl
  refine ownEnds.law (fun t k => X36.iaload hx (j := (0 : Int32)) (v := (.int w0)) (by rw [e36]; exact Ar39.1) (State.isArrayOf_alike hZ.alike Ar39.2.1) Ar39.2.2 hi39 hv39 (g := (mkF m 57 #[.val (.ref oa), .val (.ref ob), .val (.int (0 : Int32)), .val (.int (0 : Int32)), .val (.int (0 : Int32)), .unset, .unset] [(.int (0 : Int32)), (.ref ob), (.int (0 : Int32))])) rfl rfl (hb hby d2_57) _ (XS.iadd X36.here hx rfl (hb hby d2_58) rfl (XS.bipush X36.here hx rfl (hb hby d2_59) k))) ?_
  show ownEnds _ _ _ _ (T36.setTop (mkF m 61 #[.val (.ref oa), .val (.ref ob), .val (.int (0 : Int32)), .val (.int (0 : Int32)), .val (.int (0 : Int32)), .unset, .unset] [(.int (64 : Int32)), (.int ((0 : Int32) + w0))]))
  show ownEnds _ _ _ _ (T36.setTop (mkF m 61 #[.val (.ref oa), .val (.ref ob), .val (.int (0 : Int32)), .val (.int (0 : Int32)), .val (.int (0 : Int32)), .unset, .unset] [(.int (64 : Int32)), (.int ((0 : Int32) + w0))]))
  have hc61 : ¬ ((64 : Int32) < ((0 : Int32) + w0)) := own_wr hr0
  refine ownEnds.law (fun t => XS.icmpYes X36.here hx rfl (pc0 := 61) (pc' := 69) rfl (hb hby d2_61) rfl (flt hc61).2.2.2 (by decide) (by decide)) ?_
  show ownEnds _ _ _ _ (T36.setTop (mkF m 69 #[.val (.ref oa), .val (.ref ob), .val (.int (0 : Int32)), .val (.int (0 : Int32)), .val (.int (0 : Int32)), .unset, .unset] []))
  refine ownEnds.law (fun t k => XS.aloadN X36.here hx rfl (hb hby d2_69) rfl rfl k) ?_
  show ownEnds _ _ _ _ (T36.setTop (mkF m 70 #[.val (.ref oa), .val (.ref ob), .val (.int (0 : Int32)), .val (.int (0 : Int32)), .val (.int (0 : Int32)), .unset, .unset] [(.ref oa)]))
  have f40 := (Fld.other W36 (Fld.ext E28 (Fld.other W25 (Fld.ext E18 Fw15) (Or.inr (slot_ne (Or.inr (wd_26 hw)) (Or.inr (wd_28 hw)) (by decide) (t := (.array .int)) (t' := (.array .int)) (by decide) (by decide))))) (Or.inr (slot_ne (Or.inr (wd_26 hw)) (Or.inr (wd_31 hw)) (by decide) (t := (.array .int)) (t' := (.array .long)) (by decide) (by decide))))
  obtain ⟨T41, X41, e41, st41⟩ := getF X36 hx hZ hown (host := "") (Or.inl (wd_25 hw)) Via.refl e36 f40 (g := (mkF m 70 #[.val (.ref oa), .val (.ref ob), .val (.int (0 : Int32)), .val (.int (0 : Int32)), .val (.int (0 : Int32)), .unset, .unset] [(.ref oa)])) rfl rfl (hb hby d2_70)
  refine ownEnds.law st41 ?_
  show ownEnds _ _ _ _ (T41.setTop (mkF m 73 #[.val (.ref oa), .val (.ref ob), .val (.int (0 : Int32)), .val (.int (0 : Int32)), .val (.int (0 : Int32)), .unset, .unset] [(.ref b9)]))
  refine ownEnds.law (fun t k => XS.iload X41.here hx rfl (hb hby d2_73) rfl (XS.iloadN X41.here hx rfl (hb hby d2_75) rfl k)) ?_
  show ownEnds _ _ _ _ (T41.setTop (mkF m 76 #[.val (.ref oa), .val (.ref ob), .val (.int (0 : Int32)), .val (.int (0 : Int32)), .val (.int (0 : Int32)), .unset, .unset] [(.int (0 : Int32)), (.int (0 : Int32)), (.ref b9)]))
  have f43 := (Arv.other (Arv.ext f32 E28) W36 (Ne.symm ne_oa_b9))
  obtain ⟨cl42, Ar42, q42, S42, N42, H42, G42⟩ := id f43
  obtain ⟨T42, h42, X42, e42, W42, st42⟩ := stI X41 hx hZ e41 Ar42 (j := (0 : Int32)) (inb_of S42 ⟨by decide, by decide⟩) (g := (mkF m 76 #[.val (.ref oa), .val (.ref ob), .val (.int (0 : Int32)), .val (.int (0 : Int32)), .val (.int (0 : Int32)), .unset, .unset] [(.int (0 : Int32)), (.int (0 : Int32)), (.ref b9)])) rfl rfl (hb hby d2_76)
  refine ownEnds.law st42 ?_
  have V42 : Arv Z h42 b9 k9 .int (4 : Int32) [(.int (0 : Int32)), (.int (0 : Int32)), (.int (0 : Int32)), (.int (0 : Int32))] (.int (0 : Int32)) := Arv.set Ar42 q42 S42 N42 H42 G42 rfl W42 0 rfl (Nat.le_of_ble_eq_true rfl)
  have N42 := Fr.snoc X42 N36 g_b9
  have KK42 : Keep h0 h42 [oa] := (KK36).wr W42 (Or.inr sz_b9)
  have Z42 : n0 ≤ h42.size := by rw [W42.size]; exact Z36
  show ownEnds _ _ _ _ (T42.setTop (mkF m 77 #[.val (.ref oa), .val (.ref ob), .val (.int (0 : Int32)), .val (.int (0 : Int32)), .val (.int (0 : Int32)), .unset, .unset] []))
  refine ownEnds.law (fun t k => XS.aloadN X42.here hx rfl (hb hby d2_77) rfl rfl k) ?_
  show ownEnds _ _ _ _ (T42.setTop (mkF m 78 #[.val (.ref oa), .val (.ref ob), .val (.int (0 : Int32)), .val (.int (0 : Int32)), .val (.int (0 : Int32)), .unset, .unset] [(.ref oa)]))
  have f44 := (Fld.other W42 (Fld.other W36 (Fld.ext E28 Fw25) (Or.inr (slot_ne (Or.inr (wd_28 hw)) (Or.inr (wd_31 hw)) (by decide) (t := (.array .int)) (t' := (.array .long)) (by decide) (by decide)))) (Or.inl ne_oa_b9))
  obtain ⟨T45, X45, e45, st45⟩ := getF X42 hx hZ hown (host := "") (Or.inl (wd_27 hw)) Via.refl e42 f44 (g := (mkF m 78 #[.val (.ref oa), .val (.ref ob), .val (.int (0 : Int32)), .val (.int (0 : Int32)), .val (.int (0 : Int32)), .unset, .unset] [(.ref oa)])) rfl rfl (hb hby d2_78)
  refine ownEnds.law st45 ?_
  show ownEnds _ _ _ _ (T45.setTop (mkF m 81 #[.val (.ref oa), .val (.ref ob), .val (.int (0 : Int32)), .val (.int (0 : Int32)), .val (.int (0 : Int32)), .unset, .unset] [(.ref b18)]))
  refine ownEnds.law (fun t k => XS.iload X45.here hx rfl (hb hby d2_81) rfl (XS.iloadN X45.here hx rfl (hb hby d2_83) rfl k)) ?_
  show ownEnds _ _ _ _ (T45.setTop (mkF m 84 #[.val (.ref oa), .val (.ref ob), .val (.int (0 : Int32)), .val (.int (0 : Int32)), .val (.int (0 : Int32)), .unset, .unset] [(.int (0 : Int32)), (.int (0 : Int32)), (.ref b18)]))
  have f47 := (Arv.other (Arv.other (Arv.ext f33 E28) W36 (Ne.symm ne_oa_b18)) W42 (Ne.symm ne_b9_b18))
  obtain ⟨cl46, Ar46, q46, S46, N46, H46, G46⟩ := id f47
  obtain ⟨T46, h46, X46, e46, W46, st46⟩ := stI X45 hx hZ e45 Ar46 (j := (0 : Int32)) (inb_of S46 ⟨by decide, by decide⟩) (g := (mkF m 84 #[.val (.ref oa), .val (.ref ob), .val (.int (0 : Int32)), .val (.int (0 : Int32)), .val (.int (0 : Int32)), .unset, .unset] [(.int (0 : Int32)), (.int (0 : Int32)), (.ref b18)])) rfl rfl (hb hby d2_84)
  refine ownEnds.law st46 ?_
  have V46 : Arv Z h46 b18 k18 .int (4 : Int32) [(.int (0 : Int32)), (.int (0 : Int32)), (.int (0 : Int32)), (.int (0 : Int32))] (.int (0 : Int32)) := Arv.set Ar46 q46 S46 N46 H46 G46 rfl W46 0 rfl (Nat.le_of_ble_eq_true rfl)
  have N46 := Fr.snoc X46 N42 g_b18
  have KK46 : Keep h0 h46 [oa] := (KK42).wr W46 (Or.inr sz_b18)
  have Z46 : n0 ≤ h46.size := by rw [W46.size]; exact Z42
  show ownEnds _ _ _ _ (T46.setTop (mkF m 85 #[.val (.ref oa), .val (.ref ob), .val (.int (0 : Int32)), .val (.int (0 : Int32)), .val (.int (0 : Int32)), .unset, .unset] []))
  refine ownEnds.law (fun t k => XS.aloadN X46.here hx rfl (hb hby d2_85) rfl rfl k) ?_
  show ownEnds _ _ _ _ (T46.setTop (mkF m 86 #[.val (.ref oa), .val (.ref ob), .val (.int (0 : Int32)), .val (.int (0 : Int32)), .val (.int (0 : Int32)), .unset, .unset] [(.ref oa)]))
  have f48 := (Fld.other W46 (Fld.other W42 Fw36 (Or.inl ne_oa_b9)) (Or.inl ne_oa_b18))
  obtain ⟨T49, X49, e49, st49⟩ := getF X46 hx hZ hown (host := "") (Or.inl (wd_30 hw)) Via.refl e46 f48 (g := (mkF m 86 #[.val (.ref oa), .val (.ref ob), .val (.int (0 : Int32)), .val (.int (0 : Int32)), .val (.int (0 : Int32)), .unset, .unset] [(.ref oa)])) rfl rfl (hb hby d2_86)
  refine ownEnds.law st49 ?_
  show ownEnds _ _ _ _ (T49.setTop (mkF m 89 #[.val (.ref oa), .val (.ref ob), .val (.int (0 : Int32)), .val (.int (0 : Int32)), .val (.int (0 : Int32)), .unset, .unset] [(.ref b28)]))
  refine ownEnds.law (fun t k => XS.iload X49.here hx rfl (hb hby d2_89) rfl (X49.ldc2Long hx hown (mvT hZ (wd_32 hw)) (g := (mkF m 91 #[.val (.ref oa), .val (.ref ob), .val (.int (0 : Int32)), .val (.int (0 : Int32)), .val (.int (0 : Int32)), .unset, .unset] [(.int (0 : Int32)), (.ref b28)])) rfl (hb hby d2_91) _ (XS.bipush X49.here hx rfl (hb hby d2_94) (XS.aloadN X49.here hx rfl (hb hby d2_96) rfl rfl (XS.iload X49.here hx rfl (hb hby d2_97) rfl k))))) ?_
  show ownEnds _ _ _ _ (T49.setTop (mkF m 99 #[.val (.ref oa), .val (.ref ob), .val (.int (0 : Int32)), .val (.int (0 : Int32)), .val (.int (0 : Int32)), .unset, .unset] [(.int (0 : Int32)), (.ref ob), (.int (64 : Int32)), (.long (-1 : Int64)), (.int (0 : Int32)), (.ref b28)]))
  have f51 := (Arv.other (Arv.other f38 W42 ne_ob_b9) W46 ne_ob_b18)
  obtain ⟨cl50, Ar50, q50, S50, N50, H50, G50⟩ := id f51
  have hi50 := inb_of (j := (0 : Int32)) S50 ⟨by decide, by decide⟩
  have hv50 : cl50.slots[((0 : Int32)).toNatClampNeg]? = some (.int w0) := H50.at hi50 rfl
  refine ownEnds.law (fun t k => X49.iaload hx (j := (0 : Int32)) (v := (.int w0)) (by rw [e49]; exact Ar50.1) (State.isArrayOf_alike hZ.alike Ar50.2.1) Ar50.2.2 hi50 hv50 (g := (mkF m 99 #[.val (.ref oa), .val (.ref ob), .val (.int (0 : Int32)), .val (.int (0 : Int32)), .val (.int (0 : Int32)), .unset, .unset] [(.int (0 : Int32)), (.ref ob), (.int (64 : Int32)), (.long (-1 : Int64)), (.int (0 : Int32)), (.ref b28)])) rfl rfl (hb hby d2_99) _ (XS.isub X49.here hx rfl (hb hby d2_100) rfl (XS.lushr X49.here hx rfl (hb hby d2_101) rfl k))) ?_
  show ownEnds _ _ _ _ (T49.setTop (mkF m 102 #[.val (.ref oa), .val (.ref ob), .val (.int (0 : Int32)), .val (.int (0 : Int32)), .val (.int (0 : Int32)), .unset, .unset] [(.long (((-1 : Int64).toUInt64 >>> (((64 : Int32) - w0) &&& 0x3f).toInt64.toUInt64).toInt64)), (.int (0 : Int32)), (.ref b28)]))
  have f53 := (Arv.other (Arv.other (Arv.other V_b28 W36 (Ne.symm ne_oa_b28)) W42 (Ne.symm ne_b9_b28)) W46 (Ne.symm ne_b18_b28))
  obtain ⟨cl52, Ar52, q52, S52, N52, H52, G52⟩ := id f53
  obtain ⟨T52, h52, X52, e52, W52, st52⟩ := stJ X49 hx hZ e49 Ar52 (j := (0 : Int32)) (inb_of S52 ⟨by decide, by decide⟩) (g := (mkF m 102 #[.val (.ref oa), .val (.ref ob), .val (.int (0 : Int32)), .val (.int (0 : Int32)), .val (.int (0 : Int32)), .unset, .unset] [(.long (((-1 : Int64).toUInt64 >>> (((64 : Int32) - w0) &&& 0x3f).toInt64.toUInt64).toInt64)), (.int (0 : Int32)), (.ref b28)])) rfl rfl (hb hby d2_102)
  refine ownEnds.law st52 ?_
  have V52 : Arv Z h52 b28 k28 .long (4 : Int32) [(.long (((-1 : Int64).toUInt64 >>> (((64 : Int32) - w0) &&& 0x3f).toInt64.toUInt64).toInt64)), (.long (0 : Int64)), (.long (0 : Int64)), (.long (0 : Int64))] (.long (0 : Int64)) := Arv.set Ar52 q52 S52 N52 H52 G52 rfl W52 0 rfl (Nat.le_of_ble_eq_true rfl)
  have N52 := Fr.snoc X52 N46 g_b28
  have KK52 : Keep h0 h52 [oa] := (KK46).wr W52 (Or.inr sz_b28)
  have Z52 : n0 ≤ h52.size := by rw [W52.size]; exact Z46
  show ownEnds _ _ _ _ (T52.setTop (mkF m 103 #[.val (.ref oa), .val (.ref ob), .val (.int (0 : Int32)), .val (.int (0 : Int32)), .val (.int (0 : Int32)), .unset, .unset] []))
  refine ownEnds.law (fun t k => XS.iloadN X52.here hx rfl (hb hby d2_103) rfl (XS.aloadN X52.here hx rfl (hb hby d2_104) rfl rfl (XS.iload X52.here hx rfl (hb hby d2_105) rfl k))) ?_
  show ownEnds _ _ _ _ (T52.setTop (mkF m 107 #[.val (.ref oa), .val (.ref ob), .val (.int (0 : Int32)), .val (.int (0 : Int32)), .val (.int (0 : Int32)), .unset, .unset] [(.int (0 : Int32)), (.ref ob), (.int (0 : Int32))]))
  have f55 := (Arv.other f51 W52 ne_ob_b28)
  obtain ⟨cl54, Ar54, q54, S54, N54, H54, G54⟩ := id f55
  have hi54 := inb_of (j := (0 : Int32)) S54 ⟨by decide, by decide⟩
  have hv54 : cl54.slots[((0 : Int32)).toNatClampNeg]? = some (.int w0) := H54.at hi54 rfl
  refine ownEnds.law (fun t k => X52.iaload hx (j := (0 : Int32)) (v := (.int w0)) (by rw [e52]; exact Ar54.1) (State.isArrayOf_alike hZ.alike Ar54.2.1) Ar54.2.2 hi54 hv54 (g := (mkF m 107 #[.val (.ref oa), .val (.ref ob), .val (.int (0 : Int32)), .val (.int (0 : Int32)), .val (.int (0 : Int32)), .unset, .unset] [(.int (0 : Int32)), (.ref ob), (.int (0 : Int32))])) rfl rfl (hb hby d2_107) _ (XS.iadd X52.here hx rfl (hb hby d2_108) rfl k)) ?_
  show ownEnds _ _ _ _ (T52.setTop (mkF m 109 #[.val (.ref oa), .val (.ref ob), .val (.int (0 : Int32)), .val (.int (0 : Int32)), .val (.int (0 : Int32)), .unset, .unset] [(.int ((0 : Int32) + w0))]))
  rw [Int32.zero_add]
  show ownEnds _ _ _ _ (T52.setTop (mkF m 109 #[.val (.ref oa), .val (.ref ob), .val (.int (0 : Int32)), .val (.int (0 : Int32)), .val (.int (0 : Int32)), .unset, .unset] [(.int w0)]))
  refine ownEnds.law (fun t k => XS.istoreN X52.here hx rfl (hb hby d2_109) rfl (l' := #[.val (.ref oa), .val (.ref ob), .val (.int (0 : Int32)), .val (.int w0), .val (.int (0 : Int32)), .unset, .unset]) rfl (XS.iinc X52.here hx rfl (hb hby d2_110) rfl (l' := #[.val (.ref oa), .val (.ref ob), .val (.int (0 : Int32)), .val (.int w0), .val (.int (1 : Int32)), .unset, .unset]) rfl (XS.goto X52.here hx rfl (pc0 := 113) (pc' := 46) rfl (hb hby d2_113) (by decide) (by decide) (XS.iload X52.here hx rfl (hb hby d2_46) rfl (XS.aloadN X52.here hx rfl (hb hby d2_48) rfl rfl k))))) ?_
  show ownEnds _ _ _ _ (T52.setTop (mkF m 49 #[.val (.ref oa), .val (.ref ob), .val (.int (0 : Int32)), .val (.int w0), .val (.int (1 : Int32)), .unset, .unset] [(.ref ob), (.int (1 : Int32))]))
  obtain ⟨cl56, Ar56, -, S56, N56, -, -⟩ := id f55
  refine ownEnds.law (X52.arraylength hx (by rw [e52]; exact Ar56.1) (State.isArrayOf_alike hZ.alike Ar56.2.1) (g := (mkF m 49 #[.val (.ref oa), .val (.ref ob), .val (.int (0 : Int32)), .val (.int w0), .val (.int (1 : Int32)), .unset, .unset] [(.ref ob), (.int (1 : Int32))])) rfl rfl (hb hby d2_49)) ?_
  rw [len_of S56 N56]
  show ownEnds _ _ _ _ (T52.setTop (mkF m 50 #[.val (.ref oa), .val (.ref ob), .val (.int (0 : Int32)), .val (.int w0), .val (.int (1 : Int32)), .unset, .unset] [(.int (4 : Int32)), (.int (1 : Int32))]))
  refine ownEnds.law (fun t => XS.icmpNo X52.here hx rfl (hb hby d2_50) rfl (tlt (by decide : (1 : Int32) < (4 : Int32))).2.1) ?_
  show ownEnds _ _ _ _ (T52.setTop (mkF m 53 #[.val (.ref oa), .val (.ref ob), .val (.int (0 : Int32)), .val (.int w0), .val (.int (1 : Int32)), .unset, .unset] []))
  refine ownEnds.law (fun t k => XS.iloadN X52.here hx rfl (hb hby d2_53) rfl (XS.aloadN X52.here hx rfl (hb hby d2_54) rfl rfl (XS.iload X52.here hx rfl (hb hby d2_55) rfl k))) ?_
  show ownEnds _ _ _ _ (T52.setTop (mkF m 57 #[.val (.ref oa), .val (.ref ob), .val (.int (0 : Int32)), .val (.int w0), .val (.int (1 : Int32)), .unset, .unset] [(.int (1 : Int32)), (.ref ob), (.int w0)]))
  obtain ⟨cl57, Ar57, q57, S57, N57, H57, G57⟩ := id f55
  have hi57 := inb_of (j := (1 : Int32)) S57 ⟨by decide, by decide⟩
  have hv57 : cl57.slots[((1 : Int32)).toNatClampNeg]? = some (.int w1) := H57.at hi57 rfl
  refine ownEnds.law (fun t k => X52.iaload hx (j := (1 : Int32)) (v := (.int w1)) (by rw [e52]; exact Ar57.1) (State.isArrayOf_alike hZ.alike Ar57.2.1) Ar57.2.2 hi57 hv57 (g := (mkF m 57 #[.val (.ref oa), .val (.ref ob), .val (.int (0 : Int32)), .val (.int w0), .val (.int (1 : Int32)), .unset, .unset] [(.int (1 : Int32)), (.ref ob), (.int w0)])) rfl rfl (hb hby d2_57) _ (XS.iadd X52.here hx rfl (hb hby d2_58) rfl (XS.bipush X52.here hx rfl (hb hby d2_59) k))) ?_
  show ownEnds _ _ _ _ (T52.setTop (mkF m 61 #[.val (.ref oa), .val (.ref ob), .val (.int (0 : Int32)), .val (.int w0), .val (.int (1 : Int32)), .unset, .unset] [(.int (64 : Int32)), (.int (w0 + w1))]))
  have J69_1 : ∀ (ix us : Int32) (hix : ix = (LI1 w0 w1)) (hus : us = (LS1 w0 w1)), ownEnds p.tables e below (ownPost s (fun v h L => v = none ∧ Fr n0 L ∧ Keep h0 h [oa] ∧ ∃ (c0 c1 c2 c3 c4 : Addr) (k0 k1 k2 k3 k4 : ClassId) (rs : List Value) (len : Int32), Exa Z h oa "com/example/libreach/libreach/engine/StateLayout" ∧ Fld Z h oa "com/example/libreach/libreach/engine/StateLayout" "widths" "[I" (.ref c0) ∧ Arv Z h c0 k0 .int (4 : Int32) [(.int w0), (.int w1), (.int w2), (.int w3)] (.int (0 : Int32)) ∧ Fld Z h oa "com/example/libreach/libreach/engine/StateLayout" "word" "[I" (.ref c1) ∧ Arv Z h c1 k1 .int (4 : Int32) [(.int (0 : Int32)), (.int (LI1 w0 w1)), (.int (LI2 w0 w1 w2)), (.int (LI3 w0 w1 w2 w3))] (.int (0 : Int32)) ∧ Fld Z h oa "com/example/libreach/libreach/engine/StateLayout" "shift" "[I" (.ref c2) ∧ Arv Z h c2 k2 .int (4 : Int32) [(.int (0 : Int32)), (.int (LS1 w0 w1)), (.int (LS2 w0 w1 w2)), (.int (LS3 w0 w1 w2 w3))] (.int (0 : Int32)) ∧ Fld Z h oa "com/example/libreach/libreach/engine/StateLayout" "largest" "[J" (.ref c3) ∧ Arv Z h c3 k3 .long (4 : Int32) [(.long (LM w0)), (.long (LM w1)), (.long (LM w2)), (.long (LM w3))] (.long (0 : Int64)) ∧ Fld Z h oa "com/example/libreach/libreach/engine/StateLayout" "runs" "[I" (.ref c4) ∧ Arv Z h c4 k4 .int len rs (.int (0 : Int32)) ∧ RunOK w0 w1 w2 w3 rs len) ({ frames := 2, cells := 6, slots := 40, locals := 60 } : Room).cells ({ frames := 2, cells := 6, slots := 40, locals := 60 } : Room).slots) (T52.setTop (mkF m 69 #[.val (.ref oa), .val (.ref ob), .val (.int ix), .val (.int us), .val (.int (1 : Int32)), .unset, .unset] [])) := by
    intro ix us hix hus
    subst hix hus
    show ownEnds _ _ _ _ (T52.setTop (mkF m 69 #[.val (.ref oa), .val (.ref ob), .val (.int (LI1 w0 w1)), .val (.int (LS1 w0 w1)), .val (.int (1 : Int32)), .unset, .unset] []))
    refine ownEnds.law (fun t k => XS.aloadN X52.here hx rfl (hb hby d2_69) rfl rfl k) ?_
    show ownEnds _ _ _ _ (T52.setTop (mkF m 70 #[.val (.ref oa), .val (.ref ob), .val (.int (LI1 w0 w1)), .val (.int (LS1 w0 w1)), .val (.int (1 : Int32)), .unset, .unset] [(.ref oa)]))
    have f58 := (Fld.other W52 (Fld.other W46 (Fld.other W42 f40 (Or.inl ne_oa_b9)) (Or.inl ne_oa_b18)) (Or.inl ne_oa_b28))
    obtain ⟨T59, X59, e59, st59⟩ := getF X52 hx hZ hown (host := "") (Or.inl (wd_25 hw)) Via.refl e52 f58 (g := (mkF m 70 #[.val (.ref oa), .val (.ref ob), .val (.int (LI1 w0 w1)), .val (.int (LS1 w0 w1)), .val (.int (1 : Int32)), .unset, .unset] [(.ref oa)])) rfl rfl (hb hby d2_70)
    refine ownEnds.law st59 ?_
    show ownEnds _ _ _ _ (T59.setTop (mkF m 73 #[.val (.ref oa), .val (.ref ob), .val (.int (LI1 w0 w1)), .val (.int (LS1 w0 w1)), .val (.int (1 : Int32)), .unset, .unset] [(.ref b9)]))
    refine ownEnds.law (fun t k => XS.iload X59.here hx rfl (hb hby d2_73) rfl (XS.iloadN X59.here hx rfl (hb hby d2_75) rfl k)) ?_
    show ownEnds _ _ _ _ (T59.setTop (mkF m 76 #[.val (.ref oa), .val (.ref ob), .val (.int (LI1 w0 w1)), .val (.int (LS1 w0 w1)), .val (.int (1 : Int32)), .unset, .unset] [(.int (LI1 w0 w1)), (.int (1 : Int32)), (.ref b9)]))
    have f61 := (Arv.other (Arv.other V42 W46 ne_b9_b18) W52 ne_b9_b28)
    obtain ⟨cl60, Ar60, q60, S60, N60, H60, G60⟩ := id f61
    obtain ⟨T60, h60, X60, e60, W60, st60⟩ := stI X59 hx hZ e59 Ar60 (j := (1 : Int32)) (inb_of S60 ⟨by decide, by decide⟩) (g := (mkF m 76 #[.val (.ref oa), .val (.ref ob), .val (.int (LI1 w0 w1)), .val (.int (LS1 w0 w1)), .val (.int (1 : Int32)), .unset, .unset] [(.int (LI1 w0 w1)), (.int (1 : Int32)), (.ref b9)])) rfl rfl (hb hby d2_76)
    refine ownEnds.law st60 ?_
    have V60 : Arv Z h60 b9 k9 .int (4 : Int32) [(.int (0 : Int32)), (.int (LI1 w0 w1)), (.int (0 : Int32)), (.int (0 : Int32))] (.int (0 : Int32)) := Arv.set Ar60 q60 S60 N60 H60 G60 rfl W60 1 rfl (Nat.le_of_ble_eq_true rfl)
    have N60 := Fr.snoc X60 N52 g_b9
    have KK60 : Keep h0 h60 [oa] := (KK52).wr W60 (Or.inr sz_b9)
    have Z60 : n0 ≤ h60.size := by rw [W60.size]; exact Z52
    show ownEnds _ _ _ _ (T60.setTop (mkF m 77 #[.val (.ref oa), .val (.ref ob), .val (.int (LI1 w0 w1)), .val (.int (LS1 w0 w1)), .val (.int (1 : Int32)), .unset, .unset] []))
    refine ownEnds.law (fun t k => XS.aloadN X60.here hx rfl (hb hby d2_77) rfl rfl k) ?_
    show ownEnds _ _ _ _ (T60.setTop (mkF m 78 #[.val (.ref oa), .val (.ref ob), .val (.int (LI1 w0 w1)), .val (.int (LS1 w0 w1)), .val (.int (1 : Int32)), .unset, .unset] [(.ref oa)]))
    have f62 := (Fld.other W60 (Fld.other W52 (Fld.other W46 f44 (Or.inl ne_oa_b18)) (Or.inl ne_oa_b28)) (Or.inl ne_oa_b9))
    obtain ⟨T63, X63, e63, st63⟩ := getF X60 hx hZ hown (host := "") (Or.inl (wd_27 hw)) Via.refl e60 f62 (g := (mkF m 78 #[.val (.ref oa), .val (.ref ob), .val (.int (LI1 w0 w1)), .val (.int (LS1 w0 w1)), .val (.int (1 : Int32)), .unset, .unset] [(.ref oa)])) rfl rfl (hb hby d2_78)
    refine ownEnds.law st63 ?_
    show ownEnds _ _ _ _ (T63.setTop (mkF m 81 #[.val (.ref oa), .val (.ref ob), .val (.int (LI1 w0 w1)), .val (.int (LS1 w0 w1)), .val (.int (1 : Int32)), .unset, .unset] [(.ref b18)]))
    refine ownEnds.law (fun t k => XS.iload X63.here hx rfl (hb hby d2_81) rfl (XS.iloadN X63.here hx rfl (hb hby d2_83) rfl k)) ?_
    show ownEnds _ _ _ _ (T63.setTop (mkF m 84 #[.val (.ref oa), .val (.ref ob), .val (.int (LI1 w0 w1)), .val (.int (LS1 w0 w1)), .val (.int (1 : Int32)), .unset, .unset] [(.int (LS1 w0 w1)), (.int (1 : Int32)), (.ref b18)]))
    have f65 := (Arv.other (Arv.other V46 W52 ne_b18_b28) W60 (Ne.symm ne_b9_b18))
    obtain ⟨cl64, Ar64, q64, S64, N64, H64, G64⟩ := id f65
    obtain ⟨T64, h64, X64, e64, W64, st64⟩ := stI X63 hx hZ e63 Ar64 (j := (1 : Int32)) (inb_of S64 ⟨by decide, by decide⟩) (g := (mkF m 84 #[.val (.ref oa), .val (.ref ob), .val (.int (LI1 w0 w1)), .val (.int (LS1 w0 w1)), .val (.int (1 : Int32)), .unset, .unset] [(.int (LS1 w0 w1)), (.int (1 : Int32)), (.ref b18)])) rfl rfl (hb hby d2_84)
    refine ownEnds.law st64 ?_
    have V64 : Arv Z h64 b18 k18 .int (4 : Int32) [(.int (0 : Int32)), (.int (LS1 w0 w1)), (.int (0 : Int32)), (.int (0 : Int32))] (.int (0 : Int32)) := Arv.set Ar64 q64 S64 N64 H64 G64 rfl W64 1 rfl (Nat.le_of_ble_eq_true rfl)
    have N64 := Fr.snoc X64 N60 g_b18
    have KK64 : Keep h0 h64 [oa] := (KK60).wr W64 (Or.inr sz_b18)
    have Z64 : n0 ≤ h64.size := by rw [W64.size]; exact Z60
    show ownEnds _ _ _ _ (T64.setTop (mkF m 85 #[.val (.ref oa), .val (.ref ob), .val (.int (LI1 w0 w1)), .val (.int (LS1 w0 w1)), .val (.int (1 : Int32)), .unset, .unset] []))
    refine ownEnds.law (fun t k => XS.aloadN X64.here hx rfl (hb hby d2_85) rfl rfl k) ?_
    show ownEnds _ _ _ _ (T64.setTop (mkF m 86 #[.val (.ref oa), .val (.ref ob), .val (.int (LI1 w0 w1)), .val (.int (LS1 w0 w1)), .val (.int (1 : Int32)), .unset, .unset] [(.ref oa)]))
    have f66 := (Fld.other W64 (Fld.other W60 (Fld.other W52 f48 (Or.inl ne_oa_b28)) (Or.inl ne_oa_b9)) (Or.inl ne_oa_b18))
    obtain ⟨T67, X67, e67, st67⟩ := getF X64 hx hZ hown (host := "") (Or.inl (wd_30 hw)) Via.refl e64 f66 (g := (mkF m 86 #[.val (.ref oa), .val (.ref ob), .val (.int (LI1 w0 w1)), .val (.int (LS1 w0 w1)), .val (.int (1 : Int32)), .unset, .unset] [(.ref oa)])) rfl rfl (hb hby d2_86)
    refine ownEnds.law st67 ?_
    show ownEnds _ _ _ _ (T67.setTop (mkF m 89 #[.val (.ref oa), .val (.ref ob), .val (.int (LI1 w0 w1)), .val (.int (LS1 w0 w1)), .val (.int (1 : Int32)), .unset, .unset] [(.ref b28)]))
    refine ownEnds.law (fun t k => XS.iload X67.here hx rfl (hb hby d2_89) rfl (X67.ldc2Long hx hown (mvT hZ (wd_32 hw)) (g := (mkF m 91 #[.val (.ref oa), .val (.ref ob), .val (.int (LI1 w0 w1)), .val (.int (LS1 w0 w1)), .val (.int (1 : Int32)), .unset, .unset] [(.int (1 : Int32)), (.ref b28)])) rfl (hb hby d2_91) _ (XS.bipush X67.here hx rfl (hb hby d2_94) (XS.aloadN X67.here hx rfl (hb hby d2_96) rfl rfl (XS.iload X67.here hx rfl (hb hby d2_97) rfl k))))) ?_
    show ownEnds _ _ _ _ (T67.setTop (mkF m 99 #[.val (.ref oa), .val (.ref ob), .val (.int (LI1 w0 w1)), .val (.int (LS1 w0 w1)), .val (.int (1 : Int32)), .unset, .unset] [(.int (1 : Int32)), (.ref ob), (.int (64 : Int32)), (.long (-1 : Int64)), (.int (1 : Int32)), (.ref b28)]))
    have f69 := (Arv.other (Arv.other f55 W60 ne_ob_b9) W64 ne_ob_b18)
    obtain ⟨cl68, Ar68, q68, S68, N68, H68, G68⟩ := id f69
    have hi68 := inb_of (j := (1 : Int32)) S68 ⟨by decide, by decide⟩
    have hv68 : cl68.slots[((1 : Int32)).toNatClampNeg]? = some (.int w1) := H68.at hi68 rfl
    refine ownEnds.law (fun t k => X67.iaload hx (j := (1 : Int32)) (v := (.int w1)) (by rw [e67]; exact Ar68.1) (State.isArrayOf_alike hZ.alike Ar68.2.1) Ar68.2.2 hi68 hv68 (g := (mkF m 99 #[.val (.ref oa), .val (.ref ob), .val (.int (LI1 w0 w1)), .val (.int (LS1 w0 w1)), .val (.int (1 : Int32)), .unset, .unset] [(.int (1 : Int32)), (.ref ob), (.int (64 : Int32)), (.long (-1 : Int64)), (.int (1 : Int32)), (.ref b28)])) rfl rfl (hb hby d2_99) _ (XS.isub X67.here hx rfl (hb hby d2_100) rfl (XS.lushr X67.here hx rfl (hb hby d2_101) rfl k))) ?_
    show ownEnds _ _ _ _ (T67.setTop (mkF m 102 #[.val (.ref oa), .val (.ref ob), .val (.int (LI1 w0 w1)), .val (.int (LS1 w0 w1)), .val (.int (1 : Int32)), .unset, .unset] [(.long (((-1 : Int64).toUInt64 >>> (((64 : Int32) - w1) &&& 0x3f).toInt64.toUInt64).toInt64)), (.int (1 : Int32)), (.ref b28)]))
    have f71 := (Arv.other (Arv.other V52 W60 (Ne.symm ne_b9_b28)) W64 (Ne.symm ne_b18_b28))
    obtain ⟨cl70, Ar70, q70, S70, N70, H70, G70⟩ := id f71
    obtain ⟨T70, h70, X70, e70, W70, st70⟩ := stJ X67 hx hZ e67 Ar70 (j := (1 : Int32)) (inb_of S70 ⟨by decide, by decide⟩) (g := (mkF m 102 #[.val (.ref oa), .val (.ref ob), .val (.int (LI1 w0 w1)), .val (.int (LS1 w0 w1)), .val (.int (1 : Int32)), .unset, .unset] [(.long (((-1 : Int64).toUInt64 >>> (((64 : Int32) - w1) &&& 0x3f).toInt64.toUInt64).toInt64)), (.int (1 : Int32)), (.ref b28)])) rfl rfl (hb hby d2_102)
    refine ownEnds.law st70 ?_
    have V70 : Arv Z h70 b28 k28 .long (4 : Int32) [(.long (((-1 : Int64).toUInt64 >>> (((64 : Int32) - w0) &&& 0x3f).toInt64.toUInt64).toInt64)), (.long (((-1 : Int64).toUInt64 >>> (((64 : Int32) - w1) &&& 0x3f).toInt64.toUInt64).toInt64)), (.long (0 : Int64)), (.long (0 : Int64))] (.long (0 : Int64)) := Arv.set Ar70 q70 S70 N70 H70 G70 rfl W70 1 rfl (Nat.le_of_ble_eq_true rfl)
    have N70 := Fr.snoc X70 N64 g_b28
    have KK70 : Keep h0 h70 [oa] := (KK64).wr W70 (Or.inr sz_b28)
    have Z70 : n0 ≤ h70.size := by rw [W70.size]; exact Z64
    show ownEnds _ _ _ _ (T70.setTop (mkF m 103 #[.val (.ref oa), .val (.ref ob), .val (.int (LI1 w0 w1)), .val (.int (LS1 w0 w1)), .val (.int (1 : Int32)), .unset, .unset] []))
    refine ownEnds.law (fun t k => XS.iloadN X70.here hx rfl (hb hby d2_103) rfl (XS.aloadN X70.here hx rfl (hb hby d2_104) rfl rfl (XS.iload X70.here hx rfl (hb hby d2_105) rfl k))) ?_
    show ownEnds _ _ _ _ (T70.setTop (mkF m 107 #[.val (.ref oa), .val (.ref ob), .val (.int (LI1 w0 w1)), .val (.int (LS1 w0 w1)), .val (.int (1 : Int32)), .unset, .unset] [(.int (1 : Int32)), (.ref ob), (.int (LS1 w0 w1))]))
    have f73 := (Arv.other f69 W70 ne_ob_b28)
    obtain ⟨cl72, Ar72, q72, S72, N72, H72, G72⟩ := id f73
    have hi72 := inb_of (j := (1 : Int32)) S72 ⟨by decide, by decide⟩
    have hv72 : cl72.slots[((1 : Int32)).toNatClampNeg]? = some (.int w1) := H72.at hi72 rfl
    refine ownEnds.law (fun t k => X70.iaload hx (j := (1 : Int32)) (v := (.int w1)) (by rw [e70]; exact Ar72.1) (State.isArrayOf_alike hZ.alike Ar72.2.1) Ar72.2.2 hi72 hv72 (g := (mkF m 107 #[.val (.ref oa), .val (.ref ob), .val (.int (LI1 w0 w1)), .val (.int (LS1 w0 w1)), .val (.int (1 : Int32)), .unset, .unset] [(.int (1 : Int32)), (.ref ob), (.int (LS1 w0 w1))])) rfl rfl (hb hby d2_107) _ (XS.iadd X70.here hx rfl (hb hby d2_108) rfl k)) ?_
    show ownEnds _ _ _ _ (T70.setTop (mkF m 109 #[.val (.ref oa), .val (.ref ob), .val (.int (LI1 w0 w1)), .val (.int (LS1 w0 w1)), .val (.int (1 : Int32)), .unset, .unset] [(.int ((LS1 w0 w1) + w1))]))
    show ownEnds _ _ _ _ (T70.setTop (mkF m 109 #[.val (.ref oa), .val (.ref ob), .val (.int (LI1 w0 w1)), .val (.int (LS1 w0 w1)), .val (.int (1 : Int32)), .unset, .unset] [(.int ((LS1 w0 w1) + w1))]))
    refine ownEnds.law (fun t k => XS.istoreN X70.here hx rfl (hb hby d2_109) rfl (l' := #[.val (.ref oa), .val (.ref ob), .val (.int (LI1 w0 w1)), .val (.int ((LS1 w0 w1) + w1)), .val (.int (1 : Int32)), .unset, .unset]) rfl (XS.iinc X70.here hx rfl (hb hby d2_110) rfl (l' := #[.val (.ref oa), .val (.ref ob), .val (.int (LI1 w0 w1)), .val (.int ((LS1 w0 w1) + w1)), .val (.int (2 : Int32)), .unset, .unset]) rfl (XS.goto X70.here hx rfl (pc0 := 113) (pc' := 46) rfl (hb hby d2_113) (by decide) (by decide) (XS.iload X70.here hx rfl (hb hby d2_46) rfl (XS.aloadN X70.here hx rfl (hb hby d2_48) rfl rfl k))))) ?_
    show ownEnds _ _ _ _ (T70.setTop (mkF m 49 #[.val (.ref oa), .val (.ref ob), .val (.int (LI1 w0 w1)), .val (.int ((LS1 w0 w1) + w1)), .val (.int (2 : Int32)), .unset, .unset] [(.ref ob), (.int (2 : Int32))]))
    obtain ⟨cl74, Ar74, -, S74, N74, -, -⟩ := id f73
    refine ownEnds.law (X70.arraylength hx (by rw [e70]; exact Ar74.1) (State.isArrayOf_alike hZ.alike Ar74.2.1) (g := (mkF m 49 #[.val (.ref oa), .val (.ref ob), .val (.int (LI1 w0 w1)), .val (.int ((LS1 w0 w1) + w1)), .val (.int (2 : Int32)), .unset, .unset] [(.ref ob), (.int (2 : Int32))])) rfl rfl (hb hby d2_49)) ?_
    rw [len_of S74 N74]
    show ownEnds _ _ _ _ (T70.setTop (mkF m 50 #[.val (.ref oa), .val (.ref ob), .val (.int (LI1 w0 w1)), .val (.int ((LS1 w0 w1) + w1)), .val (.int (2 : Int32)), .unset, .unset] [(.int (4 : Int32)), (.int (2 : Int32))]))
    refine ownEnds.law (fun t => XS.icmpNo X70.here hx rfl (hb hby d2_50) rfl (tlt (by decide : (2 : Int32) < (4 : Int32))).2.1) ?_
    show ownEnds _ _ _ _ (T70.setTop (mkF m 53 #[.val (.ref oa), .val (.ref ob), .val (.int (LI1 w0 w1)), .val (.int ((LS1 w0 w1) + w1)), .val (.int (2 : Int32)), .unset, .unset] []))
    refine ownEnds.law (fun t k => XS.iloadN X70.here hx rfl (hb hby d2_53) rfl (XS.aloadN X70.here hx rfl (hb hby d2_54) rfl rfl (XS.iload X70.here hx rfl (hb hby d2_55) rfl k))) ?_
    show ownEnds _ _ _ _ (T70.setTop (mkF m 57 #[.val (.ref oa), .val (.ref ob), .val (.int (LI1 w0 w1)), .val (.int ((LS1 w0 w1) + w1)), .val (.int (2 : Int32)), .unset, .unset] [(.int (2 : Int32)), (.ref ob), (.int ((LS1 w0 w1) + w1))]))
    obtain ⟨cl75, Ar75, q75, S75, N75, H75, G75⟩ := id f73
    have hi75 := inb_of (j := (2 : Int32)) S75 ⟨by decide, by decide⟩
    have hv75 : cl75.slots[((2 : Int32)).toNatClampNeg]? = some (.int w2) := H75.at hi75 rfl
    refine ownEnds.law (fun t k => X70.iaload hx (j := (2 : Int32)) (v := (.int w2)) (by rw [e70]; exact Ar75.1) (State.isArrayOf_alike hZ.alike Ar75.2.1) Ar75.2.2 hi75 hv75 (g := (mkF m 57 #[.val (.ref oa), .val (.ref ob), .val (.int (LI1 w0 w1)), .val (.int ((LS1 w0 w1) + w1)), .val (.int (2 : Int32)), .unset, .unset] [(.int (2 : Int32)), (.ref ob), (.int ((LS1 w0 w1) + w1))])) rfl rfl (hb hby d2_57) _ (XS.iadd X70.here hx rfl (hb hby d2_58) rfl (XS.bipush X70.here hx rfl (hb hby d2_59) k))) ?_
    show ownEnds _ _ _ _ (T70.setTop (mkF m 61 #[.val (.ref oa), .val (.ref ob), .val (.int (LI1 w0 w1)), .val (.int ((LS1 w0 w1) + w1)), .val (.int (2 : Int32)), .unset, .unset] [(.int (64 : Int32)), (.int (((LS1 w0 w1) + w1) + w2))]))
    have J69_2 : ∀ (ix us : Int32) (hix : ix = (LI2 w0 w1 w2)) (hus : us = (LS2 w0 w1 w2)), ownEnds p.tables e below (ownPost s (fun v h L => v = none ∧ Fr n0 L ∧ Keep h0 h [oa] ∧ ∃ (c0 c1 c2 c3 c4 : Addr) (k0 k1 k2 k3 k4 : ClassId) (rs : List Value) (len : Int32), Exa Z h oa "com/example/libreach/libreach/engine/StateLayout" ∧ Fld Z h oa "com/example/libreach/libreach/engine/StateLayout" "widths" "[I" (.ref c0) ∧ Arv Z h c0 k0 .int (4 : Int32) [(.int w0), (.int w1), (.int w2), (.int w3)] (.int (0 : Int32)) ∧ Fld Z h oa "com/example/libreach/libreach/engine/StateLayout" "word" "[I" (.ref c1) ∧ Arv Z h c1 k1 .int (4 : Int32) [(.int (0 : Int32)), (.int (LI1 w0 w1)), (.int (LI2 w0 w1 w2)), (.int (LI3 w0 w1 w2 w3))] (.int (0 : Int32)) ∧ Fld Z h oa "com/example/libreach/libreach/engine/StateLayout" "shift" "[I" (.ref c2) ∧ Arv Z h c2 k2 .int (4 : Int32) [(.int (0 : Int32)), (.int (LS1 w0 w1)), (.int (LS2 w0 w1 w2)), (.int (LS3 w0 w1 w2 w3))] (.int (0 : Int32)) ∧ Fld Z h oa "com/example/libreach/libreach/engine/StateLayout" "largest" "[J" (.ref c3) ∧ Arv Z h c3 k3 .long (4 : Int32) [(.long (LM w0)), (.long (LM w1)), (.long (LM w2)), (.long (LM w3))] (.long (0 : Int64)) ∧ Fld Z h oa "com/example/libreach/libreach/engine/StateLayout" "runs" "[I" (.ref c4) ∧ Arv Z h c4 k4 .int len rs (.int (0 : Int32)) ∧ RunOK w0 w1 w2 w3 rs len) ({ frames := 2, cells := 6, slots := 40, locals := 60 } : Room).cells ({ frames := 2, cells := 6, slots := 40, locals := 60 } : Room).slots) (T70.setTop (mkF m 69 #[.val (.ref oa), .val (.ref ob), .val (.int ix), .val (.int us), .val (.int (2 : Int32)), .unset, .unset] [])) := by
      intro ix us hix hus
      subst hix hus
      show ownEnds _ _ _ _ (T70.setTop (mkF m 69 #[.val (.ref oa), .val (.ref ob), .val (.int (LI2 w0 w1 w2)), .val (.int (LS2 w0 w1 w2)), .val (.int (2 : Int32)), .unset, .unset] []))
      refine ownEnds.law (fun t k => XS.aloadN X70.here hx rfl (hb hby d2_69) rfl rfl k) ?_
      show ownEnds _ _ _ _ (T70.setTop (mkF m 70 #[.val (.ref oa), .val (.ref ob), .val (.int (LI2 w0 w1 w2)), .val (.int (LS2 w0 w1 w2)), .val (.int (2 : Int32)), .unset, .unset] [(.ref oa)]))
      have f76 := (Fld.other W70 (Fld.other W64 (Fld.other W60 f58 (Or.inl ne_oa_b9)) (Or.inl ne_oa_b18)) (Or.inl ne_oa_b28))
      obtain ⟨T77, X77, e77, st77⟩ := getF X70 hx hZ hown (host := "") (Or.inl (wd_25 hw)) Via.refl e70 f76 (g := (mkF m 70 #[.val (.ref oa), .val (.ref ob), .val (.int (LI2 w0 w1 w2)), .val (.int (LS2 w0 w1 w2)), .val (.int (2 : Int32)), .unset, .unset] [(.ref oa)])) rfl rfl (hb hby d2_70)
      refine ownEnds.law st77 ?_
      show ownEnds _ _ _ _ (T77.setTop (mkF m 73 #[.val (.ref oa), .val (.ref ob), .val (.int (LI2 w0 w1 w2)), .val (.int (LS2 w0 w1 w2)), .val (.int (2 : Int32)), .unset, .unset] [(.ref b9)]))
      refine ownEnds.law (fun t k => XS.iload X77.here hx rfl (hb hby d2_73) rfl (XS.iloadN X77.here hx rfl (hb hby d2_75) rfl k)) ?_
      show ownEnds _ _ _ _ (T77.setTop (mkF m 76 #[.val (.ref oa), .val (.ref ob), .val (.int (LI2 w0 w1 w2)), .val (.int (LS2 w0 w1 w2)), .val (.int (2 : Int32)), .unset, .unset] [(.int (LI2 w0 w1 w2)), (.int (2 : Int32)), (.ref b9)]))
      have f79 := (Arv.other (Arv.other V60 W64 ne_b9_b18) W70 ne_b9_b28)
      obtain ⟨cl78, Ar78, q78, S78, N78, H78, G78⟩ := id f79
      obtain ⟨T78, h78, X78, e78, W78, st78⟩ := stI X77 hx hZ e77 Ar78 (j := (2 : Int32)) (inb_of S78 ⟨by decide, by decide⟩) (g := (mkF m 76 #[.val (.ref oa), .val (.ref ob), .val (.int (LI2 w0 w1 w2)), .val (.int (LS2 w0 w1 w2)), .val (.int (2 : Int32)), .unset, .unset] [(.int (LI2 w0 w1 w2)), (.int (2 : Int32)), (.ref b9)])) rfl rfl (hb hby d2_76)
      refine ownEnds.law st78 ?_
      have V78 : Arv Z h78 b9 k9 .int (4 : Int32) [(.int (0 : Int32)), (.int (LI1 w0 w1)), (.int (LI2 w0 w1 w2)), (.int (0 : Int32))] (.int (0 : Int32)) := Arv.set Ar78 q78 S78 N78 H78 G78 rfl W78 2 rfl (Nat.le_of_ble_eq_true rfl)
      have N78 := Fr.snoc X78 N70 g_b9
      have KK78 : Keep h0 h78 [oa] := (KK70).wr W78 (Or.inr sz_b9)
      have Z78 : n0 ≤ h78.size := by rw [W78.size]; exact Z70
      show ownEnds _ _ _ _ (T78.setTop (mkF m 77 #[.val (.ref oa), .val (.ref ob), .val (.int (LI2 w0 w1 w2)), .val (.int (LS2 w0 w1 w2)), .val (.int (2 : Int32)), .unset, .unset] []))
      refine ownEnds.law (fun t k => XS.aloadN X78.here hx rfl (hb hby d2_77) rfl rfl k) ?_
      show ownEnds _ _ _ _ (T78.setTop (mkF m 78 #[.val (.ref oa), .val (.ref ob), .val (.int (LI2 w0 w1 w2)), .val (.int (LS2 w0 w1 w2)), .val (.int (2 : Int32)), .unset, .unset] [(.ref oa)]))
      have f80 := (Fld.other W78 (Fld.other W70 (Fld.other W64 f62 (Or.inl ne_oa_b18)) (Or.inl ne_oa_b28)) (Or.inl ne_oa_b9))
      obtain ⟨T81, X81, e81, st81⟩ := getF X78 hx hZ hown (host := "") (Or.inl (wd_27 hw)) Via.refl e78 f80 (g := (mkF m 78 #[.val (.ref oa), .val (.ref ob), .val (.int (LI2 w0 w1 w2)), .val (.int (LS2 w0 w1 w2)), .val (.int (2 : Int32)), .unset, .unset] [(.ref oa)])) rfl rfl (hb hby d2_78)
      refine ownEnds.law st81 ?_
      show ownEnds _ _ _ _ (T81.setTop (mkF m 81 #[.val (.ref oa), .val (.ref ob), .val (.int (LI2 w0 w1 w2)), .val (.int (LS2 w0 w1 w2)), .val (.int (2 : Int32)), .unset, .unset] [(.ref b18)]))
      refine ownEnds.law (fun t k => XS.iload X81.here hx rfl (hb hby d2_81) rfl (XS.iloadN X81.here hx rfl (hb hby d2_83) rfl k)) ?_
      show ownEnds _ _ _ _ (T81.setTop (mkF m 84 #[.val (.ref oa), .val (.ref ob), .val (.int (LI2 w0 w1 w2)), .val (.int (LS2 w0 w1 w2)), .val (.int (2 : Int32)), .unset, .unset] [(.int (LS2 w0 w1 w2)), (.int (2 : Int32)), (.ref b18)]))
      have f83 := (Arv.other (Arv.other V64 W70 ne_b18_b28) W78 (Ne.symm ne_b9_b18))
      obtain ⟨cl82, Ar82, q82, S82, N82, H82, G82⟩ := id f83
      obtain ⟨T82, h82, X82, e82, W82, st82⟩ := stI X81 hx hZ e81 Ar82 (j := (2 : Int32)) (inb_of S82 ⟨by decide, by decide⟩) (g := (mkF m 84 #[.val (.ref oa), .val (.ref ob), .val (.int (LI2 w0 w1 w2)), .val (.int (LS2 w0 w1 w2)), .val (.int (2 : Int32)), .unset, .unset] [(.int (LS2 w0 w1 w2)), (.int (2 : Int32)), (.ref b18)])) rfl rfl (hb hby d2_84)
      refine ownEnds.law st82 ?_
      have V82 : Arv Z h82 b18 k18 .int (4 : Int32) [(.int (0 : Int32)), (.int (LS1 w0 w1)), (.int (LS2 w0 w1 w2)), (.int (0 : Int32))] (.int (0 : Int32)) := Arv.set Ar82 q82 S82 N82 H82 G82 rfl W82 2 rfl (Nat.le_of_ble_eq_true rfl)
      have N82 := Fr.snoc X82 N78 g_b18
      have KK82 : Keep h0 h82 [oa] := (KK78).wr W82 (Or.inr sz_b18)
      have Z82 : n0 ≤ h82.size := by rw [W82.size]; exact Z78
      show ownEnds _ _ _ _ (T82.setTop (mkF m 85 #[.val (.ref oa), .val (.ref ob), .val (.int (LI2 w0 w1 w2)), .val (.int (LS2 w0 w1 w2)), .val (.int (2 : Int32)), .unset, .unset] []))
      refine ownEnds.law (fun t k => XS.aloadN X82.here hx rfl (hb hby d2_85) rfl rfl k) ?_
      show ownEnds _ _ _ _ (T82.setTop (mkF m 86 #[.val (.ref oa), .val (.ref ob), .val (.int (LI2 w0 w1 w2)), .val (.int (LS2 w0 w1 w2)), .val (.int (2 : Int32)), .unset, .unset] [(.ref oa)]))
      have f84 := (Fld.other W82 (Fld.other W78 (Fld.other W70 f66 (Or.inl ne_oa_b28)) (Or.inl ne_oa_b9)) (Or.inl ne_oa_b18))
      obtain ⟨T85, X85, e85, st85⟩ := getF X82 hx hZ hown (host := "") (Or.inl (wd_30 hw)) Via.refl e82 f84 (g := (mkF m 86 #[.val (.ref oa), .val (.ref ob), .val (.int (LI2 w0 w1 w2)), .val (.int (LS2 w0 w1 w2)), .val (.int (2 : Int32)), .unset, .unset] [(.ref oa)])) rfl rfl (hb hby d2_86)
      refine ownEnds.law st85 ?_
      show ownEnds _ _ _ _ (T85.setTop (mkF m 89 #[.val (.ref oa), .val (.ref ob), .val (.int (LI2 w0 w1 w2)), .val (.int (LS2 w0 w1 w2)), .val (.int (2 : Int32)), .unset, .unset] [(.ref b28)]))
      refine ownEnds.law (fun t k => XS.iload X85.here hx rfl (hb hby d2_89) rfl (X85.ldc2Long hx hown (mvT hZ (wd_32 hw)) (g := (mkF m 91 #[.val (.ref oa), .val (.ref ob), .val (.int (LI2 w0 w1 w2)), .val (.int (LS2 w0 w1 w2)), .val (.int (2 : Int32)), .unset, .unset] [(.int (2 : Int32)), (.ref b28)])) rfl (hb hby d2_91) _ (XS.bipush X85.here hx rfl (hb hby d2_94) (XS.aloadN X85.here hx rfl (hb hby d2_96) rfl rfl (XS.iload X85.here hx rfl (hb hby d2_97) rfl k))))) ?_
      show ownEnds _ _ _ _ (T85.setTop (mkF m 99 #[.val (.ref oa), .val (.ref ob), .val (.int (LI2 w0 w1 w2)), .val (.int (LS2 w0 w1 w2)), .val (.int (2 : Int32)), .unset, .unset] [(.int (2 : Int32)), (.ref ob), (.int (64 : Int32)), (.long (-1 : Int64)), (.int (2 : Int32)), (.ref b28)]))
      have f87 := (Arv.other (Arv.other f73 W78 ne_ob_b9) W82 ne_ob_b18)
      obtain ⟨cl86, Ar86, q86, S86, N86, H86, G86⟩ := id f87
      have hi86 := inb_of (j := (2 : Int32)) S86 ⟨by decide, by decide⟩
      have hv86 : cl86.slots[((2 : Int32)).toNatClampNeg]? = some (.int w2) := H86.at hi86 rfl
      refine ownEnds.law (fun t k => X85.iaload hx (j := (2 : Int32)) (v := (.int w2)) (by rw [e85]; exact Ar86.1) (State.isArrayOf_alike hZ.alike Ar86.2.1) Ar86.2.2 hi86 hv86 (g := (mkF m 99 #[.val (.ref oa), .val (.ref ob), .val (.int (LI2 w0 w1 w2)), .val (.int (LS2 w0 w1 w2)), .val (.int (2 : Int32)), .unset, .unset] [(.int (2 : Int32)), (.ref ob), (.int (64 : Int32)), (.long (-1 : Int64)), (.int (2 : Int32)), (.ref b28)])) rfl rfl (hb hby d2_99) _ (XS.isub X85.here hx rfl (hb hby d2_100) rfl (XS.lushr X85.here hx rfl (hb hby d2_101) rfl k))) ?_
      show ownEnds _ _ _ _ (T85.setTop (mkF m 102 #[.val (.ref oa), .val (.ref ob), .val (.int (LI2 w0 w1 w2)), .val (.int (LS2 w0 w1 w2)), .val (.int (2 : Int32)), .unset, .unset] [(.long (((-1 : Int64).toUInt64 >>> (((64 : Int32) - w2) &&& 0x3f).toInt64.toUInt64).toInt64)), (.int (2 : Int32)), (.ref b28)]))
      have f89 := (Arv.other (Arv.other V70 W78 (Ne.symm ne_b9_b28)) W82 (Ne.symm ne_b18_b28))
      obtain ⟨cl88, Ar88, q88, S88, N88, H88, G88⟩ := id f89
      obtain ⟨T88, h88, X88, e88, W88, st88⟩ := stJ X85 hx hZ e85 Ar88 (j := (2 : Int32)) (inb_of S88 ⟨by decide, by decide⟩) (g := (mkF m 102 #[.val (.ref oa), .val (.ref ob), .val (.int (LI2 w0 w1 w2)), .val (.int (LS2 w0 w1 w2)), .val (.int (2 : Int32)), .unset, .unset] [(.long (((-1 : Int64).toUInt64 >>> (((64 : Int32) - w2) &&& 0x3f).toInt64.toUInt64).toInt64)), (.int (2 : Int32)), (.ref b28)])) rfl rfl (hb hby d2_102)
      refine ownEnds.law st88 ?_
      have V88 : Arv Z h88 b28 k28 .long (4 : Int32) [(.long (((-1 : Int64).toUInt64 >>> (((64 : Int32) - w0) &&& 0x3f).toInt64.toUInt64).toInt64)), (.long (((-1 : Int64).toUInt64 >>> (((64 : Int32) - w1) &&& 0x3f).toInt64.toUInt64).toInt64)), (.long (((-1 : Int64).toUInt64 >>> (((64 : Int32) - w2) &&& 0x3f).toInt64.toUInt64).toInt64)), (.long (0 : Int64))] (.long (0 : Int64)) := Arv.set Ar88 q88 S88 N88 H88 G88 rfl W88 2 rfl (Nat.le_of_ble_eq_true rfl)
      have N88 := Fr.snoc X88 N82 g_b28
      have KK88 : Keep h0 h88 [oa] := (KK82).wr W88 (Or.inr sz_b28)
      have Z88 : n0 ≤ h88.size := by rw [W88.size]; exact Z82
      show ownEnds _ _ _ _ (T88.setTop (mkF m 103 #[.val (.ref oa), .val (.ref ob), .val (.int (LI2 w0 w1 w2)), .val (.int (LS2 w0 w1 w2)), .val (.int (2 : Int32)), .unset, .unset] []))
      refine ownEnds.law (fun t k => XS.iloadN X88.here hx rfl (hb hby d2_103) rfl (XS.aloadN X88.here hx rfl (hb hby d2_104) rfl rfl (XS.iload X88.here hx rfl (hb hby d2_105) rfl k))) ?_
      show ownEnds _ _ _ _ (T88.setTop (mkF m 107 #[.val (.ref oa), .val (.ref ob), .val (.int (LI2 w0 w1 w2)), .val (.int (LS2 w0 w1 w2)), .val (.int (2 : Int32)), .unset, .unset] [(.int (2 : Int32)), (.ref ob), (.int (LS2 w0 w1 w2))]))
      have f91 := (Arv.other f87 W88 ne_ob_b28)
      obtain ⟨cl90, Ar90, q90, S90, N90, H90, G90⟩ := id f91
      have hi90 := inb_of (j := (2 : Int32)) S90 ⟨by decide, by decide⟩
      have hv90 : cl90.slots[((2 : Int32)).toNatClampNeg]? = some (.int w2) := H90.at hi90 rfl
      refine ownEnds.law (fun t k => X88.iaload hx (j := (2 : Int32)) (v := (.int w2)) (by rw [e88]; exact Ar90.1) (State.isArrayOf_alike hZ.alike Ar90.2.1) Ar90.2.2 hi90 hv90 (g := (mkF m 107 #[.val (.ref oa), .val (.ref ob), .val (.int (LI2 w0 w1 w2)), .val (.int (LS2 w0 w1 w2)), .val (.int (2 : Int32)), .unset, .unset] [(.int (2 : Int32)), (.ref ob), (.int (LS2 w0 w1 w2))])) rfl rfl (hb hby d2_107) _ (XS.iadd X88.here hx rfl (hb hby d2_108) rfl k)) ?_
      show ownEnds _ _ _ _ (T88.setTop (mkF m 109 #[.val (.ref oa), .val (.ref ob), .val (.int (LI2 w0 w1 w2)), .val (.int (LS2 w0 w1 w2)), .val (.int (2 : Int32)), .unset, .unset] [(.int ((LS2 w0 w1 w2) + w2))]))
      show ownEnds _ _ _ _ (T88.setTop (mkF m 109 #[.val (.ref oa), .val (.ref ob), .val (.int (LI2 w0 w1 w2)), .val (.int (LS2 w0 w1 w2)), .val (.int (2 : Int32)), .unset, .unset] [(.int ((LS2 w0 w1 w2) + w2))]))
      refine ownEnds.law (fun t k => XS.istoreN X88.here hx rfl (hb hby d2_109) rfl (l' := #[.val (.ref oa), .val (.ref ob), .val (.int (LI2 w0 w1 w2)), .val (.int ((LS2 w0 w1 w2) + w2)), .val (.int (2 : Int32)), .unset, .unset]) rfl (XS.iinc X88.here hx rfl (hb hby d2_110) rfl (l' := #[.val (.ref oa), .val (.ref ob), .val (.int (LI2 w0 w1 w2)), .val (.int ((LS2 w0 w1 w2) + w2)), .val (.int (3 : Int32)), .unset, .unset]) rfl (XS.goto X88.here hx rfl (pc0 := 113) (pc' := 46) rfl (hb hby d2_113) (by decide) (by decide) (XS.iload X88.here hx rfl (hb hby d2_46) rfl (XS.aloadN X88.here hx rfl (hb hby d2_48) rfl rfl k))))) ?_
      show ownEnds _ _ _ _ (T88.setTop (mkF m 49 #[.val (.ref oa), .val (.ref ob), .val (.int (LI2 w0 w1 w2)), .val (.int ((LS2 w0 w1 w2) + w2)), .val (.int (3 : Int32)), .unset, .unset] [(.ref ob), (.int (3 : Int32))]))
      obtain ⟨cl92, Ar92, -, S92, N92, -, -⟩ := id f91
      refine ownEnds.law (X88.arraylength hx (by rw [e88]; exact Ar92.1) (State.isArrayOf_alike hZ.alike Ar92.2.1) (g := (mkF m 49 #[.val (.ref oa), .val (.ref ob), .val (.int (LI2 w0 w1 w2)), .val (.int ((LS2 w0 w1 w2) + w2)), .val (.int (3 : Int32)), .unset, .unset] [(.ref ob), (.int (3 : Int32))])) rfl rfl (hb hby d2_49)) ?_
      rw [len_of S92 N92]
      show ownEnds _ _ _ _ (T88.setTop (mkF m 50 #[.val (.ref oa), .val (.ref ob), .val (.int (LI2 w0 w1 w2)), .val (.int ((LS2 w0 w1 w2) + w2)), .val (.int (3 : Int32)), .unset, .unset] [(.int (4 : Int32)), (.int (3 : Int32))]))
      refine ownEnds.law (fun t => XS.icmpNo X88.here hx rfl (hb hby d2_50) rfl (tlt (by decide : (3 : Int32) < (4 : Int32))).2.1) ?_
      show ownEnds _ _ _ _ (T88.setTop (mkF m 53 #[.val (.ref oa), .val (.ref ob), .val (.int (LI2 w0 w1 w2)), .val (.int ((LS2 w0 w1 w2) + w2)), .val (.int (3 : Int32)), .unset, .unset] []))
      refine ownEnds.law (fun t k => XS.iloadN X88.here hx rfl (hb hby d2_53) rfl (XS.aloadN X88.here hx rfl (hb hby d2_54) rfl rfl (XS.iload X88.here hx rfl (hb hby d2_55) rfl k))) ?_
      show ownEnds _ _ _ _ (T88.setTop (mkF m 57 #[.val (.ref oa), .val (.ref ob), .val (.int (LI2 w0 w1 w2)), .val (.int ((LS2 w0 w1 w2) + w2)), .val (.int (3 : Int32)), .unset, .unset] [(.int (3 : Int32)), (.ref ob), (.int ((LS2 w0 w1 w2) + w2))]))
      obtain ⟨cl93, Ar93, q93, S93, N93, H93, G93⟩ := id f91
      have hi93 := inb_of (j := (3 : Int32)) S93 ⟨by decide, by decide⟩
      have hv93 : cl93.slots[((3 : Int32)).toNatClampNeg]? = some (.int w3) := H93.at hi93 rfl
      refine ownEnds.law (fun t k => X88.iaload hx (j := (3 : Int32)) (v := (.int w3)) (by rw [e88]; exact Ar93.1) (State.isArrayOf_alike hZ.alike Ar93.2.1) Ar93.2.2 hi93 hv93 (g := (mkF m 57 #[.val (.ref oa), .val (.ref ob), .val (.int (LI2 w0 w1 w2)), .val (.int ((LS2 w0 w1 w2) + w2)), .val (.int (3 : Int32)), .unset, .unset] [(.int (3 : Int32)), (.ref ob), (.int ((LS2 w0 w1 w2) + w2))])) rfl rfl (hb hby d2_57) _ (XS.iadd X88.here hx rfl (hb hby d2_58) rfl (XS.bipush X88.here hx rfl (hb hby d2_59) k))) ?_
      show ownEnds _ _ _ _ (T88.setTop (mkF m 61 #[.val (.ref oa), .val (.ref ob), .val (.int (LI2 w0 w1 w2)), .val (.int ((LS2 w0 w1 w2) + w2)), .val (.int (3 : Int32)), .unset, .unset] [(.int (64 : Int32)), (.int (((LS2 w0 w1 w2) + w2) + w3))]))
      have J69_3 : ∀ (ix us : Int32) (hix : ix = (LI3 w0 w1 w2 w3)) (hus : us = (LS3 w0 w1 w2 w3)), ownEnds p.tables e below (ownPost s (fun v h L => v = none ∧ Fr n0 L ∧ Keep h0 h [oa] ∧ ∃ (c0 c1 c2 c3 c4 : Addr) (k0 k1 k2 k3 k4 : ClassId) (rs : List Value) (len : Int32), Exa Z h oa "com/example/libreach/libreach/engine/StateLayout" ∧ Fld Z h oa "com/example/libreach/libreach/engine/StateLayout" "widths" "[I" (.ref c0) ∧ Arv Z h c0 k0 .int (4 : Int32) [(.int w0), (.int w1), (.int w2), (.int w3)] (.int (0 : Int32)) ∧ Fld Z h oa "com/example/libreach/libreach/engine/StateLayout" "word" "[I" (.ref c1) ∧ Arv Z h c1 k1 .int (4 : Int32) [(.int (0 : Int32)), (.int (LI1 w0 w1)), (.int (LI2 w0 w1 w2)), (.int (LI3 w0 w1 w2 w3))] (.int (0 : Int32)) ∧ Fld Z h oa "com/example/libreach/libreach/engine/StateLayout" "shift" "[I" (.ref c2) ∧ Arv Z h c2 k2 .int (4 : Int32) [(.int (0 : Int32)), (.int (LS1 w0 w1)), (.int (LS2 w0 w1 w2)), (.int (LS3 w0 w1 w2 w3))] (.int (0 : Int32)) ∧ Fld Z h oa "com/example/libreach/libreach/engine/StateLayout" "largest" "[J" (.ref c3) ∧ Arv Z h c3 k3 .long (4 : Int32) [(.long (LM w0)), (.long (LM w1)), (.long (LM w2)), (.long (LM w3))] (.long (0 : Int64)) ∧ Fld Z h oa "com/example/libreach/libreach/engine/StateLayout" "runs" "[I" (.ref c4) ∧ Arv Z h c4 k4 .int len rs (.int (0 : Int32)) ∧ RunOK w0 w1 w2 w3 rs len) ({ frames := 2, cells := 6, slots := 40, locals := 60 } : Room).cells ({ frames := 2, cells := 6, slots := 40, locals := 60 } : Room).slots) (T88.setTop (mkF m 69 #[.val (.ref oa), .val (.ref ob), .val (.int ix), .val (.int us), .val (.int (3 : Int32)), .unset, .unset] [])) := by
        intro ix us hix hus
        subst hix hus
        show ownEnds _ _ _ _ (T88.setTop (mkF m 69 #[.val (.ref oa), .val (.ref ob), .val (.int (LI3 w0 w1 w2 w3)), .val (.int (LS3 w0 w1 w2 w3)), .val (.int (3 : Int32)), .unset, .unset] []))
        refine ownEnds.law (fun t k => XS.aloadN X88.here hx rfl (hb hby d2_69) rfl rfl k) ?_
        show ownEnds _ _ _ _ (T88.setTop (mkF m 70 #[.val (.ref oa), .val (.ref ob), .val (.int (LI3 w0 w1 w2 w3)), .val (.int (LS3 w0 w1 w2 w3)), .val (.int (3 : Int32)), .unset, .unset] [(.ref oa)]))
        have f94 := (Fld.other W88 (Fld.other W82 (Fld.other W78 f76 (Or.inl ne_oa_b9)) (Or.inl ne_oa_b18)) (Or.inl ne_oa_b28))
        obtain ⟨T95, X95, e95, st95⟩ := getF X88 hx hZ hown (host := "") (Or.inl (wd_25 hw)) Via.refl e88 f94 (g := (mkF m 70 #[.val (.ref oa), .val (.ref ob), .val (.int (LI3 w0 w1 w2 w3)), .val (.int (LS3 w0 w1 w2 w3)), .val (.int (3 : Int32)), .unset, .unset] [(.ref oa)])) rfl rfl (hb hby d2_70)
        refine ownEnds.law st95 ?_
        show ownEnds _ _ _ _ (T95.setTop (mkF m 73 #[.val (.ref oa), .val (.ref ob), .val (.int (LI3 w0 w1 w2 w3)), .val (.int (LS3 w0 w1 w2 w3)), .val (.int (3 : Int32)), .unset, .unset] [(.ref b9)]))
        refine ownEnds.law (fun t k => XS.iload X95.here hx rfl (hb hby d2_73) rfl (XS.iloadN X95.here hx rfl (hb hby d2_75) rfl k)) ?_
        show ownEnds _ _ _ _ (T95.setTop (mkF m 76 #[.val (.ref oa), .val (.ref ob), .val (.int (LI3 w0 w1 w2 w3)), .val (.int (LS3 w0 w1 w2 w3)), .val (.int (3 : Int32)), .unset, .unset] [(.int (LI3 w0 w1 w2 w3)), (.int (3 : Int32)), (.ref b9)]))
        have f97 := (Arv.other (Arv.other V78 W82 ne_b9_b18) W88 ne_b9_b28)
        obtain ⟨cl96, Ar96, q96, S96, N96, H96, G96⟩ := id f97
        obtain ⟨T96, h96, X96, e96, W96, st96⟩ := stI X95 hx hZ e95 Ar96 (j := (3 : Int32)) (inb_of S96 ⟨by decide, by decide⟩) (g := (mkF m 76 #[.val (.ref oa), .val (.ref ob), .val (.int (LI3 w0 w1 w2 w3)), .val (.int (LS3 w0 w1 w2 w3)), .val (.int (3 : Int32)), .unset, .unset] [(.int (LI3 w0 w1 w2 w3)), (.int (3 : Int32)), (.ref b9)])) rfl rfl (hb hby d2_76)
        refine ownEnds.law st96 ?_
        have V96 : Arv Z h96 b9 k9 .int (4 : Int32) [(.int (0 : Int32)), (.int (LI1 w0 w1)), (.int (LI2 w0 w1 w2)), (.int (LI3 w0 w1 w2 w3))] (.int (0 : Int32)) := Arv.set Ar96 q96 S96 N96 H96 G96 rfl W96 3 rfl (Nat.le_of_ble_eq_true rfl)
        have N96 := Fr.snoc X96 N88 g_b9
        have KK96 : Keep h0 h96 [oa] := (KK88).wr W96 (Or.inr sz_b9)
        have Z96 : n0 ≤ h96.size := by rw [W96.size]; exact Z88
        show ownEnds _ _ _ _ (T96.setTop (mkF m 77 #[.val (.ref oa), .val (.ref ob), .val (.int (LI3 w0 w1 w2 w3)), .val (.int (LS3 w0 w1 w2 w3)), .val (.int (3 : Int32)), .unset, .unset] []))
        refine ownEnds.law (fun t k => XS.aloadN X96.here hx rfl (hb hby d2_77) rfl rfl k) ?_
        show ownEnds _ _ _ _ (T96.setTop (mkF m 78 #[.val (.ref oa), .val (.ref ob), .val (.int (LI3 w0 w1 w2 w3)), .val (.int (LS3 w0 w1 w2 w3)), .val (.int (3 : Int32)), .unset, .unset] [(.ref oa)]))
        have f98 := (Fld.other W96 (Fld.other W88 (Fld.other W82 f80 (Or.inl ne_oa_b18)) (Or.inl ne_oa_b28)) (Or.inl ne_oa_b9))
        obtain ⟨T99, X99, e99, st99⟩ := getF X96 hx hZ hown (host := "") (Or.inl (wd_27 hw)) Via.refl e96 f98 (g := (mkF m 78 #[.val (.ref oa), .val (.ref ob), .val (.int (LI3 w0 w1 w2 w3)), .val (.int (LS3 w0 w1 w2 w3)), .val (.int (3 : Int32)), .unset, .unset] [(.ref oa)])) rfl rfl (hb hby d2_78)
        refine ownEnds.law st99 ?_
        show ownEnds _ _ _ _ (T99.setTop (mkF m 81 #[.val (.ref oa), .val (.ref ob), .val (.int (LI3 w0 w1 w2 w3)), .val (.int (LS3 w0 w1 w2 w3)), .val (.int (3 : Int32)), .unset, .unset] [(.ref b18)]))
        refine ownEnds.law (fun t k => XS.iload X99.here hx rfl (hb hby d2_81) rfl (XS.iloadN X99.here hx rfl (hb hby d2_83) rfl k)) ?_
        show ownEnds _ _ _ _ (T99.setTop (mkF m 84 #[.val (.ref oa), .val (.ref ob), .val (.int (LI3 w0 w1 w2 w3)), .val (.int (LS3 w0 w1 w2 w3)), .val (.int (3 : Int32)), .unset, .unset] [(.int (LS3 w0 w1 w2 w3)), (.int (3 : Int32)), (.ref b18)]))
        have f101 := (Arv.other (Arv.other V82 W88 ne_b18_b28) W96 (Ne.symm ne_b9_b18))
        obtain ⟨cl100, Ar100, q100, S100, N100, H100, G100⟩ := id f101
        obtain ⟨T100, h100, X100, e100, W100, st100⟩ := stI X99 hx hZ e99 Ar100 (j := (3 : Int32)) (inb_of S100 ⟨by decide, by decide⟩) (g := (mkF m 84 #[.val (.ref oa), .val (.ref ob), .val (.int (LI3 w0 w1 w2 w3)), .val (.int (LS3 w0 w1 w2 w3)), .val (.int (3 : Int32)), .unset, .unset] [(.int (LS3 w0 w1 w2 w3)), (.int (3 : Int32)), (.ref b18)])) rfl rfl (hb hby d2_84)
        refine ownEnds.law st100 ?_
        have V100 : Arv Z h100 b18 k18 .int (4 : Int32) [(.int (0 : Int32)), (.int (LS1 w0 w1)), (.int (LS2 w0 w1 w2)), (.int (LS3 w0 w1 w2 w3))] (.int (0 : Int32)) := Arv.set Ar100 q100 S100 N100 H100 G100 rfl W100 3 rfl (Nat.le_of_ble_eq_true rfl)
        have N100 := Fr.snoc X100 N96 g_b18
        have KK100 : Keep h0 h100 [oa] := (KK96).wr W100 (Or.inr sz_b18)
        have Z100 : n0 ≤ h100.size := by rw [W100.size]; exact Z96
        show ownEnds _ _ _ _ (T100.setTop (mkF m 85 #[.val (.ref oa), .val (.ref ob), .val (.int (LI3 w0 w1 w2 w3)), .val (.int (LS3 w0 w1 w2 w3)), .val (.int (3 : Int32)), .unset, .unset] []))
        refine ownEnds.law (fun t k => XS.aloadN X100.here hx rfl (hb hby d2_85) rfl rfl k) ?_
        show ownEnds _ _ _ _ (T100.setTop (mkF m 86 #[.val (.ref oa), .val (.ref ob), .val (.int (LI3 w0 w1 w2 w3)), .val (.int (LS3 w0 w1 w2 w3)), .val (.int (3 : Int32)), .unset, .unset] [(.ref oa)]))
        have f102 := (Fld.other W100 (Fld.other W96 (Fld.other W88 f84 (Or.inl ne_oa_b28)) (Or.inl ne_oa_b9)) (Or.inl ne_oa_b18))
        obtain ⟨T103, X103, e103, st103⟩ := getF X100 hx hZ hown (host := "") (Or.inl (wd_30 hw)) Via.refl e100 f102 (g := (mkF m 86 #[.val (.ref oa), .val (.ref ob), .val (.int (LI3 w0 w1 w2 w3)), .val (.int (LS3 w0 w1 w2 w3)), .val (.int (3 : Int32)), .unset, .unset] [(.ref oa)])) rfl rfl (hb hby d2_86)
        refine ownEnds.law st103 ?_
        show ownEnds _ _ _ _ (T103.setTop (mkF m 89 #[.val (.ref oa), .val (.ref ob), .val (.int (LI3 w0 w1 w2 w3)), .val (.int (LS3 w0 w1 w2 w3)), .val (.int (3 : Int32)), .unset, .unset] [(.ref b28)]))
        refine ownEnds.law (fun t k => XS.iload X103.here hx rfl (hb hby d2_89) rfl (X103.ldc2Long hx hown (mvT hZ (wd_32 hw)) (g := (mkF m 91 #[.val (.ref oa), .val (.ref ob), .val (.int (LI3 w0 w1 w2 w3)), .val (.int (LS3 w0 w1 w2 w3)), .val (.int (3 : Int32)), .unset, .unset] [(.int (3 : Int32)), (.ref b28)])) rfl (hb hby d2_91) _ (XS.bipush X103.here hx rfl (hb hby d2_94) (XS.aloadN X103.here hx rfl (hb hby d2_96) rfl rfl (XS.iload X103.here hx rfl (hb hby d2_97) rfl k))))) ?_
        show ownEnds _ _ _ _ (T103.setTop (mkF m 99 #[.val (.ref oa), .val (.ref ob), .val (.int (LI3 w0 w1 w2 w3)), .val (.int (LS3 w0 w1 w2 w3)), .val (.int (3 : Int32)), .unset, .unset] [(.int (3 : Int32)), (.ref ob), (.int (64 : Int32)), (.long (-1 : Int64)), (.int (3 : Int32)), (.ref b28)]))
        have f105 := (Arv.other (Arv.other f91 W96 ne_ob_b9) W100 ne_ob_b18)
        obtain ⟨cl104, Ar104, q104, S104, N104, H104, G104⟩ := id f105
        have hi104 := inb_of (j := (3 : Int32)) S104 ⟨by decide, by decide⟩
        have hv104 : cl104.slots[((3 : Int32)).toNatClampNeg]? = some (.int w3) := H104.at hi104 rfl
        refine ownEnds.law (fun t k => X103.iaload hx (j := (3 : Int32)) (v := (.int w3)) (by rw [e103]; exact Ar104.1) (State.isArrayOf_alike hZ.alike Ar104.2.1) Ar104.2.2 hi104 hv104 (g := (mkF m 99 #[.val (.ref oa), .val (.ref ob), .val (.int (LI3 w0 w1 w2 w3)), .val (.int (LS3 w0 w1 w2 w3)), .val (.int (3 : Int32)), .unset, .unset] [(.int (3 : Int32)), (.ref ob), (.int (64 : Int32)), (.long (-1 : Int64)), (.int (3 : Int32)), (.ref b28)])) rfl rfl (hb hby d2_99) _ (XS.isub X103.here hx rfl (hb hby d2_100) rfl (XS.lushr X103.here hx rfl (hb hby d2_101) rfl k))) ?_
        show ownEnds _ _ _ _ (T103.setTop (mkF m 102 #[.val (.ref oa), .val (.ref ob), .val (.int (LI3 w0 w1 w2 w3)), .val (.int (LS3 w0 w1 w2 w3)), .val (.int (3 : Int32)), .unset, .unset] [(.long (((-1 : Int64).toUInt64 >>> (((64 : Int32) - w3) &&& 0x3f).toInt64.toUInt64).toInt64)), (.int (3 : Int32)), (.ref b28)]))
        have f107 := (Arv.other (Arv.other V88 W96 (Ne.symm ne_b9_b28)) W100 (Ne.symm ne_b18_b28))
        obtain ⟨cl106, Ar106, q106, S106, N106, H106, G106⟩ := id f107
        obtain ⟨T106, h106, X106, e106, W106, st106⟩ := stJ X103 hx hZ e103 Ar106 (j := (3 : Int32)) (inb_of S106 ⟨by decide, by decide⟩) (g := (mkF m 102 #[.val (.ref oa), .val (.ref ob), .val (.int (LI3 w0 w1 w2 w3)), .val (.int (LS3 w0 w1 w2 w3)), .val (.int (3 : Int32)), .unset, .unset] [(.long (((-1 : Int64).toUInt64 >>> (((64 : Int32) - w3) &&& 0x3f).toInt64.toUInt64).toInt64)), (.int (3 : Int32)), (.ref b28)])) rfl rfl (hb hby d2_102)
        refine ownEnds.law st106 ?_
        have V106 : Arv Z h106 b28 k28 .long (4 : Int32) [(.long (((-1 : Int64).toUInt64 >>> (((64 : Int32) - w0) &&& 0x3f).toInt64.toUInt64).toInt64)), (.long (((-1 : Int64).toUInt64 >>> (((64 : Int32) - w1) &&& 0x3f).toInt64.toUInt64).toInt64)), (.long (((-1 : Int64).toUInt64 >>> (((64 : Int32) - w2) &&& 0x3f).toInt64.toUInt64).toInt64)), (.long (((-1 : Int64).toUInt64 >>> (((64 : Int32) - w3) &&& 0x3f).toInt64.toUInt64).toInt64))] (.long (0 : Int64)) := Arv.set Ar106 q106 S106 N106 H106 G106 rfl W106 3 rfl (Nat.le_of_ble_eq_true rfl)
        have N106 := Fr.snoc X106 N100 g_b28
        have KK106 : Keep h0 h106 [oa] := (KK100).wr W106 (Or.inr sz_b28)
        have Z106 : n0 ≤ h106.size := by rw [W106.size]; exact Z100
        show ownEnds _ _ _ _ (T106.setTop (mkF m 103 #[.val (.ref oa), .val (.ref ob), .val (.int (LI3 w0 w1 w2 w3)), .val (.int (LS3 w0 w1 w2 w3)), .val (.int (3 : Int32)), .unset, .unset] []))
        refine ownEnds.law (fun t k => XS.iloadN X106.here hx rfl (hb hby d2_103) rfl (XS.aloadN X106.here hx rfl (hb hby d2_104) rfl rfl (XS.iload X106.here hx rfl (hb hby d2_105) rfl k))) ?_
        show ownEnds _ _ _ _ (T106.setTop (mkF m 107 #[.val (.ref oa), .val (.ref ob), .val (.int (LI3 w0 w1 w2 w3)), .val (.int (LS3 w0 w1 w2 w3)), .val (.int (3 : Int32)), .unset, .unset] [(.int (3 : Int32)), (.ref ob), (.int (LS3 w0 w1 w2 w3))]))
        have f109 := (Arv.other f105 W106 ne_ob_b28)
        obtain ⟨cl108, Ar108, q108, S108, N108, H108, G108⟩ := id f109
        have hi108 := inb_of (j := (3 : Int32)) S108 ⟨by decide, by decide⟩
        have hv108 : cl108.slots[((3 : Int32)).toNatClampNeg]? = some (.int w3) := H108.at hi108 rfl
        refine ownEnds.law (fun t k => X106.iaload hx (j := (3 : Int32)) (v := (.int w3)) (by rw [e106]; exact Ar108.1) (State.isArrayOf_alike hZ.alike Ar108.2.1) Ar108.2.2 hi108 hv108 (g := (mkF m 107 #[.val (.ref oa), .val (.ref ob), .val (.int (LI3 w0 w1 w2 w3)), .val (.int (LS3 w0 w1 w2 w3)), .val (.int (3 : Int32)), .unset, .unset] [(.int (3 : Int32)), (.ref ob), (.int (LS3 w0 w1 w2 w3))])) rfl rfl (hb hby d2_107) _ (XS.iadd X106.here hx rfl (hb hby d2_108) rfl k)) ?_
        show ownEnds _ _ _ _ (T106.setTop (mkF m 109 #[.val (.ref oa), .val (.ref ob), .val (.int (LI3 w0 w1 w2 w3)), .val (.int (LS3 w0 w1 w2 w3)), .val (.int (3 : Int32)), .unset, .unset] [(.int ((LS3 w0 w1 w2 w3) + w3))]))
        show ownEnds _ _ _ _ (T106.setTop (mkF m 109 #[.val (.ref oa), .val (.ref ob), .val (.int (LI3 w0 w1 w2 w3)), .val (.int (LS3 w0 w1 w2 w3)), .val (.int (3 : Int32)), .unset, .unset] [(.int ((LS3 w0 w1 w2 w3) + w3))]))
        refine ownEnds.law (fun t k => XS.istoreN X106.here hx rfl (hb hby d2_109) rfl (l' := #[.val (.ref oa), .val (.ref ob), .val (.int (LI3 w0 w1 w2 w3)), .val (.int ((LS3 w0 w1 w2 w3) + w3)), .val (.int (3 : Int32)), .unset, .unset]) rfl (XS.iinc X106.here hx rfl (hb hby d2_110) rfl (l' := #[.val (.ref oa), .val (.ref ob), .val (.int (LI3 w0 w1 w2 w3)), .val (.int ((LS3 w0 w1 w2 w3) + w3)), .val (.int (4 : Int32)), .unset, .unset]) rfl (XS.goto X106.here hx rfl (pc0 := 113) (pc' := 46) rfl (hb hby d2_113) (by decide) (by decide) (XS.iload X106.here hx rfl (hb hby d2_46) rfl (XS.aloadN X106.here hx rfl (hb hby d2_48) rfl rfl k))))) ?_
        show ownEnds _ _ _ _ (T106.setTop (mkF m 49 #[.val (.ref oa), .val (.ref ob), .val (.int (LI3 w0 w1 w2 w3)), .val (.int ((LS3 w0 w1 w2 w3) + w3)), .val (.int (4 : Int32)), .unset, .unset] [(.ref ob), (.int (4 : Int32))]))
        obtain ⟨cl110, Ar110, -, S110, N110, -, -⟩ := id f109
        refine ownEnds.law (X106.arraylength hx (by rw [e106]; exact Ar110.1) (State.isArrayOf_alike hZ.alike Ar110.2.1) (g := (mkF m 49 #[.val (.ref oa), .val (.ref ob), .val (.int (LI3 w0 w1 w2 w3)), .val (.int ((LS3 w0 w1 w2 w3) + w3)), .val (.int (4 : Int32)), .unset, .unset] [(.ref ob), (.int (4 : Int32))])) rfl rfl (hb hby d2_49)) ?_
        rw [len_of S110 N110]
        show ownEnds _ _ _ _ (T106.setTop (mkF m 50 #[.val (.ref oa), .val (.ref ob), .val (.int (LI3 w0 w1 w2 w3)), .val (.int ((LS3 w0 w1 w2 w3) + w3)), .val (.int (4 : Int32)), .unset, .unset] [(.int (4 : Int32)), (.int (4 : Int32))]))
        refine ownEnds.law (fun t => XS.icmpYes X106.here hx rfl (pc0 := 50) (pc' := 116) rfl (hb hby d2_50) rfl (flt (Int32.lt_irrefl)).2.1 (by decide) (by decide)) ?_
        show ownEnds _ _ _ _ (T106.setTop (mkF m 116 #[.val (.ref oa), .val (.ref ob), .val (.int (LI3 w0 w1 w2 w3)), .val (.int ((LS3 w0 w1 w2 w3) + w3)), .val (.int (4 : Int32)), .unset, .unset] []))
        refine ownEnds.law (fun t k => XS.aloadN X106.here hx rfl (hb hby d2_116) rfl rfl (XS.aloadN X106.here hx rfl (hb hby d2_117) rfl rfl k)) ?_
        show ownEnds _ _ _ _ (T106.setTop (mkF m 118 #[.val (.ref oa), .val (.ref ob), .val (.int (LI3 w0 w1 w2 w3)), .val (.int ((LS3 w0 w1 w2 w3) + w3)), .val (.int (4 : Int32)), .unset, .unset] [(.ref ob), (.ref oa)]))
        obtain ⟨cl111, Ar111, -, S111, N111, -, -⟩ := id f109
        refine ownEnds.law (X106.arraylength hx (by rw [e106]; exact Ar111.1) (State.isArrayOf_alike hZ.alike Ar111.2.1) (g := (mkF m 118 #[.val (.ref oa), .val (.ref ob), .val (.int (LI3 w0 w1 w2 w3)), .val (.int ((LS3 w0 w1 w2 w3) + w3)), .val (.int (4 : Int32)), .unset, .unset] [(.ref ob), (.ref oa)])) rfl rfl (hb hby d2_118)) ?_
        rw [len_of S111 N111]
        show ownEnds _ _ _ _ (T106.setTop (mkF m 119 #[.val (.ref oa), .val (.ref ob), .val (.int (LI3 w0 w1 w2 w3)), .val (.int ((LS3 w0 w1 w2 w3) + w3)), .val (.int (4 : Int32)), .unset, .unset] [(.int (4 : Int32)), (.ref oa)]))
        refine ownEnds.law (fun t => XS.ifYes X106.here hx rfl (pc0 := 119) (pc' := 126) rfl (hb hby d2_119) rfl ((if0 _ _).trans (feq (by decide : ¬ ((4 : Int32) = (0 : Int32)))).2) (by decide) (by decide)) ?_
        show ownEnds _ _ _ _ (T106.setTop (mkF m 126 #[.val (.ref oa), .val (.ref ob), .val (.int (LI3 w0 w1 w2 w3)), .val (.int ((LS3 w0 w1 w2 w3) + w3)), .val (.int (4 : Int32)), .unset, .unset] [(.ref oa)]))
        refine ownEnds.law (fun t k => XS.iloadN X106.here hx rfl (hb hby d2_126) rfl (XS.iconst X106.here hx rfl (hb hby d2_127) (XS.iadd X106.here hx rfl (hb hby d2_128) rfl k))) ?_
        show ownEnds _ _ _ _ (T106.setTop (mkF m 129 #[.val (.ref oa), .val (.ref ob), .val (.int (LI3 w0 w1 w2 w3)), .val (.int ((LS3 w0 w1 w2 w3) + w3)), .val (.int (4 : Int32)), .unset, .unset] [(.int ((LI3 w0 w1 w2 w3) + (1 : Int32))), (.ref oa)]))
        have f112 := (Exa.wr W106 (Exa.wr W100 (Exa.wr W96 (Exa.wr W88 (Exa.wr W82 (Exa.wr W78 (Exa.wr W70 (Exa.wr W64 (Exa.wr W60 (Exa.wr W52 (Exa.wr W46 (Exa.wr W42 (Exa.wr W36 f34)))))))))))))
        have f113 := (Fld.other W106 (Fld.other W100 (Fld.other W96 (Fld.other W88 (Fld.other W82 (Fld.other W78 (Fld.other W70 (Fld.other W64 (Fld.other W60 (Fld.other W52 (Fld.other W46 (Fld.other W42 (Fld.other W36 (Fld.ext E28 (Fld.other W25 (Fld.ext E18 (Fld.other W15 (Fld.ext E9 (Fld.other W6 (Fld.ext E2 F_oa_words) (Or.inr (slot_ne (Or.inr (wd_34 hw)) (Or.inr (wd_24 hw)) (by decide) (t := .int) (t' := (.array .int)) (by decide) (by decide))))) (Or.inr (slot_ne (Or.inr (wd_34 hw)) (Or.inr (wd_26 hw)) (by decide) (t := .int) (t' := (.array .int)) (by decide) (by decide))))) (Or.inr (slot_ne (Or.inr (wd_34 hw)) (Or.inr (wd_28 hw)) (by decide) (t := .int) (t' := (.array .int)) (by decide) (by decide))))) (Or.inr (slot_ne (Or.inr (wd_34 hw)) (Or.inr (wd_31 hw)) (by decide) (t := .int) (t' := (.array .long)) (by decide) (by decide)))) (Or.inl ne_oa_b9)) (Or.inl ne_oa_b18)) (Or.inl ne_oa_b28)) (Or.inl ne_oa_b9)) (Or.inl ne_oa_b18)) (Or.inl ne_oa_b28)) (Or.inl ne_oa_b9)) (Or.inl ne_oa_b18)) (Or.inl ne_oa_b28)) (Or.inl ne_oa_b9)) (Or.inl ne_oa_b18)) (Or.inl ne_oa_b28))
        obtain ⟨T114, h114, X114, e114, W114, st114⟩ := putF X106 hx hZ hown (host := "") (Or.inl (wd_33 hw)) Via.refl e106 f113 f112 (Or.inr ⟨(wd_34 hw), rfl, hnm⟩) (wd_5 hw) (ty := .int) (by decide) rfl rfl (g := (mkF m 129 #[.val (.ref oa), .val (.ref ob), .val (.int (LI3 w0 w1 w2 w3)), .val (.int ((LS3 w0 w1 w2 w3) + w3)), .val (.int (4 : Int32)), .unset, .unset] [(.int ((LI3 w0 w1 w2 w3) + (1 : Int32))), (.ref oa)])) rfl rfl (hb hby d2_129)
        refine ownEnds.law st114 ?_
        have N114 := Fr.snoc X114 N106 g_oa
        have KK114 : Keep h0 h114 [oa] := (KK106).wr W114 (Or.inl (List.mem_of_getElem? (i := 0) rfl))
        have Z114 : n0 ≤ h114.size := by rw [W114.size]; exact Z106
        have Fw114 : Fld Z h114 oa "com/example/libreach/libreach/engine/StateLayout" "words" "I" (.int ((LI3 w0 w1 w2 w3) + (1 : Int32))) := Fld.same W114 f113
        show ownEnds _ _ _ _ (T114.setTop (mkF m 132 #[.val (.ref oa), .val (.ref ob), .val (.int (LI3 w0 w1 w2 w3)), .val (.int ((LS3 w0 w1 w2 w3) + w3)), .val (.int (4 : Int32)), .unset, .unset] []))
        refine ownEnds.law (fun t k => XS.iconst X114.here hx rfl (hb hby d2_132) (XS.istore X114.here hx rfl (hb hby d2_133) rfl (l' := #[.val (.ref oa), .val (.ref ob), .val (.int (LI3 w0 w1 w2 w3)), .val (.int ((LS3 w0 w1 w2 w3) + w3)), .val (.int (0 : Int32)), .unset, .unset]) rfl (XS.aloadN X114.here hx rfl (hb hby d2_135) rfl rfl k))) ?_
        show ownEnds _ _ _ _ (T114.setTop (mkF m 136 #[.val (.ref oa), .val (.ref ob), .val (.int (LI3 w0 w1 w2 w3)), .val (.int ((LS3 w0 w1 w2 w3) + w3)), .val (.int (0 : Int32)), .unset, .unset] [(.ref ob)]))
        have f116 := (Arv.other f109 W114 (Ne.symm ne_oa_ob))
        obtain ⟨cl115, Ar115, -, S115, N115, -, -⟩ := id f116
        refine ownEnds.law (X114.arraylength hx (by rw [e114]; exact Ar115.1) (State.isArrayOf_alike hZ.alike Ar115.2.1) (g := (mkF m 136 #[.val (.ref oa), .val (.ref ob), .val (.int (LI3 w0 w1 w2 w3)), .val (.int ((LS3 w0 w1 w2 w3) + w3)), .val (.int (0 : Int32)), .unset, .unset] [(.ref ob)])) rfl rfl (hb hby d2_136)) ?_
        rw [len_of S115 N115]
        show ownEnds _ _ _ _ (T114.setTop (mkF m 137 #[.val (.ref oa), .val (.ref ob), .val (.int (LI3 w0 w1 w2 w3)), .val (.int ((LS3 w0 w1 w2 w3) + w3)), .val (.int (0 : Int32)), .unset, .unset] [(.int (4 : Int32))]))
        refine ownEnds.law (fun t k => XS.iconst X114.here hx rfl (hb hby d2_137) (XS.iadd X114.here hx rfl (hb hby d2_138) rfl k)) ?_
        show ownEnds _ _ _ _ (T114.setTop (mkF m 139 #[.val (.ref oa), .val (.ref ob), .val (.int (LI3 w0 w1 w2 w3)), .val (.int ((LS3 w0 w1 w2 w3) + w3)), .val (.int (0 : Int32)), .unset, .unset] [(.int (5 : Int32))]))
        obtain ⟨T117, h117, k117, X117, e117, E117, A117, Ax117, st117⟩ := newPE X114 hx hZ (aty := .int) (wd_7 hw) e114 (g := (mkF m 139 #[.val (.ref oa), .val (.ref ob), .val (.int (LI3 w0 w1 w2 w3)), .val (.int ((LS3 w0 w1 w2 w3) + w3)), .val (.int (0 : Int32)), .unset, .unset] [(.int (5 : Int32))])) rfl (hb hby d2_139) rfl (by decide) (cap := 5) (by decide) (by decide) (by decide) (by decide) (ad := "[I") (by decide)
        obtain ⟨b117, g117⟩ : ∃ z, z = h114.size := ⟨_, rfl⟩
        rw [← g117] at A117 st117 Ax117
        refine ownEnds.law st117 ?_
        have V_b117 : Arv Z h117 b117 k117 .int (5 : Int32) [(.int (0 : Int32)), (.int (0 : Int32)), (.int (0 : Int32)), (.int (0 : Int32)), (.int (0 : Int32))] (.int (0 : Int32)) := (Arv.new A117 (by decide)).pad (pad_rep [] (.int (0 : Int32)) 5)
        have f118 := (Exa.wr W114 f112)
        have ne_oa_b117 : oa ≠ b117 := Nat.ne_of_lt (Nat.lt_of_lt_of_eq f118.lt g117.symm)
        have f119 := (Exa.wr W114 (Exa.wr W106 (Exa.wr W100 (Exa.wr W96 (Exa.wr W88 (Exa.wr W82 (Exa.wr W78 (Exa.wr W70 (Exa.wr W64 (Exa.wr W60 (Exa.wr W52 (Exa.wr W46 (Exa.wr W42 (Exa.wr W36 (Exa.ext E28 f30)))))))))))))))
        have ne_ob_b117 : ob ≠ b117 := Nat.ne_of_lt (Nat.lt_of_lt_of_eq f119.lt g117.symm)
        have f120 := (Arv.other (Arv.other (Arv.other (Arv.other (Arv.other (Arv.other (Arv.other (Arv.other (Arv.other (Arv.other (Arv.other (Arv.other (Arv.other (Arv.other (Arv.ext f31 E28) W36 (Ne.symm ne_oa_b2)) W42 ne_b2_b9) W46 ne_b2_b18) W52 ne_b2_b28) W60 ne_b2_b9) W64 ne_b2_b18) W70 ne_b2_b28) W78 ne_b2_b9) W82 ne_b2_b18) W88 ne_b2_b28) W96 ne_b2_b9) W100 ne_b2_b18) W106 ne_b2_b28) W114 (Ne.symm ne_oa_b2))
        have ne_b2_b117 : b2 ≠ b117 := Nat.ne_of_lt (Nat.lt_of_lt_of_eq f120.lt g117.symm)
        have f121 := (Arv.other (Arv.other (Arv.other V96 W100 ne_b9_b18) W106 ne_b9_b28) W114 (Ne.symm ne_oa_b9))
        have ne_b9_b117 : b9 ≠ b117 := Nat.ne_of_lt (Nat.lt_of_lt_of_eq f121.lt g117.symm)
        have f122 := (Arv.other (Arv.other V100 W106 ne_b18_b28) W114 (Ne.symm ne_oa_b18))
        have ne_b18_b117 : b18 ≠ b117 := Nat.ne_of_lt (Nat.lt_of_lt_of_eq f122.lt g117.symm)
        have f123 := (Arv.other V106 W114 (Ne.symm ne_oa_b28))
        have ne_b28_b117 : b28 ≠ b117 := Nat.ne_of_lt (Nat.lt_of_lt_of_eq f123.lt g117.symm)
        have g_b117 : n0 ≤ b117 := Nat.le_trans Z114 (Nat.le_of_eq g117.symm)
        have sz_b117 : h0.size ≤ b117 := Nat.le_trans (KK114).1 (Nat.le_of_eq g117.symm)
        have Z117 : n0 ≤ h117.size := Nat.le_trans Z114 E117.1
        have KK117 : Keep h0 h117 [oa] := (KK114).ext E117
        show ownEnds _ _ _ _ (T117.setTop (mkF m 141 #[.val (.ref oa), .val (.ref ob), .val (.int (LI3 w0 w1 w2 w3)), .val (.int ((LS3 w0 w1 w2 w3) + w3)), .val (.int (0 : Int32)), .unset, .unset] [(.ref b117)]))
        refine ownEnds.law (fun t k => XS.astore X117.here hx rfl (hb hby d2_141) rfl rfl (l' := #[.val (.ref oa), .val (.ref ob), .val (.int (LI3 w0 w1 w2 w3)), .val (.int ((LS3 w0 w1 w2 w3) + w3)), .val (.int (0 : Int32)), .val (.ref b117), .unset]) rfl (XS.iconst X117.here hx rfl (hb hby d2_143) (XS.istore X117.here hx rfl (hb hby d2_144) rfl (l' := #[.val (.ref oa), .val (.ref ob), .val (.int (LI3 w0 w1 w2 w3)), .val (.int ((LS3 w0 w1 w2 w3) + w3)), .val (.int (0 : Int32)), .val (.ref b117), .val (.int (0 : Int32))]) rfl (XS.iload X117.here hx rfl (hb hby d2_146) rfl (XS.aloadN X117.here hx rfl (hb hby d2_148) rfl rfl k))))) ?_
        show ownEnds _ _ _ _ (T117.setTop (mkF m 149 #[.val (.ref oa), .val (.ref ob), .val (.int (LI3 w0 w1 w2 w3)), .val (.int ((LS3 w0 w1 w2 w3) + w3)), .val (.int (0 : Int32)), .val (.ref b117), .val (.int (0 : Int32))] [(.ref ob), (.int (0 : Int32))]))
        have f125 := (Arv.ext f116 E117)
        obtain ⟨cl124, Ar124, -, S124, N124, -, -⟩ := id f125
        refine ownEnds.law (X117.arraylength hx (by rw [e117]; exact Ar124.1) (State.isArrayOf_alike hZ.alike Ar124.2.1) (g := (mkF m 149 #[.val (.ref oa), .val (.ref ob), .val (.int (LI3 w0 w1 w2 w3)), .val (.int ((LS3 w0 w1 w2 w3) + w3)), .val (.int (0 : Int32)), .val (.ref b117), .val (.int (0 : Int32))] [(.ref ob), (.int (0 : Int32))])) rfl rfl (hb hby d2_149)) ?_
        rw [len_of S124 N124]
        show ownEnds _ _ _ _ (T117.setTop (mkF m 150 #[.val (.ref oa), .val (.ref ob), .val (.int (LI3 w0 w1 w2 w3)), .val (.int ((LS3 w0 w1 w2 w3) + w3)), .val (.int (0 : Int32)), .val (.ref b117), .val (.int (0 : Int32))] [(.int (4 : Int32)), (.int (0 : Int32))]))
        refine ownEnds.law (fun t => XS.icmpNo X117.here hx rfl (hb hby d2_150) rfl (tlt (by decide : (0 : Int32) < (4 : Int32))).2.1) ?_
        show ownEnds _ _ _ _ (T117.setTop (mkF m 153 #[.val (.ref oa), .val (.ref ob), .val (.int (LI3 w0 w1 w2 w3)), .val (.int ((LS3 w0 w1 w2 w3) + w3)), .val (.int (0 : Int32)), .val (.ref b117), .val (.int (0 : Int32))] []))
        refine ownEnds.law (fun t k => XS.iload X117.here hx rfl (hb hby d2_153) rfl k) ?_
        show ownEnds _ _ _ _ (T117.setTop (mkF m 155 #[.val (.ref oa), .val (.ref ob), .val (.int (LI3 w0 w1 w2 w3)), .val (.int ((LS3 w0 w1 w2 w3) + w3)), .val (.int (0 : Int32)), .val (.ref b117), .val (.int (0 : Int32))] [(.int (0 : Int32))]))
        refine ownEnds.law (fun t => XS.ifYes X117.here hx rfl (pc0 := 155) (pc' := 190) rfl (hb hby d2_155) rfl ((if0 _ _).trans (teq (rfl : (0 : Int32) = (0 : Int32))).1) (by decide) (by decide)) ?_
        show ownEnds _ _ _ _ (T117.setTop (mkF m 190 #[.val (.ref oa), .val (.ref ob), .val (.int (LI3 w0 w1 w2 w3)), .val (.int ((LS3 w0 w1 w2 w3) + w3)), .val (.int (0 : Int32)), .val (.ref b117), .val (.int (0 : Int32))] []))
        refine ownEnds.law (fun t k => XS.aload X117.here hx rfl (hb hby d2_190) rfl rfl (XS.iload X117.here hx rfl (hb hby d2_192) rfl (XS.iinc X117.here hx rfl (hb hby d2_194) rfl (l' := #[.val (.ref oa), .val (.ref ob), .val (.int (LI3 w0 w1 w2 w3)), .val (.int ((LS3 w0 w1 w2 w3) + w3)), .val (.int (1 : Int32)), .val (.ref b117), .val (.int (0 : Int32))]) rfl (XS.iload X117.here hx rfl (hb hby d2_197) rfl k)))) ?_
        show ownEnds _ _ _ _ (T117.setTop (mkF m 199 #[.val (.ref oa), .val (.ref ob), .val (.int (LI3 w0 w1 w2 w3)), .val (.int ((LS3 w0 w1 w2 w3) + w3)), .val (.int (1 : Int32)), .val (.ref b117), .val (.int (0 : Int32))] [(.int (0 : Int32)), (.int (0 : Int32)), (.ref b117)]))
        obtain ⟨cl126, Ar126, q126, S126, N126, H126, G126⟩ := id V_b117
        obtain ⟨T126, h126, X126, e126, W126, st126⟩ := stI X117 hx hZ e117 Ar126 (j := (0 : Int32)) (inb_of S126 ⟨by decide, by decide⟩) (g := (mkF m 199 #[.val (.ref oa), .val (.ref ob), .val (.int (LI3 w0 w1 w2 w3)), .val (.int ((LS3 w0 w1 w2 w3) + w3)), .val (.int (1 : Int32)), .val (.ref b117), .val (.int (0 : Int32))] [(.int (0 : Int32)), (.int (0 : Int32)), (.ref b117)])) rfl rfl (hb hby d2_199)
        refine ownEnds.law st126 ?_
        have V126 : Arv Z h126 b117 k117 .int (5 : Int32) [(.int (0 : Int32)), (.int (0 : Int32)), (.int (0 : Int32)), (.int (0 : Int32)), (.int (0 : Int32))] (.int (0 : Int32)) := Arv.set Ar126 q126 S126 N126 H126 G126 rfl W126 0 rfl (Nat.le_of_ble_eq_true rfl)
        have N126 := Fr.snoc X126 N114 g_b117
        have KK126 : Keep h0 h126 [oa] := (KK117).wr W126 (Or.inr sz_b117)
        have Z126 : n0 ≤ h126.size := by rw [W126.size]; exact Z117
        show ownEnds _ _ _ _ (T126.setTop (mkF m 200 #[.val (.ref oa), .val (.ref ob), .val (.int (LI3 w0 w1 w2 w3)), .val (.int ((LS3 w0 w1 w2 w3) + w3)), .val (.int (1 : Int32)), .val (.ref b117), .val (.int (0 : Int32))] []))
        refine ownEnds.law (fun t k => XS.iinc X126.here hx rfl (hb hby d2_200) rfl (l' := #[.val (.ref oa), .val (.ref ob), .val (.int (LI3 w0 w1 w2 w3)), .val (.int ((LS3 w0 w1 w2 w3) + w3)), .val (.int (1 : Int32)), .val (.ref b117), .val (.int (1 : Int32))]) rfl (XS.goto X126.here hx rfl (pc0 := 203) (pc' := 146) rfl (hb hby d2_203) (by decide) (by decide) (XS.iload X126.here hx rfl (hb hby d2_146) rfl (XS.aloadN X126.here hx rfl (hb hby d2_148) rfl rfl k)))) ?_
        show ownEnds _ _ _ _ (T126.setTop (mkF m 149 #[.val (.ref oa), .val (.ref ob), .val (.int (LI3 w0 w1 w2 w3)), .val (.int ((LS3 w0 w1 w2 w3) + w3)), .val (.int (1 : Int32)), .val (.ref b117), .val (.int (1 : Int32))] [(.ref ob), (.int (1 : Int32))]))
        have f128 := (Arv.other f125 W126 ne_ob_b117)
        obtain ⟨cl127, Ar127, -, S127, N127, -, -⟩ := id f128
        refine ownEnds.law (X126.arraylength hx (by rw [e126]; exact Ar127.1) (State.isArrayOf_alike hZ.alike Ar127.2.1) (g := (mkF m 149 #[.val (.ref oa), .val (.ref ob), .val (.int (LI3 w0 w1 w2 w3)), .val (.int ((LS3 w0 w1 w2 w3) + w3)), .val (.int (1 : Int32)), .val (.ref b117), .val (.int (1 : Int32))] [(.ref ob), (.int (1 : Int32))])) rfl rfl (hb hby d2_149)) ?_
        rw [len_of S127 N127]
        show ownEnds _ _ _ _ (T126.setTop (mkF m 150 #[.val (.ref oa), .val (.ref ob), .val (.int (LI3 w0 w1 w2 w3)), .val (.int ((LS3 w0 w1 w2 w3) + w3)), .val (.int (1 : Int32)), .val (.ref b117), .val (.int (1 : Int32))] [(.int (4 : Int32)), (.int (1 : Int32))]))
        refine ownEnds.law (fun t => XS.icmpNo X126.here hx rfl (hb hby d2_150) rfl (tlt (by decide : (1 : Int32) < (4 : Int32))).2.1) ?_
        show ownEnds _ _ _ _ (T126.setTop (mkF m 153 #[.val (.ref oa), .val (.ref ob), .val (.int (LI3 w0 w1 w2 w3)), .val (.int ((LS3 w0 w1 w2 w3) + w3)), .val (.int (1 : Int32)), .val (.ref b117), .val (.int (1 : Int32))] []))
        refine ownEnds.law (fun t k => XS.iload X126.here hx rfl (hb hby d2_153) rfl k) ?_
        show ownEnds _ _ _ _ (T126.setTop (mkF m 155 #[.val (.ref oa), .val (.ref ob), .val (.int (LI3 w0 w1 w2 w3)), .val (.int ((LS3 w0 w1 w2 w3) + w3)), .val (.int (1 : Int32)), .val (.ref b117), .val (.int (1 : Int32))] [(.int (1 : Int32))]))
        refine ownEnds.law (fun t => XS.ifNo X126.here hx rfl (hb hby d2_155) rfl ((if0 _ _).trans (feq (by decide : ¬ ((1 : Int32) = (0 : Int32)))).1)) ?_
        by_cases hN1 : N1 w0 w1
        · show ownEnds _ _ _ _ (T126.setTop (mkF m 158 #[.val (.ref oa), .val (.ref ob), .val (.int (LI3 w0 w1 w2 w3)), .val (.int ((LS3 w0 w1 w2 w3) + w3)), .val (.int (1 : Int32)), .val (.ref b117), .val (.int (1 : Int32))] []))
          refine ownEnds.law (fun t k => XS.aloadN X126.here hx rfl (hb hby d2_158) rfl rfl k) ?_
          show ownEnds _ _ _ _ (T126.setTop (mkF m 159 #[.val (.ref oa), .val (.ref ob), .val (.int (LI3 w0 w1 w2 w3)), .val (.int ((LS3 w0 w1 w2 w3) + w3)), .val (.int (1 : Int32)), .val (.ref b117), .val (.int (1 : Int32))] [(.ref oa)]))
          have f129 := (Fld.other W126 (Fld.ext E117 (Fld.other W114 (Fld.other W106 (Fld.other W100 (Fld.other W96 f94 (Or.inl ne_oa_b9)) (Or.inl ne_oa_b18)) (Or.inl ne_oa_b28)) (Or.inr (slot_ne (Or.inr (wd_26 hw)) (Or.inr (wd_34 hw)) (by decide) (t := (.array .int)) (t' := .int) (by decide) (by decide))))) (Or.inl ne_oa_b117))
          obtain ⟨T130, X130, e130, st130⟩ := getF X126 hx hZ hown (host := "") (Or.inl (wd_25 hw)) Via.refl e126 f129 (g := (mkF m 159 #[.val (.ref oa), .val (.ref ob), .val (.int (LI3 w0 w1 w2 w3)), .val (.int ((LS3 w0 w1 w2 w3) + w3)), .val (.int (1 : Int32)), .val (.ref b117), .val (.int (1 : Int32))] [(.ref oa)])) rfl rfl (hb hby d2_159)
          refine ownEnds.law st130 ?_
          show ownEnds _ _ _ _ (T130.setTop (mkF m 162 #[.val (.ref oa), .val (.ref ob), .val (.int (LI3 w0 w1 w2 w3)), .val (.int ((LS3 w0 w1 w2 w3) + w3)), .val (.int (1 : Int32)), .val (.ref b117), .val (.int (1 : Int32))] [(.ref b9)]))
          refine ownEnds.law (fun t k => XS.iload X130.here hx rfl (hb hby d2_162) rfl k) ?_
          show ownEnds _ _ _ _ (T130.setTop (mkF m 164 #[.val (.ref oa), .val (.ref ob), .val (.int (LI3 w0 w1 w2 w3)), .val (.int ((LS3 w0 w1 w2 w3) + w3)), .val (.int (1 : Int32)), .val (.ref b117), .val (.int (1 : Int32))] [(.int (1 : Int32)), (.ref b9)]))
          have f132 := (Arv.other (Arv.ext f121 E117) W126 ne_b9_b117)
          obtain ⟨cl131, Ar131, q131, S131, N131, H131, G131⟩ := id f132
          have hi131 := inb_of (j := (1 : Int32)) S131 ⟨by decide, by decide⟩
          have hv131 : cl131.slots[((1 : Int32)).toNatClampNeg]? = some (.int (LI1 w0 w1)) := H131.at hi131 rfl
          refine ownEnds.law (fun t k => X130.iaload hx (j := (1 : Int32)) (v := (.int (LI1 w0 w1))) (by rw [e130]; exact Ar131.1) (State.isArrayOf_alike hZ.alike Ar131.2.1) Ar131.2.2 hi131 hv131 (g := (mkF m 164 #[.val (.ref oa), .val (.ref ob), .val (.int (LI3 w0 w1 w2 w3)), .val (.int ((LS3 w0 w1 w2 w3) + w3)), .val (.int (1 : Int32)), .val (.ref b117), .val (.int (1 : Int32))] [(.int (1 : Int32)), (.ref b9)])) rfl rfl (hb hby d2_164) _ (XS.aloadN X130.here hx rfl (hb hby d2_165) rfl rfl k)) ?_
          show ownEnds _ _ _ _ (T130.setTop (mkF m 166 #[.val (.ref oa), .val (.ref ob), .val (.int (LI3 w0 w1 w2 w3)), .val (.int ((LS3 w0 w1 w2 w3) + w3)), .val (.int (1 : Int32)), .val (.ref b117), .val (.int (1 : Int32))] [(.ref oa), (.int (LI1 w0 w1))]))
          obtain ⟨T133, X133, e133, st133⟩ := getF X130 hx hZ hown (host := "") (Or.inl (wd_25 hw)) Via.refl e130 f129 (g := (mkF m 166 #[.val (.ref oa), .val (.ref ob), .val (.int (LI3 w0 w1 w2 w3)), .val (.int ((LS3 w0 w1 w2 w3) + w3)), .val (.int (1 : Int32)), .val (.ref b117), .val (.int (1 : Int32))] [(.ref oa), (.int (LI1 w0 w1))])) rfl rfl (hb hby d2_166)
          refine ownEnds.law st133 ?_
          show ownEnds _ _ _ _ (T133.setTop (mkF m 169 #[.val (.ref oa), .val (.ref ob), .val (.int (LI3 w0 w1 w2 w3)), .val (.int ((LS3 w0 w1 w2 w3) + w3)), .val (.int (1 : Int32)), .val (.ref b117), .val (.int (1 : Int32))] [(.ref b9), (.int (LI1 w0 w1))]))
          refine ownEnds.law (fun t k => XS.iload X133.here hx rfl (hb hby d2_169) rfl (XS.iconst X133.here hx rfl (hb hby d2_171) (XS.isub X133.here hx rfl (hb hby d2_172) rfl k))) ?_
          show ownEnds _ _ _ _ (T133.setTop (mkF m 173 #[.val (.ref oa), .val (.ref ob), .val (.int (LI3 w0 w1 w2 w3)), .val (.int ((LS3 w0 w1 w2 w3) + w3)), .val (.int (1 : Int32)), .val (.ref b117), .val (.int (1 : Int32))] [(.int (0 : Int32)), (.ref b9), (.int (LI1 w0 w1))]))
          obtain ⟨cl134, Ar134, q134, S134, N134, H134, G134⟩ := id f132
          have hi134 := inb_of (j := (0 : Int32)) S134 ⟨by decide, by decide⟩
          have hv134 : cl134.slots[((0 : Int32)).toNatClampNeg]? = some (.int (0 : Int32)) := H134.at hi134 rfl
          refine ownEnds.law (fun t k => X133.iaload hx (j := (0 : Int32)) (v := (.int (0 : Int32))) (by rw [e133]; exact Ar134.1) (State.isArrayOf_alike hZ.alike Ar134.2.1) Ar134.2.2 hi134 hv134 (g := (mkF m 173 #[.val (.ref oa), .val (.ref ob), .val (.int (LI3 w0 w1 w2 w3)), .val (.int ((LS3 w0 w1 w2 w3) + w3)), .val (.int (1 : Int32)), .val (.ref b117), .val (.int (1 : Int32))] [(.int (0 : Int32)), (.ref b9), (.int (LI1 w0 w1))])) rfl rfl (hb hby d2_173) _ k) ?_
          show ownEnds _ _ _ _ (T133.setTop (mkF m 174 #[.val (.ref oa), .val (.ref ob), .val (.int (LI3 w0 w1 w2 w3)), .val (.int ((LS3 w0 w1 w2 w3) + w3)), .val (.int (1 : Int32)), .val (.ref b117), .val (.int (1 : Int32))] [(.int (0 : Int32)), (.int (LI1 w0 w1))]))
          have hc174 : (LI1 w0 w1) = (0 : Int32) := hN1.1
          refine ownEnds.law (fun t => XS.icmpNo X133.here hx rfl (hb hby d2_174) rfl (teq hc174).2) ?_
          show ownEnds _ _ _ _ (T133.setTop (mkF m 177 #[.val (.ref oa), .val (.ref ob), .val (.int (LI3 w0 w1 w2 w3)), .val (.int ((LS3 w0 w1 w2 w3) + w3)), .val (.int (1 : Int32)), .val (.ref b117), .val (.int (1 : Int32))] []))
          refine ownEnds.law (fun t k => XS.aloadN X133.here hx rfl (hb hby d2_177) rfl rfl (XS.iload X133.here hx rfl (hb hby d2_178) rfl k)) ?_
          show ownEnds _ _ _ _ (T133.setTop (mkF m 180 #[.val (.ref oa), .val (.ref ob), .val (.int (LI3 w0 w1 w2 w3)), .val (.int ((LS3 w0 w1 w2 w3) + w3)), .val (.int (1 : Int32)), .val (.ref b117), .val (.int (1 : Int32))] [(.int (1 : Int32)), (.ref ob)]))
          obtain ⟨cl135, Ar135, q135, S135, N135, H135, G135⟩ := id f128
          have hi135 := inb_of (j := (1 : Int32)) S135 ⟨by decide, by decide⟩
          have hv135 : cl135.slots[((1 : Int32)).toNatClampNeg]? = some (.int w1) := H135.at hi135 rfl
          refine ownEnds.law (fun t k => X133.iaload hx (j := (1 : Int32)) (v := (.int w1)) (by rw [e133]; exact Ar135.1) (State.isArrayOf_alike hZ.alike Ar135.2.1) Ar135.2.2 hi135 hv135 (g := (mkF m 180 #[.val (.ref oa), .val (.ref ob), .val (.int (LI3 w0 w1 w2 w3)), .val (.int ((LS3 w0 w1 w2 w3) + w3)), .val (.int (1 : Int32)), .val (.ref b117), .val (.int (1 : Int32))] [(.int (1 : Int32)), (.ref ob)])) rfl rfl (hb hby d2_180) _ (XS.aloadN X133.here hx rfl (hb hby d2_181) rfl rfl (XS.iload X133.here hx rfl (hb hby d2_182) rfl (XS.iconst X133.here hx rfl (hb hby d2_184) (XS.isub X133.here hx rfl (hb hby d2_185) rfl k))))) ?_
          show ownEnds _ _ _ _ (T133.setTop (mkF m 186 #[.val (.ref oa), .val (.ref ob), .val (.int (LI3 w0 w1 w2 w3)), .val (.int ((LS3 w0 w1 w2 w3) + w3)), .val (.int (1 : Int32)), .val (.ref b117), .val (.int (1 : Int32))] [(.int (0 : Int32)), (.ref ob), (.int w1)]))
          obtain ⟨cl136, Ar136, q136, S136, N136, H136, G136⟩ := id f128
          have hi136 := inb_of (j := (0 : Int32)) S136 ⟨by decide, by decide⟩
          have hv136 : cl136.slots[((0 : Int32)).toNatClampNeg]? = some (.int w0) := H136.at hi136 rfl
          refine ownEnds.law (fun t k => X133.iaload hx (j := (0 : Int32)) (v := (.int w0)) (by rw [e133]; exact Ar136.1) (State.isArrayOf_alike hZ.alike Ar136.2.1) Ar136.2.2 hi136 hv136 (g := (mkF m 186 #[.val (.ref oa), .val (.ref ob), .val (.int (LI3 w0 w1 w2 w3)), .val (.int ((LS3 w0 w1 w2 w3) + w3)), .val (.int (1 : Int32)), .val (.ref b117), .val (.int (1 : Int32))] [(.int (0 : Int32)), (.ref ob), (.int w1)])) rfl rfl (hb hby d2_186) _ k) ?_
          show ownEnds _ _ _ _ (T133.setTop (mkF m 187 #[.val (.ref oa), .val (.ref ob), .val (.int (LI3 w0 w1 w2 w3)), .val (.int ((LS3 w0 w1 w2 w3) + w3)), .val (.int (1 : Int32)), .val (.ref b117), .val (.int (1 : Int32))] [(.int w0), (.int w1)]))
          have hc187 : w1 = w0 := hN1.2
          refine ownEnds.law (fun t => XS.icmpYes X133.here hx rfl (pc0 := 187) (pc' := 200) rfl (hb hby d2_187) rfl (teq hc187).1 (by decide) (by decide)) ?_
          show ownEnds _ _ _ _ (T133.setTop (mkF m 200 #[.val (.ref oa), .val (.ref ob), .val (.int (LI3 w0 w1 w2 w3)), .val (.int ((LS3 w0 w1 w2 w3) + w3)), .val (.int (1 : Int32)), .val (.ref b117), .val (.int (1 : Int32))] []))
          refine ownEnds.law (fun t k => XS.iinc X133.here hx rfl (hb hby d2_200) rfl (l' := #[.val (.ref oa), .val (.ref ob), .val (.int (LI3 w0 w1 w2 w3)), .val (.int ((LS3 w0 w1 w2 w3) + w3)), .val (.int (1 : Int32)), .val (.ref b117), .val (.int (2 : Int32))]) rfl (XS.goto X133.here hx rfl (pc0 := 203) (pc' := 146) rfl (hb hby d2_203) (by decide) (by decide) (XS.iload X133.here hx rfl (hb hby d2_146) rfl (XS.aloadN X133.here hx rfl (hb hby d2_148) rfl rfl k)))) ?_
          show ownEnds _ _ _ _ (T133.setTop (mkF m 149 #[.val (.ref oa), .val (.ref ob), .val (.int (LI3 w0 w1 w2 w3)), .val (.int ((LS3 w0 w1 w2 w3) + w3)), .val (.int (1 : Int32)), .val (.ref b117), .val (.int (2 : Int32))] [(.ref ob), (.int (2 : Int32))]))
          obtain ⟨cl137, Ar137, -, S137, N137, -, -⟩ := id f128
          refine ownEnds.law (X133.arraylength hx (by rw [e133]; exact Ar137.1) (State.isArrayOf_alike hZ.alike Ar137.2.1) (g := (mkF m 149 #[.val (.ref oa), .val (.ref ob), .val (.int (LI3 w0 w1 w2 w3)), .val (.int ((LS3 w0 w1 w2 w3) + w3)), .val (.int (1 : Int32)), .val (.ref b117), .val (.int (2 : Int32))] [(.ref ob), (.int (2 : Int32))])) rfl rfl (hb hby d2_149)) ?_
          rw [len_of S137 N137]
          show ownEnds _ _ _ _ (T133.setTop (mkF m 150 #[.val (.ref oa), .val (.ref ob), .val (.int (LI3 w0 w1 w2 w3)), .val (.int ((LS3 w0 w1 w2 w3) + w3)), .val (.int (1 : Int32)), .val (.ref b117), .val (.int (2 : Int32))] [(.int (4 : Int32)), (.int (2 : Int32))]))
          refine ownEnds.law (fun t => XS.icmpNo X133.here hx rfl (hb hby d2_150) rfl (tlt (by decide : (2 : Int32) < (4 : Int32))).2.1) ?_
          show ownEnds _ _ _ _ (T133.setTop (mkF m 153 #[.val (.ref oa), .val (.ref ob), .val (.int (LI3 w0 w1 w2 w3)), .val (.int ((LS3 w0 w1 w2 w3) + w3)), .val (.int (1 : Int32)), .val (.ref b117), .val (.int (2 : Int32))] []))
          refine ownEnds.law (fun t k => XS.iload X133.here hx rfl (hb hby d2_153) rfl k) ?_
          show ownEnds _ _ _ _ (T133.setTop (mkF m 155 #[.val (.ref oa), .val (.ref ob), .val (.int (LI3 w0 w1 w2 w3)), .val (.int ((LS3 w0 w1 w2 w3) + w3)), .val (.int (1 : Int32)), .val (.ref b117), .val (.int (2 : Int32))] [(.int (2 : Int32))]))
          refine ownEnds.law (fun t => XS.ifNo X133.here hx rfl (hb hby d2_155) rfl ((if0 _ _).trans (feq (by decide : ¬ ((2 : Int32) = (0 : Int32)))).1)) ?_
          by_cases hN2 : N2 w0 w1 w2
          · show ownEnds _ _ _ _ (T133.setTop (mkF m 158 #[.val (.ref oa), .val (.ref ob), .val (.int (LI3 w0 w1 w2 w3)), .val (.int ((LS3 w0 w1 w2 w3) + w3)), .val (.int (1 : Int32)), .val (.ref b117), .val (.int (2 : Int32))] []))
            refine ownEnds.law (fun t k => XS.aloadN X133.here hx rfl (hb hby d2_158) rfl rfl k) ?_
            show ownEnds _ _ _ _ (T133.setTop (mkF m 159 #[.val (.ref oa), .val (.ref ob), .val (.int (LI3 w0 w1 w2 w3)), .val (.int ((LS3 w0 w1 w2 w3) + w3)), .val (.int (1 : Int32)), .val (.ref b117), .val (.int (2 : Int32))] [(.ref oa)]))
            obtain ⟨T138, X138, e138, st138⟩ := getF X133 hx hZ hown (host := "") (Or.inl (wd_25 hw)) Via.refl e133 f129 (g := (mkF m 159 #[.val (.ref oa), .val (.ref ob), .val (.int (LI3 w0 w1 w2 w3)), .val (.int ((LS3 w0 w1 w2 w3) + w3)), .val (.int (1 : Int32)), .val (.ref b117), .val (.int (2 : Int32))] [(.ref oa)])) rfl rfl (hb hby d2_159)
            refine ownEnds.law st138 ?_
            show ownEnds _ _ _ _ (T138.setTop (mkF m 162 #[.val (.ref oa), .val (.ref ob), .val (.int (LI3 w0 w1 w2 w3)), .val (.int ((LS3 w0 w1 w2 w3) + w3)), .val (.int (1 : Int32)), .val (.ref b117), .val (.int (2 : Int32))] [(.ref b9)]))
            refine ownEnds.law (fun t k => XS.iload X138.here hx rfl (hb hby d2_162) rfl k) ?_
            show ownEnds _ _ _ _ (T138.setTop (mkF m 164 #[.val (.ref oa), .val (.ref ob), .val (.int (LI3 w0 w1 w2 w3)), .val (.int ((LS3 w0 w1 w2 w3) + w3)), .val (.int (1 : Int32)), .val (.ref b117), .val (.int (2 : Int32))] [(.int (2 : Int32)), (.ref b9)]))
            obtain ⟨cl139, Ar139, q139, S139, N139, H139, G139⟩ := id f132
            have hi139 := inb_of (j := (2 : Int32)) S139 ⟨by decide, by decide⟩
            have hv139 : cl139.slots[((2 : Int32)).toNatClampNeg]? = some (.int (LI2 w0 w1 w2)) := H139.at hi139 rfl
            refine ownEnds.law (fun t k => X138.iaload hx (j := (2 : Int32)) (v := (.int (LI2 w0 w1 w2))) (by rw [e138]; exact Ar139.1) (State.isArrayOf_alike hZ.alike Ar139.2.1) Ar139.2.2 hi139 hv139 (g := (mkF m 164 #[.val (.ref oa), .val (.ref ob), .val (.int (LI3 w0 w1 w2 w3)), .val (.int ((LS3 w0 w1 w2 w3) + w3)), .val (.int (1 : Int32)), .val (.ref b117), .val (.int (2 : Int32))] [(.int (2 : Int32)), (.ref b9)])) rfl rfl (hb hby d2_164) _ (XS.aloadN X138.here hx rfl (hb hby d2_165) rfl rfl k)) ?_
            show ownEnds _ _ _ _ (T138.setTop (mkF m 166 #[.val (.ref oa), .val (.ref ob), .val (.int (LI3 w0 w1 w2 w3)), .val (.int ((LS3 w0 w1 w2 w3) + w3)), .val (.int (1 : Int32)), .val (.ref b117), .val (.int (2 : Int32))] [(.ref oa), (.int (LI2 w0 w1 w2))]))
            obtain ⟨T140, X140, e140, st140⟩ := getF X138 hx hZ hown (host := "") (Or.inl (wd_25 hw)) Via.refl e138 f129 (g := (mkF m 166 #[.val (.ref oa), .val (.ref ob), .val (.int (LI3 w0 w1 w2 w3)), .val (.int ((LS3 w0 w1 w2 w3) + w3)), .val (.int (1 : Int32)), .val (.ref b117), .val (.int (2 : Int32))] [(.ref oa), (.int (LI2 w0 w1 w2))])) rfl rfl (hb hby d2_166)
            refine ownEnds.law st140 ?_
            show ownEnds _ _ _ _ (T140.setTop (mkF m 169 #[.val (.ref oa), .val (.ref ob), .val (.int (LI3 w0 w1 w2 w3)), .val (.int ((LS3 w0 w1 w2 w3) + w3)), .val (.int (1 : Int32)), .val (.ref b117), .val (.int (2 : Int32))] [(.ref b9), (.int (LI2 w0 w1 w2))]))
            refine ownEnds.law (fun t k => XS.iload X140.here hx rfl (hb hby d2_169) rfl (XS.iconst X140.here hx rfl (hb hby d2_171) (XS.isub X140.here hx rfl (hb hby d2_172) rfl k))) ?_
            show ownEnds _ _ _ _ (T140.setTop (mkF m 173 #[.val (.ref oa), .val (.ref ob), .val (.int (LI3 w0 w1 w2 w3)), .val (.int ((LS3 w0 w1 w2 w3) + w3)), .val (.int (1 : Int32)), .val (.ref b117), .val (.int (2 : Int32))] [(.int (1 : Int32)), (.ref b9), (.int (LI2 w0 w1 w2))]))
            obtain ⟨cl141, Ar141, q141, S141, N141, H141, G141⟩ := id f132
            have hi141 := inb_of (j := (1 : Int32)) S141 ⟨by decide, by decide⟩
            have hv141 : cl141.slots[((1 : Int32)).toNatClampNeg]? = some (.int (LI1 w0 w1)) := H141.at hi141 rfl
            refine ownEnds.law (fun t k => X140.iaload hx (j := (1 : Int32)) (v := (.int (LI1 w0 w1))) (by rw [e140]; exact Ar141.1) (State.isArrayOf_alike hZ.alike Ar141.2.1) Ar141.2.2 hi141 hv141 (g := (mkF m 173 #[.val (.ref oa), .val (.ref ob), .val (.int (LI3 w0 w1 w2 w3)), .val (.int ((LS3 w0 w1 w2 w3) + w3)), .val (.int (1 : Int32)), .val (.ref b117), .val (.int (2 : Int32))] [(.int (1 : Int32)), (.ref b9), (.int (LI2 w0 w1 w2))])) rfl rfl (hb hby d2_173) _ k) ?_
            show ownEnds _ _ _ _ (T140.setTop (mkF m 174 #[.val (.ref oa), .val (.ref ob), .val (.int (LI3 w0 w1 w2 w3)), .val (.int ((LS3 w0 w1 w2 w3) + w3)), .val (.int (1 : Int32)), .val (.ref b117), .val (.int (2 : Int32))] [(.int (LI1 w0 w1)), (.int (LI2 w0 w1 w2))]))
            have hc174 : (LI2 w0 w1 w2) = (LI1 w0 w1) := hN2.1
            refine ownEnds.law (fun t => XS.icmpNo X140.here hx rfl (hb hby d2_174) rfl (teq hc174).2) ?_
            show ownEnds _ _ _ _ (T140.setTop (mkF m 177 #[.val (.ref oa), .val (.ref ob), .val (.int (LI3 w0 w1 w2 w3)), .val (.int ((LS3 w0 w1 w2 w3) + w3)), .val (.int (1 : Int32)), .val (.ref b117), .val (.int (2 : Int32))] []))
            refine ownEnds.law (fun t k => XS.aloadN X140.here hx rfl (hb hby d2_177) rfl rfl (XS.iload X140.here hx rfl (hb hby d2_178) rfl k)) ?_
            show ownEnds _ _ _ _ (T140.setTop (mkF m 180 #[.val (.ref oa), .val (.ref ob), .val (.int (LI3 w0 w1 w2 w3)), .val (.int ((LS3 w0 w1 w2 w3) + w3)), .val (.int (1 : Int32)), .val (.ref b117), .val (.int (2 : Int32))] [(.int (2 : Int32)), (.ref ob)]))
            obtain ⟨cl142, Ar142, q142, S142, N142, H142, G142⟩ := id f128
            have hi142 := inb_of (j := (2 : Int32)) S142 ⟨by decide, by decide⟩
            have hv142 : cl142.slots[((2 : Int32)).toNatClampNeg]? = some (.int w2) := H142.at hi142 rfl
            refine ownEnds.law (fun t k => X140.iaload hx (j := (2 : Int32)) (v := (.int w2)) (by rw [e140]; exact Ar142.1) (State.isArrayOf_alike hZ.alike Ar142.2.1) Ar142.2.2 hi142 hv142 (g := (mkF m 180 #[.val (.ref oa), .val (.ref ob), .val (.int (LI3 w0 w1 w2 w3)), .val (.int ((LS3 w0 w1 w2 w3) + w3)), .val (.int (1 : Int32)), .val (.ref b117), .val (.int (2 : Int32))] [(.int (2 : Int32)), (.ref ob)])) rfl rfl (hb hby d2_180) _ (XS.aloadN X140.here hx rfl (hb hby d2_181) rfl rfl (XS.iload X140.here hx rfl (hb hby d2_182) rfl (XS.iconst X140.here hx rfl (hb hby d2_184) (XS.isub X140.here hx rfl (hb hby d2_185) rfl k))))) ?_
            show ownEnds _ _ _ _ (T140.setTop (mkF m 186 #[.val (.ref oa), .val (.ref ob), .val (.int (LI3 w0 w1 w2 w3)), .val (.int ((LS3 w0 w1 w2 w3) + w3)), .val (.int (1 : Int32)), .val (.ref b117), .val (.int (2 : Int32))] [(.int (1 : Int32)), (.ref ob), (.int w2)]))
            obtain ⟨cl143, Ar143, q143, S143, N143, H143, G143⟩ := id f128
            have hi143 := inb_of (j := (1 : Int32)) S143 ⟨by decide, by decide⟩
            have hv143 : cl143.slots[((1 : Int32)).toNatClampNeg]? = some (.int w1) := H143.at hi143 rfl
            refine ownEnds.law (fun t k => X140.iaload hx (j := (1 : Int32)) (v := (.int w1)) (by rw [e140]; exact Ar143.1) (State.isArrayOf_alike hZ.alike Ar143.2.1) Ar143.2.2 hi143 hv143 (g := (mkF m 186 #[.val (.ref oa), .val (.ref ob), .val (.int (LI3 w0 w1 w2 w3)), .val (.int ((LS3 w0 w1 w2 w3) + w3)), .val (.int (1 : Int32)), .val (.ref b117), .val (.int (2 : Int32))] [(.int (1 : Int32)), (.ref ob), (.int w2)])) rfl rfl (hb hby d2_186) _ k) ?_
            show ownEnds _ _ _ _ (T140.setTop (mkF m 187 #[.val (.ref oa), .val (.ref ob), .val (.int (LI3 w0 w1 w2 w3)), .val (.int ((LS3 w0 w1 w2 w3) + w3)), .val (.int (1 : Int32)), .val (.ref b117), .val (.int (2 : Int32))] [(.int w1), (.int w2)]))
            have hc187 : w2 = w1 := hN2.2
            refine ownEnds.law (fun t => XS.icmpYes X140.here hx rfl (pc0 := 187) (pc' := 200) rfl (hb hby d2_187) rfl (teq hc187).1 (by decide) (by decide)) ?_
            show ownEnds _ _ _ _ (T140.setTop (mkF m 200 #[.val (.ref oa), .val (.ref ob), .val (.int (LI3 w0 w1 w2 w3)), .val (.int ((LS3 w0 w1 w2 w3) + w3)), .val (.int (1 : Int32)), .val (.ref b117), .val (.int (2 : Int32))] []))
            refine ownEnds.law (fun t k => XS.iinc X140.here hx rfl (hb hby d2_200) rfl (l' := #[.val (.ref oa), .val (.ref ob), .val (.int (LI3 w0 w1 w2 w3)), .val (.int ((LS3 w0 w1 w2 w3) + w3)), .val (.int (1 : Int32)), .val (.ref b117), .val (.int (3 : Int32))]) rfl (XS.goto X140.here hx rfl (pc0 := 203) (pc' := 146) rfl (hb hby d2_203) (by decide) (by decide) (XS.iload X140.here hx rfl (hb hby d2_146) rfl (XS.aloadN X140.here hx rfl (hb hby d2_148) rfl rfl k)))) ?_
            show ownEnds _ _ _ _ (T140.setTop (mkF m 149 #[.val (.ref oa), .val (.ref ob), .val (.int (LI3 w0 w1 w2 w3)), .val (.int ((LS3 w0 w1 w2 w3) + w3)), .val (.int (1 : Int32)), .val (.ref b117), .val (.int (3 : Int32))] [(.ref ob), (.int (3 : Int32))]))
            obtain ⟨cl144, Ar144, -, S144, N144, -, -⟩ := id f128
            refine ownEnds.law (X140.arraylength hx (by rw [e140]; exact Ar144.1) (State.isArrayOf_alike hZ.alike Ar144.2.1) (g := (mkF m 149 #[.val (.ref oa), .val (.ref ob), .val (.int (LI3 w0 w1 w2 w3)), .val (.int ((LS3 w0 w1 w2 w3) + w3)), .val (.int (1 : Int32)), .val (.ref b117), .val (.int (3 : Int32))] [(.ref ob), (.int (3 : Int32))])) rfl rfl (hb hby d2_149)) ?_
            rw [len_of S144 N144]
            show ownEnds _ _ _ _ (T140.setTop (mkF m 150 #[.val (.ref oa), .val (.ref ob), .val (.int (LI3 w0 w1 w2 w3)), .val (.int ((LS3 w0 w1 w2 w3) + w3)), .val (.int (1 : Int32)), .val (.ref b117), .val (.int (3 : Int32))] [(.int (4 : Int32)), (.int (3 : Int32))]))
            refine ownEnds.law (fun t => XS.icmpNo X140.here hx rfl (hb hby d2_150) rfl (tlt (by decide : (3 : Int32) < (4 : Int32))).2.1) ?_
            show ownEnds _ _ _ _ (T140.setTop (mkF m 153 #[.val (.ref oa), .val (.ref ob), .val (.int (LI3 w0 w1 w2 w3)), .val (.int ((LS3 w0 w1 w2 w3) + w3)), .val (.int (1 : Int32)), .val (.ref b117), .val (.int (3 : Int32))] []))
            refine ownEnds.law (fun t k => XS.iload X140.here hx rfl (hb hby d2_153) rfl k) ?_
            show ownEnds _ _ _ _ (T140.setTop (mkF m 155 #[.val (.ref oa), .val (.ref ob), .val (.int (LI3 w0 w1 w2 w3)), .val (.int ((LS3 w0 w1 w2 w3) + w3)), .val (.int (1 : Int32)), .val (.ref b117), .val (.int (3 : Int32))] [(.int (3 : Int32))]))
            refine ownEnds.law (fun t => XS.ifNo X140.here hx rfl (hb hby d2_155) rfl ((if0 _ _).trans (feq (by decide : ¬ ((3 : Int32) = (0 : Int32)))).1)) ?_
            by_cases hN3 : N3 w0 w1 w2 w3
            · show ownEnds _ _ _ _ (T140.setTop (mkF m 158 #[.val (.ref oa), .val (.ref ob), .val (.int (LI3 w0 w1 w2 w3)), .val (.int ((LS3 w0 w1 w2 w3) + w3)), .val (.int (1 : Int32)), .val (.ref b117), .val (.int (3 : Int32))] []))
              refine ownEnds.law (fun t k => XS.aloadN X140.here hx rfl (hb hby d2_158) rfl rfl k) ?_
              show ownEnds _ _ _ _ (T140.setTop (mkF m 159 #[.val (.ref oa), .val (.ref ob), .val (.int (LI3 w0 w1 w2 w3)), .val (.int ((LS3 w0 w1 w2 w3) + w3)), .val (.int (1 : Int32)), .val (.ref b117), .val (.int (3 : Int32))] [(.ref oa)]))
              obtain ⟨T145, X145, e145, st145⟩ := getF X140 hx hZ hown (host := "") (Or.inl (wd_25 hw)) Via.refl e140 f129 (g := (mkF m 159 #[.val (.ref oa), .val (.ref ob), .val (.int (LI3 w0 w1 w2 w3)), .val (.int ((LS3 w0 w1 w2 w3) + w3)), .val (.int (1 : Int32)), .val (.ref b117), .val (.int (3 : Int32))] [(.ref oa)])) rfl rfl (hb hby d2_159)
              refine ownEnds.law st145 ?_
              show ownEnds _ _ _ _ (T145.setTop (mkF m 162 #[.val (.ref oa), .val (.ref ob), .val (.int (LI3 w0 w1 w2 w3)), .val (.int ((LS3 w0 w1 w2 w3) + w3)), .val (.int (1 : Int32)), .val (.ref b117), .val (.int (3 : Int32))] [(.ref b9)]))
              refine ownEnds.law (fun t k => XS.iload X145.here hx rfl (hb hby d2_162) rfl k) ?_
              show ownEnds _ _ _ _ (T145.setTop (mkF m 164 #[.val (.ref oa), .val (.ref ob), .val (.int (LI3 w0 w1 w2 w3)), .val (.int ((LS3 w0 w1 w2 w3) + w3)), .val (.int (1 : Int32)), .val (.ref b117), .val (.int (3 : Int32))] [(.int (3 : Int32)), (.ref b9)]))
              obtain ⟨cl146, Ar146, q146, S146, N146, H146, G146⟩ := id f132
              have hi146 := inb_of (j := (3 : Int32)) S146 ⟨by decide, by decide⟩
              have hv146 : cl146.slots[((3 : Int32)).toNatClampNeg]? = some (.int (LI3 w0 w1 w2 w3)) := H146.at hi146 rfl
              refine ownEnds.law (fun t k => X145.iaload hx (j := (3 : Int32)) (v := (.int (LI3 w0 w1 w2 w3))) (by rw [e145]; exact Ar146.1) (State.isArrayOf_alike hZ.alike Ar146.2.1) Ar146.2.2 hi146 hv146 (g := (mkF m 164 #[.val (.ref oa), .val (.ref ob), .val (.int (LI3 w0 w1 w2 w3)), .val (.int ((LS3 w0 w1 w2 w3) + w3)), .val (.int (1 : Int32)), .val (.ref b117), .val (.int (3 : Int32))] [(.int (3 : Int32)), (.ref b9)])) rfl rfl (hb hby d2_164) _ (XS.aloadN X145.here hx rfl (hb hby d2_165) rfl rfl k)) ?_
              show ownEnds _ _ _ _ (T145.setTop (mkF m 166 #[.val (.ref oa), .val (.ref ob), .val (.int (LI3 w0 w1 w2 w3)), .val (.int ((LS3 w0 w1 w2 w3) + w3)), .val (.int (1 : Int32)), .val (.ref b117), .val (.int (3 : Int32))] [(.ref oa), (.int (LI3 w0 w1 w2 w3))]))
              obtain ⟨T147, X147, e147, st147⟩ := getF X145 hx hZ hown (host := "") (Or.inl (wd_25 hw)) Via.refl e145 f129 (g := (mkF m 166 #[.val (.ref oa), .val (.ref ob), .val (.int (LI3 w0 w1 w2 w3)), .val (.int ((LS3 w0 w1 w2 w3) + w3)), .val (.int (1 : Int32)), .val (.ref b117), .val (.int (3 : Int32))] [(.ref oa), (.int (LI3 w0 w1 w2 w3))])) rfl rfl (hb hby d2_166)
              refine ownEnds.law st147 ?_
              show ownEnds _ _ _ _ (T147.setTop (mkF m 169 #[.val (.ref oa), .val (.ref ob), .val (.int (LI3 w0 w1 w2 w3)), .val (.int ((LS3 w0 w1 w2 w3) + w3)), .val (.int (1 : Int32)), .val (.ref b117), .val (.int (3 : Int32))] [(.ref b9), (.int (LI3 w0 w1 w2 w3))]))
              refine ownEnds.law (fun t k => XS.iload X147.here hx rfl (hb hby d2_169) rfl (XS.iconst X147.here hx rfl (hb hby d2_171) (XS.isub X147.here hx rfl (hb hby d2_172) rfl k))) ?_
              show ownEnds _ _ _ _ (T147.setTop (mkF m 173 #[.val (.ref oa), .val (.ref ob), .val (.int (LI3 w0 w1 w2 w3)), .val (.int ((LS3 w0 w1 w2 w3) + w3)), .val (.int (1 : Int32)), .val (.ref b117), .val (.int (3 : Int32))] [(.int (2 : Int32)), (.ref b9), (.int (LI3 w0 w1 w2 w3))]))
              obtain ⟨cl148, Ar148, q148, S148, N148, H148, G148⟩ := id f132
              have hi148 := inb_of (j := (2 : Int32)) S148 ⟨by decide, by decide⟩
              have hv148 : cl148.slots[((2 : Int32)).toNatClampNeg]? = some (.int (LI2 w0 w1 w2)) := H148.at hi148 rfl
              refine ownEnds.law (fun t k => X147.iaload hx (j := (2 : Int32)) (v := (.int (LI2 w0 w1 w2))) (by rw [e147]; exact Ar148.1) (State.isArrayOf_alike hZ.alike Ar148.2.1) Ar148.2.2 hi148 hv148 (g := (mkF m 173 #[.val (.ref oa), .val (.ref ob), .val (.int (LI3 w0 w1 w2 w3)), .val (.int ((LS3 w0 w1 w2 w3) + w3)), .val (.int (1 : Int32)), .val (.ref b117), .val (.int (3 : Int32))] [(.int (2 : Int32)), (.ref b9), (.int (LI3 w0 w1 w2 w3))])) rfl rfl (hb hby d2_173) _ k) ?_
              show ownEnds _ _ _ _ (T147.setTop (mkF m 174 #[.val (.ref oa), .val (.ref ob), .val (.int (LI3 w0 w1 w2 w3)), .val (.int ((LS3 w0 w1 w2 w3) + w3)), .val (.int (1 : Int32)), .val (.ref b117), .val (.int (3 : Int32))] [(.int (LI2 w0 w1 w2)), (.int (LI3 w0 w1 w2 w3))]))
              have hc174 : (LI3 w0 w1 w2 w3) = (LI2 w0 w1 w2) := hN3.1
              refine ownEnds.law (fun t => XS.icmpNo X147.here hx rfl (hb hby d2_174) rfl (teq hc174).2) ?_
              show ownEnds _ _ _ _ (T147.setTop (mkF m 177 #[.val (.ref oa), .val (.ref ob), .val (.int (LI3 w0 w1 w2 w3)), .val (.int ((LS3 w0 w1 w2 w3) + w3)), .val (.int (1 : Int32)), .val (.ref b117), .val (.int (3 : Int32))] []))
              refine ownEnds.law (fun t k => XS.aloadN X147.here hx rfl (hb hby d2_177) rfl rfl (XS.iload X147.here hx rfl (hb hby d2_178) rfl k)) ?_
              show ownEnds _ _ _ _ (T147.setTop (mkF m 180 #[.val (.ref oa), .val (.ref ob), .val (.int (LI3 w0 w1 w2 w3)), .val (.int ((LS3 w0 w1 w2 w3) + w3)), .val (.int (1 : Int32)), .val (.ref b117), .val (.int (3 : Int32))] [(.int (3 : Int32)), (.ref ob)]))
              obtain ⟨cl149, Ar149, q149, S149, N149, H149, G149⟩ := id f128
              have hi149 := inb_of (j := (3 : Int32)) S149 ⟨by decide, by decide⟩
              have hv149 : cl149.slots[((3 : Int32)).toNatClampNeg]? = some (.int w3) := H149.at hi149 rfl
              refine ownEnds.law (fun t k => X147.iaload hx (j := (3 : Int32)) (v := (.int w3)) (by rw [e147]; exact Ar149.1) (State.isArrayOf_alike hZ.alike Ar149.2.1) Ar149.2.2 hi149 hv149 (g := (mkF m 180 #[.val (.ref oa), .val (.ref ob), .val (.int (LI3 w0 w1 w2 w3)), .val (.int ((LS3 w0 w1 w2 w3) + w3)), .val (.int (1 : Int32)), .val (.ref b117), .val (.int (3 : Int32))] [(.int (3 : Int32)), (.ref ob)])) rfl rfl (hb hby d2_180) _ (XS.aloadN X147.here hx rfl (hb hby d2_181) rfl rfl (XS.iload X147.here hx rfl (hb hby d2_182) rfl (XS.iconst X147.here hx rfl (hb hby d2_184) (XS.isub X147.here hx rfl (hb hby d2_185) rfl k))))) ?_
              show ownEnds _ _ _ _ (T147.setTop (mkF m 186 #[.val (.ref oa), .val (.ref ob), .val (.int (LI3 w0 w1 w2 w3)), .val (.int ((LS3 w0 w1 w2 w3) + w3)), .val (.int (1 : Int32)), .val (.ref b117), .val (.int (3 : Int32))] [(.int (2 : Int32)), (.ref ob), (.int w3)]))
              obtain ⟨cl150, Ar150, q150, S150, N150, H150, G150⟩ := id f128
              have hi150 := inb_of (j := (2 : Int32)) S150 ⟨by decide, by decide⟩
              have hv150 : cl150.slots[((2 : Int32)).toNatClampNeg]? = some (.int w2) := H150.at hi150 rfl
              refine ownEnds.law (fun t k => X147.iaload hx (j := (2 : Int32)) (v := (.int w2)) (by rw [e147]; exact Ar150.1) (State.isArrayOf_alike hZ.alike Ar150.2.1) Ar150.2.2 hi150 hv150 (g := (mkF m 186 #[.val (.ref oa), .val (.ref ob), .val (.int (LI3 w0 w1 w2 w3)), .val (.int ((LS3 w0 w1 w2 w3) + w3)), .val (.int (1 : Int32)), .val (.ref b117), .val (.int (3 : Int32))] [(.int (2 : Int32)), (.ref ob), (.int w3)])) rfl rfl (hb hby d2_186) _ k) ?_
              show ownEnds _ _ _ _ (T147.setTop (mkF m 187 #[.val (.ref oa), .val (.ref ob), .val (.int (LI3 w0 w1 w2 w3)), .val (.int ((LS3 w0 w1 w2 w3) + w3)), .val (.int (1 : Int32)), .val (.ref b117), .val (.int (3 : Int32))] [(.int w2), (.int w3)]))
              have hc187 : w3 = w2 := hN3.2
              refine ownEnds.law (fun t => XS.icmpYes X147.here hx rfl (pc0 := 187) (pc' := 200) rfl (hb hby d2_187) rfl (teq hc187).1 (by decide) (by decide)) ?_
              show ownEnds _ _ _ _ (T147.setTop (mkF m 200 #[.val (.ref oa), .val (.ref ob), .val (.int (LI3 w0 w1 w2 w3)), .val (.int ((LS3 w0 w1 w2 w3) + w3)), .val (.int (1 : Int32)), .val (.ref b117), .val (.int (3 : Int32))] []))
              refine ownEnds.law (fun t k => XS.iinc X147.here hx rfl (hb hby d2_200) rfl (l' := #[.val (.ref oa), .val (.ref ob), .val (.int (LI3 w0 w1 w2 w3)), .val (.int ((LS3 w0 w1 w2 w3) + w3)), .val (.int (1 : Int32)), .val (.ref b117), .val (.int (4 : Int32))]) rfl (XS.goto X147.here hx rfl (pc0 := 203) (pc' := 146) rfl (hb hby d2_203) (by decide) (by decide) (XS.iload X147.here hx rfl (hb hby d2_146) rfl (XS.aloadN X147.here hx rfl (hb hby d2_148) rfl rfl k)))) ?_
              show ownEnds _ _ _ _ (T147.setTop (mkF m 149 #[.val (.ref oa), .val (.ref ob), .val (.int (LI3 w0 w1 w2 w3)), .val (.int ((LS3 w0 w1 w2 w3) + w3)), .val (.int (1 : Int32)), .val (.ref b117), .val (.int (4 : Int32))] [(.ref ob), (.int (4 : Int32))]))
              obtain ⟨cl151, Ar151, -, S151, N151, -, -⟩ := id f128
              refine ownEnds.law (X147.arraylength hx (by rw [e147]; exact Ar151.1) (State.isArrayOf_alike hZ.alike Ar151.2.1) (g := (mkF m 149 #[.val (.ref oa), .val (.ref ob), .val (.int (LI3 w0 w1 w2 w3)), .val (.int ((LS3 w0 w1 w2 w3) + w3)), .val (.int (1 : Int32)), .val (.ref b117), .val (.int (4 : Int32))] [(.ref ob), (.int (4 : Int32))])) rfl rfl (hb hby d2_149)) ?_
              rw [len_of S151 N151]
              show ownEnds _ _ _ _ (T147.setTop (mkF m 150 #[.val (.ref oa), .val (.ref ob), .val (.int (LI3 w0 w1 w2 w3)), .val (.int ((LS3 w0 w1 w2 w3) + w3)), .val (.int (1 : Int32)), .val (.ref b117), .val (.int (4 : Int32))] [(.int (4 : Int32)), (.int (4 : Int32))]))
              refine ownEnds.law (fun t => XS.icmpYes X147.here hx rfl (pc0 := 150) (pc' := 206) rfl (hb hby d2_150) rfl (flt (Int32.lt_irrefl)).2.1 (by decide) (by decide)) ?_
              show ownEnds _ _ _ _ (T147.setTop (mkF m 206 #[.val (.ref oa), .val (.ref ob), .val (.int (LI3 w0 w1 w2 w3)), .val (.int ((LS3 w0 w1 w2 w3) + w3)), .val (.int (1 : Int32)), .val (.ref b117), .val (.int (4 : Int32))] []))
              refine ownEnds.law (fun t k => XS.aload X147.here hx rfl (hb hby d2_206) rfl rfl (XS.iload X147.here hx rfl (hb hby d2_208) rfl (XS.iinc X147.here hx rfl (hb hby d2_210) rfl (l' := #[.val (.ref oa), .val (.ref ob), .val (.int (LI3 w0 w1 w2 w3)), .val (.int ((LS3 w0 w1 w2 w3) + w3)), .val (.int (2 : Int32)), .val (.ref b117), .val (.int (4 : Int32))]) rfl (XS.aloadN X147.here hx rfl (hb hby d2_213) rfl rfl k)))) ?_
              show ownEnds _ _ _ _ (T147.setTop (mkF m 214 #[.val (.ref oa), .val (.ref ob), .val (.int (LI3 w0 w1 w2 w3)), .val (.int ((LS3 w0 w1 w2 w3) + w3)), .val (.int (2 : Int32)), .val (.ref b117), .val (.int (4 : Int32))] [(.ref ob), (.int (1 : Int32)), (.ref b117)]))
              obtain ⟨cl152, Ar152, -, S152, N152, -, -⟩ := id f128
              refine ownEnds.law (X147.arraylength hx (by rw [e147]; exact Ar152.1) (State.isArrayOf_alike hZ.alike Ar152.2.1) (g := (mkF m 214 #[.val (.ref oa), .val (.ref ob), .val (.int (LI3 w0 w1 w2 w3)), .val (.int ((LS3 w0 w1 w2 w3) + w3)), .val (.int (2 : Int32)), .val (.ref b117), .val (.int (4 : Int32))] [(.ref ob), (.int (1 : Int32)), (.ref b117)])) rfl rfl (hb hby d2_214)) ?_
              rw [len_of S152 N152]
              show ownEnds _ _ _ _ (T147.setTop (mkF m 215 #[.val (.ref oa), .val (.ref ob), .val (.int (LI3 w0 w1 w2 w3)), .val (.int ((LS3 w0 w1 w2 w3) + w3)), .val (.int (2 : Int32)), .val (.ref b117), .val (.int (4 : Int32))] [(.int (4 : Int32)), (.int (1 : Int32)), (.ref b117)]))
              obtain ⟨cl153, Ar153, q153, S153, N153, H153, G153⟩ := id V126
              obtain ⟨T153, h153, X153, e153, W153, st153⟩ := stI X147 hx hZ e147 Ar153 (j := (1 : Int32)) (inb_of S153 ⟨by decide, by decide⟩) (g := (mkF m 215 #[.val (.ref oa), .val (.ref ob), .val (.int (LI3 w0 w1 w2 w3)), .val (.int ((LS3 w0 w1 w2 w3) + w3)), .val (.int (2 : Int32)), .val (.ref b117), .val (.int (4 : Int32))] [(.int (4 : Int32)), (.int (1 : Int32)), (.ref b117)])) rfl rfl (hb hby d2_215)
              refine ownEnds.law st153 ?_
              have V153 : Arv Z h153 b117 k117 .int (5 : Int32) [(.int (0 : Int32)), (.int (4 : Int32)), (.int (0 : Int32)), (.int (0 : Int32)), (.int (0 : Int32))] (.int (0 : Int32)) := Arv.set Ar153 q153 S153 N153 H153 G153 rfl W153 1 rfl (Nat.le_of_ble_eq_true rfl)
              have N153 := Fr.snoc X153 N126 g_b117
              have KK153 : Keep h0 h153 [oa] := (KK126).wr W153 (Or.inr sz_b117)
              have Z153 : n0 ≤ h153.size := by rw [W153.size]; exact Z126
              show ownEnds _ _ _ _ (T153.setTop (mkF m 216 #[.val (.ref oa), .val (.ref ob), .val (.int (LI3 w0 w1 w2 w3)), .val (.int ((LS3 w0 w1 w2 w3) + w3)), .val (.int (2 : Int32)), .val (.ref b117), .val (.int (4 : Int32))] []))
              refine ownEnds.law (fun t k => XS.aloadN X153.here hx rfl (hb hby d2_216) rfl rfl (XS.aload X153.here hx rfl (hb hby d2_217) rfl rfl (XS.iload X153.here hx rfl (hb hby d2_219) rfl k))) ?_
              show ownEnds _ _ _ _ (T153.setTop (mkF m 221 #[.val (.ref oa), .val (.ref ob), .val (.int (LI3 w0 w1 w2 w3)), .val (.int ((LS3 w0 w1 w2 w3) + w3)), .val (.int (2 : Int32)), .val (.ref b117), .val (.int (4 : Int32))] [(.int (2 : Int32)), (.ref b117), (.ref oa)]))
              have f155 := (Exa.wr W153 (Exa.wr W126 Ax117))
              obtain ⟨v154, T154, L154, X154, hQ154, st154⟩ := ownCallS X153 hx hZ hown (y := (⟨"java/util/Arrays", "copyOf", "([II)[I"⟩ : MethodName)) (as := [(.ref b117), (.int (2 : Int32))]) (wd_35 hw) (wd_36 hw) (wd_37 hw) (wd_38 hw) (by decide) (rm4_2 l Z a0 hw b117 k117 (.int (0 : Int32)) (.int (4 : Int32)) (.int (0 : Int32)) (.int (0 : Int32)) (.int (0 : Int32)) h153 n0 Z153 V153 f155) e153 1 (by decide) (by decide) (by decide) (by decide) (g := (mkF m 221 #[.val (.ref oa), .val (.ref ob), .val (.int (LI3 w0 w1 w2 w3)), .val (.int ((LS3 w0 w1 w2 w3) + w3)), .val (.int (2 : Int32)), .val (.ref b117), .val (.int (4 : Int32))] [(.int (2 : Int32)), (.ref b117), (.ref oa)])) rfl (by rw [hml]; rfl) (rest := [(.ref oa)]) pd_1 rfl rfl (by show 2 * 0 + _ ≤ _; exact Nat.le_of_eq rfl) (hb hby d2_221)
              obtain ⟨b154, kb154, rfl, Nq154, Kq154, g_b154, zq154, Vq154⟩ := hQ154
              have f156 := (Exa.wr W153 (Exa.wr W126 (Exa.ext E117 f118)))
              have ne_oa_b154 : oa ≠ b154 := Nat.ne_of_lt (Nat.lt_of_lt_of_le f156.lt zq154)
              have f157 := (Exa.wr W153 (Exa.wr W126 (Exa.ext E117 f119)))
              have ne_ob_b154 : ob ≠ b154 := Nat.ne_of_lt (Nat.lt_of_lt_of_le f157.lt zq154)
              have f158 := (Arv.other (Arv.other (Arv.ext f120 E117) W126 ne_b2_b117) W153 ne_b2_b117)
              have ne_b2_b154 : b2 ≠ b154 := Nat.ne_of_lt (Nat.lt_of_lt_of_le f158.lt zq154)
              have f159 := (Arv.other f132 W153 ne_b9_b117)
              have ne_b9_b154 : b9 ≠ b154 := Nat.ne_of_lt (Nat.lt_of_lt_of_le f159.lt zq154)
              have f160 := (Arv.other (Arv.other (Arv.ext f122 E117) W126 ne_b18_b117) W153 ne_b18_b117)
              have ne_b18_b154 : b18 ≠ b154 := Nat.ne_of_lt (Nat.lt_of_lt_of_le f160.lt zq154)
              have f161 := (Arv.other (Arv.other (Arv.ext f123 E117) W126 ne_b28_b117) W153 ne_b28_b117)
              have ne_b28_b154 : b28 ≠ b154 := Nat.ne_of_lt (Nat.lt_of_lt_of_le f161.lt zq154)
              have ne_b117_b154 : b117 ≠ b154 := Nat.ne_of_lt (Nat.lt_of_lt_of_le V153.lt zq154)
              have sz_b154 : h0.size ≤ b154 := Nat.le_trans (KK153).1 zq154
              have N154 := Fr.app N153 Nq154
              have KK154 : Keep h0 T154.heap [oa] := Keep.trans (KK153) Kq154 all0
              have Z154 : n0 ≤ T154.heap.size := Nat.le_trans Z153 Kq154.1
              refine ownEnds.law st154 ?_
              show ownEnds _ _ _ _ (T154.setTop (mkF m 224 #[.val (.ref oa), .val (.ref ob), .val (.int (LI3 w0 w1 w2 w3)), .val (.int ((LS3 w0 w1 w2 w3) + w3)), .val (.int (2 : Int32)), .val (.ref b117), .val (.int (4 : Int32))] [(.ref b154), (.ref oa)]))
              have f162 := (Exa.keep f156 Kq154)
              have f163 := (Fld.keep (Fld.other W153 (Fld.other W126 (Fld.ext E117 (Fld.other W114 (Fld.other W106 (Fld.other W100 (Fld.other W96 (Fld.other W88 (Fld.other W82 (Fld.other W78 (Fld.other W70 (Fld.other W64 (Fld.other W60 (Fld.other W52 (Fld.other W46 (Fld.other W42 (Fld.other W36 (Fld.ext E28 (Fld.other W25 (Fld.ext E18 (Fld.other W15 (Fld.ext E9 (Fld.other W6 (Fld.ext E2 F_oa_runs) (Or.inr (slot_ne (Or.inr (wd_42 hw)) (Or.inr (wd_24 hw)) (by decide) (t := (.array .int)) (t' := (.array .int)) (by decide) (by decide))))) (Or.inr (slot_ne (Or.inr (wd_42 hw)) (Or.inr (wd_26 hw)) (by decide) (t := (.array .int)) (t' := (.array .int)) (by decide) (by decide))))) (Or.inr (slot_ne (Or.inr (wd_42 hw)) (Or.inr (wd_28 hw)) (by decide) (t := (.array .int)) (t' := (.array .int)) (by decide) (by decide))))) (Or.inr (slot_ne (Or.inr (wd_42 hw)) (Or.inr (wd_31 hw)) (by decide) (t := (.array .int)) (t' := (.array .long)) (by decide) (by decide)))) (Or.inl ne_oa_b9)) (Or.inl ne_oa_b18)) (Or.inl ne_oa_b28)) (Or.inl ne_oa_b9)) (Or.inl ne_oa_b18)) (Or.inl ne_oa_b28)) (Or.inl ne_oa_b9)) (Or.inl ne_oa_b18)) (Or.inl ne_oa_b28)) (Or.inl ne_oa_b9)) (Or.inl ne_oa_b18)) (Or.inl ne_oa_b28)) (Or.inr (slot_ne (Or.inr (wd_42 hw)) (Or.inr (wd_34 hw)) (by decide) (t := (.array .int)) (t' := .int) (by decide) (by decide))))) (Or.inl ne_oa_b117)) (Or.inl ne_oa_b117)) Kq154 nin0)
              obtain ⟨T164, h164, X164, e164, W164, st164⟩ := putF X154 hx hZ hown (host := "") (Or.inl (wd_41 hw)) Via.refl rfl f163 f162 (Or.inr ⟨(wd_42 hw), rfl, hnm⟩) (wd_5 hw) (ty := (.array .int)) (by decide) rfl rfl (g := (mkF m 224 #[.val (.ref oa), .val (.ref ob), .val (.int (LI3 w0 w1 w2 w3)), .val (.int ((LS3 w0 w1 w2 w3) + w3)), .val (.int (2 : Int32)), .val (.ref b117), .val (.int (4 : Int32))] [(.ref b154), (.ref oa)])) rfl rfl (hb hby d2_224)
              refine ownEnds.law st164 ?_
              have N164 := Fr.snoc X164 N154 g_oa
              have KK164 : Keep h0 h164 [oa] := (KK154).wr W164 (Or.inl (List.mem_of_getElem? (i := 0) rfl))
              have Z164 : n0 ≤ h164.size := by rw [W164.size]; exact Z154
              have Fw164 : Fld Z h164 oa "com/example/libreach/libreach/engine/StateLayout" "runs" "[I" (.ref b154) := Fld.same W164 f163
              show ownEnds _ _ _ _ (T164.setTop (mkF m 227 #[.val (.ref oa), .val (.ref ob), .val (.int (LI3 w0 w1 w2 w3)), .val (.int ((LS3 w0 w1 w2 w3) + w3)), .val (.int (2 : Int32)), .val (.ref b117), .val (.int (4 : Int32))] []))
              refine ownRetV X164 hlk hx hret (hb hby d2_227) (by decide) (by decide) ?_
              have f165 := (Exa.wr W164 f162)
              have f166 := (Fld.other W164 (Fld.keep (Fld.other W153 (Fld.other W126 (Fld.ext E117 (Fld.other W114 (Fld.other W106 (Fld.other W100 (Fld.other W96 (Fld.other W88 (Fld.other W82 (Fld.other W78 (Fld.other W70 (Fld.other W64 (Fld.other W60 (Fld.other W52 (Fld.other W46 (Fld.other W42 (Fld.other W36 (Fld.ext E28 (Fld.other W25 (Fld.ext E18 (Fld.other W15 (Fld.ext E9 Fw6) (Or.inr (slot_ne (Or.inr (wd_24 hw)) (Or.inr (wd_26 hw)) (by decide) (t := (.array .int)) (t' := (.array .int)) (by decide) (by decide))))) (Or.inr (slot_ne (Or.inr (wd_24 hw)) (Or.inr (wd_28 hw)) (by decide) (t := (.array .int)) (t' := (.array .int)) (by decide) (by decide))))) (Or.inr (slot_ne (Or.inr (wd_24 hw)) (Or.inr (wd_31 hw)) (by decide) (t := (.array .int)) (t' := (.array .long)) (by decide) (by decide)))) (Or.inl ne_oa_b9)) (Or.inl ne_oa_b18)) (Or.inl ne_oa_b28)) (Or.inl ne_oa_b9)) (Or.inl ne_oa_b18)) (Or.inl ne_oa_b28)) (Or.inl ne_oa_b9)) (Or.inl ne_oa_b18)) (Or.inl ne_oa_b28)) (Or.inl ne_oa_b9)) (Or.inl ne_oa_b18)) (Or.inl ne_oa_b28)) (Or.inr (slot_ne (Or.inr (wd_24 hw)) (Or.inr (wd_34 hw)) (by decide) (t := (.array .int)) (t' := .int) (by decide) (by decide))))) (Or.inl ne_oa_b117)) (Or.inl ne_oa_b117)) Kq154 nin0) (Or.inr (slot_ne (Or.inr (wd_24 hw)) (Or.inr (wd_42 hw)) (by decide) (t := (.array .int)) (t' := (.array .int)) (by decide) (by decide))))
              have f167 := (Arv.other (Arv.keep f158 Kq154 nin0) W164 (Ne.symm ne_oa_b2))
              have f168 := (Fld.other W164 (Fld.keep (Fld.other W153 f129 (Or.inl ne_oa_b117)) Kq154 nin0) (Or.inr (slot_ne (Or.inr (wd_26 hw)) (Or.inr (wd_42 hw)) (by decide) (t := (.array .int)) (t' := (.array .int)) (by decide) (by decide))))
              have f169 := (Arv.other (Arv.keep f159 Kq154 nin0) W164 (Ne.symm ne_oa_b9))
              have f170 := (Fld.other W164 (Fld.keep (Fld.other W153 (Fld.other W126 (Fld.ext E117 (Fld.other W114 (Fld.other W106 (Fld.other W100 f98 (Or.inl ne_oa_b18)) (Or.inl ne_oa_b28)) (Or.inr (slot_ne (Or.inr (wd_28 hw)) (Or.inr (wd_34 hw)) (by decide) (t := (.array .int)) (t' := .int) (by decide) (by decide))))) (Or.inl ne_oa_b117)) (Or.inl ne_oa_b117)) Kq154 nin0) (Or.inr (slot_ne (Or.inr (wd_28 hw)) (Or.inr (wd_42 hw)) (by decide) (t := (.array .int)) (t' := (.array .int)) (by decide) (by decide))))
              have f171 := (Arv.other (Arv.keep f160 Kq154 nin0) W164 (Ne.symm ne_oa_b18))
              have f172 := (Fld.other W164 (Fld.keep (Fld.other W153 (Fld.other W126 (Fld.ext E117 (Fld.other W114 (Fld.other W106 f102 (Or.inl ne_oa_b28)) (Or.inr (slot_ne (Or.inr (wd_31 hw)) (Or.inr (wd_34 hw)) (by decide) (t := (.array .long)) (t' := .int) (by decide) (by decide))))) (Or.inl ne_oa_b117)) (Or.inl ne_oa_b117)) Kq154 nin0) (Or.inr (slot_ne (Or.inr (wd_31 hw)) (Or.inr (wd_42 hw)) (by decide) (t := (.array .long)) (t' := (.array .int)) (by decide) (by decide))))
              have f173 := (Arv.other (Arv.keep f161 Kq154 nin0) W164 (Ne.symm ne_oa_b28))
              have f174 := (Arv.other Vq154 W164 (Ne.symm ne_oa_b154))
              rw [e164]
              have hok : RunOK w0 w1 w2 w3 [(.int (0 : Int32)), (.int (4 : Int32))] (2 : Int32) := own_run111 hN1 hN2 hN3
              exact ⟨rfl, N164, KK164, b2, b9, b18, b28, b154, k_ob, k9, k18, k28, kb154, [(.int (0 : Int32)), (.int (4 : Int32))], (2 : Int32), f165, f166, f167, f168, f169, f170, f171, f172, f173, Fw164, f174, hok⟩
            · have J190_3 : ∀ (T175 : State) (lc175 : List Loc) (X175 : Stand p l e ({ frames := 2, cells := 6, slots := 40, locals := 60 } : Room) s m #[(.ref oa), (.ref ob)] below meth c T175 lc175 5 21) (N175 : Fr n0 lc175) (e175 : T175.heap = h126) , ownEnds p.tables e below (ownPost s (fun v h L => v = none ∧ Fr n0 L ∧ Keep h0 h [oa] ∧ ∃ (c0 c1 c2 c3 c4 : Addr) (k0 k1 k2 k3 k4 : ClassId) (rs : List Value) (len : Int32), Exa Z h oa "com/example/libreach/libreach/engine/StateLayout" ∧ Fld Z h oa "com/example/libreach/libreach/engine/StateLayout" "widths" "[I" (.ref c0) ∧ Arv Z h c0 k0 .int (4 : Int32) [(.int w0), (.int w1), (.int w2), (.int w3)] (.int (0 : Int32)) ∧ Fld Z h oa "com/example/libreach/libreach/engine/StateLayout" "word" "[I" (.ref c1) ∧ Arv Z h c1 k1 .int (4 : Int32) [(.int (0 : Int32)), (.int (LI1 w0 w1)), (.int (LI2 w0 w1 w2)), (.int (LI3 w0 w1 w2 w3))] (.int (0 : Int32)) ∧ Fld Z h oa "com/example/libreach/libreach/engine/StateLayout" "shift" "[I" (.ref c2) ∧ Arv Z h c2 k2 .int (4 : Int32) [(.int (0 : Int32)), (.int (LS1 w0 w1)), (.int (LS2 w0 w1 w2)), (.int (LS3 w0 w1 w2 w3))] (.int (0 : Int32)) ∧ Fld Z h oa "com/example/libreach/libreach/engine/StateLayout" "largest" "[J" (.ref c3) ∧ Arv Z h c3 k3 .long (4 : Int32) [(.long (LM w0)), (.long (LM w1)), (.long (LM w2)), (.long (LM w3))] (.long (0 : Int64)) ∧ Fld Z h oa "com/example/libreach/libreach/engine/StateLayout" "runs" "[I" (.ref c4) ∧ Arv Z h c4 k4 .int len rs (.int (0 : Int32)) ∧ RunOK w0 w1 w2 w3 rs len) ({ frames := 2, cells := 6, slots := 40, locals := 60 } : Room).cells ({ frames := 2, cells := 6, slots := 40, locals := 60 } : Room).slots) (T175.setTop (mkF m 190 #[.val (.ref oa), .val (.ref ob), .val (.int (LI3 w0 w1 w2 w3)), .val (.int ((LS3 w0 w1 w2 w3) + w3)), .val (.int (1 : Int32)), .val (.ref b117), .val (.int (3 : Int32))] [])) := by
                intro T175 lc175 X175 N175 e175 
                show ownEnds _ _ _ _ (T175.setTop (mkF m 190 #[.val (.ref oa), .val (.ref ob), .val (.int (LI3 w0 w1 w2 w3)), .val (.int ((LS3 w0 w1 w2 w3) + w3)), .val (.int (1 : Int32)), .val (.ref b117), .val (.int (3 : Int32))] []))
                refine ownEnds.law (fun t k => XS.aload X175.here hx rfl (hb hby d2_190) rfl rfl (XS.iload X175.here hx rfl (hb hby d2_192) rfl (XS.iinc X175.here hx rfl (hb hby d2_194) rfl (l' := #[.val (.ref oa), .val (.ref ob), .val (.int (LI3 w0 w1 w2 w3)), .val (.int ((LS3 w0 w1 w2 w3) + w3)), .val (.int (2 : Int32)), .val (.ref b117), .val (.int (3 : Int32))]) rfl (XS.iload X175.here hx rfl (hb hby d2_197) rfl k)))) ?_
                show ownEnds _ _ _ _ (T175.setTop (mkF m 199 #[.val (.ref oa), .val (.ref ob), .val (.int (LI3 w0 w1 w2 w3)), .val (.int ((LS3 w0 w1 w2 w3) + w3)), .val (.int (2 : Int32)), .val (.ref b117), .val (.int (3 : Int32))] [(.int (3 : Int32)), (.int (1 : Int32)), (.ref b117)]))
                obtain ⟨cl176, Ar176, q176, S176, N176, H176, G176⟩ := id V126
                obtain ⟨T176, h176, X176, e176, W176, st176⟩ := stI X175 hx hZ e175 Ar176 (j := (1 : Int32)) (inb_of S176 ⟨by decide, by decide⟩) (g := (mkF m 199 #[.val (.ref oa), .val (.ref ob), .val (.int (LI3 w0 w1 w2 w3)), .val (.int ((LS3 w0 w1 w2 w3) + w3)), .val (.int (2 : Int32)), .val (.ref b117), .val (.int (3 : Int32))] [(.int (3 : Int32)), (.int (1 : Int32)), (.ref b117)])) rfl rfl (hb hby d2_199)
                refine ownEnds.law st176 ?_
                have V176 : Arv Z h176 b117 k117 .int (5 : Int32) [(.int (0 : Int32)), (.int (3 : Int32)), (.int (0 : Int32)), (.int (0 : Int32)), (.int (0 : Int32))] (.int (0 : Int32)) := Arv.set Ar176 q176 S176 N176 H176 G176 rfl W176 1 rfl (Nat.le_of_ble_eq_true rfl)
                have N176 := Fr.snoc X176 N175 g_b117
                have KK176 : Keep h0 h176 [oa] := (KK126).wr W176 (Or.inr sz_b117)
                have Z176 : n0 ≤ h176.size := by rw [W176.size]; exact Z126
                show ownEnds _ _ _ _ (T176.setTop (mkF m 200 #[.val (.ref oa), .val (.ref ob), .val (.int (LI3 w0 w1 w2 w3)), .val (.int ((LS3 w0 w1 w2 w3) + w3)), .val (.int (2 : Int32)), .val (.ref b117), .val (.int (3 : Int32))] []))
                refine ownEnds.law (fun t k => XS.iinc X176.here hx rfl (hb hby d2_200) rfl (l' := #[.val (.ref oa), .val (.ref ob), .val (.int (LI3 w0 w1 w2 w3)), .val (.int ((LS3 w0 w1 w2 w3) + w3)), .val (.int (2 : Int32)), .val (.ref b117), .val (.int (4 : Int32))]) rfl (XS.goto X176.here hx rfl (pc0 := 203) (pc' := 146) rfl (hb hby d2_203) (by decide) (by decide) (XS.iload X176.here hx rfl (hb hby d2_146) rfl (XS.aloadN X176.here hx rfl (hb hby d2_148) rfl rfl k)))) ?_
                show ownEnds _ _ _ _ (T176.setTop (mkF m 149 #[.val (.ref oa), .val (.ref ob), .val (.int (LI3 w0 w1 w2 w3)), .val (.int ((LS3 w0 w1 w2 w3) + w3)), .val (.int (2 : Int32)), .val (.ref b117), .val (.int (4 : Int32))] [(.ref ob), (.int (4 : Int32))]))
                have f178 := (Arv.other f128 W176 ne_ob_b117)
                obtain ⟨cl177, Ar177, -, S177, N177, -, -⟩ := id f178
                refine ownEnds.law (X176.arraylength hx (by rw [e176]; exact Ar177.1) (State.isArrayOf_alike hZ.alike Ar177.2.1) (g := (mkF m 149 #[.val (.ref oa), .val (.ref ob), .val (.int (LI3 w0 w1 w2 w3)), .val (.int ((LS3 w0 w1 w2 w3) + w3)), .val (.int (2 : Int32)), .val (.ref b117), .val (.int (4 : Int32))] [(.ref ob), (.int (4 : Int32))])) rfl rfl (hb hby d2_149)) ?_
                rw [len_of S177 N177]
                show ownEnds _ _ _ _ (T176.setTop (mkF m 150 #[.val (.ref oa), .val (.ref ob), .val (.int (LI3 w0 w1 w2 w3)), .val (.int ((LS3 w0 w1 w2 w3) + w3)), .val (.int (2 : Int32)), .val (.ref b117), .val (.int (4 : Int32))] [(.int (4 : Int32)), (.int (4 : Int32))]))
                refine ownEnds.law (fun t => XS.icmpYes X176.here hx rfl (pc0 := 150) (pc' := 206) rfl (hb hby d2_150) rfl (flt (Int32.lt_irrefl)).2.1 (by decide) (by decide)) ?_
                show ownEnds _ _ _ _ (T176.setTop (mkF m 206 #[.val (.ref oa), .val (.ref ob), .val (.int (LI3 w0 w1 w2 w3)), .val (.int ((LS3 w0 w1 w2 w3) + w3)), .val (.int (2 : Int32)), .val (.ref b117), .val (.int (4 : Int32))] []))
                refine ownEnds.law (fun t k => XS.aload X176.here hx rfl (hb hby d2_206) rfl rfl (XS.iload X176.here hx rfl (hb hby d2_208) rfl (XS.iinc X176.here hx rfl (hb hby d2_210) rfl (l' := #[.val (.ref oa), .val (.ref ob), .val (.int (LI3 w0 w1 w2 w3)), .val (.int ((LS3 w0 w1 w2 w3) + w3)), .val (.int (3 : Int32)), .val (.ref b117), .val (.int (4 : Int32))]) rfl (XS.aloadN X176.here hx rfl (hb hby d2_213) rfl rfl k)))) ?_
                show ownEnds _ _ _ _ (T176.setTop (mkF m 214 #[.val (.ref oa), .val (.ref ob), .val (.int (LI3 w0 w1 w2 w3)), .val (.int ((LS3 w0 w1 w2 w3) + w3)), .val (.int (3 : Int32)), .val (.ref b117), .val (.int (4 : Int32))] [(.ref ob), (.int (2 : Int32)), (.ref b117)]))
                obtain ⟨cl179, Ar179, -, S179, N179, -, -⟩ := id f178
                refine ownEnds.law (X176.arraylength hx (by rw [e176]; exact Ar179.1) (State.isArrayOf_alike hZ.alike Ar179.2.1) (g := (mkF m 214 #[.val (.ref oa), .val (.ref ob), .val (.int (LI3 w0 w1 w2 w3)), .val (.int ((LS3 w0 w1 w2 w3) + w3)), .val (.int (3 : Int32)), .val (.ref b117), .val (.int (4 : Int32))] [(.ref ob), (.int (2 : Int32)), (.ref b117)])) rfl rfl (hb hby d2_214)) ?_
                rw [len_of S179 N179]
                show ownEnds _ _ _ _ (T176.setTop (mkF m 215 #[.val (.ref oa), .val (.ref ob), .val (.int (LI3 w0 w1 w2 w3)), .val (.int ((LS3 w0 w1 w2 w3) + w3)), .val (.int (3 : Int32)), .val (.ref b117), .val (.int (4 : Int32))] [(.int (4 : Int32)), (.int (2 : Int32)), (.ref b117)]))
                obtain ⟨cl180, Ar180, q180, S180, N180, H180, G180⟩ := id V176
                obtain ⟨T180, h180, X180, e180, W180, st180⟩ := stI X176 hx hZ e176 Ar180 (j := (2 : Int32)) (inb_of S180 ⟨by decide, by decide⟩) (g := (mkF m 215 #[.val (.ref oa), .val (.ref ob), .val (.int (LI3 w0 w1 w2 w3)), .val (.int ((LS3 w0 w1 w2 w3) + w3)), .val (.int (3 : Int32)), .val (.ref b117), .val (.int (4 : Int32))] [(.int (4 : Int32)), (.int (2 : Int32)), (.ref b117)])) rfl rfl (hb hby d2_215)
                refine ownEnds.law st180 ?_
                have V180 : Arv Z h180 b117 k117 .int (5 : Int32) [(.int (0 : Int32)), (.int (3 : Int32)), (.int (4 : Int32)), (.int (0 : Int32)), (.int (0 : Int32))] (.int (0 : Int32)) := Arv.set Ar180 q180 S180 N180 H180 G180 rfl W180 2 rfl (Nat.le_of_ble_eq_true rfl)
                have N180 := Fr.snoc X180 N176 g_b117
                have KK180 : Keep h0 h180 [oa] := (KK176).wr W180 (Or.inr sz_b117)
                have Z180 : n0 ≤ h180.size := by rw [W180.size]; exact Z176
                show ownEnds _ _ _ _ (T180.setTop (mkF m 216 #[.val (.ref oa), .val (.ref ob), .val (.int (LI3 w0 w1 w2 w3)), .val (.int ((LS3 w0 w1 w2 w3) + w3)), .val (.int (3 : Int32)), .val (.ref b117), .val (.int (4 : Int32))] []))
                refine ownEnds.law (fun t k => XS.aloadN X180.here hx rfl (hb hby d2_216) rfl rfl (XS.aload X180.here hx rfl (hb hby d2_217) rfl rfl (XS.iload X180.here hx rfl (hb hby d2_219) rfl k))) ?_
                show ownEnds _ _ _ _ (T180.setTop (mkF m 221 #[.val (.ref oa), .val (.ref ob), .val (.int (LI3 w0 w1 w2 w3)), .val (.int ((LS3 w0 w1 w2 w3) + w3)), .val (.int (3 : Int32)), .val (.ref b117), .val (.int (4 : Int32))] [(.int (3 : Int32)), (.ref b117), (.ref oa)]))
                have f182 := (Exa.wr W180 (Exa.wr W176 (Exa.wr W126 Ax117)))
                obtain ⟨v181, T181, L181, X181, hQ181, st181⟩ := ownCallS X180 hx hZ hown (y := (⟨"java/util/Arrays", "copyOf", "([II)[I"⟩ : MethodName)) (as := [(.ref b117), (.int (3 : Int32))]) (wd_35 hw) (wd_36 hw) (wd_37 hw) (wd_38 hw) (by decide) (rm4_3 l Z a0 hw b117 k117 (.int (0 : Int32)) (.int (3 : Int32)) (.int (4 : Int32)) (.int (0 : Int32)) (.int (0 : Int32)) h180 n0 Z180 V180 f182) e180 1 (by decide) (by decide) (by decide) (by decide) (g := (mkF m 221 #[.val (.ref oa), .val (.ref ob), .val (.int (LI3 w0 w1 w2 w3)), .val (.int ((LS3 w0 w1 w2 w3) + w3)), .val (.int (3 : Int32)), .val (.ref b117), .val (.int (4 : Int32))] [(.int (3 : Int32)), (.ref b117), (.ref oa)])) rfl (by rw [hml]; rfl) (rest := [(.ref oa)]) pd_1 rfl rfl (by show 2 * 0 + _ ≤ _; exact Nat.le_of_eq rfl) (hb hby d2_221)
                obtain ⟨b181, kb181, rfl, Nq181, Kq181, g_b181, zq181, Vq181⟩ := hQ181
                have f183 := (Exa.wr W180 (Exa.wr W176 (Exa.wr W126 (Exa.ext E117 f118))))
                have ne_oa_b181 : oa ≠ b181 := Nat.ne_of_lt (Nat.lt_of_lt_of_le f183.lt zq181)
                have f184 := (Exa.wr W180 (Exa.wr W176 (Exa.wr W126 (Exa.ext E117 f119))))
                have ne_ob_b181 : ob ≠ b181 := Nat.ne_of_lt (Nat.lt_of_lt_of_le f184.lt zq181)
                have f185 := (Arv.other (Arv.other (Arv.other (Arv.ext f120 E117) W126 ne_b2_b117) W176 ne_b2_b117) W180 ne_b2_b117)
                have ne_b2_b181 : b2 ≠ b181 := Nat.ne_of_lt (Nat.lt_of_lt_of_le f185.lt zq181)
                have f186 := (Arv.other (Arv.other f132 W176 ne_b9_b117) W180 ne_b9_b117)
                have ne_b9_b181 : b9 ≠ b181 := Nat.ne_of_lt (Nat.lt_of_lt_of_le f186.lt zq181)
                have f187 := (Arv.other (Arv.other (Arv.other (Arv.ext f122 E117) W126 ne_b18_b117) W176 ne_b18_b117) W180 ne_b18_b117)
                have ne_b18_b181 : b18 ≠ b181 := Nat.ne_of_lt (Nat.lt_of_lt_of_le f187.lt zq181)
                have f188 := (Arv.other (Arv.other (Arv.other (Arv.ext f123 E117) W126 ne_b28_b117) W176 ne_b28_b117) W180 ne_b28_b117)
                have ne_b28_b181 : b28 ≠ b181 := Nat.ne_of_lt (Nat.lt_of_lt_of_le f188.lt zq181)
                have ne_b117_b181 : b117 ≠ b181 := Nat.ne_of_lt (Nat.lt_of_lt_of_le V180.lt zq181)
                have sz_b181 : h0.size ≤ b181 := Nat.le_trans (KK180).1 zq181
                have N181 := Fr.app N180 Nq181
                have KK181 : Keep h0 T181.heap [oa] := Keep.trans (KK180) Kq181 all0
                have Z181 : n0 ≤ T181.heap.size := Nat.le_trans Z180 Kq181.1
                refine ownEnds.law st181 ?_
                show ownEnds _ _ _ _ (T181.setTop (mkF m 224 #[.val (.ref oa), .val (.ref ob), .val (.int (LI3 w0 w1 w2 w3)), .val (.int ((LS3 w0 w1 w2 w3) + w3)), .val (.int (3 : Int32)), .val (.ref b117), .val (.int (4 : Int32))] [(.ref b181), (.ref oa)]))
                have f189 := (Exa.keep f183 Kq181)
                have f190 := (Fld.keep (Fld.other W180 (Fld.other W176 (Fld.other W126 (Fld.ext E117 (Fld.other W114 (Fld.other W106 (Fld.other W100 (Fld.other W96 (Fld.other W88 (Fld.other W82 (Fld.other W78 (Fld.other W70 (Fld.other W64 (Fld.other W60 (Fld.other W52 (Fld.other W46 (Fld.other W42 (Fld.other W36 (Fld.ext E28 (Fld.other W25 (Fld.ext E18 (Fld.other W15 (Fld.ext E9 (Fld.other W6 (Fld.ext E2 F_oa_runs) (Or.inr (slot_ne (Or.inr (wd_42 hw)) (Or.inr (wd_24 hw)) (by decide) (t := (.array .int)) (t' := (.array .int)) (by decide) (by decide))))) (Or.inr (slot_ne (Or.inr (wd_42 hw)) (Or.inr (wd_26 hw)) (by decide) (t := (.array .int)) (t' := (.array .int)) (by decide) (by decide))))) (Or.inr (slot_ne (Or.inr (wd_42 hw)) (Or.inr (wd_28 hw)) (by decide) (t := (.array .int)) (t' := (.array .int)) (by decide) (by decide))))) (Or.inr (slot_ne (Or.inr (wd_42 hw)) (Or.inr (wd_31 hw)) (by decide) (t := (.array .int)) (t' := (.array .long)) (by decide) (by decide)))) (Or.inl ne_oa_b9)) (Or.inl ne_oa_b18)) (Or.inl ne_oa_b28)) (Or.inl ne_oa_b9)) (Or.inl ne_oa_b18)) (Or.inl ne_oa_b28)) (Or.inl ne_oa_b9)) (Or.inl ne_oa_b18)) (Or.inl ne_oa_b28)) (Or.inl ne_oa_b9)) (Or.inl ne_oa_b18)) (Or.inl ne_oa_b28)) (Or.inr (slot_ne (Or.inr (wd_42 hw)) (Or.inr (wd_34 hw)) (by decide) (t := (.array .int)) (t' := .int) (by decide) (by decide))))) (Or.inl ne_oa_b117)) (Or.inl ne_oa_b117)) (Or.inl ne_oa_b117)) Kq181 nin0)
                obtain ⟨T191, h191, X191, e191, W191, st191⟩ := putF X181 hx hZ hown (host := "") (Or.inl (wd_41 hw)) Via.refl rfl f190 f189 (Or.inr ⟨(wd_42 hw), rfl, hnm⟩) (wd_5 hw) (ty := (.array .int)) (by decide) rfl rfl (g := (mkF m 224 #[.val (.ref oa), .val (.ref ob), .val (.int (LI3 w0 w1 w2 w3)), .val (.int ((LS3 w0 w1 w2 w3) + w3)), .val (.int (3 : Int32)), .val (.ref b117), .val (.int (4 : Int32))] [(.ref b181), (.ref oa)])) rfl rfl (hb hby d2_224)
                refine ownEnds.law st191 ?_
                have N191 := Fr.snoc X191 N181 g_oa
                have KK191 : Keep h0 h191 [oa] := (KK181).wr W191 (Or.inl (List.mem_of_getElem? (i := 0) rfl))
                have Z191 : n0 ≤ h191.size := by rw [W191.size]; exact Z181
                have Fw191 : Fld Z h191 oa "com/example/libreach/libreach/engine/StateLayout" "runs" "[I" (.ref b181) := Fld.same W191 f190
                show ownEnds _ _ _ _ (T191.setTop (mkF m 227 #[.val (.ref oa), .val (.ref ob), .val (.int (LI3 w0 w1 w2 w3)), .val (.int ((LS3 w0 w1 w2 w3) + w3)), .val (.int (3 : Int32)), .val (.ref b117), .val (.int (4 : Int32))] []))
                refine ownRetV X191 hlk hx hret (hb hby d2_227) (by decide) (by decide) ?_
                have f192 := (Exa.wr W191 f189)
                have f193 := (Fld.other W191 (Fld.keep (Fld.other W180 (Fld.other W176 (Fld.other W126 (Fld.ext E117 (Fld.other W114 (Fld.other W106 (Fld.other W100 (Fld.other W96 (Fld.other W88 (Fld.other W82 (Fld.other W78 (Fld.other W70 (Fld.other W64 (Fld.other W60 (Fld.other W52 (Fld.other W46 (Fld.other W42 (Fld.other W36 (Fld.ext E28 (Fld.other W25 (Fld.ext E18 (Fld.other W15 (Fld.ext E9 Fw6) (Or.inr (slot_ne (Or.inr (wd_24 hw)) (Or.inr (wd_26 hw)) (by decide) (t := (.array .int)) (t' := (.array .int)) (by decide) (by decide))))) (Or.inr (slot_ne (Or.inr (wd_24 hw)) (Or.inr (wd_28 hw)) (by decide) (t := (.array .int)) (t' := (.array .int)) (by decide) (by decide))))) (Or.inr (slot_ne (Or.inr (wd_24 hw)) (Or.inr (wd_31 hw)) (by decide) (t := (.array .int)) (t' := (.array .long)) (by decide) (by decide)))) (Or.inl ne_oa_b9)) (Or.inl ne_oa_b18)) (Or.inl ne_oa_b28)) (Or.inl ne_oa_b9)) (Or.inl ne_oa_b18)) (Or.inl ne_oa_b28)) (Or.inl ne_oa_b9)) (Or.inl ne_oa_b18)) (Or.inl ne_oa_b28)) (Or.inl ne_oa_b9)) (Or.inl ne_oa_b18)) (Or.inl ne_oa_b28)) (Or.inr (slot_ne (Or.inr (wd_24 hw)) (Or.inr (wd_34 hw)) (by decide) (t := (.array .int)) (t' := .int) (by decide) (by decide))))) (Or.inl ne_oa_b117)) (Or.inl ne_oa_b117)) (Or.inl ne_oa_b117)) Kq181 nin0) (Or.inr (slot_ne (Or.inr (wd_24 hw)) (Or.inr (wd_42 hw)) (by decide) (t := (.array .int)) (t' := (.array .int)) (by decide) (by decide))))
                have f194 := (Arv.other (Arv.keep f185 Kq181 nin0) W191 (Ne.symm ne_oa_b2))
                have f195 := (Fld.other W191 (Fld.keep (Fld.other W180 (Fld.other W176 f129 (Or.inl ne_oa_b117)) (Or.inl ne_oa_b117)) Kq181 nin0) (Or.inr (slot_ne (Or.inr (wd_26 hw)) (Or.inr (wd_42 hw)) (by decide) (t := (.array .int)) (t' := (.array .int)) (by decide) (by decide))))
                have f196 := (Arv.other (Arv.keep f186 Kq181 nin0) W191 (Ne.symm ne_oa_b9))
                have f197 := (Fld.other W191 (Fld.keep (Fld.other W180 (Fld.other W176 (Fld.other W126 (Fld.ext E117 (Fld.other W114 (Fld.other W106 (Fld.other W100 f98 (Or.inl ne_oa_b18)) (Or.inl ne_oa_b28)) (Or.inr (slot_ne (Or.inr (wd_28 hw)) (Or.inr (wd_34 hw)) (by decide) (t := (.array .int)) (t' := .int) (by decide) (by decide))))) (Or.inl ne_oa_b117)) (Or.inl ne_oa_b117)) (Or.inl ne_oa_b117)) Kq181 nin0) (Or.inr (slot_ne (Or.inr (wd_28 hw)) (Or.inr (wd_42 hw)) (by decide) (t := (.array .int)) (t' := (.array .int)) (by decide) (by decide))))
                have f198 := (Arv.other (Arv.keep f187 Kq181 nin0) W191 (Ne.symm ne_oa_b18))
                have f199 := (Fld.other W191 (Fld.keep (Fld.other W180 (Fld.other W176 (Fld.other W126 (Fld.ext E117 (Fld.other W114 (Fld.other W106 f102 (Or.inl ne_oa_b28)) (Or.inr (slot_ne (Or.inr (wd_31 hw)) (Or.inr (wd_34 hw)) (by decide) (t := (.array .long)) (t' := .int) (by decide) (by decide))))) (Or.inl ne_oa_b117)) (Or.inl ne_oa_b117)) (Or.inl ne_oa_b117)) Kq181 nin0) (Or.inr (slot_ne (Or.inr (wd_31 hw)) (Or.inr (wd_42 hw)) (by decide) (t := (.array .long)) (t' := (.array .int)) (by decide) (by decide))))
                have f200 := (Arv.other (Arv.keep f188 Kq181 nin0) W191 (Ne.symm ne_oa_b28))
                have f201 := (Arv.other Vq181 W191 (Ne.symm ne_oa_b181))
                rw [e191]
                have hok : RunOK w0 w1 w2 w3 [(.int (0 : Int32)), (.int (3 : Int32)), (.int (4 : Int32))] (3 : Int32) := own_run110 hN1 hN2 hN3
                exact ⟨rfl, N191, KK191, b2, b9, b18, b28, b181, k_ob, k9, k18, k28, kb181, [(.int (0 : Int32)), (.int (3 : Int32)), (.int (4 : Int32))], (3 : Int32), f192, f193, f194, f195, f196, f197, f198, f199, f200, Fw191, f201, hok⟩
              show ownEnds _ _ _ _ (T140.setTop (mkF m 158 #[.val (.ref oa), .val (.ref ob), .val (.int (LI3 w0 w1 w2 w3)), .val (.int ((LS3 w0 w1 w2 w3) + w3)), .val (.int (1 : Int32)), .val (.ref b117), .val (.int (3 : Int32))] []))
              refine ownEnds.law (fun t k => XS.aloadN X140.here hx rfl (hb hby d2_158) rfl rfl k) ?_
              show ownEnds _ _ _ _ (T140.setTop (mkF m 159 #[.val (.ref oa), .val (.ref ob), .val (.int (LI3 w0 w1 w2 w3)), .val (.int ((LS3 w0 w1 w2 w3) + w3)), .val (.int (1 : Int32)), .val (.ref b117), .val (.int (3 : Int32))] [(.ref oa)]))
              obtain ⟨T202, X202, e202, st202⟩ := getF X140 hx hZ hown (host := "") (Or.inl (wd_25 hw)) Via.refl e140 f129 (g := (mkF m 159 #[.val (.ref oa), .val (.ref ob), .val (.int (LI3 w0 w1 w2 w3)), .val (.int ((LS3 w0 w1 w2 w3) + w3)), .val (.int (1 : Int32)), .val (.ref b117), .val (.int (3 : Int32))] [(.ref oa)])) rfl rfl (hb hby d2_159)
              refine ownEnds.law st202 ?_
              show ownEnds _ _ _ _ (T202.setTop (mkF m 162 #[.val (.ref oa), .val (.ref ob), .val (.int (LI3 w0 w1 w2 w3)), .val (.int ((LS3 w0 w1 w2 w3) + w3)), .val (.int (1 : Int32)), .val (.ref b117), .val (.int (3 : Int32))] [(.ref b9)]))
              refine ownEnds.law (fun t k => XS.iload X202.here hx rfl (hb hby d2_162) rfl k) ?_
              show ownEnds _ _ _ _ (T202.setTop (mkF m 164 #[.val (.ref oa), .val (.ref ob), .val (.int (LI3 w0 w1 w2 w3)), .val (.int ((LS3 w0 w1 w2 w3) + w3)), .val (.int (1 : Int32)), .val (.ref b117), .val (.int (3 : Int32))] [(.int (3 : Int32)), (.ref b9)]))
              obtain ⟨cl203, Ar203, q203, S203, N203, H203, G203⟩ := id f132
              have hi203 := inb_of (j := (3 : Int32)) S203 ⟨by decide, by decide⟩
              have hv203 : cl203.slots[((3 : Int32)).toNatClampNeg]? = some (.int (LI3 w0 w1 w2 w3)) := H203.at hi203 rfl
              refine ownEnds.law (fun t k => X202.iaload hx (j := (3 : Int32)) (v := (.int (LI3 w0 w1 w2 w3))) (by rw [e202]; exact Ar203.1) (State.isArrayOf_alike hZ.alike Ar203.2.1) Ar203.2.2 hi203 hv203 (g := (mkF m 164 #[.val (.ref oa), .val (.ref ob), .val (.int (LI3 w0 w1 w2 w3)), .val (.int ((LS3 w0 w1 w2 w3) + w3)), .val (.int (1 : Int32)), .val (.ref b117), .val (.int (3 : Int32))] [(.int (3 : Int32)), (.ref b9)])) rfl rfl (hb hby d2_164) _ (XS.aloadN X202.here hx rfl (hb hby d2_165) rfl rfl k)) ?_
              show ownEnds _ _ _ _ (T202.setTop (mkF m 166 #[.val (.ref oa), .val (.ref ob), .val (.int (LI3 w0 w1 w2 w3)), .val (.int ((LS3 w0 w1 w2 w3) + w3)), .val (.int (1 : Int32)), .val (.ref b117), .val (.int (3 : Int32))] [(.ref oa), (.int (LI3 w0 w1 w2 w3))]))
              obtain ⟨T204, X204, e204, st204⟩ := getF X202 hx hZ hown (host := "") (Or.inl (wd_25 hw)) Via.refl e202 f129 (g := (mkF m 166 #[.val (.ref oa), .val (.ref ob), .val (.int (LI3 w0 w1 w2 w3)), .val (.int ((LS3 w0 w1 w2 w3) + w3)), .val (.int (1 : Int32)), .val (.ref b117), .val (.int (3 : Int32))] [(.ref oa), (.int (LI3 w0 w1 w2 w3))])) rfl rfl (hb hby d2_166)
              refine ownEnds.law st204 ?_
              show ownEnds _ _ _ _ (T204.setTop (mkF m 169 #[.val (.ref oa), .val (.ref ob), .val (.int (LI3 w0 w1 w2 w3)), .val (.int ((LS3 w0 w1 w2 w3) + w3)), .val (.int (1 : Int32)), .val (.ref b117), .val (.int (3 : Int32))] [(.ref b9), (.int (LI3 w0 w1 w2 w3))]))
              refine ownEnds.law (fun t k => XS.iload X204.here hx rfl (hb hby d2_169) rfl (XS.iconst X204.here hx rfl (hb hby d2_171) (XS.isub X204.here hx rfl (hb hby d2_172) rfl k))) ?_
              show ownEnds _ _ _ _ (T204.setTop (mkF m 173 #[.val (.ref oa), .val (.ref ob), .val (.int (LI3 w0 w1 w2 w3)), .val (.int ((LS3 w0 w1 w2 w3) + w3)), .val (.int (1 : Int32)), .val (.ref b117), .val (.int (3 : Int32))] [(.int (2 : Int32)), (.ref b9), (.int (LI3 w0 w1 w2 w3))]))
              obtain ⟨cl205, Ar205, q205, S205, N205, H205, G205⟩ := id f132
              have hi205 := inb_of (j := (2 : Int32)) S205 ⟨by decide, by decide⟩
              have hv205 : cl205.slots[((2 : Int32)).toNatClampNeg]? = some (.int (LI2 w0 w1 w2)) := H205.at hi205 rfl
              refine ownEnds.law (fun t k => X204.iaload hx (j := (2 : Int32)) (v := (.int (LI2 w0 w1 w2))) (by rw [e204]; exact Ar205.1) (State.isArrayOf_alike hZ.alike Ar205.2.1) Ar205.2.2 hi205 hv205 (g := (mkF m 173 #[.val (.ref oa), .val (.ref ob), .val (.int (LI3 w0 w1 w2 w3)), .val (.int ((LS3 w0 w1 w2 w3) + w3)), .val (.int (1 : Int32)), .val (.ref b117), .val (.int (3 : Int32))] [(.int (2 : Int32)), (.ref b9), (.int (LI3 w0 w1 w2 w3))])) rfl rfl (hb hby d2_173) _ k) ?_
              show ownEnds _ _ _ _ (T204.setTop (mkF m 174 #[.val (.ref oa), .val (.ref ob), .val (.int (LI3 w0 w1 w2 w3)), .val (.int ((LS3 w0 w1 w2 w3) + w3)), .val (.int (1 : Int32)), .val (.ref b117), .val (.int (3 : Int32))] [(.int (LI2 w0 w1 w2)), (.int (LI3 w0 w1 w2 w3))]))
              by_cases hc174 : (LI3 w0 w1 w2 w3) = (LI2 w0 w1 w2)
              · refine ownEnds.law (fun t => XS.icmpNo X204.here hx rfl (hb hby d2_174) rfl (teq hc174).2) ?_
                show ownEnds _ _ _ _ (T204.setTop (mkF m 177 #[.val (.ref oa), .val (.ref ob), .val (.int (LI3 w0 w1 w2 w3)), .val (.int ((LS3 w0 w1 w2 w3) + w3)), .val (.int (1 : Int32)), .val (.ref b117), .val (.int (3 : Int32))] []))
                refine ownEnds.law (fun t k => XS.aloadN X204.here hx rfl (hb hby d2_177) rfl rfl (XS.iload X204.here hx rfl (hb hby d2_178) rfl k)) ?_
                show ownEnds _ _ _ _ (T204.setTop (mkF m 180 #[.val (.ref oa), .val (.ref ob), .val (.int (LI3 w0 w1 w2 w3)), .val (.int ((LS3 w0 w1 w2 w3) + w3)), .val (.int (1 : Int32)), .val (.ref b117), .val (.int (3 : Int32))] [(.int (3 : Int32)), (.ref ob)]))
                obtain ⟨cl206, Ar206, q206, S206, N206, H206, G206⟩ := id f128
                have hi206 := inb_of (j := (3 : Int32)) S206 ⟨by decide, by decide⟩
                have hv206 : cl206.slots[((3 : Int32)).toNatClampNeg]? = some (.int w3) := H206.at hi206 rfl
                refine ownEnds.law (fun t k => X204.iaload hx (j := (3 : Int32)) (v := (.int w3)) (by rw [e204]; exact Ar206.1) (State.isArrayOf_alike hZ.alike Ar206.2.1) Ar206.2.2 hi206 hv206 (g := (mkF m 180 #[.val (.ref oa), .val (.ref ob), .val (.int (LI3 w0 w1 w2 w3)), .val (.int ((LS3 w0 w1 w2 w3) + w3)), .val (.int (1 : Int32)), .val (.ref b117), .val (.int (3 : Int32))] [(.int (3 : Int32)), (.ref ob)])) rfl rfl (hb hby d2_180) _ (XS.aloadN X204.here hx rfl (hb hby d2_181) rfl rfl (XS.iload X204.here hx rfl (hb hby d2_182) rfl (XS.iconst X204.here hx rfl (hb hby d2_184) (XS.isub X204.here hx rfl (hb hby d2_185) rfl k))))) ?_
                show ownEnds _ _ _ _ (T204.setTop (mkF m 186 #[.val (.ref oa), .val (.ref ob), .val (.int (LI3 w0 w1 w2 w3)), .val (.int ((LS3 w0 w1 w2 w3) + w3)), .val (.int (1 : Int32)), .val (.ref b117), .val (.int (3 : Int32))] [(.int (2 : Int32)), (.ref ob), (.int w3)]))
                obtain ⟨cl207, Ar207, q207, S207, N207, H207, G207⟩ := id f128
                have hi207 := inb_of (j := (2 : Int32)) S207 ⟨by decide, by decide⟩
                have hv207 : cl207.slots[((2 : Int32)).toNatClampNeg]? = some (.int w2) := H207.at hi207 rfl
                refine ownEnds.law (fun t k => X204.iaload hx (j := (2 : Int32)) (v := (.int w2)) (by rw [e204]; exact Ar207.1) (State.isArrayOf_alike hZ.alike Ar207.2.1) Ar207.2.2 hi207 hv207 (g := (mkF m 186 #[.val (.ref oa), .val (.ref ob), .val (.int (LI3 w0 w1 w2 w3)), .val (.int ((LS3 w0 w1 w2 w3) + w3)), .val (.int (1 : Int32)), .val (.ref b117), .val (.int (3 : Int32))] [(.int (2 : Int32)), (.ref ob), (.int w3)])) rfl rfl (hb hby d2_186) _ k) ?_
                show ownEnds _ _ _ _ (T204.setTop (mkF m 187 #[.val (.ref oa), .val (.ref ob), .val (.int (LI3 w0 w1 w2 w3)), .val (.int ((LS3 w0 w1 w2 w3) + w3)), .val (.int (1 : Int32)), .val (.ref b117), .val (.int (3 : Int32))] [(.int w2), (.int w3)]))
                have hc187 : ¬ (w3 = w2) := fun q => hN3 ⟨hc174, q⟩
                refine ownEnds.law (fun t => XS.icmpNo X204.here hx rfl (hb hby d2_187) rfl (feq hc187).1) ?_
                exact J190_3 _ _ X204 N126 e204
              · refine ownEnds.law (fun t => XS.icmpYes X204.here hx rfl (pc0 := 174) (pc' := 190) rfl (hb hby d2_174) rfl (feq hc174).2 (by decide) (by decide)) ?_
                exact J190_3 _ _ X204 N126 e204
          · have J190_2 : ∀ (T208 : State) (lc208 : List Loc) (X208 : Stand p l e ({ frames := 2, cells := 6, slots := 40, locals := 60 } : Room) s m #[(.ref oa), (.ref ob)] below meth c T208 lc208 5 21) (N208 : Fr n0 lc208) (e208 : T208.heap = h126) , ownEnds p.tables e below (ownPost s (fun v h L => v = none ∧ Fr n0 L ∧ Keep h0 h [oa] ∧ ∃ (c0 c1 c2 c3 c4 : Addr) (k0 k1 k2 k3 k4 : ClassId) (rs : List Value) (len : Int32), Exa Z h oa "com/example/libreach/libreach/engine/StateLayout" ∧ Fld Z h oa "com/example/libreach/libreach/engine/StateLayout" "widths" "[I" (.ref c0) ∧ Arv Z h c0 k0 .int (4 : Int32) [(.int w0), (.int w1), (.int w2), (.int w3)] (.int (0 : Int32)) ∧ Fld Z h oa "com/example/libreach/libreach/engine/StateLayout" "word" "[I" (.ref c1) ∧ Arv Z h c1 k1 .int (4 : Int32) [(.int (0 : Int32)), (.int (LI1 w0 w1)), (.int (LI2 w0 w1 w2)), (.int (LI3 w0 w1 w2 w3))] (.int (0 : Int32)) ∧ Fld Z h oa "com/example/libreach/libreach/engine/StateLayout" "shift" "[I" (.ref c2) ∧ Arv Z h c2 k2 .int (4 : Int32) [(.int (0 : Int32)), (.int (LS1 w0 w1)), (.int (LS2 w0 w1 w2)), (.int (LS3 w0 w1 w2 w3))] (.int (0 : Int32)) ∧ Fld Z h oa "com/example/libreach/libreach/engine/StateLayout" "largest" "[J" (.ref c3) ∧ Arv Z h c3 k3 .long (4 : Int32) [(.long (LM w0)), (.long (LM w1)), (.long (LM w2)), (.long (LM w3))] (.long (0 : Int64)) ∧ Fld Z h oa "com/example/libreach/libreach/engine/StateLayout" "runs" "[I" (.ref c4) ∧ Arv Z h c4 k4 .int len rs (.int (0 : Int32)) ∧ RunOK w0 w1 w2 w3 rs len) ({ frames := 2, cells := 6, slots := 40, locals := 60 } : Room).cells ({ frames := 2, cells := 6, slots := 40, locals := 60 } : Room).slots) (T208.setTop (mkF m 190 #[.val (.ref oa), .val (.ref ob), .val (.int (LI3 w0 w1 w2 w3)), .val (.int ((LS3 w0 w1 w2 w3) + w3)), .val (.int (1 : Int32)), .val (.ref b117), .val (.int (2 : Int32))] [])) := by
              intro T208 lc208 X208 N208 e208 
              show ownEnds _ _ _ _ (T208.setTop (mkF m 190 #[.val (.ref oa), .val (.ref ob), .val (.int (LI3 w0 w1 w2 w3)), .val (.int ((LS3 w0 w1 w2 w3) + w3)), .val (.int (1 : Int32)), .val (.ref b117), .val (.int (2 : Int32))] []))
              refine ownEnds.law (fun t k => XS.aload X208.here hx rfl (hb hby d2_190) rfl rfl (XS.iload X208.here hx rfl (hb hby d2_192) rfl (XS.iinc X208.here hx rfl (hb hby d2_194) rfl (l' := #[.val (.ref oa), .val (.ref ob), .val (.int (LI3 w0 w1 w2 w3)), .val (.int ((LS3 w0 w1 w2 w3) + w3)), .val (.int (2 : Int32)), .val (.ref b117), .val (.int (2 : Int32))]) rfl (XS.iload X208.here hx rfl (hb hby d2_197) rfl k)))) ?_
              show ownEnds _ _ _ _ (T208.setTop (mkF m 199 #[.val (.ref oa), .val (.ref ob), .val (.int (LI3 w0 w1 w2 w3)), .val (.int ((LS3 w0 w1 w2 w3) + w3)), .val (.int (2 : Int32)), .val (.ref b117), .val (.int (2 : Int32))] [(.int (2 : Int32)), (.int (1 : Int32)), (.ref b117)]))
              obtain ⟨cl209, Ar209, q209, S209, N209, H209, G209⟩ := id V126
              obtain ⟨T209, h209, X209, e209, W209, st209⟩ := stI X208 hx hZ e208 Ar209 (j := (1 : Int32)) (inb_of S209 ⟨by decide, by decide⟩) (g := (mkF m 199 #[.val (.ref oa), .val (.ref ob), .val (.int (LI3 w0 w1 w2 w3)), .val (.int ((LS3 w0 w1 w2 w3) + w3)), .val (.int (2 : Int32)), .val (.ref b117), .val (.int (2 : Int32))] [(.int (2 : Int32)), (.int (1 : Int32)), (.ref b117)])) rfl rfl (hb hby d2_199)
              refine ownEnds.law st209 ?_
              have V209 : Arv Z h209 b117 k117 .int (5 : Int32) [(.int (0 : Int32)), (.int (2 : Int32)), (.int (0 : Int32)), (.int (0 : Int32)), (.int (0 : Int32))] (.int (0 : Int32)) := Arv.set Ar209 q209 S209 N209 H209 G209 rfl W209 1 rfl (Nat.le_of_ble_eq_true rfl)
              have N209 := Fr.snoc X209 N208 g_b117
              have KK209 : Keep h0 h209 [oa] := (KK126).wr W209 (Or.inr sz_b117)
              have Z209 : n0 ≤ h209.size := by rw [W209.size]; exact Z126
              show ownEnds _ _ _ _ (T209.setTop (mkF m 200 #[.val (.ref oa), .val (.ref ob), .val (.int (LI3 w0 w1 w2 w3)), .val (.int ((LS3 w0 w1 w2 w3) + w3)), .val (.int (2 : Int32)), .val (.ref b117), .val (.int (2 : Int32))] []))
              refine ownEnds.law (fun t k => XS.iinc X209.here hx rfl (hb hby d2_200) rfl (l' := #[.val (.ref oa), .val (.ref ob), .val (.int (LI3 w0 w1 w2 w3)), .val (.int ((LS3 w0 w1 w2 w3) + w3)), .val (.int (2 : Int32)), .val (.ref b117), .val (.int (3 : Int32))]) rfl (XS.goto X209.here hx rfl (pc0 := 203) (pc' := 146) rfl (hb hby d2_203) (by decide) (by decide) (XS.iload X209.here hx rfl (hb hby d2_146) rfl (XS.aloadN X209.here hx rfl (hb hby d2_148) rfl rfl k)))) ?_
              show ownEnds _ _ _ _ (T209.setTop (mkF m 149 #[.val (.ref oa), .val (.ref ob), .val (.int (LI3 w0 w1 w2 w3)), .val (.int ((LS3 w0 w1 w2 w3) + w3)), .val (.int (2 : Int32)), .val (.ref b117), .val (.int (3 : Int32))] [(.ref ob), (.int (3 : Int32))]))
              have f211 := (Arv.other f128 W209 ne_ob_b117)
              obtain ⟨cl210, Ar210, -, S210, N210, -, -⟩ := id f211
              refine ownEnds.law (X209.arraylength hx (by rw [e209]; exact Ar210.1) (State.isArrayOf_alike hZ.alike Ar210.2.1) (g := (mkF m 149 #[.val (.ref oa), .val (.ref ob), .val (.int (LI3 w0 w1 w2 w3)), .val (.int ((LS3 w0 w1 w2 w3) + w3)), .val (.int (2 : Int32)), .val (.ref b117), .val (.int (3 : Int32))] [(.ref ob), (.int (3 : Int32))])) rfl rfl (hb hby d2_149)) ?_
              rw [len_of S210 N210]
              show ownEnds _ _ _ _ (T209.setTop (mkF m 150 #[.val (.ref oa), .val (.ref ob), .val (.int (LI3 w0 w1 w2 w3)), .val (.int ((LS3 w0 w1 w2 w3) + w3)), .val (.int (2 : Int32)), .val (.ref b117), .val (.int (3 : Int32))] [(.int (4 : Int32)), (.int (3 : Int32))]))
              refine ownEnds.law (fun t => XS.icmpNo X209.here hx rfl (hb hby d2_150) rfl (tlt (by decide : (3 : Int32) < (4 : Int32))).2.1) ?_
              show ownEnds _ _ _ _ (T209.setTop (mkF m 153 #[.val (.ref oa), .val (.ref ob), .val (.int (LI3 w0 w1 w2 w3)), .val (.int ((LS3 w0 w1 w2 w3) + w3)), .val (.int (2 : Int32)), .val (.ref b117), .val (.int (3 : Int32))] []))
              refine ownEnds.law (fun t k => XS.iload X209.here hx rfl (hb hby d2_153) rfl k) ?_
              show ownEnds _ _ _ _ (T209.setTop (mkF m 155 #[.val (.ref oa), .val (.ref ob), .val (.int (LI3 w0 w1 w2 w3)), .val (.int ((LS3 w0 w1 w2 w3) + w3)), .val (.int (2 : Int32)), .val (.ref b117), .val (.int (3 : Int32))] [(.int (3 : Int32))]))
              refine ownEnds.law (fun t => XS.ifNo X209.here hx rfl (hb hby d2_155) rfl ((if0 _ _).trans (feq (by decide : ¬ ((3 : Int32) = (0 : Int32)))).1)) ?_
              by_cases hN3 : N3 w0 w1 w2 w3
              · show ownEnds _ _ _ _ (T209.setTop (mkF m 158 #[.val (.ref oa), .val (.ref ob), .val (.int (LI3 w0 w1 w2 w3)), .val (.int ((LS3 w0 w1 w2 w3) + w3)), .val (.int (2 : Int32)), .val (.ref b117), .val (.int (3 : Int32))] []))
                refine ownEnds.law (fun t k => XS.aloadN X209.here hx rfl (hb hby d2_158) rfl rfl k) ?_
                show ownEnds _ _ _ _ (T209.setTop (mkF m 159 #[.val (.ref oa), .val (.ref ob), .val (.int (LI3 w0 w1 w2 w3)), .val (.int ((LS3 w0 w1 w2 w3) + w3)), .val (.int (2 : Int32)), .val (.ref b117), .val (.int (3 : Int32))] [(.ref oa)]))
                have f212 := (Fld.other W209 f129 (Or.inl ne_oa_b117))
                obtain ⟨T213, X213, e213, st213⟩ := getF X209 hx hZ hown (host := "") (Or.inl (wd_25 hw)) Via.refl e209 f212 (g := (mkF m 159 #[.val (.ref oa), .val (.ref ob), .val (.int (LI3 w0 w1 w2 w3)), .val (.int ((LS3 w0 w1 w2 w3) + w3)), .val (.int (2 : Int32)), .val (.ref b117), .val (.int (3 : Int32))] [(.ref oa)])) rfl rfl (hb hby d2_159)
                refine ownEnds.law st213 ?_
                show ownEnds _ _ _ _ (T213.setTop (mkF m 162 #[.val (.ref oa), .val (.ref ob), .val (.int (LI3 w0 w1 w2 w3)), .val (.int ((LS3 w0 w1 w2 w3) + w3)), .val (.int (2 : Int32)), .val (.ref b117), .val (.int (3 : Int32))] [(.ref b9)]))
                refine ownEnds.law (fun t k => XS.iload X213.here hx rfl (hb hby d2_162) rfl k) ?_
                show ownEnds _ _ _ _ (T213.setTop (mkF m 164 #[.val (.ref oa), .val (.ref ob), .val (.int (LI3 w0 w1 w2 w3)), .val (.int ((LS3 w0 w1 w2 w3) + w3)), .val (.int (2 : Int32)), .val (.ref b117), .val (.int (3 : Int32))] [(.int (3 : Int32)), (.ref b9)]))
                have f215 := (Arv.other f132 W209 ne_b9_b117)
                obtain ⟨cl214, Ar214, q214, S214, N214, H214, G214⟩ := id f215
                have hi214 := inb_of (j := (3 : Int32)) S214 ⟨by decide, by decide⟩
                have hv214 : cl214.slots[((3 : Int32)).toNatClampNeg]? = some (.int (LI3 w0 w1 w2 w3)) := H214.at hi214 rfl
                refine ownEnds.law (fun t k => X213.iaload hx (j := (3 : Int32)) (v := (.int (LI3 w0 w1 w2 w3))) (by rw [e213]; exact Ar214.1) (State.isArrayOf_alike hZ.alike Ar214.2.1) Ar214.2.2 hi214 hv214 (g := (mkF m 164 #[.val (.ref oa), .val (.ref ob), .val (.int (LI3 w0 w1 w2 w3)), .val (.int ((LS3 w0 w1 w2 w3) + w3)), .val (.int (2 : Int32)), .val (.ref b117), .val (.int (3 : Int32))] [(.int (3 : Int32)), (.ref b9)])) rfl rfl (hb hby d2_164) _ (XS.aloadN X213.here hx rfl (hb hby d2_165) rfl rfl k)) ?_
                show ownEnds _ _ _ _ (T213.setTop (mkF m 166 #[.val (.ref oa), .val (.ref ob), .val (.int (LI3 w0 w1 w2 w3)), .val (.int ((LS3 w0 w1 w2 w3) + w3)), .val (.int (2 : Int32)), .val (.ref b117), .val (.int (3 : Int32))] [(.ref oa), (.int (LI3 w0 w1 w2 w3))]))
                obtain ⟨T216, X216, e216, st216⟩ := getF X213 hx hZ hown (host := "") (Or.inl (wd_25 hw)) Via.refl e213 f212 (g := (mkF m 166 #[.val (.ref oa), .val (.ref ob), .val (.int (LI3 w0 w1 w2 w3)), .val (.int ((LS3 w0 w1 w2 w3) + w3)), .val (.int (2 : Int32)), .val (.ref b117), .val (.int (3 : Int32))] [(.ref oa), (.int (LI3 w0 w1 w2 w3))])) rfl rfl (hb hby d2_166)
                refine ownEnds.law st216 ?_
                show ownEnds _ _ _ _ (T216.setTop (mkF m 169 #[.val (.ref oa), .val (.ref ob), .val (.int (LI3 w0 w1 w2 w3)), .val (.int ((LS3 w0 w1 w2 w3) + w3)), .val (.int (2 : Int32)), .val (.ref b117), .val (.int (3 : Int32))] [(.ref b9), (.int (LI3 w0 w1 w2 w3))]))
                refine ownEnds.law (fun t k => XS.iload X216.here hx rfl (hb hby d2_169) rfl (XS.iconst X216.here hx rfl (hb hby d2_171) (XS.isub X216.here hx rfl (hb hby d2_172) rfl k))) ?_
                show ownEnds _ _ _ _ (T216.setTop (mkF m 173 #[.val (.ref oa), .val (.ref ob), .val (.int (LI3 w0 w1 w2 w3)), .val (.int ((LS3 w0 w1 w2 w3) + w3)), .val (.int (2 : Int32)), .val (.ref b117), .val (.int (3 : Int32))] [(.int (2 : Int32)), (.ref b9), (.int (LI3 w0 w1 w2 w3))]))
                obtain ⟨cl217, Ar217, q217, S217, N217, H217, G217⟩ := id f215
                have hi217 := inb_of (j := (2 : Int32)) S217 ⟨by decide, by decide⟩
                have hv217 : cl217.slots[((2 : Int32)).toNatClampNeg]? = some (.int (LI2 w0 w1 w2)) := H217.at hi217 rfl
                refine ownEnds.law (fun t k => X216.iaload hx (j := (2 : Int32)) (v := (.int (LI2 w0 w1 w2))) (by rw [e216]; exact Ar217.1) (State.isArrayOf_alike hZ.alike Ar217.2.1) Ar217.2.2 hi217 hv217 (g := (mkF m 173 #[.val (.ref oa), .val (.ref ob), .val (.int (LI3 w0 w1 w2 w3)), .val (.int ((LS3 w0 w1 w2 w3) + w3)), .val (.int (2 : Int32)), .val (.ref b117), .val (.int (3 : Int32))] [(.int (2 : Int32)), (.ref b9), (.int (LI3 w0 w1 w2 w3))])) rfl rfl (hb hby d2_173) _ k) ?_
                show ownEnds _ _ _ _ (T216.setTop (mkF m 174 #[.val (.ref oa), .val (.ref ob), .val (.int (LI3 w0 w1 w2 w3)), .val (.int ((LS3 w0 w1 w2 w3) + w3)), .val (.int (2 : Int32)), .val (.ref b117), .val (.int (3 : Int32))] [(.int (LI2 w0 w1 w2)), (.int (LI3 w0 w1 w2 w3))]))
                have hc174 : (LI3 w0 w1 w2 w3) = (LI2 w0 w1 w2) := hN3.1
                refine ownEnds.law (fun t => XS.icmpNo X216.here hx rfl (hb hby d2_174) rfl (teq hc174).2) ?_
                show ownEnds _ _ _ _ (T216.setTop (mkF m 177 #[.val (.ref oa), .val (.ref ob), .val (.int (LI3 w0 w1 w2 w3)), .val (.int ((LS3 w0 w1 w2 w3) + w3)), .val (.int (2 : Int32)), .val (.ref b117), .val (.int (3 : Int32))] []))
                refine ownEnds.law (fun t k => XS.aloadN X216.here hx rfl (hb hby d2_177) rfl rfl (XS.iload X216.here hx rfl (hb hby d2_178) rfl k)) ?_
                show ownEnds _ _ _ _ (T216.setTop (mkF m 180 #[.val (.ref oa), .val (.ref ob), .val (.int (LI3 w0 w1 w2 w3)), .val (.int ((LS3 w0 w1 w2 w3) + w3)), .val (.int (2 : Int32)), .val (.ref b117), .val (.int (3 : Int32))] [(.int (3 : Int32)), (.ref ob)]))
                obtain ⟨cl218, Ar218, q218, S218, N218, H218, G218⟩ := id f211
                have hi218 := inb_of (j := (3 : Int32)) S218 ⟨by decide, by decide⟩
                have hv218 : cl218.slots[((3 : Int32)).toNatClampNeg]? = some (.int w3) := H218.at hi218 rfl
                refine ownEnds.law (fun t k => X216.iaload hx (j := (3 : Int32)) (v := (.int w3)) (by rw [e216]; exact Ar218.1) (State.isArrayOf_alike hZ.alike Ar218.2.1) Ar218.2.2 hi218 hv218 (g := (mkF m 180 #[.val (.ref oa), .val (.ref ob), .val (.int (LI3 w0 w1 w2 w3)), .val (.int ((LS3 w0 w1 w2 w3) + w3)), .val (.int (2 : Int32)), .val (.ref b117), .val (.int (3 : Int32))] [(.int (3 : Int32)), (.ref ob)])) rfl rfl (hb hby d2_180) _ (XS.aloadN X216.here hx rfl (hb hby d2_181) rfl rfl (XS.iload X216.here hx rfl (hb hby d2_182) rfl (XS.iconst X216.here hx rfl (hb hby d2_184) (XS.isub X216.here hx rfl (hb hby d2_185) rfl k))))) ?_
                show ownEnds _ _ _ _ (T216.setTop (mkF m 186 #[.val (.ref oa), .val (.ref ob), .val (.int (LI3 w0 w1 w2 w3)), .val (.int ((LS3 w0 w1 w2 w3) + w3)), .val (.int (2 : Int32)), .val (.ref b117), .val (.int (3 : Int32))] [(.int (2 : Int32)), (.ref ob), (.int w3)]))
                obtain ⟨cl219, Ar219, q219, S219, N219, H219, G219⟩ := id f211
                have hi219 := inb_of (j := (2 : Int32)) S219 ⟨by decide, by decide⟩
                have hv219 : cl219.slots[((2 : Int32)).toNatClampNeg]? = some (.int w2) := H219.at hi219 rfl
                refine ownEnds.law (fun t k => X216.iaload hx (j := (2 : Int32)) (v := (.int w2)) (by rw [e216]; exact Ar219.1) (State.isArrayOf_alike hZ.alike Ar219.2.1) Ar219.2.2 hi219 hv219 (g := (mkF m 186 #[.val (.ref oa), .val (.ref ob), .val (.int (LI3 w0 w1 w2 w3)), .val (.int ((LS3 w0 w1 w2 w3) + w3)), .val (.int (2 : Int32)), .val (.ref b117), .val (.int (3 : Int32))] [(.int (2 : Int32)), (.ref ob), (.int w3)])) rfl rfl (hb hby d2_186) _ k) ?_
                show ownEnds _ _ _ _ (T216.setTop (mkF m 187 #[.val (.ref oa), .val (.ref ob), .val (.int (LI3 w0 w1 w2 w3)), .val (.int ((LS3 w0 w1 w2 w3) + w3)), .val (.int (2 : Int32)), .val (.ref b117), .val (.int (3 : Int32))] [(.int w2), (.int w3)]))
                have hc187 : w3 = w2 := hN3.2
                refine ownEnds.law (fun t => XS.icmpYes X216.here hx rfl (pc0 := 187) (pc' := 200) rfl (hb hby d2_187) rfl (teq hc187).1 (by decide) (by decide)) ?_
                show ownEnds _ _ _ _ (T216.setTop (mkF m 200 #[.val (.ref oa), .val (.ref ob), .val (.int (LI3 w0 w1 w2 w3)), .val (.int ((LS3 w0 w1 w2 w3) + w3)), .val (.int (2 : Int32)), .val (.ref b117), .val (.int (3 : Int32))] []))
                refine ownEnds.law (fun t k => XS.iinc X216.here hx rfl (hb hby d2_200) rfl (l' := #[.val (.ref oa), .val (.ref ob), .val (.int (LI3 w0 w1 w2 w3)), .val (.int ((LS3 w0 w1 w2 w3) + w3)), .val (.int (2 : Int32)), .val (.ref b117), .val (.int (4 : Int32))]) rfl (XS.goto X216.here hx rfl (pc0 := 203) (pc' := 146) rfl (hb hby d2_203) (by decide) (by decide) (XS.iload X216.here hx rfl (hb hby d2_146) rfl (XS.aloadN X216.here hx rfl (hb hby d2_148) rfl rfl k)))) ?_
                show ownEnds _ _ _ _ (T216.setTop (mkF m 149 #[.val (.ref oa), .val (.ref ob), .val (.int (LI3 w0 w1 w2 w3)), .val (.int ((LS3 w0 w1 w2 w3) + w3)), .val (.int (2 : Int32)), .val (.ref b117), .val (.int (4 : Int32))] [(.ref ob), (.int (4 : Int32))]))
                obtain ⟨cl220, Ar220, -, S220, N220, -, -⟩ := id f211
                refine ownEnds.law (X216.arraylength hx (by rw [e216]; exact Ar220.1) (State.isArrayOf_alike hZ.alike Ar220.2.1) (g := (mkF m 149 #[.val (.ref oa), .val (.ref ob), .val (.int (LI3 w0 w1 w2 w3)), .val (.int ((LS3 w0 w1 w2 w3) + w3)), .val (.int (2 : Int32)), .val (.ref b117), .val (.int (4 : Int32))] [(.ref ob), (.int (4 : Int32))])) rfl rfl (hb hby d2_149)) ?_
                rw [len_of S220 N220]
                show ownEnds _ _ _ _ (T216.setTop (mkF m 150 #[.val (.ref oa), .val (.ref ob), .val (.int (LI3 w0 w1 w2 w3)), .val (.int ((LS3 w0 w1 w2 w3) + w3)), .val (.int (2 : Int32)), .val (.ref b117), .val (.int (4 : Int32))] [(.int (4 : Int32)), (.int (4 : Int32))]))
                refine ownEnds.law (fun t => XS.icmpYes X216.here hx rfl (pc0 := 150) (pc' := 206) rfl (hb hby d2_150) rfl (flt (Int32.lt_irrefl)).2.1 (by decide) (by decide)) ?_
                show ownEnds _ _ _ _ (T216.setTop (mkF m 206 #[.val (.ref oa), .val (.ref ob), .val (.int (LI3 w0 w1 w2 w3)), .val (.int ((LS3 w0 w1 w2 w3) + w3)), .val (.int (2 : Int32)), .val (.ref b117), .val (.int (4 : Int32))] []))
                refine ownEnds.law (fun t k => XS.aload X216.here hx rfl (hb hby d2_206) rfl rfl (XS.iload X216.here hx rfl (hb hby d2_208) rfl (XS.iinc X216.here hx rfl (hb hby d2_210) rfl (l' := #[.val (.ref oa), .val (.ref ob), .val (.int (LI3 w0 w1 w2 w3)), .val (.int ((LS3 w0 w1 w2 w3) + w3)), .val (.int (3 : Int32)), .val (.ref b117), .val (.int (4 : Int32))]) rfl (XS.aloadN X216.here hx rfl (hb hby d2_213) rfl rfl k)))) ?_
                show ownEnds _ _ _ _ (T216.setTop (mkF m 214 #[.val (.ref oa), .val (.ref ob), .val (.int (LI3 w0 w1 w2 w3)), .val (.int ((LS3 w0 w1 w2 w3) + w3)), .val (.int (3 : Int32)), .val (.ref b117), .val (.int (4 : Int32))] [(.ref ob), (.int (2 : Int32)), (.ref b117)]))
                obtain ⟨cl221, Ar221, -, S221, N221, -, -⟩ := id f211
                refine ownEnds.law (X216.arraylength hx (by rw [e216]; exact Ar221.1) (State.isArrayOf_alike hZ.alike Ar221.2.1) (g := (mkF m 214 #[.val (.ref oa), .val (.ref ob), .val (.int (LI3 w0 w1 w2 w3)), .val (.int ((LS3 w0 w1 w2 w3) + w3)), .val (.int (3 : Int32)), .val (.ref b117), .val (.int (4 : Int32))] [(.ref ob), (.int (2 : Int32)), (.ref b117)])) rfl rfl (hb hby d2_214)) ?_
                rw [len_of S221 N221]
                show ownEnds _ _ _ _ (T216.setTop (mkF m 215 #[.val (.ref oa), .val (.ref ob), .val (.int (LI3 w0 w1 w2 w3)), .val (.int ((LS3 w0 w1 w2 w3) + w3)), .val (.int (3 : Int32)), .val (.ref b117), .val (.int (4 : Int32))] [(.int (4 : Int32)), (.int (2 : Int32)), (.ref b117)]))
                obtain ⟨cl222, Ar222, q222, S222, N222, H222, G222⟩ := id V209
                obtain ⟨T222, h222, X222, e222, W222, st222⟩ := stI X216 hx hZ e216 Ar222 (j := (2 : Int32)) (inb_of S222 ⟨by decide, by decide⟩) (g := (mkF m 215 #[.val (.ref oa), .val (.ref ob), .val (.int (LI3 w0 w1 w2 w3)), .val (.int ((LS3 w0 w1 w2 w3) + w3)), .val (.int (3 : Int32)), .val (.ref b117), .val (.int (4 : Int32))] [(.int (4 : Int32)), (.int (2 : Int32)), (.ref b117)])) rfl rfl (hb hby d2_215)
                refine ownEnds.law st222 ?_
                have V222 : Arv Z h222 b117 k117 .int (5 : Int32) [(.int (0 : Int32)), (.int (2 : Int32)), (.int (4 : Int32)), (.int (0 : Int32)), (.int (0 : Int32))] (.int (0 : Int32)) := Arv.set Ar222 q222 S222 N222 H222 G222 rfl W222 2 rfl (Nat.le_of_ble_eq_true rfl)
                have N222 := Fr.snoc X222 N209 g_b117
                have KK222 : Keep h0 h222 [oa] := (KK209).wr W222 (Or.inr sz_b117)
                have Z222 : n0 ≤ h222.size := by rw [W222.size]; exact Z209
                show ownEnds _ _ _ _ (T222.setTop (mkF m 216 #[.val (.ref oa), .val (.ref ob), .val (.int (LI3 w0 w1 w2 w3)), .val (.int ((LS3 w0 w1 w2 w3) + w3)), .val (.int (3 : Int32)), .val (.ref b117), .val (.int (4 : Int32))] []))
                refine ownEnds.law (fun t k => XS.aloadN X222.here hx rfl (hb hby d2_216) rfl rfl (XS.aload X222.here hx rfl (hb hby d2_217) rfl rfl (XS.iload X222.here hx rfl (hb hby d2_219) rfl k))) ?_
                show ownEnds _ _ _ _ (T222.setTop (mkF m 221 #[.val (.ref oa), .val (.ref ob), .val (.int (LI3 w0 w1 w2 w3)), .val (.int ((LS3 w0 w1 w2 w3) + w3)), .val (.int (3 : Int32)), .val (.ref b117), .val (.int (4 : Int32))] [(.int (3 : Int32)), (.ref b117), (.ref oa)]))
                have f224 := (Exa.wr W222 (Exa.wr W209 (Exa.wr W126 Ax117)))
                obtain ⟨v223, T223, L223, X223, hQ223, st223⟩ := ownCallS X222 hx hZ hown (y := (⟨"java/util/Arrays", "copyOf", "([II)[I"⟩ : MethodName)) (as := [(.ref b117), (.int (3 : Int32))]) (wd_35 hw) (wd_36 hw) (wd_37 hw) (wd_38 hw) (by decide) (rm4_3 l Z a0 hw b117 k117 (.int (0 : Int32)) (.int (2 : Int32)) (.int (4 : Int32)) (.int (0 : Int32)) (.int (0 : Int32)) h222 n0 Z222 V222 f224) e222 1 (by decide) (by decide) (by decide) (by decide) (g := (mkF m 221 #[.val (.ref oa), .val (.ref ob), .val (.int (LI3 w0 w1 w2 w3)), .val (.int ((LS3 w0 w1 w2 w3) + w3)), .val (.int (3 : Int32)), .val (.ref b117), .val (.int (4 : Int32))] [(.int (3 : Int32)), (.ref b117), (.ref oa)])) rfl (by rw [hml]; rfl) (rest := [(.ref oa)]) pd_1 rfl rfl (by show 2 * 0 + _ ≤ _; exact Nat.le_of_eq rfl) (hb hby d2_221)
                obtain ⟨b223, kb223, rfl, Nq223, Kq223, g_b223, zq223, Vq223⟩ := hQ223
                have f225 := (Exa.wr W222 (Exa.wr W209 (Exa.wr W126 (Exa.ext E117 f118))))
                have ne_oa_b223 : oa ≠ b223 := Nat.ne_of_lt (Nat.lt_of_lt_of_le f225.lt zq223)
                have f226 := (Exa.wr W222 (Exa.wr W209 (Exa.wr W126 (Exa.ext E117 f119))))
                have ne_ob_b223 : ob ≠ b223 := Nat.ne_of_lt (Nat.lt_of_lt_of_le f226.lt zq223)
                have f227 := (Arv.other (Arv.other (Arv.other (Arv.ext f120 E117) W126 ne_b2_b117) W209 ne_b2_b117) W222 ne_b2_b117)
                have ne_b2_b223 : b2 ≠ b223 := Nat.ne_of_lt (Nat.lt_of_lt_of_le f227.lt zq223)
                have f228 := (Arv.other f215 W222 ne_b9_b117)
                have ne_b9_b223 : b9 ≠ b223 := Nat.ne_of_lt (Nat.lt_of_lt_of_le f228.lt zq223)
                have f229 := (Arv.other (Arv.other (Arv.other (Arv.ext f122 E117) W126 ne_b18_b117) W209 ne_b18_b117) W222 ne_b18_b117)
                have ne_b18_b223 : b18 ≠ b223 := Nat.ne_of_lt (Nat.lt_of_lt_of_le f229.lt zq223)
                have f230 := (Arv.other (Arv.other (Arv.other (Arv.ext f123 E117) W126 ne_b28_b117) W209 ne_b28_b117) W222 ne_b28_b117)
                have ne_b28_b223 : b28 ≠ b223 := Nat.ne_of_lt (Nat.lt_of_lt_of_le f230.lt zq223)
                have ne_b117_b223 : b117 ≠ b223 := Nat.ne_of_lt (Nat.lt_of_lt_of_le V222.lt zq223)
                have sz_b223 : h0.size ≤ b223 := Nat.le_trans (KK222).1 zq223
                have N223 := Fr.app N222 Nq223
                have KK223 : Keep h0 T223.heap [oa] := Keep.trans (KK222) Kq223 all0
                have Z223 : n0 ≤ T223.heap.size := Nat.le_trans Z222 Kq223.1
                refine ownEnds.law st223 ?_
                show ownEnds _ _ _ _ (T223.setTop (mkF m 224 #[.val (.ref oa), .val (.ref ob), .val (.int (LI3 w0 w1 w2 w3)), .val (.int ((LS3 w0 w1 w2 w3) + w3)), .val (.int (3 : Int32)), .val (.ref b117), .val (.int (4 : Int32))] [(.ref b223), (.ref oa)]))
                have f231 := (Exa.keep f225 Kq223)
                have f232 := (Fld.keep (Fld.other W222 (Fld.other W209 (Fld.other W126 (Fld.ext E117 (Fld.other W114 (Fld.other W106 (Fld.other W100 (Fld.other W96 (Fld.other W88 (Fld.other W82 (Fld.other W78 (Fld.other W70 (Fld.other W64 (Fld.other W60 (Fld.other W52 (Fld.other W46 (Fld.other W42 (Fld.other W36 (Fld.ext E28 (Fld.other W25 (Fld.ext E18 (Fld.other W15 (Fld.ext E9 (Fld.other W6 (Fld.ext E2 F_oa_runs) (Or.inr (slot_ne (Or.inr (wd_42 hw)) (Or.inr (wd_24 hw)) (by decide) (t := (.array .int)) (t' := (.array .int)) (by decide) (by decide))))) (Or.inr (slot_ne (Or.inr (wd_42 hw)) (Or.inr (wd_26 hw)) (by decide) (t := (.array .int)) (t' := (.array .int)) (by decide) (by decide))))) (Or.inr (slot_ne (Or.inr (wd_42 hw)) (Or.inr (wd_28 hw)) (by decide) (t := (.array .int)) (t' := (.array .int)) (by decide) (by decide))))) (Or.inr (slot_ne (Or.inr (wd_42 hw)) (Or.inr (wd_31 hw)) (by decide) (t := (.array .int)) (t' := (.array .long)) (by decide) (by decide)))) (Or.inl ne_oa_b9)) (Or.inl ne_oa_b18)) (Or.inl ne_oa_b28)) (Or.inl ne_oa_b9)) (Or.inl ne_oa_b18)) (Or.inl ne_oa_b28)) (Or.inl ne_oa_b9)) (Or.inl ne_oa_b18)) (Or.inl ne_oa_b28)) (Or.inl ne_oa_b9)) (Or.inl ne_oa_b18)) (Or.inl ne_oa_b28)) (Or.inr (slot_ne (Or.inr (wd_42 hw)) (Or.inr (wd_34 hw)) (by decide) (t := (.array .int)) (t' := .int) (by decide) (by decide))))) (Or.inl ne_oa_b117)) (Or.inl ne_oa_b117)) (Or.inl ne_oa_b117)) Kq223 nin0)
                obtain ⟨T233, h233, X233, e233, W233, st233⟩ := putF X223 hx hZ hown (host := "") (Or.inl (wd_41 hw)) Via.refl rfl f232 f231 (Or.inr ⟨(wd_42 hw), rfl, hnm⟩) (wd_5 hw) (ty := (.array .int)) (by decide) rfl rfl (g := (mkF m 224 #[.val (.ref oa), .val (.ref ob), .val (.int (LI3 w0 w1 w2 w3)), .val (.int ((LS3 w0 w1 w2 w3) + w3)), .val (.int (3 : Int32)), .val (.ref b117), .val (.int (4 : Int32))] [(.ref b223), (.ref oa)])) rfl rfl (hb hby d2_224)
                refine ownEnds.law st233 ?_
                have N233 := Fr.snoc X233 N223 g_oa
                have KK233 : Keep h0 h233 [oa] := (KK223).wr W233 (Or.inl (List.mem_of_getElem? (i := 0) rfl))
                have Z233 : n0 ≤ h233.size := by rw [W233.size]; exact Z223
                have Fw233 : Fld Z h233 oa "com/example/libreach/libreach/engine/StateLayout" "runs" "[I" (.ref b223) := Fld.same W233 f232
                show ownEnds _ _ _ _ (T233.setTop (mkF m 227 #[.val (.ref oa), .val (.ref ob), .val (.int (LI3 w0 w1 w2 w3)), .val (.int ((LS3 w0 w1 w2 w3) + w3)), .val (.int (3 : Int32)), .val (.ref b117), .val (.int (4 : Int32))] []))
                refine ownRetV X233 hlk hx hret (hb hby d2_227) (by decide) (by decide) ?_
                have f234 := (Exa.wr W233 f231)
                have f235 := (Fld.other W233 (Fld.keep (Fld.other W222 (Fld.other W209 (Fld.other W126 (Fld.ext E117 (Fld.other W114 (Fld.other W106 (Fld.other W100 (Fld.other W96 (Fld.other W88 (Fld.other W82 (Fld.other W78 (Fld.other W70 (Fld.other W64 (Fld.other W60 (Fld.other W52 (Fld.other W46 (Fld.other W42 (Fld.other W36 (Fld.ext E28 (Fld.other W25 (Fld.ext E18 (Fld.other W15 (Fld.ext E9 Fw6) (Or.inr (slot_ne (Or.inr (wd_24 hw)) (Or.inr (wd_26 hw)) (by decide) (t := (.array .int)) (t' := (.array .int)) (by decide) (by decide))))) (Or.inr (slot_ne (Or.inr (wd_24 hw)) (Or.inr (wd_28 hw)) (by decide) (t := (.array .int)) (t' := (.array .int)) (by decide) (by decide))))) (Or.inr (slot_ne (Or.inr (wd_24 hw)) (Or.inr (wd_31 hw)) (by decide) (t := (.array .int)) (t' := (.array .long)) (by decide) (by decide)))) (Or.inl ne_oa_b9)) (Or.inl ne_oa_b18)) (Or.inl ne_oa_b28)) (Or.inl ne_oa_b9)) (Or.inl ne_oa_b18)) (Or.inl ne_oa_b28)) (Or.inl ne_oa_b9)) (Or.inl ne_oa_b18)) (Or.inl ne_oa_b28)) (Or.inl ne_oa_b9)) (Or.inl ne_oa_b18)) (Or.inl ne_oa_b28)) (Or.inr (slot_ne (Or.inr (wd_24 hw)) (Or.inr (wd_34 hw)) (by decide) (t := (.array .int)) (t' := .int) (by decide) (by decide))))) (Or.inl ne_oa_b117)) (Or.inl ne_oa_b117)) (Or.inl ne_oa_b117)) Kq223 nin0) (Or.inr (slot_ne (Or.inr (wd_24 hw)) (Or.inr (wd_42 hw)) (by decide) (t := (.array .int)) (t' := (.array .int)) (by decide) (by decide))))
                have f236 := (Arv.other (Arv.keep f227 Kq223 nin0) W233 (Ne.symm ne_oa_b2))
                have f237 := (Fld.other W233 (Fld.keep (Fld.other W222 f212 (Or.inl ne_oa_b117)) Kq223 nin0) (Or.inr (slot_ne (Or.inr (wd_26 hw)) (Or.inr (wd_42 hw)) (by decide) (t := (.array .int)) (t' := (.array .int)) (by decide) (by decide))))
                have f238 := (Arv.other (Arv.keep f228 Kq223 nin0) W233 (Ne.symm ne_oa_b9))
                have f239 := (Fld.other W233 (Fld.keep (Fld.other W222 (Fld.other W209 (Fld.other W126 (Fld.ext E117 (Fld.other W114 (Fld.other W106 (Fld.other W100 f98 (Or.inl ne_oa_b18)) (Or.inl ne_oa_b28)) (Or.inr (slot_ne (Or.inr (wd_28 hw)) (Or.inr (wd_34 hw)) (by decide) (t := (.array .int)) (t' := .int) (by decide) (by decide))))) (Or.inl ne_oa_b117)) (Or.inl ne_oa_b117)) (Or.inl ne_oa_b117)) Kq223 nin0) (Or.inr (slot_ne (Or.inr (wd_28 hw)) (Or.inr (wd_42 hw)) (by decide) (t := (.array .int)) (t' := (.array .int)) (by decide) (by decide))))
                have f240 := (Arv.other (Arv.keep f229 Kq223 nin0) W233 (Ne.symm ne_oa_b18))
                have f241 := (Fld.other W233 (Fld.keep (Fld.other W222 (Fld.other W209 (Fld.other W126 (Fld.ext E117 (Fld.other W114 (Fld.other W106 f102 (Or.inl ne_oa_b28)) (Or.inr (slot_ne (Or.inr (wd_31 hw)) (Or.inr (wd_34 hw)) (by decide) (t := (.array .long)) (t' := .int) (by decide) (by decide))))) (Or.inl ne_oa_b117)) (Or.inl ne_oa_b117)) (Or.inl ne_oa_b117)) Kq223 nin0) (Or.inr (slot_ne (Or.inr (wd_31 hw)) (Or.inr (wd_42 hw)) (by decide) (t := (.array .long)) (t' := (.array .int)) (by decide) (by decide))))
                have f242 := (Arv.other (Arv.keep f230 Kq223 nin0) W233 (Ne.symm ne_oa_b28))
                have f243 := (Arv.other Vq223 W233 (Ne.symm ne_oa_b223))
                rw [e233]
                have hok : RunOK w0 w1 w2 w3 [(.int (0 : Int32)), (.int (2 : Int32)), (.int (4 : Int32))] (3 : Int32) := own_run101 hN1 hN2 hN3
                exact ⟨rfl, N233, KK233, b2, b9, b18, b28, b223, k_ob, k9, k18, k28, kb223, [(.int (0 : Int32)), (.int (2 : Int32)), (.int (4 : Int32))], (3 : Int32), f234, f235, f236, f237, f238, f239, f240, f241, f242, Fw233, f243, hok⟩
              · have J190_3 : ∀ (T244 : State) (lc244 : List Loc) (X244 : Stand p l e ({ frames := 2, cells := 6, slots := 40, locals := 60 } : Room) s m #[(.ref oa), (.ref ob)] below meth c T244 lc244 5 21) (N244 : Fr n0 lc244) (e244 : T244.heap = h209) , ownEnds p.tables e below (ownPost s (fun v h L => v = none ∧ Fr n0 L ∧ Keep h0 h [oa] ∧ ∃ (c0 c1 c2 c3 c4 : Addr) (k0 k1 k2 k3 k4 : ClassId) (rs : List Value) (len : Int32), Exa Z h oa "com/example/libreach/libreach/engine/StateLayout" ∧ Fld Z h oa "com/example/libreach/libreach/engine/StateLayout" "widths" "[I" (.ref c0) ∧ Arv Z h c0 k0 .int (4 : Int32) [(.int w0), (.int w1), (.int w2), (.int w3)] (.int (0 : Int32)) ∧ Fld Z h oa "com/example/libreach/libreach/engine/StateLayout" "word" "[I" (.ref c1) ∧ Arv Z h c1 k1 .int (4 : Int32) [(.int (0 : Int32)), (.int (LI1 w0 w1)), (.int (LI2 w0 w1 w2)), (.int (LI3 w0 w1 w2 w3))] (.int (0 : Int32)) ∧ Fld Z h oa "com/example/libreach/libreach/engine/StateLayout" "shift" "[I" (.ref c2) ∧ Arv Z h c2 k2 .int (4 : Int32) [(.int (0 : Int32)), (.int (LS1 w0 w1)), (.int (LS2 w0 w1 w2)), (.int (LS3 w0 w1 w2 w3))] (.int (0 : Int32)) ∧ Fld Z h oa "com/example/libreach/libreach/engine/StateLayout" "largest" "[J" (.ref c3) ∧ Arv Z h c3 k3 .long (4 : Int32) [(.long (LM w0)), (.long (LM w1)), (.long (LM w2)), (.long (LM w3))] (.long (0 : Int64)) ∧ Fld Z h oa "com/example/libreach/libreach/engine/StateLayout" "runs" "[I" (.ref c4) ∧ Arv Z h c4 k4 .int len rs (.int (0 : Int32)) ∧ RunOK w0 w1 w2 w3 rs len) ({ frames := 2, cells := 6, slots := 40, locals := 60 } : Room).cells ({ frames := 2, cells := 6, slots := 40, locals := 60 } : Room).slots) (T244.setTop (mkF m 190 #[.val (.ref oa), .val (.ref ob), .val (.int (LI3 w0 w1 w2 w3)), .val (.int ((LS3 w0 w1 w2 w3) + w3)), .val (.int (2 : Int32)), .val (.ref b117), .val (.int (3 : Int32))] [])) := by
                  intro T244 lc244 X244 N244 e244 
                  show ownEnds _ _ _ _ (T244.setTop (mkF m 190 #[.val (.ref oa), .val (.ref ob), .val (.int (LI3 w0 w1 w2 w3)), .val (.int ((LS3 w0 w1 w2 w3) + w3)), .val (.int (2 : Int32)), .val (.ref b117), .val (.int (3 : Int32))] []))
                  refine ownEnds.law (fun t k => XS.aload X244.here hx rfl (hb hby d2_190) rfl rfl (XS.iload X244.here hx rfl (hb hby d2_192) rfl (XS.iinc X244.here hx rfl (hb hby d2_194) rfl (l' := #[.val (.ref oa), .val (.ref ob), .val (.int (LI3 w0 w1 w2 w3)), .val (.int ((LS3 w0 w1 w2 w3) + w3)), .val (.int (3 : Int32)), .val (.ref b117), .val (.int (3 : Int32))]) rfl (XS.iload X244.here hx rfl (hb hby d2_197) rfl k)))) ?_
                  show ownEnds _ _ _ _ (T244.setTop (mkF m 199 #[.val (.ref oa), .val (.ref ob), .val (.int (LI3 w0 w1 w2 w3)), .val (.int ((LS3 w0 w1 w2 w3) + w3)), .val (.int (3 : Int32)), .val (.ref b117), .val (.int (3 : Int32))] [(.int (3 : Int32)), (.int (2 : Int32)), (.ref b117)]))
                  obtain ⟨cl245, Ar245, q245, S245, N245, H245, G245⟩ := id V209
                  obtain ⟨T245, h245, X245, e245, W245, st245⟩ := stI X244 hx hZ e244 Ar245 (j := (2 : Int32)) (inb_of S245 ⟨by decide, by decide⟩) (g := (mkF m 199 #[.val (.ref oa), .val (.ref ob), .val (.int (LI3 w0 w1 w2 w3)), .val (.int ((LS3 w0 w1 w2 w3) + w3)), .val (.int (3 : Int32)), .val (.ref b117), .val (.int (3 : Int32))] [(.int (3 : Int32)), (.int (2 : Int32)), (.ref b117)])) rfl rfl (hb hby d2_199)
                  refine ownEnds.law st245 ?_
                  have V245 : Arv Z h245 b117 k117 .int (5 : Int32) [(.int (0 : Int32)), (.int (2 : Int32)), (.int (3 : Int32)), (.int (0 : Int32)), (.int (0 : Int32))] (.int (0 : Int32)) := Arv.set Ar245 q245 S245 N245 H245 G245 rfl W245 2 rfl (Nat.le_of_ble_eq_true rfl)
                  have N245 := Fr.snoc X245 N244 g_b117
                  have KK245 : Keep h0 h245 [oa] := (KK209).wr W245 (Or.inr sz_b117)
                  have Z245 : n0 ≤ h245.size := by rw [W245.size]; exact Z209
                  show ownEnds _ _ _ _ (T245.setTop (mkF m 200 #[.val (.ref oa), .val (.ref ob), .val (.int (LI3 w0 w1 w2 w3)), .val (.int ((LS3 w0 w1 w2 w3) + w3)), .val (.int (3 : Int32)), .val (.ref b117), .val (.int (3 : Int32))] []))
                  refine ownEnds.law (fun t k => XS.iinc X245.here hx rfl (hb hby d2_200) rfl (l' := #[.val (.ref oa), .val (.ref ob), .val (.int (LI3 w0 w1 w2 w3)), .val (.int ((LS3 w0 w1 w2 w3) + w3)), .val (.int (3 : Int32)), .val (.ref b117), .val (.int (4 : Int32))]) rfl (XS.goto X245.here hx rfl (pc0 := 203) (pc' := 146) rfl (hb hby d2_203) (by decide) (by decide) (XS.iload X245.here hx rfl (hb hby d2_146) rfl (XS.aloadN X245.here hx rfl (hb hby d2_148) rfl rfl k)))) ?_
                  show ownEnds _ _ _ _ (T245.setTop (mkF m 149 #[.val (.ref oa), .val (.ref ob), .val (.int (LI3 w0 w1 w2 w3)), .val (.int ((LS3 w0 w1 w2 w3) + w3)), .val (.int (3 : Int32)), .val (.ref b117), .val (.int (4 : Int32))] [(.ref ob), (.int (4 : Int32))]))
                  have f247 := (Arv.other f211 W245 ne_ob_b117)
                  obtain ⟨cl246, Ar246, -, S246, N246, -, -⟩ := id f247
                  refine ownEnds.law (X245.arraylength hx (by rw [e245]; exact Ar246.1) (State.isArrayOf_alike hZ.alike Ar246.2.1) (g := (mkF m 149 #[.val (.ref oa), .val (.ref ob), .val (.int (LI3 w0 w1 w2 w3)), .val (.int ((LS3 w0 w1 w2 w3) + w3)), .val (.int (3 : Int32)), .val (.ref b117), .val (.int (4 : Int32))] [(.ref ob), (.int (4 : Int32))])) rfl rfl (hb hby d2_149)) ?_
                  rw [len_of S246 N246]
                  show ownEnds _ _ _ _ (T245.setTop (mkF m 150 #[.val (.ref oa), .val (.ref ob), .val (.int (LI3 w0 w1 w2 w3)), .val (.int ((LS3 w0 w1 w2 w3) + w3)), .val (.int (3 : Int32)), .val (.ref b117), .val (.int (4 : Int32))] [(.int (4 : Int32)), (.int (4 : Int32))]))
                  refine ownEnds.law (fun t => XS.icmpYes X245.here hx rfl (pc0 := 150) (pc' := 206) rfl (hb hby d2_150) rfl (flt (Int32.lt_irrefl)).2.1 (by decide) (by decide)) ?_
                  show ownEnds _ _ _ _ (T245.setTop (mkF m 206 #[.val (.ref oa), .val (.ref ob), .val (.int (LI3 w0 w1 w2 w3)), .val (.int ((LS3 w0 w1 w2 w3) + w3)), .val (.int (3 : Int32)), .val (.ref b117), .val (.int (4 : Int32))] []))
                  refine ownEnds.law (fun t k => XS.aload X245.here hx rfl (hb hby d2_206) rfl rfl (XS.iload X245.here hx rfl (hb hby d2_208) rfl (XS.iinc X245.here hx rfl (hb hby d2_210) rfl (l' := #[.val (.ref oa), .val (.ref ob), .val (.int (LI3 w0 w1 w2 w3)), .val (.int ((LS3 w0 w1 w2 w3) + w3)), .val (.int (4 : Int32)), .val (.ref b117), .val (.int (4 : Int32))]) rfl (XS.aloadN X245.here hx rfl (hb hby d2_213) rfl rfl k)))) ?_
                  show ownEnds _ _ _ _ (T245.setTop (mkF m 214 #[.val (.ref oa), .val (.ref ob), .val (.int (LI3 w0 w1 w2 w3)), .val (.int ((LS3 w0 w1 w2 w3) + w3)), .val (.int (4 : Int32)), .val (.ref b117), .val (.int (4 : Int32))] [(.ref ob), (.int (3 : Int32)), (.ref b117)]))
                  obtain ⟨cl248, Ar248, -, S248, N248, -, -⟩ := id f247
                  refine ownEnds.law (X245.arraylength hx (by rw [e245]; exact Ar248.1) (State.isArrayOf_alike hZ.alike Ar248.2.1) (g := (mkF m 214 #[.val (.ref oa), .val (.ref ob), .val (.int (LI3 w0 w1 w2 w3)), .val (.int ((LS3 w0 w1 w2 w3) + w3)), .val (.int (4 : Int32)), .val (.ref b117), .val (.int (4 : Int32))] [(.ref ob), (.int (3 : Int32)), (.ref b117)])) rfl rfl (hb hby d2_214)) ?_
                  rw [len_of S248 N248]
                  show ownEnds _ _ _ _ (T245.setTop (mkF m 215 #[.val (.ref oa), .val (.ref ob), .val (.int (LI3 w0 w1 w2 w3)), .val (.int ((LS3 w0 w1 w2 w3) + w3)), .val (.int (4 : Int32)), .val (.ref b117), .val (.int (4 : Int32))] [(.int (4 : Int32)), (.int (3 : Int32)), (.ref b117)]))
                  obtain ⟨cl249, Ar249, q249, S249, N249, H249, G249⟩ := id V245
                  obtain ⟨T249, h249, X249, e249, W249, st249⟩ := stI X245 hx hZ e245 Ar249 (j := (3 : Int32)) (inb_of S249 ⟨by decide, by decide⟩) (g := (mkF m 215 #[.val (.ref oa), .val (.ref ob), .val (.int (LI3 w0 w1 w2 w3)), .val (.int ((LS3 w0 w1 w2 w3) + w3)), .val (.int (4 : Int32)), .val (.ref b117), .val (.int (4 : Int32))] [(.int (4 : Int32)), (.int (3 : Int32)), (.ref b117)])) rfl rfl (hb hby d2_215)
                  refine ownEnds.law st249 ?_
                  have V249 : Arv Z h249 b117 k117 .int (5 : Int32) [(.int (0 : Int32)), (.int (2 : Int32)), (.int (3 : Int32)), (.int (4 : Int32)), (.int (0 : Int32))] (.int (0 : Int32)) := Arv.set Ar249 q249 S249 N249 H249 G249 rfl W249 3 rfl (Nat.le_of_ble_eq_true rfl)
                  have N249 := Fr.snoc X249 N245 g_b117
                  have KK249 : Keep h0 h249 [oa] := (KK245).wr W249 (Or.inr sz_b117)
                  have Z249 : n0 ≤ h249.size := by rw [W249.size]; exact Z245
                  show ownEnds _ _ _ _ (T249.setTop (mkF m 216 #[.val (.ref oa), .val (.ref ob), .val (.int (LI3 w0 w1 w2 w3)), .val (.int ((LS3 w0 w1 w2 w3) + w3)), .val (.int (4 : Int32)), .val (.ref b117), .val (.int (4 : Int32))] []))
                  refine ownEnds.law (fun t k => XS.aloadN X249.here hx rfl (hb hby d2_216) rfl rfl (XS.aload X249.here hx rfl (hb hby d2_217) rfl rfl (XS.iload X249.here hx rfl (hb hby d2_219) rfl k))) ?_
                  show ownEnds _ _ _ _ (T249.setTop (mkF m 221 #[.val (.ref oa), .val (.ref ob), .val (.int (LI3 w0 w1 w2 w3)), .val (.int ((LS3 w0 w1 w2 w3) + w3)), .val (.int (4 : Int32)), .val (.ref b117), .val (.int (4 : Int32))] [(.int (4 : Int32)), (.ref b117), (.ref oa)]))
                  have f251 := (Exa.wr W249 (Exa.wr W245 (Exa.wr W209 (Exa.wr W126 Ax117))))
                  obtain ⟨v250, T250, L250, X250, hQ250, st250⟩ := ownCallS X249 hx hZ hown (y := (⟨"java/util/Arrays", "copyOf", "([II)[I"⟩ : MethodName)) (as := [(.ref b117), (.int (4 : Int32))]) (wd_35 hw) (wd_36 hw) (wd_37 hw) (wd_38 hw) (by decide) (rm4_4 l Z a0 hw b117 k117 (.int (0 : Int32)) (.int (2 : Int32)) (.int (3 : Int32)) (.int (4 : Int32)) (.int (0 : Int32)) h249 n0 Z249 V249 f251) e249 1 (by decide) (by decide) (by decide) (by decide) (g := (mkF m 221 #[.val (.ref oa), .val (.ref ob), .val (.int (LI3 w0 w1 w2 w3)), .val (.int ((LS3 w0 w1 w2 w3) + w3)), .val (.int (4 : Int32)), .val (.ref b117), .val (.int (4 : Int32))] [(.int (4 : Int32)), (.ref b117), (.ref oa)])) rfl (by rw [hml]; rfl) (rest := [(.ref oa)]) pd_1 rfl rfl (by show 2 * 0 + _ ≤ _; exact Nat.le_of_eq rfl) (hb hby d2_221)
                  obtain ⟨b250, kb250, rfl, Nq250, Kq250, g_b250, zq250, Vq250⟩ := hQ250
                  have f252 := (Exa.wr W249 (Exa.wr W245 (Exa.wr W209 (Exa.wr W126 (Exa.ext E117 f118)))))
                  have ne_oa_b250 : oa ≠ b250 := Nat.ne_of_lt (Nat.lt_of_lt_of_le f252.lt zq250)
                  have f253 := (Exa.wr W249 (Exa.wr W245 (Exa.wr W209 (Exa.wr W126 (Exa.ext E117 f119)))))
                  have ne_ob_b250 : ob ≠ b250 := Nat.ne_of_lt (Nat.lt_of_lt_of_le f253.lt zq250)
                  have f254 := (Arv.other (Arv.other (Arv.other (Arv.other (Arv.ext f120 E117) W126 ne_b2_b117) W209 ne_b2_b117) W245 ne_b2_b117) W249 ne_b2_b117)
                  have ne_b2_b250 : b2 ≠ b250 := Nat.ne_of_lt (Nat.lt_of_lt_of_le f254.lt zq250)
                  have f255 := (Arv.other (Arv.other (Arv.other f132 W209 ne_b9_b117) W245 ne_b9_b117) W249 ne_b9_b117)
                  have ne_b9_b250 : b9 ≠ b250 := Nat.ne_of_lt (Nat.lt_of_lt_of_le f255.lt zq250)
                  have f256 := (Arv.other (Arv.other (Arv.other (Arv.other (Arv.ext f122 E117) W126 ne_b18_b117) W209 ne_b18_b117) W245 ne_b18_b117) W249 ne_b18_b117)
                  have ne_b18_b250 : b18 ≠ b250 := Nat.ne_of_lt (Nat.lt_of_lt_of_le f256.lt zq250)
                  have f257 := (Arv.other (Arv.other (Arv.other (Arv.other (Arv.ext f123 E117) W126 ne_b28_b117) W209 ne_b28_b117) W245 ne_b28_b117) W249 ne_b28_b117)
                  have ne_b28_b250 : b28 ≠ b250 := Nat.ne_of_lt (Nat.lt_of_lt_of_le f257.lt zq250)
                  have ne_b117_b250 : b117 ≠ b250 := Nat.ne_of_lt (Nat.lt_of_lt_of_le V249.lt zq250)
                  have sz_b250 : h0.size ≤ b250 := Nat.le_trans (KK249).1 zq250
                  have N250 := Fr.app N249 Nq250
                  have KK250 : Keep h0 T250.heap [oa] := Keep.trans (KK249) Kq250 all0
                  have Z250 : n0 ≤ T250.heap.size := Nat.le_trans Z249 Kq250.1
                  refine ownEnds.law st250 ?_
                  show ownEnds _ _ _ _ (T250.setTop (mkF m 224 #[.val (.ref oa), .val (.ref ob), .val (.int (LI3 w0 w1 w2 w3)), .val (.int ((LS3 w0 w1 w2 w3) + w3)), .val (.int (4 : Int32)), .val (.ref b117), .val (.int (4 : Int32))] [(.ref b250), (.ref oa)]))
                  have f258 := (Exa.keep f252 Kq250)
                  have f259 := (Fld.keep (Fld.other W249 (Fld.other W245 (Fld.other W209 (Fld.other W126 (Fld.ext E117 (Fld.other W114 (Fld.other W106 (Fld.other W100 (Fld.other W96 (Fld.other W88 (Fld.other W82 (Fld.other W78 (Fld.other W70 (Fld.other W64 (Fld.other W60 (Fld.other W52 (Fld.other W46 (Fld.other W42 (Fld.other W36 (Fld.ext E28 (Fld.other W25 (Fld.ext E18 (Fld.other W15 (Fld.ext E9 (Fld.other W6 (Fld.ext E2 F_oa_runs) (Or.inr (slot_ne (Or.inr (wd_42 hw)) (Or.inr (wd_24 hw)) (by decide) (t := (.array .int)) (t' := (.array .int)) (by decide) (by decide))))) (Or.inr (slot_ne (Or.inr (wd_42 hw)) (Or.inr (wd_26 hw)) (by decide) (t := (.array .int)) (t' := (.array .int)) (by decide) (by decide))))) (Or.inr (slot_ne (Or.inr (wd_42 hw)) (Or.inr (wd_28 hw)) (by decide) (t := (.array .int)) (t' := (.array .int)) (by decide) (by decide))))) (Or.inr (slot_ne (Or.inr (wd_42 hw)) (Or.inr (wd_31 hw)) (by decide) (t := (.array .int)) (t' := (.array .long)) (by decide) (by decide)))) (Or.inl ne_oa_b9)) (Or.inl ne_oa_b18)) (Or.inl ne_oa_b28)) (Or.inl ne_oa_b9)) (Or.inl ne_oa_b18)) (Or.inl ne_oa_b28)) (Or.inl ne_oa_b9)) (Or.inl ne_oa_b18)) (Or.inl ne_oa_b28)) (Or.inl ne_oa_b9)) (Or.inl ne_oa_b18)) (Or.inl ne_oa_b28)) (Or.inr (slot_ne (Or.inr (wd_42 hw)) (Or.inr (wd_34 hw)) (by decide) (t := (.array .int)) (t' := .int) (by decide) (by decide))))) (Or.inl ne_oa_b117)) (Or.inl ne_oa_b117)) (Or.inl ne_oa_b117)) (Or.inl ne_oa_b117)) Kq250 nin0)
                  obtain ⟨T260, h260, X260, e260, W260, st260⟩ := putF X250 hx hZ hown (host := "") (Or.inl (wd_41 hw)) Via.refl rfl f259 f258 (Or.inr ⟨(wd_42 hw), rfl, hnm⟩) (wd_5 hw) (ty := (.array .int)) (by decide) rfl rfl (g := (mkF m 224 #[.val (.ref oa), .val (.ref ob), .val (.int (LI3 w0 w1 w2 w3)), .val (.int ((LS3 w0 w1 w2 w3) + w3)), .val (.int (4 : Int32)), .val (.ref b117), .val (.int (4 : Int32))] [(.ref b250), (.ref oa)])) rfl rfl (hb hby d2_224)
                  refine ownEnds.law st260 ?_
                  have N260 := Fr.snoc X260 N250 g_oa
                  have KK260 : Keep h0 h260 [oa] := (KK250).wr W260 (Or.inl (List.mem_of_getElem? (i := 0) rfl))
                  have Z260 : n0 ≤ h260.size := by rw [W260.size]; exact Z250
                  have Fw260 : Fld Z h260 oa "com/example/libreach/libreach/engine/StateLayout" "runs" "[I" (.ref b250) := Fld.same W260 f259
                  show ownEnds _ _ _ _ (T260.setTop (mkF m 227 #[.val (.ref oa), .val (.ref ob), .val (.int (LI3 w0 w1 w2 w3)), .val (.int ((LS3 w0 w1 w2 w3) + w3)), .val (.int (4 : Int32)), .val (.ref b117), .val (.int (4 : Int32))] []))
                  refine ownRetV X260 hlk hx hret (hb hby d2_227) (by decide) (by decide) ?_
                  have f261 := (Exa.wr W260 f258)
                  have f262 := (Fld.other W260 (Fld.keep (Fld.other W249 (Fld.other W245 (Fld.other W209 (Fld.other W126 (Fld.ext E117 (Fld.other W114 (Fld.other W106 (Fld.other W100 (Fld.other W96 (Fld.other W88 (Fld.other W82 (Fld.other W78 (Fld.other W70 (Fld.other W64 (Fld.other W60 (Fld.other W52 (Fld.other W46 (Fld.other W42 (Fld.other W36 (Fld.ext E28 (Fld.other W25 (Fld.ext E18 (Fld.other W15 (Fld.ext E9 Fw6) (Or.inr (slot_ne (Or.inr (wd_24 hw)) (Or.inr (wd_26 hw)) (by decide) (t := (.array .int)) (t' := (.array .int)) (by decide) (by decide))))) (Or.inr (slot_ne (Or.inr (wd_24 hw)) (Or.inr (wd_28 hw)) (by decide) (t := (.array .int)) (t' := (.array .int)) (by decide) (by decide))))) (Or.inr (slot_ne (Or.inr (wd_24 hw)) (Or.inr (wd_31 hw)) (by decide) (t := (.array .int)) (t' := (.array .long)) (by decide) (by decide)))) (Or.inl ne_oa_b9)) (Or.inl ne_oa_b18)) (Or.inl ne_oa_b28)) (Or.inl ne_oa_b9)) (Or.inl ne_oa_b18)) (Or.inl ne_oa_b28)) (Or.inl ne_oa_b9)) (Or.inl ne_oa_b18)) (Or.inl ne_oa_b28)) (Or.inl ne_oa_b9)) (Or.inl ne_oa_b18)) (Or.inl ne_oa_b28)) (Or.inr (slot_ne (Or.inr (wd_24 hw)) (Or.inr (wd_34 hw)) (by decide) (t := (.array .int)) (t' := .int) (by decide) (by decide))))) (Or.inl ne_oa_b117)) (Or.inl ne_oa_b117)) (Or.inl ne_oa_b117)) (Or.inl ne_oa_b117)) Kq250 nin0) (Or.inr (slot_ne (Or.inr (wd_24 hw)) (Or.inr (wd_42 hw)) (by decide) (t := (.array .int)) (t' := (.array .int)) (by decide) (by decide))))
                  have f263 := (Arv.other (Arv.keep f254 Kq250 nin0) W260 (Ne.symm ne_oa_b2))
                  have f264 := (Fld.other W260 (Fld.keep (Fld.other W249 (Fld.other W245 (Fld.other W209 f129 (Or.inl ne_oa_b117)) (Or.inl ne_oa_b117)) (Or.inl ne_oa_b117)) Kq250 nin0) (Or.inr (slot_ne (Or.inr (wd_26 hw)) (Or.inr (wd_42 hw)) (by decide) (t := (.array .int)) (t' := (.array .int)) (by decide) (by decide))))
                  have f265 := (Arv.other (Arv.keep f255 Kq250 nin0) W260 (Ne.symm ne_oa_b9))
                  have f266 := (Fld.other W260 (Fld.keep (Fld.other W249 (Fld.other W245 (Fld.other W209 (Fld.other W126 (Fld.ext E117 (Fld.other W114 (Fld.other W106 (Fld.other W100 f98 (Or.inl ne_oa_b18)) (Or.inl ne_oa_b28)) (Or.inr (slot_ne (Or.inr (wd_28 hw)) (Or.inr (wd_34 hw)) (by decide) (t := (.array .int)) (t' := .int) (by decide) (by decide))))) (Or.inl ne_oa_b117)) (Or.inl ne_oa_b117)) (Or.inl ne_oa_b117)) (Or.inl ne_oa_b117)) Kq250 nin0) (Or.inr (slot_ne (Or.inr (wd_28 hw)) (Or.inr (wd_42 hw)) (by decide) (t := (.array .int)) (t' := (.array .int)) (by decide) (by decide))))
                  have f267 := (Arv.other (Arv.keep f256 Kq250 nin0) W260 (Ne.symm ne_oa_b18))
                  have f268 := (Fld.other W260 (Fld.keep (Fld.other W249 (Fld.other W245 (Fld.other W209 (Fld.other W126 (Fld.ext E117 (Fld.other W114 (Fld.other W106 f102 (Or.inl ne_oa_b28)) (Or.inr (slot_ne (Or.inr (wd_31 hw)) (Or.inr (wd_34 hw)) (by decide) (t := (.array .long)) (t' := .int) (by decide) (by decide))))) (Or.inl ne_oa_b117)) (Or.inl ne_oa_b117)) (Or.inl ne_oa_b117)) (Or.inl ne_oa_b117)) Kq250 nin0) (Or.inr (slot_ne (Or.inr (wd_31 hw)) (Or.inr (wd_42 hw)) (by decide) (t := (.array .long)) (t' := (.array .int)) (by decide) (by decide))))
                  have f269 := (Arv.other (Arv.keep f257 Kq250 nin0) W260 (Ne.symm ne_oa_b28))
                  have f270 := (Arv.other Vq250 W260 (Ne.symm ne_oa_b250))
                  rw [e260]
                  have hok : RunOK w0 w1 w2 w3 [(.int (0 : Int32)), (.int (2 : Int32)), (.int (3 : Int32)), (.int (4 : Int32))] (4 : Int32) := own_run100 hN1 hN2 hN3
                  exact ⟨rfl, N260, KK260, b2, b9, b18, b28, b250, k_ob, k9, k18, k28, kb250, [(.int (0 : Int32)), (.int (2 : Int32)), (.int (3 : Int32)), (.int (4 : Int32))], (4 : Int32), f261, f262, f263, f264, f265, f266, f267, f268, f269, Fw260, f270, hok⟩
                show ownEnds _ _ _ _ (T209.setTop (mkF m 158 #[.val (.ref oa), .val (.ref ob), .val (.int (LI3 w0 w1 w2 w3)), .val (.int ((LS3 w0 w1 w2 w3) + w3)), .val (.int (2 : Int32)), .val (.ref b117), .val (.int (3 : Int32))] []))
                refine ownEnds.law (fun t k => XS.aloadN X209.here hx rfl (hb hby d2_158) rfl rfl k) ?_
                show ownEnds _ _ _ _ (T209.setTop (mkF m 159 #[.val (.ref oa), .val (.ref ob), .val (.int (LI3 w0 w1 w2 w3)), .val (.int ((LS3 w0 w1 w2 w3) + w3)), .val (.int (2 : Int32)), .val (.ref b117), .val (.int (3 : Int32))] [(.ref oa)]))
                have f271 := (Fld.other W209 f129 (Or.inl ne_oa_b117))
                obtain ⟨T272, X272, e272, st272⟩ := getF X209 hx hZ hown (host := "") (Or.inl (wd_25 hw)) Via.refl e209 f271 (g := (mkF m 159 #[.val (.ref oa), .val (.ref ob), .val (.int (LI3 w0 w1 w2 w3)), .val (.int ((LS3 w0 w1 w2 w3) + w3)), .val (.int (2 : Int32)), .val (.ref b117), .val (.int (3 : Int32))] [(.ref oa)])) rfl rfl (hb hby d2_159)
                refine ownEnds.law st272 ?_
                show ownEnds _ _ _ _ (T272.setTop (mkF m 162 #[.val (.ref oa), .val (.ref ob), .val (.int (LI3 w0 w1 w2 w3)), .val (.int ((LS3 w0 w1 w2 w3) + w3)), .val (.int (2 : Int32)), .val (.ref b117), .val (.int (3 : Int32))] [(.ref b9)]))
                refine ownEnds.law (fun t k => XS.iload X272.here hx rfl (hb hby d2_162) rfl k) ?_
                show ownEnds _ _ _ _ (T272.setTop (mkF m 164 #[.val (.ref oa), .val (.ref ob), .val (.int (LI3 w0 w1 w2 w3)), .val (.int ((LS3 w0 w1 w2 w3) + w3)), .val (.int (2 : Int32)), .val (.ref b117), .val (.int (3 : Int32))] [(.int (3 : Int32)), (.ref b9)]))
                have f274 := (Arv.other f132 W209 ne_b9_b117)
                obtain ⟨cl273, Ar273, q273, S273, N273, H273, G273⟩ := id f274
                have hi273 := inb_of (j := (3 : Int32)) S273 ⟨by decide, by decide⟩
                have hv273 : cl273.slots[((3 : Int32)).toNatClampNeg]? = some (.int (LI3 w0 w1 w2 w3)) := H273.at hi273 rfl
                refine ownEnds.law (fun t k => X272.iaload hx (j := (3 : Int32)) (v := (.int (LI3 w0 w1 w2 w3))) (by rw [e272]; exact Ar273.1) (State.isArrayOf_alike hZ.alike Ar273.2.1) Ar273.2.2 hi273 hv273 (g := (mkF m 164 #[.val (.ref oa), .val (.ref ob), .val (.int (LI3 w0 w1 w2 w3)), .val (.int ((LS3 w0 w1 w2 w3) + w3)), .val (.int (2 : Int32)), .val (.ref b117), .val (.int (3 : Int32))] [(.int (3 : Int32)), (.ref b9)])) rfl rfl (hb hby d2_164) _ (XS.aloadN X272.here hx rfl (hb hby d2_165) rfl rfl k)) ?_
                show ownEnds _ _ _ _ (T272.setTop (mkF m 166 #[.val (.ref oa), .val (.ref ob), .val (.int (LI3 w0 w1 w2 w3)), .val (.int ((LS3 w0 w1 w2 w3) + w3)), .val (.int (2 : Int32)), .val (.ref b117), .val (.int (3 : Int32))] [(.ref oa), (.int (LI3 w0 w1 w2 w3))]))
                obtain ⟨T275, X275, e275, st275⟩ := getF X272 hx hZ hown (host := "") (Or.inl (wd_25 hw)) Via.refl e272 f271 (g := (mkF m 166 #[.val (.ref oa), .val (.ref ob), .val (.int (LI3 w0 w1 w2 w3)), .val (.int ((LS3 w0 w1 w2 w3) + w3)), .val (.int (2 : Int32)), .val (.ref b117), .val (.int (3 : Int32))] [(.ref oa), (.int (LI3 w0 w1 w2 w3))])) rfl rfl (hb hby d2_166)
                refine ownEnds.law st275 ?_
                show ownEnds _ _ _ _ (T275.setTop (mkF m 169 #[.val (.ref oa), .val (.ref ob), .val (.int (LI3 w0 w1 w2 w3)), .val (.int ((LS3 w0 w1 w2 w3) + w3)), .val (.int (2 : Int32)), .val (.ref b117), .val (.int (3 : Int32))] [(.ref b9), (.int (LI3 w0 w1 w2 w3))]))
                refine ownEnds.law (fun t k => XS.iload X275.here hx rfl (hb hby d2_169) rfl (XS.iconst X275.here hx rfl (hb hby d2_171) (XS.isub X275.here hx rfl (hb hby d2_172) rfl k))) ?_
                show ownEnds _ _ _ _ (T275.setTop (mkF m 173 #[.val (.ref oa), .val (.ref ob), .val (.int (LI3 w0 w1 w2 w3)), .val (.int ((LS3 w0 w1 w2 w3) + w3)), .val (.int (2 : Int32)), .val (.ref b117), .val (.int (3 : Int32))] [(.int (2 : Int32)), (.ref b9), (.int (LI3 w0 w1 w2 w3))]))
                obtain ⟨cl276, Ar276, q276, S276, N276, H276, G276⟩ := id f274
                have hi276 := inb_of (j := (2 : Int32)) S276 ⟨by decide, by decide⟩
                have hv276 : cl276.slots[((2 : Int32)).toNatClampNeg]? = some (.int (LI2 w0 w1 w2)) := H276.at hi276 rfl
                refine ownEnds.law (fun t k => X275.iaload hx (j := (2 : Int32)) (v := (.int (LI2 w0 w1 w2))) (by rw [e275]; exact Ar276.1) (State.isArrayOf_alike hZ.alike Ar276.2.1) Ar276.2.2 hi276 hv276 (g := (mkF m 173 #[.val (.ref oa), .val (.ref ob), .val (.int (LI3 w0 w1 w2 w3)), .val (.int ((LS3 w0 w1 w2 w3) + w3)), .val (.int (2 : Int32)), .val (.ref b117), .val (.int (3 : Int32))] [(.int (2 : Int32)), (.ref b9), (.int (LI3 w0 w1 w2 w3))])) rfl rfl (hb hby d2_173) _ k) ?_
                show ownEnds _ _ _ _ (T275.setTop (mkF m 174 #[.val (.ref oa), .val (.ref ob), .val (.int (LI3 w0 w1 w2 w3)), .val (.int ((LS3 w0 w1 w2 w3) + w3)), .val (.int (2 : Int32)), .val (.ref b117), .val (.int (3 : Int32))] [(.int (LI2 w0 w1 w2)), (.int (LI3 w0 w1 w2 w3))]))
                by_cases hc174 : (LI3 w0 w1 w2 w3) = (LI2 w0 w1 w2)
                · refine ownEnds.law (fun t => XS.icmpNo X275.here hx rfl (hb hby d2_174) rfl (teq hc174).2) ?_
                  show ownEnds _ _ _ _ (T275.setTop (mkF m 177 #[.val (.ref oa), .val (.ref ob), .val (.int (LI3 w0 w1 w2 w3)), .val (.int ((LS3 w0 w1 w2 w3) + w3)), .val (.int (2 : Int32)), .val (.ref b117), .val (.int (3 : Int32))] []))
                  refine ownEnds.law (fun t k => XS.aloadN X275.here hx rfl (hb hby d2_177) rfl rfl (XS.iload X275.here hx rfl (hb hby d2_178) rfl k)) ?_
                  show ownEnds _ _ _ _ (T275.setTop (mkF m 180 #[.val (.ref oa), .val (.ref ob), .val (.int (LI3 w0 w1 w2 w3)), .val (.int ((LS3 w0 w1 w2 w3) + w3)), .val (.int (2 : Int32)), .val (.ref b117), .val (.int (3 : Int32))] [(.int (3 : Int32)), (.ref ob)]))
                  obtain ⟨cl277, Ar277, q277, S277, N277, H277, G277⟩ := id f211
                  have hi277 := inb_of (j := (3 : Int32)) S277 ⟨by decide, by decide⟩
                  have hv277 : cl277.slots[((3 : Int32)).toNatClampNeg]? = some (.int w3) := H277.at hi277 rfl
                  refine ownEnds.law (fun t k => X275.iaload hx (j := (3 : Int32)) (v := (.int w3)) (by rw [e275]; exact Ar277.1) (State.isArrayOf_alike hZ.alike Ar277.2.1) Ar277.2.2 hi277 hv277 (g := (mkF m 180 #[.val (.ref oa), .val (.ref ob), .val (.int (LI3 w0 w1 w2 w3)), .val (.int ((LS3 w0 w1 w2 w3) + w3)), .val (.int (2 : Int32)), .val (.ref b117), .val (.int (3 : Int32))] [(.int (3 : Int32)), (.ref ob)])) rfl rfl (hb hby d2_180) _ (XS.aloadN X275.here hx rfl (hb hby d2_181) rfl rfl (XS.iload X275.here hx rfl (hb hby d2_182) rfl (XS.iconst X275.here hx rfl (hb hby d2_184) (XS.isub X275.here hx rfl (hb hby d2_185) rfl k))))) ?_
                  show ownEnds _ _ _ _ (T275.setTop (mkF m 186 #[.val (.ref oa), .val (.ref ob), .val (.int (LI3 w0 w1 w2 w3)), .val (.int ((LS3 w0 w1 w2 w3) + w3)), .val (.int (2 : Int32)), .val (.ref b117), .val (.int (3 : Int32))] [(.int (2 : Int32)), (.ref ob), (.int w3)]))
                  obtain ⟨cl278, Ar278, q278, S278, N278, H278, G278⟩ := id f211
                  have hi278 := inb_of (j := (2 : Int32)) S278 ⟨by decide, by decide⟩
                  have hv278 : cl278.slots[((2 : Int32)).toNatClampNeg]? = some (.int w2) := H278.at hi278 rfl
                  refine ownEnds.law (fun t k => X275.iaload hx (j := (2 : Int32)) (v := (.int w2)) (by rw [e275]; exact Ar278.1) (State.isArrayOf_alike hZ.alike Ar278.2.1) Ar278.2.2 hi278 hv278 (g := (mkF m 186 #[.val (.ref oa), .val (.ref ob), .val (.int (LI3 w0 w1 w2 w3)), .val (.int ((LS3 w0 w1 w2 w3) + w3)), .val (.int (2 : Int32)), .val (.ref b117), .val (.int (3 : Int32))] [(.int (2 : Int32)), (.ref ob), (.int w3)])) rfl rfl (hb hby d2_186) _ k) ?_
                  show ownEnds _ _ _ _ (T275.setTop (mkF m 187 #[.val (.ref oa), .val (.ref ob), .val (.int (LI3 w0 w1 w2 w3)), .val (.int ((LS3 w0 w1 w2 w3) + w3)), .val (.int (2 : Int32)), .val (.ref b117), .val (.int (3 : Int32))] [(.int w2), (.int w3)]))
                  have hc187 : ¬ (w3 = w2) := fun q => hN3 ⟨hc174, q⟩
                  refine ownEnds.law (fun t => XS.icmpNo X275.here hx rfl (hb hby d2_187) rfl (feq hc187).1) ?_
                  exact J190_3 _ _ X275 N209 e275
                · refine ownEnds.law (fun t => XS.icmpYes X275.here hx rfl (pc0 := 174) (pc' := 190) rfl (hb hby d2_174) rfl (feq hc174).2 (by decide) (by decide)) ?_
                  exact J190_3 _ _ X275 N209 e275
            show ownEnds _ _ _ _ (T133.setTop (mkF m 158 #[.val (.ref oa), .val (.ref ob), .val (.int (LI3 w0 w1 w2 w3)), .val (.int ((LS3 w0 w1 w2 w3) + w3)), .val (.int (1 : Int32)), .val (.ref b117), .val (.int (2 : Int32))] []))
            refine ownEnds.law (fun t k => XS.aloadN X133.here hx rfl (hb hby d2_158) rfl rfl k) ?_
            show ownEnds _ _ _ _ (T133.setTop (mkF m 159 #[.val (.ref oa), .val (.ref ob), .val (.int (LI3 w0 w1 w2 w3)), .val (.int ((LS3 w0 w1 w2 w3) + w3)), .val (.int (1 : Int32)), .val (.ref b117), .val (.int (2 : Int32))] [(.ref oa)]))
            obtain ⟨T279, X279, e279, st279⟩ := getF X133 hx hZ hown (host := "") (Or.inl (wd_25 hw)) Via.refl e133 f129 (g := (mkF m 159 #[.val (.ref oa), .val (.ref ob), .val (.int (LI3 w0 w1 w2 w3)), .val (.int ((LS3 w0 w1 w2 w3) + w3)), .val (.int (1 : Int32)), .val (.ref b117), .val (.int (2 : Int32))] [(.ref oa)])) rfl rfl (hb hby d2_159)
            refine ownEnds.law st279 ?_
            show ownEnds _ _ _ _ (T279.setTop (mkF m 162 #[.val (.ref oa), .val (.ref ob), .val (.int (LI3 w0 w1 w2 w3)), .val (.int ((LS3 w0 w1 w2 w3) + w3)), .val (.int (1 : Int32)), .val (.ref b117), .val (.int (2 : Int32))] [(.ref b9)]))
            refine ownEnds.law (fun t k => XS.iload X279.here hx rfl (hb hby d2_162) rfl k) ?_
            show ownEnds _ _ _ _ (T279.setTop (mkF m 164 #[.val (.ref oa), .val (.ref ob), .val (.int (LI3 w0 w1 w2 w3)), .val (.int ((LS3 w0 w1 w2 w3) + w3)), .val (.int (1 : Int32)), .val (.ref b117), .val (.int (2 : Int32))] [(.int (2 : Int32)), (.ref b9)]))
            obtain ⟨cl280, Ar280, q280, S280, N280, H280, G280⟩ := id f132
            have hi280 := inb_of (j := (2 : Int32)) S280 ⟨by decide, by decide⟩
            have hv280 : cl280.slots[((2 : Int32)).toNatClampNeg]? = some (.int (LI2 w0 w1 w2)) := H280.at hi280 rfl
            refine ownEnds.law (fun t k => X279.iaload hx (j := (2 : Int32)) (v := (.int (LI2 w0 w1 w2))) (by rw [e279]; exact Ar280.1) (State.isArrayOf_alike hZ.alike Ar280.2.1) Ar280.2.2 hi280 hv280 (g := (mkF m 164 #[.val (.ref oa), .val (.ref ob), .val (.int (LI3 w0 w1 w2 w3)), .val (.int ((LS3 w0 w1 w2 w3) + w3)), .val (.int (1 : Int32)), .val (.ref b117), .val (.int (2 : Int32))] [(.int (2 : Int32)), (.ref b9)])) rfl rfl (hb hby d2_164) _ (XS.aloadN X279.here hx rfl (hb hby d2_165) rfl rfl k)) ?_
            show ownEnds _ _ _ _ (T279.setTop (mkF m 166 #[.val (.ref oa), .val (.ref ob), .val (.int (LI3 w0 w1 w2 w3)), .val (.int ((LS3 w0 w1 w2 w3) + w3)), .val (.int (1 : Int32)), .val (.ref b117), .val (.int (2 : Int32))] [(.ref oa), (.int (LI2 w0 w1 w2))]))
            obtain ⟨T281, X281, e281, st281⟩ := getF X279 hx hZ hown (host := "") (Or.inl (wd_25 hw)) Via.refl e279 f129 (g := (mkF m 166 #[.val (.ref oa), .val (.ref ob), .val (.int (LI3 w0 w1 w2 w3)), .val (.int ((LS3 w0 w1 w2 w3) + w3)), .val (.int (1 : Int32)), .val (.ref b117), .val (.int (2 : Int32))] [(.ref oa), (.int (LI2 w0 w1 w2))])) rfl rfl (hb hby d2_166)
            refine ownEnds.law st281 ?_
            show ownEnds _ _ _ _ (T281.setTop (mkF m 169 #[.val (.ref oa), .val (.ref ob), .val (.int (LI3 w0 w1 w2 w3)), .val (.int ((LS3 w0 w1 w2 w3) + w3)), .val (.int (1 : Int32)), .val (.ref b117), .val (.int (2 : Int32))] [(.ref b9), (.int (LI2 w0 w1 w2))]))
            refine ownEnds.law (fun t k => XS.iload X281.here hx rfl (hb hby d2_169) rfl (XS.iconst X281.here hx rfl (hb hby d2_171) (XS.isub X281.here hx rfl (hb hby d2_172) rfl k))) ?_
            show ownEnds _ _ _ _ (T281.setTop (mkF m 173 #[.val (.ref oa), .val (.ref ob), .val (.int (LI3 w0 w1 w2 w3)), .val (.int ((LS3 w0 w1 w2 w3) + w3)), .val (.int (1 : Int32)), .val (.ref b117), .val (.int (2 : Int32))] [(.int (1 : Int32)), (.ref b9), (.int (LI2 w0 w1 w2))]))
            obtain ⟨cl282, Ar282, q282, S282, N282, H282, G282⟩ := id f132
            have hi282 := inb_of (j := (1 : Int32)) S282 ⟨by decide, by decide⟩
            have hv282 : cl282.slots[((1 : Int32)).toNatClampNeg]? = some (.int (LI1 w0 w1)) := H282.at hi282 rfl
            refine ownEnds.law (fun t k => X281.iaload hx (j := (1 : Int32)) (v := (.int (LI1 w0 w1))) (by rw [e281]; exact Ar282.1) (State.isArrayOf_alike hZ.alike Ar282.2.1) Ar282.2.2 hi282 hv282 (g := (mkF m 173 #[.val (.ref oa), .val (.ref ob), .val (.int (LI3 w0 w1 w2 w3)), .val (.int ((LS3 w0 w1 w2 w3) + w3)), .val (.int (1 : Int32)), .val (.ref b117), .val (.int (2 : Int32))] [(.int (1 : Int32)), (.ref b9), (.int (LI2 w0 w1 w2))])) rfl rfl (hb hby d2_173) _ k) ?_
            show ownEnds _ _ _ _ (T281.setTop (mkF m 174 #[.val (.ref oa), .val (.ref ob), .val (.int (LI3 w0 w1 w2 w3)), .val (.int ((LS3 w0 w1 w2 w3) + w3)), .val (.int (1 : Int32)), .val (.ref b117), .val (.int (2 : Int32))] [(.int (LI1 w0 w1)), (.int (LI2 w0 w1 w2))]))
            by_cases hc174 : (LI2 w0 w1 w2) = (LI1 w0 w1)
            · refine ownEnds.law (fun t => XS.icmpNo X281.here hx rfl (hb hby d2_174) rfl (teq hc174).2) ?_
              show ownEnds _ _ _ _ (T281.setTop (mkF m 177 #[.val (.ref oa), .val (.ref ob), .val (.int (LI3 w0 w1 w2 w3)), .val (.int ((LS3 w0 w1 w2 w3) + w3)), .val (.int (1 : Int32)), .val (.ref b117), .val (.int (2 : Int32))] []))
              refine ownEnds.law (fun t k => XS.aloadN X281.here hx rfl (hb hby d2_177) rfl rfl (XS.iload X281.here hx rfl (hb hby d2_178) rfl k)) ?_
              show ownEnds _ _ _ _ (T281.setTop (mkF m 180 #[.val (.ref oa), .val (.ref ob), .val (.int (LI3 w0 w1 w2 w3)), .val (.int ((LS3 w0 w1 w2 w3) + w3)), .val (.int (1 : Int32)), .val (.ref b117), .val (.int (2 : Int32))] [(.int (2 : Int32)), (.ref ob)]))
              obtain ⟨cl283, Ar283, q283, S283, N283, H283, G283⟩ := id f128
              have hi283 := inb_of (j := (2 : Int32)) S283 ⟨by decide, by decide⟩
              have hv283 : cl283.slots[((2 : Int32)).toNatClampNeg]? = some (.int w2) := H283.at hi283 rfl
              refine ownEnds.law (fun t k => X281.iaload hx (j := (2 : Int32)) (v := (.int w2)) (by rw [e281]; exact Ar283.1) (State.isArrayOf_alike hZ.alike Ar283.2.1) Ar283.2.2 hi283 hv283 (g := (mkF m 180 #[.val (.ref oa), .val (.ref ob), .val (.int (LI3 w0 w1 w2 w3)), .val (.int ((LS3 w0 w1 w2 w3) + w3)), .val (.int (1 : Int32)), .val (.ref b117), .val (.int (2 : Int32))] [(.int (2 : Int32)), (.ref ob)])) rfl rfl (hb hby d2_180) _ (XS.aloadN X281.here hx rfl (hb hby d2_181) rfl rfl (XS.iload X281.here hx rfl (hb hby d2_182) rfl (XS.iconst X281.here hx rfl (hb hby d2_184) (XS.isub X281.here hx rfl (hb hby d2_185) rfl k))))) ?_
              show ownEnds _ _ _ _ (T281.setTop (mkF m 186 #[.val (.ref oa), .val (.ref ob), .val (.int (LI3 w0 w1 w2 w3)), .val (.int ((LS3 w0 w1 w2 w3) + w3)), .val (.int (1 : Int32)), .val (.ref b117), .val (.int (2 : Int32))] [(.int (1 : Int32)), (.ref ob), (.int w2)]))
              obtain ⟨cl284, Ar284, q284, S284, N284, H284, G284⟩ := id f128
              have hi284 := inb_of (j := (1 : Int32)) S284 ⟨by decide, by decide⟩
              have hv284 : cl284.slots[((1 : Int32)).toNatClampNeg]? = some (.int w1) := H284.at hi284 rfl
              refine ownEnds.law (fun t k => X281.iaload hx (j := (1 : Int32)) (v := (.int w1)) (by rw [e281]; exact Ar284.1) (State.isArrayOf_alike hZ.alike Ar284.2.1) Ar284.2.2 hi284 hv284 (g := (mkF m 186 #[.val (.ref oa), .val (.ref ob), .val (.int (LI3 w0 w1 w2 w3)), .val (.int ((LS3 w0 w1 w2 w3) + w3)), .val (.int (1 : Int32)), .val (.ref b117), .val (.int (2 : Int32))] [(.int (1 : Int32)), (.ref ob), (.int w2)])) rfl rfl (hb hby d2_186) _ k) ?_
              show ownEnds _ _ _ _ (T281.setTop (mkF m 187 #[.val (.ref oa), .val (.ref ob), .val (.int (LI3 w0 w1 w2 w3)), .val (.int ((LS3 w0 w1 w2 w3) + w3)), .val (.int (1 : Int32)), .val (.ref b117), .val (.int (2 : Int32))] [(.int w1), (.int w2)]))
              have hc187 : ¬ (w2 = w1) := fun q => hN2 ⟨hc174, q⟩
              refine ownEnds.law (fun t => XS.icmpNo X281.here hx rfl (hb hby d2_187) rfl (feq hc187).1) ?_
              exact J190_2 _ _ X281 N126 e281
            · refine ownEnds.law (fun t => XS.icmpYes X281.here hx rfl (pc0 := 174) (pc' := 190) rfl (hb hby d2_174) rfl (feq hc174).2 (by decide) (by decide)) ?_
              exact J190_2 _ _ X281 N126 e281
        · have J190_1 : ∀ (T285 : State) (lc285 : List Loc) (X285 : Stand p l e ({ frames := 2, cells := 6, slots := 40, locals := 60 } : Room) s m #[(.ref oa), (.ref ob)] below meth c T285 lc285 5 21) (N285 : Fr n0 lc285) (e285 : T285.heap = h126) , ownEnds p.tables e below (ownPost s (fun v h L => v = none ∧ Fr n0 L ∧ Keep h0 h [oa] ∧ ∃ (c0 c1 c2 c3 c4 : Addr) (k0 k1 k2 k3 k4 : ClassId) (rs : List Value) (len : Int32), Exa Z h oa "com/example/libreach/libreach/engine/StateLayout" ∧ Fld Z h oa "com/example/libreach/libreach/engine/StateLayout" "widths" "[I" (.ref c0) ∧ Arv Z h c0 k0 .int (4 : Int32) [(.int w0), (.int w1), (.int w2), (.int w3)] (.int (0 : Int32)) ∧ Fld Z h oa "com/example/libreach/libreach/engine/StateLayout" "word" "[I" (.ref c1) ∧ Arv Z h c1 k1 .int (4 : Int32) [(.int (0 : Int32)), (.int (LI1 w0 w1)), (.int (LI2 w0 w1 w2)), (.int (LI3 w0 w1 w2 w3))] (.int (0 : Int32)) ∧ Fld Z h oa "com/example/libreach/libreach/engine/StateLayout" "shift" "[I" (.ref c2) ∧ Arv Z h c2 k2 .int (4 : Int32) [(.int (0 : Int32)), (.int (LS1 w0 w1)), (.int (LS2 w0 w1 w2)), (.int (LS3 w0 w1 w2 w3))] (.int (0 : Int32)) ∧ Fld Z h oa "com/example/libreach/libreach/engine/StateLayout" "largest" "[J" (.ref c3) ∧ Arv Z h c3 k3 .long (4 : Int32) [(.long (LM w0)), (.long (LM w1)), (.long (LM w2)), (.long (LM w3))] (.long (0 : Int64)) ∧ Fld Z h oa "com/example/libreach/libreach/engine/StateLayout" "runs" "[I" (.ref c4) ∧ Arv Z h c4 k4 .int len rs (.int (0 : Int32)) ∧ RunOK w0 w1 w2 w3 rs len) ({ frames := 2, cells := 6, slots := 40, locals := 60 } : Room).cells ({ frames := 2, cells := 6, slots := 40, locals := 60 } : Room).slots) (T285.setTop (mkF m 190 #[.val (.ref oa), .val (.ref ob), .val (.int (LI3 w0 w1 w2 w3)), .val (.int ((LS3 w0 w1 w2 w3) + w3)), .val (.int (1 : Int32)), .val (.ref b117), .val (.int (1 : Int32))] [])) := by
            intro T285 lc285 X285 N285 e285 
            show ownEnds _ _ _ _ (T285.setTop (mkF m 190 #[.val (.ref oa), .val (.ref ob), .val (.int (LI3 w0 w1 w2 w3)), .val (.int ((LS3 w0 w1 w2 w3) + w3)), .val (.int (1 : Int32)), .val (.ref b117), .val (.int (1 : Int32))] []))
            refine ownEnds.law (fun t k => XS.aload X285.here hx rfl (hb hby d2_190) rfl rfl (XS.iload X285.here hx rfl (hb hby d2_192) rfl (XS.iinc X285.here hx rfl (hb hby d2_194) rfl (l' := #[.val (.ref oa), .val (.ref ob), .val (.int (LI3 w0 w1 w2 w3)), .val (.int ((LS3 w0 w1 w2 w3) + w3)), .val (.int (2 : Int32)), .val (.ref b117), .val (.int (1 : Int32))]) rfl (XS.iload X285.here hx rfl (hb hby d2_197) rfl k)))) ?_
            show ownEnds _ _ _ _ (T285.setTop (mkF m 199 #[.val (.ref oa), .val (.ref ob), .val (.int (LI3 w0 w1 w2 w3)), .val (.int ((LS3 w0 w1 w2 w3) + w3)), .val (.int (2 : Int32)), .val (.ref b117), .val (.int (1 : Int32))] [(.int (1 : Int32)), (.int (1 : Int32)), (.ref b117)]))
            obtain ⟨cl286, Ar286, q286, S286, N286, H286, G286⟩ := id V126
            obtain ⟨T286, h286, X286, e286, W286, st286⟩ := stI X285 hx hZ e285 Ar286 (j := (1 : Int32)) (inb_of S286 ⟨by decide, by decide⟩) (g := (mkF m 199 #[.val (.ref oa), .val (.ref ob), .val (.int (LI3 w0 w1 w2 w3)), .val (.int ((LS3 w0 w1 w2 w3) + w3)), .val (.int (2 : Int32)), .val (.ref b117), .val (.int (1 : Int32))] [(.int (1 : Int32)), (.int (1 : Int32)), (.ref b117)])) rfl rfl (hb hby d2_199)
            refine ownEnds.law st286 ?_
            have V286 : Arv Z h286 b117 k117 .int (5 : Int32) [(.int (0 : Int32)), (.int (1 : Int32)), (.int (0 : Int32)), (.int (0 : Int32)), (.int (0 : Int32))] (.int (0 : Int32)) := Arv.set Ar286 q286 S286 N286 H286 G286 rfl W286 1 rfl (Nat.le_of_ble_eq_true rfl)
            have N286 := Fr.snoc X286 N285 g_b117
            have KK286 : Keep h0 h286 [oa] := (KK126).wr W286 (Or.inr sz_b117)
            have Z286 : n0 ≤ h286.size := by rw [W286.size]; exact Z126
            show ownEnds _ _ _ _ (T286.setTop (mkF m 200 #[.val (.ref oa), .val (.ref ob), .val (.int (LI3 w0 w1 w2 w3)), .val (.int ((LS3 w0 w1 w2 w3) + w3)), .val (.int (2 : Int32)), .val (.ref b117), .val (.int (1 : Int32))] []))
            refine ownEnds.law (fun t k => XS.iinc X286.here hx rfl (hb hby d2_200) rfl (l' := #[.val (.ref oa), .val (.ref ob), .val (.int (LI3 w0 w1 w2 w3)), .val (.int ((LS3 w0 w1 w2 w3) + w3)), .val (.int (2 : Int32)), .val (.ref b117), .val (.int (2 : Int32))]) rfl (XS.goto X286.here hx rfl (pc0 := 203) (pc' := 146) rfl (hb hby d2_203) (by decide) (by decide) (XS.iload X286.here hx rfl (hb hby d2_146) rfl (XS.aloadN X286.here hx rfl (hb hby d2_148) rfl rfl k)))) ?_
            show ownEnds _ _ _ _ (T286.setTop (mkF m 149 #[.val (.ref oa), .val (.ref ob), .val (.int (LI3 w0 w1 w2 w3)), .val (.int ((LS3 w0 w1 w2 w3) + w3)), .val (.int (2 : Int32)), .val (.ref b117), .val (.int (2 : Int32))] [(.ref ob), (.int (2 : Int32))]))
            have f288 := (Arv.other f128 W286 ne_ob_b117)
            obtain ⟨cl287, Ar287, -, S287, N287, -, -⟩ := id f288
            refine ownEnds.law (X286.arraylength hx (by rw [e286]; exact Ar287.1) (State.isArrayOf_alike hZ.alike Ar287.2.1) (g := (mkF m 149 #[.val (.ref oa), .val (.ref ob), .val (.int (LI3 w0 w1 w2 w3)), .val (.int ((LS3 w0 w1 w2 w3) + w3)), .val (.int (2 : Int32)), .val (.ref b117), .val (.int (2 : Int32))] [(.ref ob), (.int (2 : Int32))])) rfl rfl (hb hby d2_149)) ?_
            rw [len_of S287 N287]
            show ownEnds _ _ _ _ (T286.setTop (mkF m 150 #[.val (.ref oa), .val (.ref ob), .val (.int (LI3 w0 w1 w2 w3)), .val (.int ((LS3 w0 w1 w2 w3) + w3)), .val (.int (2 : Int32)), .val (.ref b117), .val (.int (2 : Int32))] [(.int (4 : Int32)), (.int (2 : Int32))]))
            refine ownEnds.law (fun t => XS.icmpNo X286.here hx rfl (hb hby d2_150) rfl (tlt (by decide : (2 : Int32) < (4 : Int32))).2.1) ?_
            show ownEnds _ _ _ _ (T286.setTop (mkF m 153 #[.val (.ref oa), .val (.ref ob), .val (.int (LI3 w0 w1 w2 w3)), .val (.int ((LS3 w0 w1 w2 w3) + w3)), .val (.int (2 : Int32)), .val (.ref b117), .val (.int (2 : Int32))] []))
            refine ownEnds.law (fun t k => XS.iload X286.here hx rfl (hb hby d2_153) rfl k) ?_
            show ownEnds _ _ _ _ (T286.setTop (mkF m 155 #[.val (.ref oa), .val (.ref ob), .val (.int (LI3 w0 w1 w2 w3)), .val (.int ((LS3 w0 w1 w2 w3) + w3)), .val (.int (2 : Int32)), .val (.ref b117), .val (.int (2 : Int32))] [(.int (2 : Int32))]))
            refine ownEnds.law (fun t => XS.ifNo X286.here hx rfl (hb hby d2_155) rfl ((if0 _ _).trans (feq (by decide : ¬ ((2 : Int32) = (0 : Int32)))).1)) ?_
            by_cases hN2 : N2 w0 w1 w2
            · show ownEnds _ _ _ _ (T286.setTop (mkF m 158 #[.val (.ref oa), .val (.ref ob), .val (.int (LI3 w0 w1 w2 w3)), .val (.int ((LS3 w0 w1 w2 w3) + w3)), .val (.int (2 : Int32)), .val (.ref b117), .val (.int (2 : Int32))] []))
              refine ownEnds.law (fun t k => XS.aloadN X286.here hx rfl (hb hby d2_158) rfl rfl k) ?_
              show ownEnds _ _ _ _ (T286.setTop (mkF m 159 #[.val (.ref oa), .val (.ref ob), .val (.int (LI3 w0 w1 w2 w3)), .val (.int ((LS3 w0 w1 w2 w3) + w3)), .val (.int (2 : Int32)), .val (.ref b117), .val (.int (2 : Int32))] [(.ref oa)]))
              have f289 := (Fld.other W286 (Fld.other W126 (Fld.ext E117 (Fld.other W114 (Fld.other W106 (Fld.other W100 (Fld.other W96 f94 (Or.inl ne_oa_b9)) (Or.inl ne_oa_b18)) (Or.inl ne_oa_b28)) (Or.inr (slot_ne (Or.inr (wd_26 hw)) (Or.inr (wd_34 hw)) (by decide) (t := (.array .int)) (t' := .int) (by decide) (by decide))))) (Or.inl ne_oa_b117)) (Or.inl ne_oa_b117))
              obtain ⟨T290, X290, e290, st290⟩ := getF X286 hx hZ hown (host := "") (Or.inl (wd_25 hw)) Via.refl e286 f289 (g := (mkF m 159 #[.val (.ref oa), .val (.ref ob), .val (.int (LI3 w0 w1 w2 w3)), .val (.int ((LS3 w0 w1 w2 w3) + w3)), .val (.int (2 : Int32)), .val (.ref b117), .val (.int (2 : Int32))] [(.ref oa)])) rfl rfl (hb hby d2_159)
              refine ownEnds.law st290 ?_
              show ownEnds _ _ _ _ (T290.setTop (mkF m 162 #[.val (.ref oa), .val (.ref ob), .val (.int (LI3 w0 w1 w2 w3)), .val (.int ((LS3 w0 w1 w2 w3) + w3)), .val (.int (2 : Int32)), .val (.ref b117), .val (.int (2 : Int32))] [(.ref b9)]))
              refine ownEnds.law (fun t k => XS.iload X290.here hx rfl (hb hby d2_162) rfl k) ?_
              show ownEnds _ _ _ _ (T290.setTop (mkF m 164 #[.val (.ref oa), .val (.ref ob), .val (.int (LI3 w0 w1 w2 w3)), .val (.int ((LS3 w0 w1 w2 w3) + w3)), .val (.int (2 : Int32)), .val (.ref b117), .val (.int (2 : Int32))] [(.int (2 : Int32)), (.ref b9)]))
              have f292 := (Arv.other (Arv.other (Arv.ext f121 E117) W126 ne_b9_b117) W286 ne_b9_b117)
              obtain ⟨cl291, Ar291, q291, S291, N291, H291, G291⟩ := id f292
              have hi291 := inb_of (j := (2 : Int32)) S291 ⟨by decide, by decide⟩
              have hv291 : cl291.slots[((2 : Int32)).toNatClampNeg]? = some (.int (LI2 w0 w1 w2)) := H291.at hi291 rfl
              refine ownEnds.law (fun t k => X290.iaload hx (j := (2 : Int32)) (v := (.int (LI2 w0 w1 w2))) (by rw [e290]; exact Ar291.1) (State.isArrayOf_alike hZ.alike Ar291.2.1) Ar291.2.2 hi291 hv291 (g := (mkF m 164 #[.val (.ref oa), .val (.ref ob), .val (.int (LI3 w0 w1 w2 w3)), .val (.int ((LS3 w0 w1 w2 w3) + w3)), .val (.int (2 : Int32)), .val (.ref b117), .val (.int (2 : Int32))] [(.int (2 : Int32)), (.ref b9)])) rfl rfl (hb hby d2_164) _ (XS.aloadN X290.here hx rfl (hb hby d2_165) rfl rfl k)) ?_
              show ownEnds _ _ _ _ (T290.setTop (mkF m 166 #[.val (.ref oa), .val (.ref ob), .val (.int (LI3 w0 w1 w2 w3)), .val (.int ((LS3 w0 w1 w2 w3) + w3)), .val (.int (2 : Int32)), .val (.ref b117), .val (.int (2 : Int32))] [(.ref oa), (.int (LI2 w0 w1 w2))]))
              obtain ⟨T293, X293, e293, st293⟩ := getF X290 hx hZ hown (host := "") (Or.inl (wd_25 hw)) Via.refl e290 f289 (g := (mkF m 166 #[.val (.ref oa), .val (.ref ob), .val (.int (LI3 w0 w1 w2 w3)), .val (.int ((LS3 w0 w1 w2 w3) + w3)), .val (.int (2 : Int32)), .val (.ref b117), .val (.int (2 : Int32))] [(.ref oa), (.int (LI2 w0 w1 w2))])) rfl rfl (hb hby d2_166)
              refine ownEnds.law st293 ?_
              show ownEnds _ _ _ _ (T293.setTop (mkF m 169 #[.val (.ref oa), .val (.ref ob), .val (.int (LI3 w0 w1 w2 w3)), .val (.int ((LS3 w0 w1 w2 w3) + w3)), .val (.int (2 : Int32)), .val (.ref b117), .val (.int (2 : Int32))] [(.ref b9), (.int (LI2 w0 w1 w2))]))
              refine ownEnds.law (fun t k => XS.iload X293.here hx rfl (hb hby d2_169) rfl (XS.iconst X293.here hx rfl (hb hby d2_171) (XS.isub X293.here hx rfl (hb hby d2_172) rfl k))) ?_
              show ownEnds _ _ _ _ (T293.setTop (mkF m 173 #[.val (.ref oa), .val (.ref ob), .val (.int (LI3 w0 w1 w2 w3)), .val (.int ((LS3 w0 w1 w2 w3) + w3)), .val (.int (2 : Int32)), .val (.ref b117), .val (.int (2 : Int32))] [(.int (1 : Int32)), (.ref b9), (.int (LI2 w0 w1 w2))]))
              obtain ⟨cl294, Ar294, q294, S294, N294, H294, G294⟩ := id f292
              have hi294 := inb_of (j := (1 : Int32)) S294 ⟨by decide, by decide⟩
              have hv294 : cl294.slots[((1 : Int32)).toNatClampNeg]? = some (.int (LI1 w0 w1)) := H294.at hi294 rfl
              refine ownEnds.law (fun t k => X293.iaload hx (j := (1 : Int32)) (v := (.int (LI1 w0 w1))) (by rw [e293]; exact Ar294.1) (State.isArrayOf_alike hZ.alike Ar294.2.1) Ar294.2.2 hi294 hv294 (g := (mkF m 173 #[.val (.ref oa), .val (.ref ob), .val (.int (LI3 w0 w1 w2 w3)), .val (.int ((LS3 w0 w1 w2 w3) + w3)), .val (.int (2 : Int32)), .val (.ref b117), .val (.int (2 : Int32))] [(.int (1 : Int32)), (.ref b9), (.int (LI2 w0 w1 w2))])) rfl rfl (hb hby d2_173) _ k) ?_
              show ownEnds _ _ _ _ (T293.setTop (mkF m 174 #[.val (.ref oa), .val (.ref ob), .val (.int (LI3 w0 w1 w2 w3)), .val (.int ((LS3 w0 w1 w2 w3) + w3)), .val (.int (2 : Int32)), .val (.ref b117), .val (.int (2 : Int32))] [(.int (LI1 w0 w1)), (.int (LI2 w0 w1 w2))]))
              have hc174 : (LI2 w0 w1 w2) = (LI1 w0 w1) := hN2.1
              refine ownEnds.law (fun t => XS.icmpNo X293.here hx rfl (hb hby d2_174) rfl (teq hc174).2) ?_
              show ownEnds _ _ _ _ (T293.setTop (mkF m 177 #[.val (.ref oa), .val (.ref ob), .val (.int (LI3 w0 w1 w2 w3)), .val (.int ((LS3 w0 w1 w2 w3) + w3)), .val (.int (2 : Int32)), .val (.ref b117), .val (.int (2 : Int32))] []))
              refine ownEnds.law (fun t k => XS.aloadN X293.here hx rfl (hb hby d2_177) rfl rfl (XS.iload X293.here hx rfl (hb hby d2_178) rfl k)) ?_
              show ownEnds _ _ _ _ (T293.setTop (mkF m 180 #[.val (.ref oa), .val (.ref ob), .val (.int (LI3 w0 w1 w2 w3)), .val (.int ((LS3 w0 w1 w2 w3) + w3)), .val (.int (2 : Int32)), .val (.ref b117), .val (.int (2 : Int32))] [(.int (2 : Int32)), (.ref ob)]))
              obtain ⟨cl295, Ar295, q295, S295, N295, H295, G295⟩ := id f288
              have hi295 := inb_of (j := (2 : Int32)) S295 ⟨by decide, by decide⟩
              have hv295 : cl295.slots[((2 : Int32)).toNatClampNeg]? = some (.int w2) := H295.at hi295 rfl
              refine ownEnds.law (fun t k => X293.iaload hx (j := (2 : Int32)) (v := (.int w2)) (by rw [e293]; exact Ar295.1) (State.isArrayOf_alike hZ.alike Ar295.2.1) Ar295.2.2 hi295 hv295 (g := (mkF m 180 #[.val (.ref oa), .val (.ref ob), .val (.int (LI3 w0 w1 w2 w3)), .val (.int ((LS3 w0 w1 w2 w3) + w3)), .val (.int (2 : Int32)), .val (.ref b117), .val (.int (2 : Int32))] [(.int (2 : Int32)), (.ref ob)])) rfl rfl (hb hby d2_180) _ (XS.aloadN X293.here hx rfl (hb hby d2_181) rfl rfl (XS.iload X293.here hx rfl (hb hby d2_182) rfl (XS.iconst X293.here hx rfl (hb hby d2_184) (XS.isub X293.here hx rfl (hb hby d2_185) rfl k))))) ?_
              show ownEnds _ _ _ _ (T293.setTop (mkF m 186 #[.val (.ref oa), .val (.ref ob), .val (.int (LI3 w0 w1 w2 w3)), .val (.int ((LS3 w0 w1 w2 w3) + w3)), .val (.int (2 : Int32)), .val (.ref b117), .val (.int (2 : Int32))] [(.int (1 : Int32)), (.ref ob), (.int w2)]))
              obtain ⟨cl296, Ar296, q296, S296, N296, H296, G296⟩ := id f288
              have hi296 := inb_of (j := (1 : Int32)) S296 ⟨by decide, by decide⟩
              have hv296 : cl296.slots[((1 : Int32)).toNatClampNeg]? = some (.int w1) := H296.at hi296 rfl
              refine ownEnds.law (fun t k => X293.iaload hx (j := (1 : Int32)) (v := (.int w1)) (by rw [e293]; exact Ar296.1) (State.isArrayOf_alike hZ.alike Ar296.2.1) Ar296.2.2 hi296 hv296 (g := (mkF m 186 #[.val (.ref oa), .val (.ref ob), .val (.int (LI3 w0 w1 w2 w3)), .val (.int ((LS3 w0 w1 w2 w3) + w3)), .val (.int (2 : Int32)), .val (.ref b117), .val (.int (2 : Int32))] [(.int (1 : Int32)), (.ref ob), (.int w2)])) rfl rfl (hb hby d2_186) _ k) ?_
              show ownEnds _ _ _ _ (T293.setTop (mkF m 187 #[.val (.ref oa), .val (.ref ob), .val (.int (LI3 w0 w1 w2 w3)), .val (.int ((LS3 w0 w1 w2 w3) + w3)), .val (.int (2 : Int32)), .val (.ref b117), .val (.int (2 : Int32))] [(.int w1), (.int w2)]))
              have hc187 : w2 = w1 := hN2.2
              refine ownEnds.law (fun t => XS.icmpYes X293.here hx rfl (pc0 := 187) (pc' := 200) rfl (hb hby d2_187) rfl (teq hc187).1 (by decide) (by decide)) ?_
              show ownEnds _ _ _ _ (T293.setTop (mkF m 200 #[.val (.ref oa), .val (.ref ob), .val (.int (LI3 w0 w1 w2 w3)), .val (.int ((LS3 w0 w1 w2 w3) + w3)), .val (.int (2 : Int32)), .val (.ref b117), .val (.int (2 : Int32))] []))
              refine ownEnds.law (fun t k => XS.iinc X293.here hx rfl (hb hby d2_200) rfl (l' := #[.val (.ref oa), .val (.ref ob), .val (.int (LI3 w0 w1 w2 w3)), .val (.int ((LS3 w0 w1 w2 w3) + w3)), .val (.int (2 : Int32)), .val (.ref b117), .val (.int (3 : Int32))]) rfl (XS.goto X293.here hx rfl (pc0 := 203) (pc' := 146) rfl (hb hby d2_203) (by decide) (by decide) (XS.iload X293.here hx rfl (hb hby d2_146) rfl (XS.aloadN X293.here hx rfl (hb hby d2_148) rfl rfl k)))) ?_
              show ownEnds _ _ _ _ (T293.setTop (mkF m 149 #[.val (.ref oa), .val (.ref ob), .val (.int (LI3 w0 w1 w2 w3)), .val (.int ((LS3 w0 w1 w2 w3) + w3)), .val (.int (2 : Int32)), .val (.ref b117), .val (.int (3 : Int32))] [(.ref ob), (.int (3 : Int32))]))
              obtain ⟨cl297, Ar297, -, S297, N297, -, -⟩ := id f288
              refine ownEnds.law (X293.arraylength hx (by rw [e293]; exact Ar297.1) (State.isArrayOf_alike hZ.alike Ar297.2.1) (g := (mkF m 149 #[.val (.ref oa), .val (.ref ob), .val (.int (LI3 w0 w1 w2 w3)), .val (.int ((LS3 w0 w1 w2 w3) + w3)), .val (.int (2 : Int32)), .val (.ref b117), .val (.int (3 : Int32))] [(.ref ob), (.int (3 : Int32))])) rfl rfl (hb hby d2_149)) ?_
              rw [len_of S297 N297]
              show ownEnds _ _ _ _ (T293.setTop (mkF m 150 #[.val (.ref oa), .val (.ref ob), .val (.int (LI3 w0 w1 w2 w3)), .val (.int ((LS3 w0 w1 w2 w3) + w3)), .val (.int (2 : Int32)), .val (.ref b117), .val (.int (3 : Int32))] [(.int (4 : Int32)), (.int (3 : Int32))]))
              refine ownEnds.law (fun t => XS.icmpNo X293.here hx rfl (hb hby d2_150) rfl (tlt (by decide : (3 : Int32) < (4 : Int32))).2.1) ?_
              show ownEnds _ _ _ _ (T293.setTop (mkF m 153 #[.val (.ref oa), .val (.ref ob), .val (.int (LI3 w0 w1 w2 w3)), .val (.int ((LS3 w0 w1 w2 w3) + w3)), .val (.int (2 : Int32)), .val (.ref b117), .val (.int (3 : Int32))] []))
              refine ownEnds.law (fun t k => XS.iload X293.here hx rfl (hb hby d2_153) rfl k) ?_
              show ownEnds _ _ _ _ (T293.setTop (mkF m 155 #[.val (.ref oa), .val (.ref ob), .val (.int (LI3 w0 w1 w2 w3)), .val (.int ((LS3 w0 w1 w2 w3) + w3)), .val (.int (2 : Int32)), .val (.ref b117), .val (.int (3 : Int32))] [(.int (3 : Int32))]))
              refine ownEnds.law (fun t => XS.ifNo X293.here hx rfl (hb hby d2_155) rfl ((if0 _ _).trans (feq (by decide : ¬ ((3 : Int32) = (0 : Int32)))).1)) ?_
              by_cases hN3 : N3 w0 w1 w2 w3
              · show ownEnds _ _ _ _ (T293.setTop (mkF m 158 #[.val (.ref oa), .val (.ref ob), .val (.int (LI3 w0 w1 w2 w3)), .val (.int ((LS3 w0 w1 w2 w3) + w3)), .val (.int (2 : Int32)), .val (.ref b117), .val (.int (3 : Int32))] []))
                refine ownEnds.law (fun t k => XS.aloadN X293.here hx rfl (hb hby d2_158) rfl rfl k) ?_
                show ownEnds _ _ _ _ (T293.setTop (mkF m 159 #[.val (.ref oa), .val (.ref ob), .val (.int (LI3 w0 w1 w2 w3)), .val (.int ((LS3 w0 w1 w2 w3) + w3)), .val (.int (2 : Int32)), .val (.ref b117), .val (.int (3 : Int32))] [(.ref oa)]))
                obtain ⟨T298, X298, e298, st298⟩ := getF X293 hx hZ hown (host := "") (Or.inl (wd_25 hw)) Via.refl e293 f289 (g := (mkF m 159 #[.val (.ref oa), .val (.ref ob), .val (.int (LI3 w0 w1 w2 w3)), .val (.int ((LS3 w0 w1 w2 w3) + w3)), .val (.int (2 : Int32)), .val (.ref b117), .val (.int (3 : Int32))] [(.ref oa)])) rfl rfl (hb hby d2_159)
                refine ownEnds.law st298 ?_
                show ownEnds _ _ _ _ (T298.setTop (mkF m 162 #[.val (.ref oa), .val (.ref ob), .val (.int (LI3 w0 w1 w2 w3)), .val (.int ((LS3 w0 w1 w2 w3) + w3)), .val (.int (2 : Int32)), .val (.ref b117), .val (.int (3 : Int32))] [(.ref b9)]))
                refine ownEnds.law (fun t k => XS.iload X298.here hx rfl (hb hby d2_162) rfl k) ?_
                show ownEnds _ _ _ _ (T298.setTop (mkF m 164 #[.val (.ref oa), .val (.ref ob), .val (.int (LI3 w0 w1 w2 w3)), .val (.int ((LS3 w0 w1 w2 w3) + w3)), .val (.int (2 : Int32)), .val (.ref b117), .val (.int (3 : Int32))] [(.int (3 : Int32)), (.ref b9)]))
                obtain ⟨cl299, Ar299, q299, S299, N299, H299, G299⟩ := id f292
                have hi299 := inb_of (j := (3 : Int32)) S299 ⟨by decide, by decide⟩
                have hv299 : cl299.slots[((3 : Int32)).toNatClampNeg]? = some (.int (LI3 w0 w1 w2 w3)) := H299.at hi299 rfl
                refine ownEnds.law (fun t k => X298.iaload hx (j := (3 : Int32)) (v := (.int (LI3 w0 w1 w2 w3))) (by rw [e298]; exact Ar299.1) (State.isArrayOf_alike hZ.alike Ar299.2.1) Ar299.2.2 hi299 hv299 (g := (mkF m 164 #[.val (.ref oa), .val (.ref ob), .val (.int (LI3 w0 w1 w2 w3)), .val (.int ((LS3 w0 w1 w2 w3) + w3)), .val (.int (2 : Int32)), .val (.ref b117), .val (.int (3 : Int32))] [(.int (3 : Int32)), (.ref b9)])) rfl rfl (hb hby d2_164) _ (XS.aloadN X298.here hx rfl (hb hby d2_165) rfl rfl k)) ?_
                show ownEnds _ _ _ _ (T298.setTop (mkF m 166 #[.val (.ref oa), .val (.ref ob), .val (.int (LI3 w0 w1 w2 w3)), .val (.int ((LS3 w0 w1 w2 w3) + w3)), .val (.int (2 : Int32)), .val (.ref b117), .val (.int (3 : Int32))] [(.ref oa), (.int (LI3 w0 w1 w2 w3))]))
                obtain ⟨T300, X300, e300, st300⟩ := getF X298 hx hZ hown (host := "") (Or.inl (wd_25 hw)) Via.refl e298 f289 (g := (mkF m 166 #[.val (.ref oa), .val (.ref ob), .val (.int (LI3 w0 w1 w2 w3)), .val (.int ((LS3 w0 w1 w2 w3) + w3)), .val (.int (2 : Int32)), .val (.ref b117), .val (.int (3 : Int32))] [(.ref oa), (.int (LI3 w0 w1 w2 w3))])) rfl rfl (hb hby d2_166)
                refine ownEnds.law st300 ?_
                show ownEnds _ _ _ _ (T300.setTop (mkF m 169 #[.val (.ref oa), .val (.ref ob), .val (.int (LI3 w0 w1 w2 w3)), .val (.int ((LS3 w0 w1 w2 w3) + w3)), .val (.int (2 : Int32)), .val (.ref b117), .val (.int (3 : Int32))] [(.ref b9), (.int (LI3 w0 w1 w2 w3))]))
                refine ownEnds.law (fun t k => XS.iload X300.here hx rfl (hb hby d2_169) rfl (XS.iconst X300.here hx rfl (hb hby d2_171) (XS.isub X300.here hx rfl (hb hby d2_172) rfl k))) ?_
                show ownEnds _ _ _ _ (T300.setTop (mkF m 173 #[.val (.ref oa), .val (.ref ob), .val (.int (LI3 w0 w1 w2 w3)), .val (.int ((LS3 w0 w1 w2 w3) + w3)), .val (.int (2 : Int32)), .val (.ref b117), .val (.int (3 : Int32))] [(.int (2 : Int32)), (.ref b9), (.int (LI3 w0 w1 w2 w3))]))
                obtain ⟨cl301, Ar301, q301, S301, N301, H301, G301⟩ := id f292
                have hi301 := inb_of (j := (2 : Int32)) S301 ⟨by decide, by decide⟩
                have hv301 : cl301.slots[((2 : Int32)).toNatClampNeg]? = some (.int (LI2 w0 w1 w2)) := H301.at hi301 rfl
                refine ownEnds.law (fun t k => X300.iaload hx (j := (2 : Int32)) (v := (.int (LI2 w0 w1 w2))) (by rw [e300]; exact Ar301.1) (State.isArrayOf_alike hZ.alike Ar301.2.1) Ar301.2.2 hi301 hv301 (g := (mkF m 173 #[.val (.ref oa), .val (.ref ob), .val (.int (LI3 w0 w1 w2 w3)), .val (.int ((LS3 w0 w1 w2 w3) + w3)), .val (.int (2 : Int32)), .val (.ref b117), .val (.int (3 : Int32))] [(.int (2 : Int32)), (.ref b9), (.int (LI3 w0 w1 w2 w3))])) rfl rfl (hb hby d2_173) _ k) ?_
                show ownEnds _ _ _ _ (T300.setTop (mkF m 174 #[.val (.ref oa), .val (.ref ob), .val (.int (LI3 w0 w1 w2 w3)), .val (.int ((LS3 w0 w1 w2 w3) + w3)), .val (.int (2 : Int32)), .val (.ref b117), .val (.int (3 : Int32))] [(.int (LI2 w0 w1 w2)), (.int (LI3 w0 w1 w2 w3))]))
                have hc174 : (LI3 w0 w1 w2 w3) = (LI2 w0 w1 w2) := hN3.1
                refine ownEnds.law (fun t => XS.icmpNo X300.here hx rfl (hb hby d2_174) rfl (teq hc174).2) ?_
                show ownEnds _ _ _ _ (T300.setTop (mkF m 177 #[.val (.ref oa), .val (.ref ob), .val (.int (LI3 w0 w1 w2 w3)), .val (.int ((LS3 w0 w1 w2 w3) + w3)), .val (.int (2 : Int32)), .val (.ref b117), .val (.int (3 : Int32))] []))
                refine ownEnds.law (fun t k => XS.aloadN X300.here hx rfl (hb hby d2_177) rfl rfl (XS.iload X300.here hx rfl (hb hby d2_178) rfl k)) ?_
                show ownEnds _ _ _ _ (T300.setTop (mkF m 180 #[.val (.ref oa), .val (.ref ob), .val (.int (LI3 w0 w1 w2 w3)), .val (.int ((LS3 w0 w1 w2 w3) + w3)), .val (.int (2 : Int32)), .val (.ref b117), .val (.int (3 : Int32))] [(.int (3 : Int32)), (.ref ob)]))
                obtain ⟨cl302, Ar302, q302, S302, N302, H302, G302⟩ := id f288
                have hi302 := inb_of (j := (3 : Int32)) S302 ⟨by decide, by decide⟩
                have hv302 : cl302.slots[((3 : Int32)).toNatClampNeg]? = some (.int w3) := H302.at hi302 rfl
                refine ownEnds.law (fun t k => X300.iaload hx (j := (3 : Int32)) (v := (.int w3)) (by rw [e300]; exact Ar302.1) (State.isArrayOf_alike hZ.alike Ar302.2.1) Ar302.2.2 hi302 hv302 (g := (mkF m 180 #[.val (.ref oa), .val (.ref ob), .val (.int (LI3 w0 w1 w2 w3)), .val (.int ((LS3 w0 w1 w2 w3) + w3)), .val (.int (2 : Int32)), .val (.ref b117), .val (.int (3 : Int32))] [(.int (3 : Int32)), (.ref ob)])) rfl rfl (hb hby d2_180) _ (XS.aloadN X300.here hx rfl (hb hby d2_181) rfl rfl (XS.iload X300.here hx rfl (hb hby d2_182) rfl (XS.iconst X300.here hx rfl (hb hby d2_184) (XS.isub X300.here hx rfl (hb hby d2_185) rfl k))))) ?_
                show ownEnds _ _ _ _ (T300.setTop (mkF m 186 #[.val (.ref oa), .val (.ref ob), .val (.int (LI3 w0 w1 w2 w3)), .val (.int ((LS3 w0 w1 w2 w3) + w3)), .val (.int (2 : Int32)), .val (.ref b117), .val (.int (3 : Int32))] [(.int (2 : Int32)), (.ref ob), (.int w3)]))
                obtain ⟨cl303, Ar303, q303, S303, N303, H303, G303⟩ := id f288
                have hi303 := inb_of (j := (2 : Int32)) S303 ⟨by decide, by decide⟩
                have hv303 : cl303.slots[((2 : Int32)).toNatClampNeg]? = some (.int w2) := H303.at hi303 rfl
                refine ownEnds.law (fun t k => X300.iaload hx (j := (2 : Int32)) (v := (.int w2)) (by rw [e300]; exact Ar303.1) (State.isArrayOf_alike hZ.alike Ar303.2.1) Ar303.2.2 hi303 hv303 (g := (mkF m 186 #[.val (.ref oa), .val (.ref ob), .val (.int (LI3 w0 w1 w2 w3)), .val (.int ((LS3 w0 w1 w2 w3) + w3)), .val (.int (2 : Int32)), .val (.ref b117), .val (.int (3 : Int32))] [(.int (2 : Int32)), (.ref ob), (.int w3)])) rfl rfl (hb hby d2_186) _ k) ?_
                show ownEnds _ _ _ _ (T300.setTop (mkF m 187 #[.val (.ref oa), .val (.ref ob), .val (.int (LI3 w0 w1 w2 w3)), .val (.int ((LS3 w0 w1 w2 w3) + w3)), .val (.int (2 : Int32)), .val (.ref b117), .val (.int (3 : Int32))] [(.int w2), (.int w3)]))
                have hc187 : w3 = w2 := hN3.2
                refine ownEnds.law (fun t => XS.icmpYes X300.here hx rfl (pc0 := 187) (pc' := 200) rfl (hb hby d2_187) rfl (teq hc187).1 (by decide) (by decide)) ?_
                show ownEnds _ _ _ _ (T300.setTop (mkF m 200 #[.val (.ref oa), .val (.ref ob), .val (.int (LI3 w0 w1 w2 w3)), .val (.int ((LS3 w0 w1 w2 w3) + w3)), .val (.int (2 : Int32)), .val (.ref b117), .val (.int (3 : Int32))] []))
                refine ownEnds.law (fun t k => XS.iinc X300.here hx rfl (hb hby d2_200) rfl (l' := #[.val (.ref oa), .val (.ref ob), .val (.int (LI3 w0 w1 w2 w3)), .val (.int ((LS3 w0 w1 w2 w3) + w3)), .val (.int (2 : Int32)), .val (.ref b117), .val (.int (4 : Int32))]) rfl (XS.goto X300.here hx rfl (pc0 := 203) (pc' := 146) rfl (hb hby d2_203) (by decide) (by decide) (XS.iload X300.here hx rfl (hb hby d2_146) rfl (XS.aloadN X300.here hx rfl (hb hby d2_148) rfl rfl k)))) ?_
                show ownEnds _ _ _ _ (T300.setTop (mkF m 149 #[.val (.ref oa), .val (.ref ob), .val (.int (LI3 w0 w1 w2 w3)), .val (.int ((LS3 w0 w1 w2 w3) + w3)), .val (.int (2 : Int32)), .val (.ref b117), .val (.int (4 : Int32))] [(.ref ob), (.int (4 : Int32))]))
                obtain ⟨cl304, Ar304, -, S304, N304, -, -⟩ := id f288
                refine ownEnds.law (X300.arraylength hx (by rw [e300]; exact Ar304.1) (State.isArrayOf_alike hZ.alike Ar304.2.1) (g := (mkF m 149 #[.val (.ref oa), .val (.ref ob), .val (.int (LI3 w0 w1 w2 w3)), .val (.int ((LS3 w0 w1 w2 w3) + w3)), .val (.int (2 : Int32)), .val (.ref b117), .val (.int (4 : Int32))] [(.ref ob), (.int (4 : Int32))])) rfl rfl (hb hby d2_149)) ?_
                rw [len_of S304 N304]
                show ownEnds _ _ _ _ (T300.setTop (mkF m 150 #[.val (.ref oa), .val (.ref ob), .val (.int (LI3 w0 w1 w2 w3)), .val (.int ((LS3 w0 w1 w2 w3) + w3)), .val (.int (2 : Int32)), .val (.ref b117), .val (.int (4 : Int32))] [(.int (4 : Int32)), (.int (4 : Int32))]))
                refine ownEnds.law (fun t => XS.icmpYes X300.here hx rfl (pc0 := 150) (pc' := 206) rfl (hb hby d2_150) rfl (flt (Int32.lt_irrefl)).2.1 (by decide) (by decide)) ?_
                show ownEnds _ _ _ _ (T300.setTop (mkF m 206 #[.val (.ref oa), .val (.ref ob), .val (.int (LI3 w0 w1 w2 w3)), .val (.int ((LS3 w0 w1 w2 w3) + w3)), .val (.int (2 : Int32)), .val (.ref b117), .val (.int (4 : Int32))] []))
                refine ownEnds.law (fun t k => XS.aload X300.here hx rfl (hb hby d2_206) rfl rfl (XS.iload X300.here hx rfl (hb hby d2_208) rfl (XS.iinc X300.here hx rfl (hb hby d2_210) rfl (l' := #[.val (.ref oa), .val (.ref ob), .val (.int (LI3 w0 w1 w2 w3)), .val (.int ((LS3 w0 w1 w2 w3) + w3)), .val (.int (3 : Int32)), .val (.ref b117), .val (.int (4 : Int32))]) rfl (XS.aloadN X300.here hx rfl (hb hby d2_213) rfl rfl k)))) ?_
                show ownEnds _ _ _ _ (T300.setTop (mkF m 214 #[.val (.ref oa), .val (.ref ob), .val (.int (LI3 w0 w1 w2 w3)), .val (.int ((LS3 w0 w1 w2 w3) + w3)), .val (.int (3 : Int32)), .val (.ref b117), .val (.int (4 : Int32))] [(.ref ob), (.int (2 : Int32)), (.ref b117)]))
                obtain ⟨cl305, Ar305, -, S305, N305, -, -⟩ := id f288
                refine ownEnds.law (X300.arraylength hx (by rw [e300]; exact Ar305.1) (State.isArrayOf_alike hZ.alike Ar305.2.1) (g := (mkF m 214 #[.val (.ref oa), .val (.ref ob), .val (.int (LI3 w0 w1 w2 w3)), .val (.int ((LS3 w0 w1 w2 w3) + w3)), .val (.int (3 : Int32)), .val (.ref b117), .val (.int (4 : Int32))] [(.ref ob), (.int (2 : Int32)), (.ref b117)])) rfl rfl (hb hby d2_214)) ?_
                rw [len_of S305 N305]
                show ownEnds _ _ _ _ (T300.setTop (mkF m 215 #[.val (.ref oa), .val (.ref ob), .val (.int (LI3 w0 w1 w2 w3)), .val (.int ((LS3 w0 w1 w2 w3) + w3)), .val (.int (3 : Int32)), .val (.ref b117), .val (.int (4 : Int32))] [(.int (4 : Int32)), (.int (2 : Int32)), (.ref b117)]))
                obtain ⟨cl306, Ar306, q306, S306, N306, H306, G306⟩ := id V286
                obtain ⟨T306, h306, X306, e306, W306, st306⟩ := stI X300 hx hZ e300 Ar306 (j := (2 : Int32)) (inb_of S306 ⟨by decide, by decide⟩) (g := (mkF m 215 #[.val (.ref oa), .val (.ref ob), .val (.int (LI3 w0 w1 w2 w3)), .val (.int ((LS3 w0 w1 w2 w3) + w3)), .val (.int (3 : Int32)), .val (.ref b117), .val (.int (4 : Int32))] [(.int (4 : Int32)), (.int (2 : Int32)), (.ref b117)])) rfl rfl (hb hby d2_215)
                refine ownEnds.law st306 ?_
                have V306 : Arv Z h306 b117 k117 .int (5 : Int32) [(.int (0 : Int32)), (.int (1 : Int32)), (.int (4 : Int32)), (.int (0 : Int32)), (.int (0 : Int32))] (.int (0 : Int32)) := Arv.set Ar306 q306 S306 N306 H306 G306 rfl W306 2 rfl (Nat.le_of_ble_eq_true rfl)
                have N306 := Fr.snoc X306 N286 g_b117
                have KK306 : Keep h0 h306 [oa] := (KK286).wr W306 (Or.inr sz_b117)
                have Z306 : n0 ≤ h306.size := by rw [W306.size]; exact Z286
                show ownEnds _ _ _ _ (T306.setTop (mkF m 216 #[.val (.ref oa), .val (.ref ob), .val (.int (LI3 w0 w1 w2 w3)), .val (.int ((LS3 w0 w1 w2 w3) + w3)), .val (.int (3 : Int32)), .val (.ref b117), .val (.int (4 : Int32))] []))
                refine ownEnds.law (fun t k => XS.aloadN X306.here hx rfl (hb hby d2_216) rfl rfl (XS.aload X306.here hx rfl (hb hby d2_217) rfl rfl (XS.iload X306.here hx rfl (hb hby d2_219) rfl k))) ?_
                show ownEnds _ _ _ _ (T306.setTop (mkF m 221 #[.val (.ref oa), .val (.ref ob), .val (.int (LI3 w0 w1 w2 w3)), .val (.int ((LS3 w0 w1 w2 w3) + w3)), .val (.int (3 : Int32)), .val (.ref b117), .val (.int (4 : Int32))] [(.int (3 : Int32)), (.ref b117), (.ref oa)]))
                have f308 := (Exa.wr W306 (Exa.wr W286 (Exa.wr W126 Ax117)))
                obtain ⟨v307, T307, L307, X307, hQ307, st307⟩ := ownCallS X306 hx hZ hown (y := (⟨"java/util/Arrays", "copyOf", "([II)[I"⟩ : MethodName)) (as := [(.ref b117), (.int (3 : Int32))]) (wd_35 hw) (wd_36 hw) (wd_37 hw) (wd_38 hw) (by decide) (rm4_3 l Z a0 hw b117 k117 (.int (0 : Int32)) (.int (1 : Int32)) (.int (4 : Int32)) (.int (0 : Int32)) (.int (0 : Int32)) h306 n0 Z306 V306 f308) e306 1 (by decide) (by decide) (by decide) (by decide) (g := (mkF m 221 #[.val (.ref oa), .val (.ref ob), .val (.int (LI3 w0 w1 w2 w3)), .val (.int ((LS3 w0 w1 w2 w3) + w3)), .val (.int (3 : Int32)), .val (.ref b117), .val (.int (4 : Int32))] [(.int (3 : Int32)), (.ref b117), (.ref oa)])) rfl (by rw [hml]; rfl) (rest := [(.ref oa)]) pd_1 rfl rfl (by show 2 * 0 + _ ≤ _; exact Nat.le_of_eq rfl) (hb hby d2_221)
                obtain ⟨b307, kb307, rfl, Nq307, Kq307, g_b307, zq307, Vq307⟩ := hQ307
                have f309 := (Exa.wr W306 (Exa.wr W286 (Exa.wr W126 (Exa.ext E117 f118))))
                have ne_oa_b307 : oa ≠ b307 := Nat.ne_of_lt (Nat.lt_of_lt_of_le f309.lt zq307)
                have f310 := (Exa.wr W306 (Exa.wr W286 (Exa.wr W126 (Exa.ext E117 f119))))
                have ne_ob_b307 : ob ≠ b307 := Nat.ne_of_lt (Nat.lt_of_lt_of_le f310.lt zq307)
                have f311 := (Arv.other (Arv.other (Arv.other (Arv.ext f120 E117) W126 ne_b2_b117) W286 ne_b2_b117) W306 ne_b2_b117)
                have ne_b2_b307 : b2 ≠ b307 := Nat.ne_of_lt (Nat.lt_of_lt_of_le f311.lt zq307)
                have f312 := (Arv.other f292 W306 ne_b9_b117)
                have ne_b9_b307 : b9 ≠ b307 := Nat.ne_of_lt (Nat.lt_of_lt_of_le f312.lt zq307)
                have f313 := (Arv.other (Arv.other (Arv.other (Arv.ext f122 E117) W126 ne_b18_b117) W286 ne_b18_b117) W306 ne_b18_b117)
                have ne_b18_b307 : b18 ≠ b307 := Nat.ne_of_lt (Nat.lt_of_lt_of_le f313.lt zq307)
                have f314 := (Arv.other (Arv.other (Arv.other (Arv.ext f123 E117) W126 ne_b28_b117) W286 ne_b28_b117) W306 ne_b28_b117)
                have ne_b28_b307 : b28 ≠ b307 := Nat.ne_of_lt (Nat.lt_of_lt_of_le f314.lt zq307)
                have ne_b117_b307 : b117 ≠ b307 := Nat.ne_of_lt (Nat.lt_of_lt_of_le V306.lt zq307)
                have sz_b307 : h0.size ≤ b307 := Nat.le_trans (KK306).1 zq307
                have N307 := Fr.app N306 Nq307
                have KK307 : Keep h0 T307.heap [oa] := Keep.trans (KK306) Kq307 all0
                have Z307 : n0 ≤ T307.heap.size := Nat.le_trans Z306 Kq307.1
                refine ownEnds.law st307 ?_
                show ownEnds _ _ _ _ (T307.setTop (mkF m 224 #[.val (.ref oa), .val (.ref ob), .val (.int (LI3 w0 w1 w2 w3)), .val (.int ((LS3 w0 w1 w2 w3) + w3)), .val (.int (3 : Int32)), .val (.ref b117), .val (.int (4 : Int32))] [(.ref b307), (.ref oa)]))
                have f315 := (Exa.keep f309 Kq307)
                have f316 := (Fld.keep (Fld.other W306 (Fld.other W286 (Fld.other W126 (Fld.ext E117 (Fld.other W114 (Fld.other W106 (Fld.other W100 (Fld.other W96 (Fld.other W88 (Fld.other W82 (Fld.other W78 (Fld.other W70 (Fld.other W64 (Fld.other W60 (Fld.other W52 (Fld.other W46 (Fld.other W42 (Fld.other W36 (Fld.ext E28 (Fld.other W25 (Fld.ext E18 (Fld.other W15 (Fld.ext E9 (Fld.other W6 (Fld.ext E2 F_oa_runs) (Or.inr (slot_ne (Or.inr (wd_42 hw)) (Or.inr (wd_24 hw)) (by decide) (t := (.array .int)) (t' := (.array .int)) (by decide) (by decide))))) (Or.inr (slot_ne (Or.inr (wd_42 hw)) (Or.inr (wd_26 hw)) (by decide) (t := (.array .int)) (t' := (.array .int)) (by decide) (by decide))))) (Or.inr (slot_ne (Or.inr (wd_42 hw)) (Or.inr (wd_28 hw)) (by decide) (t := (.array .int)) (t' := (.array .int)) (by decide) (by decide))))) (Or.inr (slot_ne (Or.inr (wd_42 hw)) (Or.inr (wd_31 hw)) (by decide) (t := (.array .int)) (t' := (.array .long)) (by decide) (by decide)))) (Or.inl ne_oa_b9)) (Or.inl ne_oa_b18)) (Or.inl ne_oa_b28)) (Or.inl ne_oa_b9)) (Or.inl ne_oa_b18)) (Or.inl ne_oa_b28)) (Or.inl ne_oa_b9)) (Or.inl ne_oa_b18)) (Or.inl ne_oa_b28)) (Or.inl ne_oa_b9)) (Or.inl ne_oa_b18)) (Or.inl ne_oa_b28)) (Or.inr (slot_ne (Or.inr (wd_42 hw)) (Or.inr (wd_34 hw)) (by decide) (t := (.array .int)) (t' := .int) (by decide) (by decide))))) (Or.inl ne_oa_b117)) (Or.inl ne_oa_b117)) (Or.inl ne_oa_b117)) Kq307 nin0)
                obtain ⟨T317, h317, X317, e317, W317, st317⟩ := putF X307 hx hZ hown (host := "") (Or.inl (wd_41 hw)) Via.refl rfl f316 f315 (Or.inr ⟨(wd_42 hw), rfl, hnm⟩) (wd_5 hw) (ty := (.array .int)) (by decide) rfl rfl (g := (mkF m 224 #[.val (.ref oa), .val (.ref ob), .val (.int (LI3 w0 w1 w2 w3)), .val (.int ((LS3 w0 w1 w2 w3) + w3)), .val (.int (3 : Int32)), .val (.ref b117), .val (.int (4 : Int32))] [(.ref b307), (.ref oa)])) rfl rfl (hb hby d2_224)
                refine ownEnds.law st317 ?_
                have N317 := Fr.snoc X317 N307 g_oa
                have KK317 : Keep h0 h317 [oa] := (KK307).wr W317 (Or.inl (List.mem_of_getElem? (i := 0) rfl))
                have Z317 : n0 ≤ h317.size := by rw [W317.size]; exact Z307
                have Fw317 : Fld Z h317 oa "com/example/libreach/libreach/engine/StateLayout" "runs" "[I" (.ref b307) := Fld.same W317 f316
                show ownEnds _ _ _ _ (T317.setTop (mkF m 227 #[.val (.ref oa), .val (.ref ob), .val (.int (LI3 w0 w1 w2 w3)), .val (.int ((LS3 w0 w1 w2 w3) + w3)), .val (.int (3 : Int32)), .val (.ref b117), .val (.int (4 : Int32))] []))
                refine ownRetV X317 hlk hx hret (hb hby d2_227) (by decide) (by decide) ?_
                have f318 := (Exa.wr W317 f315)
                have f319 := (Fld.other W317 (Fld.keep (Fld.other W306 (Fld.other W286 (Fld.other W126 (Fld.ext E117 (Fld.other W114 (Fld.other W106 (Fld.other W100 (Fld.other W96 (Fld.other W88 (Fld.other W82 (Fld.other W78 (Fld.other W70 (Fld.other W64 (Fld.other W60 (Fld.other W52 (Fld.other W46 (Fld.other W42 (Fld.other W36 (Fld.ext E28 (Fld.other W25 (Fld.ext E18 (Fld.other W15 (Fld.ext E9 Fw6) (Or.inr (slot_ne (Or.inr (wd_24 hw)) (Or.inr (wd_26 hw)) (by decide) (t := (.array .int)) (t' := (.array .int)) (by decide) (by decide))))) (Or.inr (slot_ne (Or.inr (wd_24 hw)) (Or.inr (wd_28 hw)) (by decide) (t := (.array .int)) (t' := (.array .int)) (by decide) (by decide))))) (Or.inr (slot_ne (Or.inr (wd_24 hw)) (Or.inr (wd_31 hw)) (by decide) (t := (.array .int)) (t' := (.array .long)) (by decide) (by decide)))) (Or.inl ne_oa_b9)) (Or.inl ne_oa_b18)) (Or.inl ne_oa_b28)) (Or.inl ne_oa_b9)) (Or.inl ne_oa_b18)) (Or.inl ne_oa_b28)) (Or.inl ne_oa_b9)) (Or.inl ne_oa_b18)) (Or.inl ne_oa_b28)) (Or.inl ne_oa_b9)) (Or.inl ne_oa_b18)) (Or.inl ne_oa_b28)) (Or.inr (slot_ne (Or.inr (wd_24 hw)) (Or.inr (wd_34 hw)) (by decide) (t := (.array .int)) (t' := .int) (by decide) (by decide))))) (Or.inl ne_oa_b117)) (Or.inl ne_oa_b117)) (Or.inl ne_oa_b117)) Kq307 nin0) (Or.inr (slot_ne (Or.inr (wd_24 hw)) (Or.inr (wd_42 hw)) (by decide) (t := (.array .int)) (t' := (.array .int)) (by decide) (by decide))))
                have f320 := (Arv.other (Arv.keep f311 Kq307 nin0) W317 (Ne.symm ne_oa_b2))
                have f321 := (Fld.other W317 (Fld.keep (Fld.other W306 f289 (Or.inl ne_oa_b117)) Kq307 nin0) (Or.inr (slot_ne (Or.inr (wd_26 hw)) (Or.inr (wd_42 hw)) (by decide) (t := (.array .int)) (t' := (.array .int)) (by decide) (by decide))))
                have f322 := (Arv.other (Arv.keep f312 Kq307 nin0) W317 (Ne.symm ne_oa_b9))
                have f323 := (Fld.other W317 (Fld.keep (Fld.other W306 (Fld.other W286 (Fld.other W126 (Fld.ext E117 (Fld.other W114 (Fld.other W106 (Fld.other W100 f98 (Or.inl ne_oa_b18)) (Or.inl ne_oa_b28)) (Or.inr (slot_ne (Or.inr (wd_28 hw)) (Or.inr (wd_34 hw)) (by decide) (t := (.array .int)) (t' := .int) (by decide) (by decide))))) (Or.inl ne_oa_b117)) (Or.inl ne_oa_b117)) (Or.inl ne_oa_b117)) Kq307 nin0) (Or.inr (slot_ne (Or.inr (wd_28 hw)) (Or.inr (wd_42 hw)) (by decide) (t := (.array .int)) (t' := (.array .int)) (by decide) (by decide))))
                have f324 := (Arv.other (Arv.keep f313 Kq307 nin0) W317 (Ne.symm ne_oa_b18))
                have f325 := (Fld.other W317 (Fld.keep (Fld.other W306 (Fld.other W286 (Fld.other W126 (Fld.ext E117 (Fld.other W114 (Fld.other W106 f102 (Or.inl ne_oa_b28)) (Or.inr (slot_ne (Or.inr (wd_31 hw)) (Or.inr (wd_34 hw)) (by decide) (t := (.array .long)) (t' := .int) (by decide) (by decide))))) (Or.inl ne_oa_b117)) (Or.inl ne_oa_b117)) (Or.inl ne_oa_b117)) Kq307 nin0) (Or.inr (slot_ne (Or.inr (wd_31 hw)) (Or.inr (wd_42 hw)) (by decide) (t := (.array .long)) (t' := (.array .int)) (by decide) (by decide))))
                have f326 := (Arv.other (Arv.keep f314 Kq307 nin0) W317 (Ne.symm ne_oa_b28))
                have f327 := (Arv.other Vq307 W317 (Ne.symm ne_oa_b307))
                rw [e317]
                have hok : RunOK w0 w1 w2 w3 [(.int (0 : Int32)), (.int (1 : Int32)), (.int (4 : Int32))] (3 : Int32) := own_run011 hN1 hN2 hN3
                exact ⟨rfl, N317, KK317, b2, b9, b18, b28, b307, k_ob, k9, k18, k28, kb307, [(.int (0 : Int32)), (.int (1 : Int32)), (.int (4 : Int32))], (3 : Int32), f318, f319, f320, f321, f322, f323, f324, f325, f326, Fw317, f327, hok⟩
              · have J190_3 : ∀ (T328 : State) (lc328 : List Loc) (X328 : Stand p l e ({ frames := 2, cells := 6, slots := 40, locals := 60 } : Room) s m #[(.ref oa), (.ref ob)] below meth c T328 lc328 5 21) (N328 : Fr n0 lc328) (e328 : T328.heap = h286) , ownEnds p.tables e below (ownPost s (fun v h L => v = none ∧ Fr n0 L ∧ Keep h0 h [oa] ∧ ∃ (c0 c1 c2 c3 c4 : Addr) (k0 k1 k2 k3 k4 : ClassId) (rs : List Value) (len : Int32), Exa Z h oa "com/example/libreach/libreach/engine/StateLayout" ∧ Fld Z h oa "com/example/libreach/libreach/engine/StateLayout" "widths" "[I" (.ref c0) ∧ Arv Z h c0 k0 .int (4 : Int32) [(.int w0), (.int w1), (.int w2), (.int w3)] (.int (0 : Int32)) ∧ Fld Z h oa "com/example/libreach/libreach/engine/StateLayout" "word" "[I" (.ref c1) ∧ Arv Z h c1 k1 .int (4 : Int32) [(.int (0 : Int32)), (.int (LI1 w0 w1)), (.int (LI2 w0 w1 w2)), (.int (LI3 w0 w1 w2 w3))] (.int (0 : Int32)) ∧ Fld Z h oa "com/example/libreach/libreach/engine/StateLayout" "shift" "[I" (.ref c2) ∧ Arv Z h c2 k2 .int (4 : Int32) [(.int (0 : Int32)), (.int (LS1 w0 w1)), (.int (LS2 w0 w1 w2)), (.int (LS3 w0 w1 w2 w3))] (.int (0 : Int32)) ∧ Fld Z h oa "com/example/libreach/libreach/engine/StateLayout" "largest" "[J" (.ref c3) ∧ Arv Z h c3 k3 .long (4 : Int32) [(.long (LM w0)), (.long (LM w1)), (.long (LM w2)), (.long (LM w3))] (.long (0 : Int64)) ∧ Fld Z h oa "com/example/libreach/libreach/engine/StateLayout" "runs" "[I" (.ref c4) ∧ Arv Z h c4 k4 .int len rs (.int (0 : Int32)) ∧ RunOK w0 w1 w2 w3 rs len) ({ frames := 2, cells := 6, slots := 40, locals := 60 } : Room).cells ({ frames := 2, cells := 6, slots := 40, locals := 60 } : Room).slots) (T328.setTop (mkF m 190 #[.val (.ref oa), .val (.ref ob), .val (.int (LI3 w0 w1 w2 w3)), .val (.int ((LS3 w0 w1 w2 w3) + w3)), .val (.int (2 : Int32)), .val (.ref b117), .val (.int (3 : Int32))] [])) := by
                  intro T328 lc328 X328 N328 e328 
                  show ownEnds _ _ _ _ (T328.setTop (mkF m 190 #[.val (.ref oa), .val (.ref ob), .val (.int (LI3 w0 w1 w2 w3)), .val (.int ((LS3 w0 w1 w2 w3) + w3)), .val (.int (2 : Int32)), .val (.ref b117), .val (.int (3 : Int32))] []))
                  refine ownEnds.law (fun t k => XS.aload X328.here hx rfl (hb hby d2_190) rfl rfl (XS.iload X328.here hx rfl (hb hby d2_192) rfl (XS.iinc X328.here hx rfl (hb hby d2_194) rfl (l' := #[.val (.ref oa), .val (.ref ob), .val (.int (LI3 w0 w1 w2 w3)), .val (.int ((LS3 w0 w1 w2 w3) + w3)), .val (.int (3 : Int32)), .val (.ref b117), .val (.int (3 : Int32))]) rfl (XS.iload X328.here hx rfl (hb hby d2_197) rfl k)))) ?_
                  show ownEnds _ _ _ _ (T328.setTop (mkF m 199 #[.val (.ref oa), .val (.ref ob), .val (.int (LI3 w0 w1 w2 w3)), .val (.int ((LS3 w0 w1 w2 w3) + w3)), .val (.int (3 : Int32)), .val (.ref b117), .val (.int (3 : Int32))] [(.int (3 : Int32)), (.int (2 : Int32)), (.ref b117)]))
                  obtain ⟨cl329, Ar329, q329, S329, N329, H329, G329⟩ := id V286
                  obtain ⟨T329, h329, X329, e329, W329, st329⟩ := stI X328 hx hZ e328 Ar329 (j := (2 : Int32)) (inb_of S329 ⟨by decide, by decide⟩) (g := (mkF m 199 #[.val (.ref oa), .val (.ref ob), .val (.int (LI3 w0 w1 w2 w3)), .val (.int ((LS3 w0 w1 w2 w3) + w3)), .val (.int (3 : Int32)), .val (.ref b117), .val (.int (3 : Int32))] [(.int (3 : Int32)), (.int (2 : Int32)), (.ref b117)])) rfl rfl (hb hby d2_199)
                  refine ownEnds.law st329 ?_
                  have V329 : Arv Z h329 b117 k117 .int (5 : Int32) [(.int (0 : Int32)), (.int (1 : Int32)), (.int (3 : Int32)), (.int (0 : Int32)), (.int (0 : Int32))] (.int (0 : Int32)) := Arv.set Ar329 q329 S329 N329 H329 G329 rfl W329 2 rfl (Nat.le_of_ble_eq_true rfl)
                  have N329 := Fr.snoc X329 N328 g_b117
                  have KK329 : Keep h0 h329 [oa] := (KK286).wr W329 (Or.inr sz_b117)
                  have Z329 : n0 ≤ h329.size := by rw [W329.size]; exact Z286
                  show ownEnds _ _ _ _ (T329.setTop (mkF m 200 #[.val (.ref oa), .val (.ref ob), .val (.int (LI3 w0 w1 w2 w3)), .val (.int ((LS3 w0 w1 w2 w3) + w3)), .val (.int (3 : Int32)), .val (.ref b117), .val (.int (3 : Int32))] []))
                  refine ownEnds.law (fun t k => XS.iinc X329.here hx rfl (hb hby d2_200) rfl (l' := #[.val (.ref oa), .val (.ref ob), .val (.int (LI3 w0 w1 w2 w3)), .val (.int ((LS3 w0 w1 w2 w3) + w3)), .val (.int (3 : Int32)), .val (.ref b117), .val (.int (4 : Int32))]) rfl (XS.goto X329.here hx rfl (pc0 := 203) (pc' := 146) rfl (hb hby d2_203) (by decide) (by decide) (XS.iload X329.here hx rfl (hb hby d2_146) rfl (XS.aloadN X329.here hx rfl (hb hby d2_148) rfl rfl k)))) ?_
                  show ownEnds _ _ _ _ (T329.setTop (mkF m 149 #[.val (.ref oa), .val (.ref ob), .val (.int (LI3 w0 w1 w2 w3)), .val (.int ((LS3 w0 w1 w2 w3) + w3)), .val (.int (3 : Int32)), .val (.ref b117), .val (.int (4 : Int32))] [(.ref ob), (.int (4 : Int32))]))
                  have f331 := (Arv.other f288 W329 ne_ob_b117)
                  obtain ⟨cl330, Ar330, -, S330, N330, -, -⟩ := id f331
                  refine ownEnds.law (X329.arraylength hx (by rw [e329]; exact Ar330.1) (State.isArrayOf_alike hZ.alike Ar330.2.1) (g := (mkF m 149 #[.val (.ref oa), .val (.ref ob), .val (.int (LI3 w0 w1 w2 w3)), .val (.int ((LS3 w0 w1 w2 w3) + w3)), .val (.int (3 : Int32)), .val (.ref b117), .val (.int (4 : Int32))] [(.ref ob), (.int (4 : Int32))])) rfl rfl (hb hby d2_149)) ?_
                  rw [len_of S330 N330]
                  show ownEnds _ _ _ _ (T329.setTop (mkF m 150 #[.val (.ref oa), .val (.ref ob), .val (.int (LI3 w0 w1 w2 w3)), .val (.int ((LS3 w0 w1 w2 w3) + w3)), .val (.int (3 : Int32)), .val (.ref b117), .val (.int (4 : Int32))] [(.int (4 : Int32)), (.int (4 : Int32))]))
                  refine ownEnds.law (fun t => XS.icmpYes X329.here hx rfl (pc0 := 150) (pc' := 206) rfl (hb hby d2_150) rfl (flt (Int32.lt_irrefl)).2.1 (by decide) (by decide)) ?_
                  show ownEnds _ _ _ _ (T329.setTop (mkF m 206 #[.val (.ref oa), .val (.ref ob), .val (.int (LI3 w0 w1 w2 w3)), .val (.int ((LS3 w0 w1 w2 w3) + w3)), .val (.int (3 : Int32)), .val (.ref b117), .val (.int (4 : Int32))] []))
                  refine ownEnds.law (fun t k => XS.aload X329.here hx rfl (hb hby d2_206) rfl rfl (XS.iload X329.here hx rfl (hb hby d2_208) rfl (XS.iinc X329.here hx rfl (hb hby d2_210) rfl (l' := #[.val (.ref oa), .val (.ref ob), .val (.int (LI3 w0 w1 w2 w3)), .val (.int ((LS3 w0 w1 w2 w3) + w3)), .val (.int (4 : Int32)), .val (.ref b117), .val (.int (4 : Int32))]) rfl (XS.aloadN X329.here hx rfl (hb hby d2_213) rfl rfl k)))) ?_
                  show ownEnds _ _ _ _ (T329.setTop (mkF m 214 #[.val (.ref oa), .val (.ref ob), .val (.int (LI3 w0 w1 w2 w3)), .val (.int ((LS3 w0 w1 w2 w3) + w3)), .val (.int (4 : Int32)), .val (.ref b117), .val (.int (4 : Int32))] [(.ref ob), (.int (3 : Int32)), (.ref b117)]))
                  obtain ⟨cl332, Ar332, -, S332, N332, -, -⟩ := id f331
                  refine ownEnds.law (X329.arraylength hx (by rw [e329]; exact Ar332.1) (State.isArrayOf_alike hZ.alike Ar332.2.1) (g := (mkF m 214 #[.val (.ref oa), .val (.ref ob), .val (.int (LI3 w0 w1 w2 w3)), .val (.int ((LS3 w0 w1 w2 w3) + w3)), .val (.int (4 : Int32)), .val (.ref b117), .val (.int (4 : Int32))] [(.ref ob), (.int (3 : Int32)), (.ref b117)])) rfl rfl (hb hby d2_214)) ?_
                  rw [len_of S332 N332]
                  show ownEnds _ _ _ _ (T329.setTop (mkF m 215 #[.val (.ref oa), .val (.ref ob), .val (.int (LI3 w0 w1 w2 w3)), .val (.int ((LS3 w0 w1 w2 w3) + w3)), .val (.int (4 : Int32)), .val (.ref b117), .val (.int (4 : Int32))] [(.int (4 : Int32)), (.int (3 : Int32)), (.ref b117)]))
                  obtain ⟨cl333, Ar333, q333, S333, N333, H333, G333⟩ := id V329
                  obtain ⟨T333, h333, X333, e333, W333, st333⟩ := stI X329 hx hZ e329 Ar333 (j := (3 : Int32)) (inb_of S333 ⟨by decide, by decide⟩) (g := (mkF m 215 #[.val (.ref oa), .val (.ref ob), .val (.int (LI3 w0 w1 w2 w3)), .val (.int ((LS3 w0 w1 w2 w3) + w3)), .val (.int (4 : Int32)), .val (.ref b117), .val (.int (4 : Int32))] [(.int (4 : Int32)), (.int (3 : Int32)), (.ref b117)])) rfl rfl (hb hby d2_215)
                  refine ownEnds.law st333 ?_
                  have V333 : Arv Z h333 b117 k117 .int (5 : Int32) [(.int (0 : Int32)), (.int (1 : Int32)), (.int (3 : Int32)), (.int (4 : Int32)), (.int (0 : Int32))] (.int (0 : Int32)) := Arv.set Ar333 q333 S333 N333 H333 G333 rfl W333 3 rfl (Nat.le_of_ble_eq_true rfl)
                  have N333 := Fr.snoc X333 N329 g_b117
                  have KK333 : Keep h0 h333 [oa] := (KK329).wr W333 (Or.inr sz_b117)
                  have Z333 : n0 ≤ h333.size := by rw [W333.size]; exact Z329
                  show ownEnds _ _ _ _ (T333.setTop (mkF m 216 #[.val (.ref oa), .val (.ref ob), .val (.int (LI3 w0 w1 w2 w3)), .val (.int ((LS3 w0 w1 w2 w3) + w3)), .val (.int (4 : Int32)), .val (.ref b117), .val (.int (4 : Int32))] []))
                  refine ownEnds.law (fun t k => XS.aloadN X333.here hx rfl (hb hby d2_216) rfl rfl (XS.aload X333.here hx rfl (hb hby d2_217) rfl rfl (XS.iload X333.here hx rfl (hb hby d2_219) rfl k))) ?_
                  show ownEnds _ _ _ _ (T333.setTop (mkF m 221 #[.val (.ref oa), .val (.ref ob), .val (.int (LI3 w0 w1 w2 w3)), .val (.int ((LS3 w0 w1 w2 w3) + w3)), .val (.int (4 : Int32)), .val (.ref b117), .val (.int (4 : Int32))] [(.int (4 : Int32)), (.ref b117), (.ref oa)]))
                  have f335 := (Exa.wr W333 (Exa.wr W329 (Exa.wr W286 (Exa.wr W126 Ax117))))
                  obtain ⟨v334, T334, L334, X334, hQ334, st334⟩ := ownCallS X333 hx hZ hown (y := (⟨"java/util/Arrays", "copyOf", "([II)[I"⟩ : MethodName)) (as := [(.ref b117), (.int (4 : Int32))]) (wd_35 hw) (wd_36 hw) (wd_37 hw) (wd_38 hw) (by decide) (rm4_4 l Z a0 hw b117 k117 (.int (0 : Int32)) (.int (1 : Int32)) (.int (3 : Int32)) (.int (4 : Int32)) (.int (0 : Int32)) h333 n0 Z333 V333 f335) e333 1 (by decide) (by decide) (by decide) (by decide) (g := (mkF m 221 #[.val (.ref oa), .val (.ref ob), .val (.int (LI3 w0 w1 w2 w3)), .val (.int ((LS3 w0 w1 w2 w3) + w3)), .val (.int (4 : Int32)), .val (.ref b117), .val (.int (4 : Int32))] [(.int (4 : Int32)), (.ref b117), (.ref oa)])) rfl (by rw [hml]; rfl) (rest := [(.ref oa)]) pd_1 rfl rfl (by show 2 * 0 + _ ≤ _; exact Nat.le_of_eq rfl) (hb hby d2_221)
                  obtain ⟨b334, kb334, rfl, Nq334, Kq334, g_b334, zq334, Vq334⟩ := hQ334
                  have f336 := (Exa.wr W333 (Exa.wr W329 (Exa.wr W286 (Exa.wr W126 (Exa.ext E117 f118)))))
                  have ne_oa_b334 : oa ≠ b334 := Nat.ne_of_lt (Nat.lt_of_lt_of_le f336.lt zq334)
                  have f337 := (Exa.wr W333 (Exa.wr W329 (Exa.wr W286 (Exa.wr W126 (Exa.ext E117 f119)))))
                  have ne_ob_b334 : ob ≠ b334 := Nat.ne_of_lt (Nat.lt_of_lt_of_le f337.lt zq334)
                  have f338 := (Arv.other (Arv.other (Arv.other (Arv.other (Arv.ext f120 E117) W126 ne_b2_b117) W286 ne_b2_b117) W329 ne_b2_b117) W333 ne_b2_b117)
                  have ne_b2_b334 : b2 ≠ b334 := Nat.ne_of_lt (Nat.lt_of_lt_of_le f338.lt zq334)
                  have f339 := (Arv.other (Arv.other f292 W329 ne_b9_b117) W333 ne_b9_b117)
                  have ne_b9_b334 : b9 ≠ b334 := Nat.ne_of_lt (Nat.lt_of_lt_of_le f339.lt zq334)
                  have f340 := (Arv.other (Arv.other (Arv.other (Arv.other (Arv.ext f122 E117) W126 ne_b18_b117) W286 ne_b18_b117) W329 ne_b18_b117) W333 ne_b18_b117)
                  have ne_b18_b334 : b18 ≠ b334 := Nat.ne_of_lt (Nat.lt_of_lt_of_le f340.lt zq334)
                  have f341 := (Arv.other (Arv.other (Arv.other (Arv.other (Arv.ext f123 E117) W126 ne_b28_b117) W286 ne_b28_b117) W329 ne_b28_b117) W333 ne_b28_b117)
                  have ne_b28_b334 : b28 ≠ b334 := Nat.ne_of_lt (Nat.lt_of_lt_of_le f341.lt zq334)
                  have ne_b117_b334 : b117 ≠ b334 := Nat.ne_of_lt (Nat.lt_of_lt_of_le V333.lt zq334)
                  have sz_b334 : h0.size ≤ b334 := Nat.le_trans (KK333).1 zq334
                  have N334 := Fr.app N333 Nq334
                  have KK334 : Keep h0 T334.heap [oa] := Keep.trans (KK333) Kq334 all0
                  have Z334 : n0 ≤ T334.heap.size := Nat.le_trans Z333 Kq334.1
                  refine ownEnds.law st334 ?_
                  show ownEnds _ _ _ _ (T334.setTop (mkF m 224 #[.val (.ref oa), .val (.ref ob), .val (.int (LI3 w0 w1 w2 w3)), .val (.int ((LS3 w0 w1 w2 w3) + w3)), .val (.int (4 : Int32)), .val (.ref b117), .val (.int (4 : Int32))] [(.ref b334), (.ref oa)]))
                  have f342 := (Exa.keep f336 Kq334)
                  have f343 := (Fld.keep (Fld.other W333 (Fld.other W329 (Fld.other W286 (Fld.other W126 (Fld.ext E117 (Fld.other W114 (Fld.other W106 (Fld.other W100 (Fld.other W96 (Fld.other W88 (Fld.other W82 (Fld.other W78 (Fld.other W70 (Fld.other W64 (Fld.other W60 (Fld.other W52 (Fld.other W46 (Fld.other W42 (Fld.other W36 (Fld.ext E28 (Fld.other W25 (Fld.ext E18 (Fld.other W15 (Fld.ext E9 (Fld.other W6 (Fld.ext E2 F_oa_runs) (Or.inr (slot_ne (Or.inr (wd_42 hw)) (Or.inr (wd_24 hw)) (by decide) (t := (.array .int)) (t' := (.array .int)) (by decide) (by decide))))) (Or.inr (slot_ne (Or.inr (wd_42 hw)) (Or.inr (wd_26 hw)) (by decide) (t := (.array .int)) (t' := (.array .int)) (by decide) (by decide))))) (Or.inr (slot_ne (Or.inr (wd_42 hw)) (Or.inr (wd_28 hw)) (by decide) (t := (.array .int)) (t' := (.array .int)) (by decide) (by decide))))) (Or.inr (slot_ne (Or.inr (wd_42 hw)) (Or.inr (wd_31 hw)) (by decide) (t := (.array .int)) (t' := (.array .long)) (by decide) (by decide)))) (Or.inl ne_oa_b9)) (Or.inl ne_oa_b18)) (Or.inl ne_oa_b28)) (Or.inl ne_oa_b9)) (Or.inl ne_oa_b18)) (Or.inl ne_oa_b28)) (Or.inl ne_oa_b9)) (Or.inl ne_oa_b18)) (Or.inl ne_oa_b28)) (Or.inl ne_oa_b9)) (Or.inl ne_oa_b18)) (Or.inl ne_oa_b28)) (Or.inr (slot_ne (Or.inr (wd_42 hw)) (Or.inr (wd_34 hw)) (by decide) (t := (.array .int)) (t' := .int) (by decide) (by decide))))) (Or.inl ne_oa_b117)) (Or.inl ne_oa_b117)) (Or.inl ne_oa_b117)) (Or.inl ne_oa_b117)) Kq334 nin0)
                  obtain ⟨T344, h344, X344, e344, W344, st344⟩ := putF X334 hx hZ hown (host := "") (Or.inl (wd_41 hw)) Via.refl rfl f343 f342 (Or.inr ⟨(wd_42 hw), rfl, hnm⟩) (wd_5 hw) (ty := (.array .int)) (by decide) rfl rfl (g := (mkF m 224 #[.val (.ref oa), .val (.ref ob), .val (.int (LI3 w0 w1 w2 w3)), .val (.int ((LS3 w0 w1 w2 w3) + w3)), .val (.int (4 : Int32)), .val (.ref b117), .val (.int (4 : Int32))] [(.ref b334), (.ref oa)])) rfl rfl (hb hby d2_224)
                  refine ownEnds.law st344 ?_
                  have N344 := Fr.snoc X344 N334 g_oa
                  have KK344 : Keep h0 h344 [oa] := (KK334).wr W344 (Or.inl (List.mem_of_getElem? (i := 0) rfl))
                  have Z344 : n0 ≤ h344.size := by rw [W344.size]; exact Z334
                  have Fw344 : Fld Z h344 oa "com/example/libreach/libreach/engine/StateLayout" "runs" "[I" (.ref b334) := Fld.same W344 f343
                  show ownEnds _ _ _ _ (T344.setTop (mkF m 227 #[.val (.ref oa), .val (.ref ob), .val (.int (LI3 w0 w1 w2 w3)), .val (.int ((LS3 w0 w1 w2 w3) + w3)), .val (.int (4 : Int32)), .val (.ref b117), .val (.int (4 : Int32))] []))
                  refine ownRetV X344 hlk hx hret (hb hby d2_227) (by decide) (by decide) ?_
                  have f345 := (Exa.wr W344 f342)
                  have f346 := (Fld.other W344 (Fld.keep (Fld.other W333 (Fld.other W329 (Fld.other W286 (Fld.other W126 (Fld.ext E117 (Fld.other W114 (Fld.other W106 (Fld.other W100 (Fld.other W96 (Fld.other W88 (Fld.other W82 (Fld.other W78 (Fld.other W70 (Fld.other W64 (Fld.other W60 (Fld.other W52 (Fld.other W46 (Fld.other W42 (Fld.other W36 (Fld.ext E28 (Fld.other W25 (Fld.ext E18 (Fld.other W15 (Fld.ext E9 Fw6) (Or.inr (slot_ne (Or.inr (wd_24 hw)) (Or.inr (wd_26 hw)) (by decide) (t := (.array .int)) (t' := (.array .int)) (by decide) (by decide))))) (Or.inr (slot_ne (Or.inr (wd_24 hw)) (Or.inr (wd_28 hw)) (by decide) (t := (.array .int)) (t' := (.array .int)) (by decide) (by decide))))) (Or.inr (slot_ne (Or.inr (wd_24 hw)) (Or.inr (wd_31 hw)) (by decide) (t := (.array .int)) (t' := (.array .long)) (by decide) (by decide)))) (Or.inl ne_oa_b9)) (Or.inl ne_oa_b18)) (Or.inl ne_oa_b28)) (Or.inl ne_oa_b9)) (Or.inl ne_oa_b18)) (Or.inl ne_oa_b28)) (Or.inl ne_oa_b9)) (Or.inl ne_oa_b18)) (Or.inl ne_oa_b28)) (Or.inl ne_oa_b9)) (Or.inl ne_oa_b18)) (Or.inl ne_oa_b28)) (Or.inr (slot_ne (Or.inr (wd_24 hw)) (Or.inr (wd_34 hw)) (by decide) (t := (.array .int)) (t' := .int) (by decide) (by decide))))) (Or.inl ne_oa_b117)) (Or.inl ne_oa_b117)) (Or.inl ne_oa_b117)) (Or.inl ne_oa_b117)) Kq334 nin0) (Or.inr (slot_ne (Or.inr (wd_24 hw)) (Or.inr (wd_42 hw)) (by decide) (t := (.array .int)) (t' := (.array .int)) (by decide) (by decide))))
                  have f347 := (Arv.other (Arv.keep f338 Kq334 nin0) W344 (Ne.symm ne_oa_b2))
                  have f348 := (Fld.other W344 (Fld.keep (Fld.other W333 (Fld.other W329 f289 (Or.inl ne_oa_b117)) (Or.inl ne_oa_b117)) Kq334 nin0) (Or.inr (slot_ne (Or.inr (wd_26 hw)) (Or.inr (wd_42 hw)) (by decide) (t := (.array .int)) (t' := (.array .int)) (by decide) (by decide))))
                  have f349 := (Arv.other (Arv.keep f339 Kq334 nin0) W344 (Ne.symm ne_oa_b9))
                  have f350 := (Fld.other W344 (Fld.keep (Fld.other W333 (Fld.other W329 (Fld.other W286 (Fld.other W126 (Fld.ext E117 (Fld.other W114 (Fld.other W106 (Fld.other W100 f98 (Or.inl ne_oa_b18)) (Or.inl ne_oa_b28)) (Or.inr (slot_ne (Or.inr (wd_28 hw)) (Or.inr (wd_34 hw)) (by decide) (t := (.array .int)) (t' := .int) (by decide) (by decide))))) (Or.inl ne_oa_b117)) (Or.inl ne_oa_b117)) (Or.inl ne_oa_b117)) (Or.inl ne_oa_b117)) Kq334 nin0) (Or.inr (slot_ne (Or.inr (wd_28 hw)) (Or.inr (wd_42 hw)) (by decide) (t := (.array .int)) (t' := (.array .int)) (by decide) (by decide))))
                  have f351 := (Arv.other (Arv.keep f340 Kq334 nin0) W344 (Ne.symm ne_oa_b18))
                  have f352 := (Fld.other W344 (Fld.keep (Fld.other W333 (Fld.other W329 (Fld.other W286 (Fld.other W126 (Fld.ext E117 (Fld.other W114 (Fld.other W106 f102 (Or.inl ne_oa_b28)) (Or.inr (slot_ne (Or.inr (wd_31 hw)) (Or.inr (wd_34 hw)) (by decide) (t := (.array .long)) (t' := .int) (by decide) (by decide))))) (Or.inl ne_oa_b117)) (Or.inl ne_oa_b117)) (Or.inl ne_oa_b117)) (Or.inl ne_oa_b117)) Kq334 nin0) (Or.inr (slot_ne (Or.inr (wd_31 hw)) (Or.inr (wd_42 hw)) (by decide) (t := (.array .long)) (t' := (.array .int)) (by decide) (by decide))))
                  have f353 := (Arv.other (Arv.keep f341 Kq334 nin0) W344 (Ne.symm ne_oa_b28))
                  have f354 := (Arv.other Vq334 W344 (Ne.symm ne_oa_b334))
                  rw [e344]
                  have hok : RunOK w0 w1 w2 w3 [(.int (0 : Int32)), (.int (1 : Int32)), (.int (3 : Int32)), (.int (4 : Int32))] (4 : Int32) := own_run010 hN1 hN2 hN3
                  exact ⟨rfl, N344, KK344, b2, b9, b18, b28, b334, k_ob, k9, k18, k28, kb334, [(.int (0 : Int32)), (.int (1 : Int32)), (.int (3 : Int32)), (.int (4 : Int32))], (4 : Int32), f345, f346, f347, f348, f349, f350, f351, f352, f353, Fw344, f354, hok⟩
                show ownEnds _ _ _ _ (T293.setTop (mkF m 158 #[.val (.ref oa), .val (.ref ob), .val (.int (LI3 w0 w1 w2 w3)), .val (.int ((LS3 w0 w1 w2 w3) + w3)), .val (.int (2 : Int32)), .val (.ref b117), .val (.int (3 : Int32))] []))
                refine ownEnds.law (fun t k => XS.aloadN X293.here hx rfl (hb hby d2_158) rfl rfl k) ?_
                show ownEnds _ _ _ _ (T293.setTop (mkF m 159 #[.val (.ref oa), .val (.ref ob), .val (.int (LI3 w0 w1 w2 w3)), .val (.int ((LS3 w0 w1 w2 w3) + w3)), .val (.int (2 : Int32)), .val (.ref b117), .val (.int (3 : Int32))] [(.ref oa)]))
                obtain ⟨T355, X355, e355, st355⟩ := getF X293 hx hZ hown (host := "") (Or.inl (wd_25 hw)) Via.refl e293 f289 (g := (mkF m 159 #[.val (.ref oa), .val (.ref ob), .val (.int (LI3 w0 w1 w2 w3)), .val (.int ((LS3 w0 w1 w2 w3) + w3)), .val (.int (2 : Int32)), .val (.ref b117), .val (.int (3 : Int32))] [(.ref oa)])) rfl rfl (hb hby d2_159)
                refine ownEnds.law st355 ?_
                show ownEnds _ _ _ _ (T355.setTop (mkF m 162 #[.val (.ref oa), .val (.ref ob), .val (.int (LI3 w0 w1 w2 w3)), .val (.int ((LS3 w0 w1 w2 w3) + w3)), .val (.int (2 : Int32)), .val (.ref b117), .val (.int (3 : Int32))] [(.ref b9)]))
                refine ownEnds.law (fun t k => XS.iload X355.here hx rfl (hb hby d2_162) rfl k) ?_
                show ownEnds _ _ _ _ (T355.setTop (mkF m 164 #[.val (.ref oa), .val (.ref ob), .val (.int (LI3 w0 w1 w2 w3)), .val (.int ((LS3 w0 w1 w2 w3) + w3)), .val (.int (2 : Int32)), .val (.ref b117), .val (.int (3 : Int32))] [(.int (3 : Int32)), (.ref b9)]))
                obtain ⟨cl356, Ar356, q356, S356, N356, H356, G356⟩ := id f292
                have hi356 := inb_of (j := (3 : Int32)) S356 ⟨by decide, by decide⟩
                have hv356 : cl356.slots[((3 : Int32)).toNatClampNeg]? = some (.int (LI3 w0 w1 w2 w3)) := H356.at hi356 rfl
                refine ownEnds.law (fun t k => X355.iaload hx (j := (3 : Int32)) (v := (.int (LI3 w0 w1 w2 w3))) (by rw [e355]; exact Ar356.1) (State.isArrayOf_alike hZ.alike Ar356.2.1) Ar356.2.2 hi356 hv356 (g := (mkF m 164 #[.val (.ref oa), .val (.ref ob), .val (.int (LI3 w0 w1 w2 w3)), .val (.int ((LS3 w0 w1 w2 w3) + w3)), .val (.int (2 : Int32)), .val (.ref b117), .val (.int (3 : Int32))] [(.int (3 : Int32)), (.ref b9)])) rfl rfl (hb hby d2_164) _ (XS.aloadN X355.here hx rfl (hb hby d2_165) rfl rfl k)) ?_
                show ownEnds _ _ _ _ (T355.setTop (mkF m 166 #[.val (.ref oa), .val (.ref ob), .val (.int (LI3 w0 w1 w2 w3)), .val (.int ((LS3 w0 w1 w2 w3) + w3)), .val (.int (2 : Int32)), .val (.ref b117), .val (.int (3 : Int32))] [(.ref oa), (.int (LI3 w0 w1 w2 w3))]))
                obtain ⟨T357, X357, e357, st357⟩ := getF X355 hx hZ hown (host := "") (Or.inl (wd_25 hw)) Via.refl e355 f289 (g := (mkF m 166 #[.val (.ref oa), .val (.ref ob), .val (.int (LI3 w0 w1 w2 w3)), .val (.int ((LS3 w0 w1 w2 w3) + w3)), .val (.int (2 : Int32)), .val (.ref b117), .val (.int (3 : Int32))] [(.ref oa), (.int (LI3 w0 w1 w2 w3))])) rfl rfl (hb hby d2_166)
                refine ownEnds.law st357 ?_
                show ownEnds _ _ _ _ (T357.setTop (mkF m 169 #[.val (.ref oa), .val (.ref ob), .val (.int (LI3 w0 w1 w2 w3)), .val (.int ((LS3 w0 w1 w2 w3) + w3)), .val (.int (2 : Int32)), .val (.ref b117), .val (.int (3 : Int32))] [(.ref b9), (.int (LI3 w0 w1 w2 w3))]))
                refine ownEnds.law (fun t k => XS.iload X357.here hx rfl (hb hby d2_169) rfl (XS.iconst X357.here hx rfl (hb hby d2_171) (XS.isub X357.here hx rfl (hb hby d2_172) rfl k))) ?_
                show ownEnds _ _ _ _ (T357.setTop (mkF m 173 #[.val (.ref oa), .val (.ref ob), .val (.int (LI3 w0 w1 w2 w3)), .val (.int ((LS3 w0 w1 w2 w3) + w3)), .val (.int (2 : Int32)), .val (.ref b117), .val (.int (3 : Int32))] [(.int (2 : Int32)), (.ref b9), (.int (LI3 w0 w1 w2 w3))]))
                obtain ⟨cl358, Ar358, q358, S358, N358, H358, G358⟩ := id f292
                have hi358 := inb_of (j := (2 : Int32)) S358 ⟨by decide, by decide⟩
                have hv358 : cl358.slots[((2 : Int32)).toNatClampNeg]? = some (.int (LI2 w0 w1 w2)) := H358.at hi358 rfl
                refine ownEnds.law (fun t k => X357.iaload hx (j := (2 : Int32)) (v := (.int (LI2 w0 w1 w2))) (by rw [e357]; exact Ar358.1) (State.isArrayOf_alike hZ.alike Ar358.2.1) Ar358.2.2 hi358 hv358 (g := (mkF m 173 #[.val (.ref oa), .val (.ref ob), .val (.int (LI3 w0 w1 w2 w3)), .val (.int ((LS3 w0 w1 w2 w3) + w3)), .val (.int (2 : Int32)), .val (.ref b117), .val (.int (3 : Int32))] [(.int (2 : Int32)), (.ref b9), (.int (LI3 w0 w1 w2 w3))])) rfl rfl (hb hby d2_173) _ k) ?_
                show ownEnds _ _ _ _ (T357.setTop (mkF m 174 #[.val (.ref oa), .val (.ref ob), .val (.int (LI3 w0 w1 w2 w3)), .val (.int ((LS3 w0 w1 w2 w3) + w3)), .val (.int (2 : Int32)), .val (.ref b117), .val (.int (3 : Int32))] [(.int (LI2 w0 w1 w2)), (.int (LI3 w0 w1 w2 w3))]))
                by_cases hc174 : (LI3 w0 w1 w2 w3) = (LI2 w0 w1 w2)
                · refine ownEnds.law (fun t => XS.icmpNo X357.here hx rfl (hb hby d2_174) rfl (teq hc174).2) ?_
                  show ownEnds _ _ _ _ (T357.setTop (mkF m 177 #[.val (.ref oa), .val (.ref ob), .val (.int (LI3 w0 w1 w2 w3)), .val (.int ((LS3 w0 w1 w2 w3) + w3)), .val (.int (2 : Int32)), .val (.ref b117), .val (.int (3 : Int32))] []))
                  refine ownEnds.law (fun t k => XS.aloadN X357.here hx rfl (hb hby d2_177) rfl rfl (XS.iload X357.here hx rfl (hb hby d2_178) rfl k)) ?_
                  show ownEnds _ _ _ _ (T357.setTop (mkF m 180 #[.val (.ref oa), .val (.ref ob), .val (.int (LI3 w0 w1 w2 w3)), .val (.int ((LS3 w0 w1 w2 w3) + w3)), .val (.int (2 : Int32)), .val (.ref b117), .val (.int (3 : Int32))] [(.int (3 : Int32)), (.ref ob)]))
                  obtain ⟨cl359, Ar359, q359, S359, N359, H359, G359⟩ := id f288
                  have hi359 := inb_of (j := (3 : Int32)) S359 ⟨by decide, by decide⟩
                  have hv359 : cl359.slots[((3 : Int32)).toNatClampNeg]? = some (.int w3) := H359.at hi359 rfl
                  refine ownEnds.law (fun t k => X357.iaload hx (j := (3 : Int32)) (v := (.int w3)) (by rw [e357]; exact Ar359.1) (State.isArrayOf_alike hZ.alike Ar359.2.1) Ar359.2.2 hi359 hv359 (g := (mkF m 180 #[.val (.ref oa), .val (.ref ob), .val (.int (LI3 w0 w1 w2 w3)), .val (.int ((LS3 w0 w1 w2 w3) + w3)), .val (.int (2 : Int32)), .val (.ref b117), .val (.int (3 : Int32))] [(.int (3 : Int32)), (.ref ob)])) rfl rfl (hb hby d2_180) _ (XS.aloadN X357.here hx rfl (hb hby d2_181) rfl rfl (XS.iload X357.here hx rfl (hb hby d2_182) rfl (XS.iconst X357.here hx rfl (hb hby d2_184) (XS.isub X357.here hx rfl (hb hby d2_185) rfl k))))) ?_
                  show ownEnds _ _ _ _ (T357.setTop (mkF m 186 #[.val (.ref oa), .val (.ref ob), .val (.int (LI3 w0 w1 w2 w3)), .val (.int ((LS3 w0 w1 w2 w3) + w3)), .val (.int (2 : Int32)), .val (.ref b117), .val (.int (3 : Int32))] [(.int (2 : Int32)), (.ref ob), (.int w3)]))
                  obtain ⟨cl360, Ar360, q360, S360, N360, H360, G360⟩ := id f288
                  have hi360 := inb_of (j := (2 : Int32)) S360 ⟨by decide, by decide⟩
                  have hv360 : cl360.slots[((2 : Int32)).toNatClampNeg]? = some (.int w2) := H360.at hi360 rfl
                  refine ownEnds.law (fun t k => X357.iaload hx (j := (2 : Int32)) (v := (.int w2)) (by rw [e357]; exact Ar360.1) (State.isArrayOf_alike hZ.alike Ar360.2.1) Ar360.2.2 hi360 hv360 (g := (mkF m 186 #[.val (.ref oa), .val (.ref ob), .val (.int (LI3 w0 w1 w2 w3)), .val (.int ((LS3 w0 w1 w2 w3) + w3)), .val (.int (2 : Int32)), .val (.ref b117), .val (.int (3 : Int32))] [(.int (2 : Int32)), (.ref ob), (.int w3)])) rfl rfl (hb hby d2_186) _ k) ?_
                  show ownEnds _ _ _ _ (T357.setTop (mkF m 187 #[.val (.ref oa), .val (.ref ob), .val (.int (LI3 w0 w1 w2 w3)), .val (.int ((LS3 w0 w1 w2 w3) + w3)), .val (.int (2 : Int32)), .val (.ref b117), .val (.int (3 : Int32))] [(.int w2), (.int w3)]))
                  have hc187 : ¬ (w3 = w2) := fun q => hN3 ⟨hc174, q⟩
                  refine ownEnds.law (fun t => XS.icmpNo X357.here hx rfl (hb hby d2_187) rfl (feq hc187).1) ?_
                  exact J190_3 _ _ X357 N286 e357
                · refine ownEnds.law (fun t => XS.icmpYes X357.here hx rfl (pc0 := 174) (pc' := 190) rfl (hb hby d2_174) rfl (feq hc174).2 (by decide) (by decide)) ?_
                  exact J190_3 _ _ X357 N286 e357
            · have J190_2 : ∀ (T361 : State) (lc361 : List Loc) (X361 : Stand p l e ({ frames := 2, cells := 6, slots := 40, locals := 60 } : Room) s m #[(.ref oa), (.ref ob)] below meth c T361 lc361 5 21) (N361 : Fr n0 lc361) (e361 : T361.heap = h286) , ownEnds p.tables e below (ownPost s (fun v h L => v = none ∧ Fr n0 L ∧ Keep h0 h [oa] ∧ ∃ (c0 c1 c2 c3 c4 : Addr) (k0 k1 k2 k3 k4 : ClassId) (rs : List Value) (len : Int32), Exa Z h oa "com/example/libreach/libreach/engine/StateLayout" ∧ Fld Z h oa "com/example/libreach/libreach/engine/StateLayout" "widths" "[I" (.ref c0) ∧ Arv Z h c0 k0 .int (4 : Int32) [(.int w0), (.int w1), (.int w2), (.int w3)] (.int (0 : Int32)) ∧ Fld Z h oa "com/example/libreach/libreach/engine/StateLayout" "word" "[I" (.ref c1) ∧ Arv Z h c1 k1 .int (4 : Int32) [(.int (0 : Int32)), (.int (LI1 w0 w1)), (.int (LI2 w0 w1 w2)), (.int (LI3 w0 w1 w2 w3))] (.int (0 : Int32)) ∧ Fld Z h oa "com/example/libreach/libreach/engine/StateLayout" "shift" "[I" (.ref c2) ∧ Arv Z h c2 k2 .int (4 : Int32) [(.int (0 : Int32)), (.int (LS1 w0 w1)), (.int (LS2 w0 w1 w2)), (.int (LS3 w0 w1 w2 w3))] (.int (0 : Int32)) ∧ Fld Z h oa "com/example/libreach/libreach/engine/StateLayout" "largest" "[J" (.ref c3) ∧ Arv Z h c3 k3 .long (4 : Int32) [(.long (LM w0)), (.long (LM w1)), (.long (LM w2)), (.long (LM w3))] (.long (0 : Int64)) ∧ Fld Z h oa "com/example/libreach/libreach/engine/StateLayout" "runs" "[I" (.ref c4) ∧ Arv Z h c4 k4 .int len rs (.int (0 : Int32)) ∧ RunOK w0 w1 w2 w3 rs len) ({ frames := 2, cells := 6, slots := 40, locals := 60 } : Room).cells ({ frames := 2, cells := 6, slots := 40, locals := 60 } : Room).slots) (T361.setTop (mkF m 190 #[.val (.ref oa), .val (.ref ob), .val (.int (LI3 w0 w1 w2 w3)), .val (.int ((LS3 w0 w1 w2 w3) + w3)), .val (.int (2 : Int32)), .val (.ref b117), .val (.int (2 : Int32))] [])) := by
                intro T361 lc361 X361 N361 e361 
                show ownEnds _ _ _ _ (T361.setTop (mkF m 190 #[.val (.ref oa), .val (.ref ob), .val (.int (LI3 w0 w1 w2 w3)), .val (.int ((LS3 w0 w1 w2 w3) + w3)), .val (.int (2 : Int32)), .val (.ref b117), .val (.int (2 : Int32))] []))
                refine ownEnds.law (fun t k => XS.aload X361.here hx rfl (hb hby d2_190) rfl rfl (XS.iload X361.here hx rfl (hb hby d2_192) rfl (XS.iinc X361.here hx rfl (hb hby d2_194) rfl (l' := #[.val (.ref oa), .val (.ref ob), .val (.int (LI3 w0 w1 w2 w3)), .val (.int ((LS3 w0 w1 w2 w3) + w3)), .val (.int (3 : Int32)), .val (.ref b117), .val (.int (2 : Int32))]) rfl (XS.iload X361.here hx rfl (hb hby d2_197) rfl k)))) ?_
                show ownEnds _ _ _ _ (T361.setTop (mkF m 199 #[.val (.ref oa), .val (.ref ob), .val (.int (LI3 w0 w1 w2 w3)), .val (.int ((LS3 w0 w1 w2 w3) + w3)), .val (.int (3 : Int32)), .val (.ref b117), .val (.int (2 : Int32))] [(.int (2 : Int32)), (.int (2 : Int32)), (.ref b117)]))
                obtain ⟨cl362, Ar362, q362, S362, N362, H362, G362⟩ := id V286
                obtain ⟨T362, h362, X362, e362, W362, st362⟩ := stI X361 hx hZ e361 Ar362 (j := (2 : Int32)) (inb_of S362 ⟨by decide, by decide⟩) (g := (mkF m 199 #[.val (.ref oa), .val (.ref ob), .val (.int (LI3 w0 w1 w2 w3)), .val (.int ((LS3 w0 w1 w2 w3) + w3)), .val (.int (3 : Int32)), .val (.ref b117), .val (.int (2 : Int32))] [(.int (2 : Int32)), (.int (2 : Int32)), (.ref b117)])) rfl rfl (hb hby d2_199)
                refine ownEnds.law st362 ?_
                have V362 : Arv Z h362 b117 k117 .int (5 : Int32) [(.int (0 : Int32)), (.int (1 : Int32)), (.int (2 : Int32)), (.int (0 : Int32)), (.int (0 : Int32))] (.int (0 : Int32)) := Arv.set Ar362 q362 S362 N362 H362 G362 rfl W362 2 rfl (Nat.le_of_ble_eq_true rfl)
                have N362 := Fr.snoc X362 N361 g_b117
                have KK362 : Keep h0 h362 [oa] := (KK286).wr W362 (Or.inr sz_b117)
                have Z362 : n0 ≤ h362.size := by rw [W362.size]; exact Z286
                show ownEnds _ _ _ _ (T362.setTop (mkF m 200 #[.val (.ref oa), .val (.ref ob), .val (.int (LI3 w0 w1 w2 w3)), .val (.int ((LS3 w0 w1 w2 w3) + w3)), .val (.int (3 : Int32)), .val (.ref b117), .val (.int (2 : Int32))] []))
                refine ownEnds.law (fun t k => XS.iinc X362.here hx rfl (hb hby d2_200) rfl (l' := #[.val (.ref oa), .val (.ref ob), .val (.int (LI3 w0 w1 w2 w3)), .val (.int ((LS3 w0 w1 w2 w3) + w3)), .val (.int (3 : Int32)), .val (.ref b117), .val (.int (3 : Int32))]) rfl (XS.goto X362.here hx rfl (pc0 := 203) (pc' := 146) rfl (hb hby d2_203) (by decide) (by decide) (XS.iload X362.here hx rfl (hb hby d2_146) rfl (XS.aloadN X362.here hx rfl (hb hby d2_148) rfl rfl k)))) ?_
                show ownEnds _ _ _ _ (T362.setTop (mkF m 149 #[.val (.ref oa), .val (.ref ob), .val (.int (LI3 w0 w1 w2 w3)), .val (.int ((LS3 w0 w1 w2 w3) + w3)), .val (.int (3 : Int32)), .val (.ref b117), .val (.int (3 : Int32))] [(.ref ob), (.int (3 : Int32))]))
                have f364 := (Arv.other f288 W362 ne_ob_b117)
                obtain ⟨cl363, Ar363, -, S363, N363, -, -⟩ := id f364
                refine ownEnds.law (X362.arraylength hx (by rw [e362]; exact Ar363.1) (State.isArrayOf_alike hZ.alike Ar363.2.1) (g := (mkF m 149 #[.val (.ref oa), .val (.ref ob), .val (.int (LI3 w0 w1 w2 w3)), .val (.int ((LS3 w0 w1 w2 w3) + w3)), .val (.int (3 : Int32)), .val (.ref b117), .val (.int (3 : Int32))] [(.ref ob), (.int (3 : Int32))])) rfl rfl (hb hby d2_149)) ?_
                rw [len_of S363 N363]
                show ownEnds _ _ _ _ (T362.setTop (mkF m 150 #[.val (.ref oa), .val (.ref ob), .val (.int (LI3 w0 w1 w2 w3)), .val (.int ((LS3 w0 w1 w2 w3) + w3)), .val (.int (3 : Int32)), .val (.ref b117), .val (.int (3 : Int32))] [(.int (4 : Int32)), (.int (3 : Int32))]))
                refine ownEnds.law (fun t => XS.icmpNo X362.here hx rfl (hb hby d2_150) rfl (tlt (by decide : (3 : Int32) < (4 : Int32))).2.1) ?_
                show ownEnds _ _ _ _ (T362.setTop (mkF m 153 #[.val (.ref oa), .val (.ref ob), .val (.int (LI3 w0 w1 w2 w3)), .val (.int ((LS3 w0 w1 w2 w3) + w3)), .val (.int (3 : Int32)), .val (.ref b117), .val (.int (3 : Int32))] []))
                refine ownEnds.law (fun t k => XS.iload X362.here hx rfl (hb hby d2_153) rfl k) ?_
                show ownEnds _ _ _ _ (T362.setTop (mkF m 155 #[.val (.ref oa), .val (.ref ob), .val (.int (LI3 w0 w1 w2 w3)), .val (.int ((LS3 w0 w1 w2 w3) + w3)), .val (.int (3 : Int32)), .val (.ref b117), .val (.int (3 : Int32))] [(.int (3 : Int32))]))
                refine ownEnds.law (fun t => XS.ifNo X362.here hx rfl (hb hby d2_155) rfl ((if0 _ _).trans (feq (by decide : ¬ ((3 : Int32) = (0 : Int32)))).1)) ?_
                by_cases hN3 : N3 w0 w1 w2 w3
                · show ownEnds _ _ _ _ (T362.setTop (mkF m 158 #[.val (.ref oa), .val (.ref ob), .val (.int (LI3 w0 w1 w2 w3)), .val (.int ((LS3 w0 w1 w2 w3) + w3)), .val (.int (3 : Int32)), .val (.ref b117), .val (.int (3 : Int32))] []))
                  refine ownEnds.law (fun t k => XS.aloadN X362.here hx rfl (hb hby d2_158) rfl rfl k) ?_
                  show ownEnds _ _ _ _ (T362.setTop (mkF m 159 #[.val (.ref oa), .val (.ref ob), .val (.int (LI3 w0 w1 w2 w3)), .val (.int ((LS3 w0 w1 w2 w3) + w3)), .val (.int (3 : Int32)), .val (.ref b117), .val (.int (3 : Int32))] [(.ref oa)]))
                  have f365 := (Fld.other W362 (Fld.other W286 (Fld.other W126 (Fld.ext E117 (Fld.other W114 (Fld.other W106 (Fld.other W100 (Fld.other W96 f94 (Or.inl ne_oa_b9)) (Or.inl ne_oa_b18)) (Or.inl ne_oa_b28)) (Or.inr (slot_ne (Or.inr (wd_26 hw)) (Or.inr (wd_34 hw)) (by decide) (t := (.array .int)) (t' := .int) (by decide) (by decide))))) (Or.inl ne_oa_b117)) (Or.inl ne_oa_b117)) (Or.inl ne_oa_b117))
                  obtain ⟨T366, X366, e366, st366⟩ := getF X362 hx hZ hown (host := "") (Or.inl (wd_25 hw)) Via.refl e362 f365 (g := (mkF m 159 #[.val (.ref oa), .val (.ref ob), .val (.int (LI3 w0 w1 w2 w3)), .val (.int ((LS3 w0 w1 w2 w3) + w3)), .val (.int (3 : Int32)), .val (.ref b117), .val (.int (3 : Int32))] [(.ref oa)])) rfl rfl (hb hby d2_159)
                  refine ownEnds.law st366 ?_
                  show ownEnds _ _ _ _ (T366.setTop (mkF m 162 #[.val (.ref oa), .val (.ref ob), .val (.int (LI3 w0 w1 w2 w3)), .val (.int ((LS3 w0 w1 w2 w3) + w3)), .val (.int (3 : Int32)), .val (.ref b117), .val (.int (3 : Int32))] [(.ref b9)]))
                  refine ownEnds.law (fun t k => XS.iload X366.here hx rfl (hb hby d2_162) rfl k) ?_
                  show ownEnds _ _ _ _ (T366.setTop (mkF m 164 #[.val (.ref oa), .val (.ref ob), .val (.int (LI3 w0 w1 w2 w3)), .val (.int ((LS3 w0 w1 w2 w3) + w3)), .val (.int (3 : Int32)), .val (.ref b117), .val (.int (3 : Int32))] [(.int (3 : Int32)), (.ref b9)]))
                  have f368 := (Arv.other (Arv.other (Arv.other (Arv.ext f121 E117) W126 ne_b9_b117) W286 ne_b9_b117) W362 ne_b9_b117)
                  obtain ⟨cl367, Ar367, q367, S367, N367, H367, G367⟩ := id f368
                  have hi367 := inb_of (j := (3 : Int32)) S367 ⟨by decide, by decide⟩
                  have hv367 : cl367.slots[((3 : Int32)).toNatClampNeg]? = some (.int (LI3 w0 w1 w2 w3)) := H367.at hi367 rfl
                  refine ownEnds.law (fun t k => X366.iaload hx (j := (3 : Int32)) (v := (.int (LI3 w0 w1 w2 w3))) (by rw [e366]; exact Ar367.1) (State.isArrayOf_alike hZ.alike Ar367.2.1) Ar367.2.2 hi367 hv367 (g := (mkF m 164 #[.val (.ref oa), .val (.ref ob), .val (.int (LI3 w0 w1 w2 w3)), .val (.int ((LS3 w0 w1 w2 w3) + w3)), .val (.int (3 : Int32)), .val (.ref b117), .val (.int (3 : Int32))] [(.int (3 : Int32)), (.ref b9)])) rfl rfl (hb hby d2_164) _ (XS.aloadN X366.here hx rfl (hb hby d2_165) rfl rfl k)) ?_
                  show ownEnds _ _ _ _ (T366.setTop (mkF m 166 #[.val (.ref oa), .val (.ref ob), .val (.int (LI3 w0 w1 w2 w3)), .val (.int ((LS3 w0 w1 w2 w3) + w3)), .val (.int (3 : Int32)), .val (.ref b117), .val (.int (3 : Int32))] [(.ref oa), (.int (LI3 w0 w1 w2 w3))]))
                  obtain ⟨T369, X369, e369, st369⟩ := getF X366 hx hZ hown (host := "") (Or.inl (wd_25 hw)) Via.refl e366 f365 (g := (mkF m 166 #[.val (.ref oa), .val (.ref ob), .val (.int (LI3 w0 w1 w2 w3)), .val (.int ((LS3 w0 w1 w2 w3) + w3)), .val (.int (3 : Int32)), .val (.ref b117), .val (.int (3 : Int32))] [(.ref oa), (.int (LI3 w0 w1 w2 w3))])) rfl rfl (hb hby d2_166)
                  refine ownEnds.law st369 ?_
                  show ownEnds _ _ _ _ (T369.setTop (mkF m 169 #[.val (.ref oa), .val (.ref ob), .val (.int (LI3 w0 w1 w2 w3)), .val (.int ((LS3 w0 w1 w2 w3) + w3)), .val (.int (3 : Int32)), .val (.ref b117), .val (.int (3 : Int32))] [(.ref b9), (.int (LI3 w0 w1 w2 w3))]))
                  refine ownEnds.law (fun t k => XS.iload X369.here hx rfl (hb hby d2_169) rfl (XS.iconst X369.here hx rfl (hb hby d2_171) (XS.isub X369.here hx rfl (hb hby d2_172) rfl k))) ?_
                  show ownEnds _ _ _ _ (T369.setTop (mkF m 173 #[.val (.ref oa), .val (.ref ob), .val (.int (LI3 w0 w1 w2 w3)), .val (.int ((LS3 w0 w1 w2 w3) + w3)), .val (.int (3 : Int32)), .val (.ref b117), .val (.int (3 : Int32))] [(.int (2 : Int32)), (.ref b9), (.int (LI3 w0 w1 w2 w3))]))
                  obtain ⟨cl370, Ar370, q370, S370, N370, H370, G370⟩ := id f368
                  have hi370 := inb_of (j := (2 : Int32)) S370 ⟨by decide, by decide⟩
                  have hv370 : cl370.slots[((2 : Int32)).toNatClampNeg]? = some (.int (LI2 w0 w1 w2)) := H370.at hi370 rfl
                  refine ownEnds.law (fun t k => X369.iaload hx (j := (2 : Int32)) (v := (.int (LI2 w0 w1 w2))) (by rw [e369]; exact Ar370.1) (State.isArrayOf_alike hZ.alike Ar370.2.1) Ar370.2.2 hi370 hv370 (g := (mkF m 173 #[.val (.ref oa), .val (.ref ob), .val (.int (LI3 w0 w1 w2 w3)), .val (.int ((LS3 w0 w1 w2 w3) + w3)), .val (.int (3 : Int32)), .val (.ref b117), .val (.int (3 : Int32))] [(.int (2 : Int32)), (.ref b9), (.int (LI3 w0 w1 w2 w3))])) rfl rfl (hb hby d2_173) _ k) ?_
                  show ownEnds _ _ _ _ (T369.setTop (mkF m 174 #[.val (.ref oa), .val (.ref ob), .val (.int (LI3 w0 w1 w2 w3)), .val (.int ((LS3 w0 w1 w2 w3) + w3)), .val (.int (3 : Int32)), .val (.ref b117), .val (.int (3 : Int32))] [(.int (LI2 w0 w1 w2)), (.int (LI3 w0 w1 w2 w3))]))
                  have hc174 : (LI3 w0 w1 w2 w3) = (LI2 w0 w1 w2) := hN3.1
                  refine ownEnds.law (fun t => XS.icmpNo X369.here hx rfl (hb hby d2_174) rfl (teq hc174).2) ?_
                  show ownEnds _ _ _ _ (T369.setTop (mkF m 177 #[.val (.ref oa), .val (.ref ob), .val (.int (LI3 w0 w1 w2 w3)), .val (.int ((LS3 w0 w1 w2 w3) + w3)), .val (.int (3 : Int32)), .val (.ref b117), .val (.int (3 : Int32))] []))
                  refine ownEnds.law (fun t k => XS.aloadN X369.here hx rfl (hb hby d2_177) rfl rfl (XS.iload X369.here hx rfl (hb hby d2_178) rfl k)) ?_
                  show ownEnds _ _ _ _ (T369.setTop (mkF m 180 #[.val (.ref oa), .val (.ref ob), .val (.int (LI3 w0 w1 w2 w3)), .val (.int ((LS3 w0 w1 w2 w3) + w3)), .val (.int (3 : Int32)), .val (.ref b117), .val (.int (3 : Int32))] [(.int (3 : Int32)), (.ref ob)]))
                  obtain ⟨cl371, Ar371, q371, S371, N371, H371, G371⟩ := id f364
                  have hi371 := inb_of (j := (3 : Int32)) S371 ⟨by decide, by decide⟩
                  have hv371 : cl371.slots[((3 : Int32)).toNatClampNeg]? = some (.int w3) := H371.at hi371 rfl
                  refine ownEnds.law (fun t k => X369.iaload hx (j := (3 : Int32)) (v := (.int w3)) (by rw [e369]; exact Ar371.1) (State.isArrayOf_alike hZ.alike Ar371.2.1) Ar371.2.2 hi371 hv371 (g := (mkF m 180 #[.val (.ref oa), .val (.ref ob), .val (.int (LI3 w0 w1 w2 w3)), .val (.int ((LS3 w0 w1 w2 w3) + w3)), .val (.int (3 : Int32)), .val (.ref b117), .val (.int (3 : Int32))] [(.int (3 : Int32)), (.ref ob)])) rfl rfl (hb hby d2_180) _ (XS.aloadN X369.here hx rfl (hb hby d2_181) rfl rfl (XS.iload X369.here hx rfl (hb hby d2_182) rfl (XS.iconst X369.here hx rfl (hb hby d2_184) (XS.isub X369.here hx rfl (hb hby d2_185) rfl k))))) ?_
                  show ownEnds _ _ _ _ (T369.setTop (mkF m 186 #[.val (.ref oa), .val (.ref ob), .val (.int (LI3 w0 w1 w2 w3)), .val (.int ((LS3 w0 w1 w2 w3) + w3)), .val (.int (3 : Int32)), .val (.ref b117), .val (.int (3 : Int32))] [(.int (2 : Int32)), (.ref ob), (.int w3)]))
                  obtain ⟨cl372, Ar372, q372, S372, N372, H372, G372⟩ := id f364
                  have hi372 := inb_of (j := (2 : Int32)) S372 ⟨by decide, by decide⟩
                  have hv372 : cl372.slots[((2 : Int32)).toNatClampNeg]? = some (.int w2) := H372.at hi372 rfl
                  refine ownEnds.law (fun t k => X369.iaload hx (j := (2 : Int32)) (v := (.int w2)) (by rw [e369]; exact Ar372.1) (State.isArrayOf_alike hZ.alike Ar372.2.1) Ar372.2.2 hi372 hv372 (g := (mkF m 186 #[.val (.ref oa), .val (.ref ob), .val (.int (LI3 w0 w1 w2 w3)), .val (.int ((LS3 w0 w1 w2 w3) + w3)), .val (.int (3 : Int32)), .val (.ref b117), .val (.int (3 : Int32))] [(.int (2 : Int32)), (.ref ob), (.int w3)])) rfl rfl (hb hby d2_186) _ k) ?_
                  show ownEnds _ _ _ _ (T369.setTop (mkF m 187 #[.val (.ref oa), .val (.ref ob), .val (.int (LI3 w0 w1 w2 w3)), .val (.int ((LS3 w0 w1 w2 w3) + w3)), .val (.int (3 : Int32)), .val (.ref b117), .val (.int (3 : Int32))] [(.int w2), (.int w3)]))
                  have hc187 : w3 = w2 := hN3.2
                  refine ownEnds.law (fun t => XS.icmpYes X369.here hx rfl (pc0 := 187) (pc' := 200) rfl (hb hby d2_187) rfl (teq hc187).1 (by decide) (by decide)) ?_
                  show ownEnds _ _ _ _ (T369.setTop (mkF m 200 #[.val (.ref oa), .val (.ref ob), .val (.int (LI3 w0 w1 w2 w3)), .val (.int ((LS3 w0 w1 w2 w3) + w3)), .val (.int (3 : Int32)), .val (.ref b117), .val (.int (3 : Int32))] []))
                  refine ownEnds.law (fun t k => XS.iinc X369.here hx rfl (hb hby d2_200) rfl (l' := #[.val (.ref oa), .val (.ref ob), .val (.int (LI3 w0 w1 w2 w3)), .val (.int ((LS3 w0 w1 w2 w3) + w3)), .val (.int (3 : Int32)), .val (.ref b117), .val (.int (4 : Int32))]) rfl (XS.goto X369.here hx rfl (pc0 := 203) (pc' := 146) rfl (hb hby d2_203) (by decide) (by decide) (XS.iload X369.here hx rfl (hb hby d2_146) rfl (XS.aloadN X369.here hx rfl (hb hby d2_148) rfl rfl k)))) ?_
                  show ownEnds _ _ _ _ (T369.setTop (mkF m 149 #[.val (.ref oa), .val (.ref ob), .val (.int (LI3 w0 w1 w2 w3)), .val (.int ((LS3 w0 w1 w2 w3) + w3)), .val (.int (3 : Int32)), .val (.ref b117), .val (.int (4 : Int32))] [(.ref ob), (.int (4 : Int32))]))
                  obtain ⟨cl373, Ar373, -, S373, N373, -, -⟩ := id f364
                  refine ownEnds.law (X369.arraylength hx (by rw [e369]; exact Ar373.1) (State.isArrayOf_alike hZ.alike Ar373.2.1) (g := (mkF m 149 #[.val (.ref oa), .val (.ref ob), .val (.int (LI3 w0 w1 w2 w3)), .val (.int ((LS3 w0 w1 w2 w3) + w3)), .val (.int (3 : Int32)), .val (.ref b117), .val (.int (4 : Int32))] [(.ref ob), (.int (4 : Int32))])) rfl rfl (hb hby d2_149)) ?_
                  rw [len_of S373 N373]
                  show ownEnds _ _ _ _ (T369.setTop (mkF m 150 #[.val (.ref oa), .val (.ref ob), .val (.int (LI3 w0 w1 w2 w3)), .val (.int ((LS3 w0 w1 w2 w3) + w3)), .val (.int (3 : Int32)), .val (.ref b117), .val (.int (4 : Int32))] [(.int (4 : Int32)), (.int (4 : Int32))]))
                  refine ownEnds.law (fun t => XS.icmpYes X369.here hx rfl (pc0 := 150) (pc' := 206) rfl (hb hby d2_150) rfl (flt (Int32.lt_irrefl)).2.1 (by decide) (by decide)) ?_
                  show ownEnds _ _ _ _ (T369.setTop (mkF m 206 #[.val (.ref oa), .val (.ref ob), .val (.int (LI3 w0 w1 w2 w3)), .val (.int ((LS3 w0 w1 w2 w3) + w3)), .val (.int (3 : Int32)), .val (.ref b117), .val (.int (4 : Int32))] []))
                  refine ownEnds.law (fun t k => XS.aload X369.here hx rfl (hb hby d2_206) rfl rfl (XS.iload X369.here hx rfl (hb hby d2_208) rfl (XS.iinc X369.here hx rfl (hb hby d2_210) rfl (l' := #[.val (.ref oa), .val (.ref ob), .val (.int (LI3 w0 w1 w2 w3)), .val (.int ((LS3 w0 w1 w2 w3) + w3)), .val (.int (4 : Int32)), .val (.ref b117), .val (.int (4 : Int32))]) rfl (XS.aloadN X369.here hx rfl (hb hby d2_213) rfl rfl k)))) ?_
                  show ownEnds _ _ _ _ (T369.setTop (mkF m 214 #[.val (.ref oa), .val (.ref ob), .val (.int (LI3 w0 w1 w2 w3)), .val (.int ((LS3 w0 w1 w2 w3) + w3)), .val (.int (4 : Int32)), .val (.ref b117), .val (.int (4 : Int32))] [(.ref ob), (.int (3 : Int32)), (.ref b117)]))
                  obtain ⟨cl374, Ar374, -, S374, N374, -, -⟩ := id f364
                  refine ownEnds.law (X369.arraylength hx (by rw [e369]; exact Ar374.1) (State.isArrayOf_alike hZ.alike Ar374.2.1) (g := (mkF m 214 #[.val (.ref oa), .val (.ref ob), .val (.int (LI3 w0 w1 w2 w3)), .val (.int ((LS3 w0 w1 w2 w3) + w3)), .val (.int (4 : Int32)), .val (.ref b117), .val (.int (4 : Int32))] [(.ref ob), (.int (3 : Int32)), (.ref b117)])) rfl rfl (hb hby d2_214)) ?_
                  rw [len_of S374 N374]
                  show ownEnds _ _ _ _ (T369.setTop (mkF m 215 #[.val (.ref oa), .val (.ref ob), .val (.int (LI3 w0 w1 w2 w3)), .val (.int ((LS3 w0 w1 w2 w3) + w3)), .val (.int (4 : Int32)), .val (.ref b117), .val (.int (4 : Int32))] [(.int (4 : Int32)), (.int (3 : Int32)), (.ref b117)]))
                  obtain ⟨cl375, Ar375, q375, S375, N375, H375, G375⟩ := id V362
                  obtain ⟨T375, h375, X375, e375, W375, st375⟩ := stI X369 hx hZ e369 Ar375 (j := (3 : Int32)) (inb_of S375 ⟨by decide, by decide⟩) (g := (mkF m 215 #[.val (.ref oa), .val (.ref ob), .val (.int (LI3 w0 w1 w2 w3)), .val (.int ((LS3 w0 w1 w2 w3) + w3)), .val (.int (4 : Int32)), .val (.ref b117), .val (.int (4 : Int32))] [(.int (4 : Int32)), (.int (3 : Int32)), (.ref b117)])) rfl rfl (hb hby d2_215)
                  refine ownEnds.law st375 ?_
                  have V375 : Arv Z h375 b117 k117 .int (5 : Int32) [(.int (0 : Int32)), (.int (1 : Int32)), (.int (2 : Int32)), (.int (4 : Int32)), (.int (0 : Int32))] (.int (0 : Int32)) := Arv.set Ar375 q375 S375 N375 H375 G375 rfl W375 3 rfl (Nat.le_of_ble_eq_true rfl)
                  have N375 := Fr.snoc X375 N362 g_b117
                  have KK375 : Keep h0 h375 [oa] := (KK362).wr W375 (Or.inr sz_b117)
                  have Z375 : n0 ≤ h375.size := by rw [W375.size]; exact Z362
                  show ownEnds _ _ _ _ (T375.setTop (mkF m 216 #[.val (.ref oa), .val (.ref ob), .val (.int (LI3 w0 w1 w2 w3)), .val (.int ((LS3 w0 w1 w2 w3) + w3)), .val (.int (4 : Int32)), .val (.ref b117), .val (.int (4 : Int32))] []))
                  refine ownEnds.law (fun t k => XS.aloadN X375.here hx rfl (hb hby d2_216) rfl rfl (XS.aload X375.here hx rfl (hb hby d2_217) rfl rfl (XS.iload X375.here hx rfl (hb hby d2_219) rfl k))) ?_
                  show ownEnds _ _ _ _ (T375.setTop (mkF m 221 #[.val (.ref oa), .val (.ref ob), .val (.int (LI3 w0 w1 w2 w3)), .val (.int ((LS3 w0 w1 w2 w3) + w3)), .val (.int (4 : Int32)), .val (.ref b117), .val (.int (4 : Int32))] [(.int (4 : Int32)), (.ref b117), (.ref oa)]))
                  have f377 := (Exa.wr W375 (Exa.wr W362 (Exa.wr W286 (Exa.wr W126 Ax117))))
                  obtain ⟨v376, T376, L376, X376, hQ376, st376⟩ := ownCallS X375 hx hZ hown (y := (⟨"java/util/Arrays", "copyOf", "([II)[I"⟩ : MethodName)) (as := [(.ref b117), (.int (4 : Int32))]) (wd_35 hw) (wd_36 hw) (wd_37 hw) (wd_38 hw) (by decide) (rm4_4 l Z a0 hw b117 k117 (.int (0 : Int32)) (.int (1 : Int32)) (.int (2 : Int32)) (.int (4 : Int32)) (.int (0 : Int32)) h375 n0 Z375 V375 f377) e375 1 (by decide) (by decide) (by decide) (by decide) (g := (mkF m 221 #[.val (.ref oa), .val (.ref ob), .val (.int (LI3 w0 w1 w2 w3)), .val (.int ((LS3 w0 w1 w2 w3) + w3)), .val (.int (4 : Int32)), .val (.ref b117), .val (.int (4 : Int32))] [(.int (4 : Int32)), (.ref b117), (.ref oa)])) rfl (by rw [hml]; rfl) (rest := [(.ref oa)]) pd_1 rfl rfl (by show 2 * 0 + _ ≤ _; exact Nat.le_of_eq rfl) (hb hby d2_221)
                  obtain ⟨b376, kb376, rfl, Nq376, Kq376, g_b376, zq376, Vq376⟩ := hQ376
                  have f378 := (Exa.wr W375 (Exa.wr W362 (Exa.wr W286 (Exa.wr W126 (Exa.ext E117 f118)))))
                  have ne_oa_b376 : oa ≠ b376 := Nat.ne_of_lt (Nat.lt_of_lt_of_le f378.lt zq376)
                  have f379 := (Exa.wr W375 (Exa.wr W362 (Exa.wr W286 (Exa.wr W126 (Exa.ext E117 f119)))))
                  have ne_ob_b376 : ob ≠ b376 := Nat.ne_of_lt (Nat.lt_of_lt_of_le f379.lt zq376)
                  have f380 := (Arv.other (Arv.other (Arv.other (Arv.other (Arv.ext f120 E117) W126 ne_b2_b117) W286 ne_b2_b117) W362 ne_b2_b117) W375 ne_b2_b117)
                  have ne_b2_b376 : b2 ≠ b376 := Nat.ne_of_lt (Nat.lt_of_lt_of_le f380.lt zq376)
                  have f381 := (Arv.other f368 W375 ne_b9_b117)
                  have ne_b9_b376 : b9 ≠ b376 := Nat.ne_of_lt (Nat.lt_of_lt_of_le f381.lt zq376)
                  have f382 := (Arv.other (Arv.other (Arv.other (Arv.other (Arv.ext f122 E117) W126 ne_b18_b117) W286 ne_b18_b117) W362 ne_b18_b117) W375 ne_b18_b117)
                  have ne_b18_b376 : b18 ≠ b376 := Nat.ne_of_lt (Nat.lt_of_lt_of_le f382.lt zq376)
                  have f383 := (Arv.other (Arv.other (Arv.other (Arv.other (Arv.ext f123 E117) W126 ne_b28_b117) W286 ne_b28_b117) W362 ne_b28_b117) W375 ne_b28_b117)
                  have ne_b28_b376 : b28 ≠ b376 := Nat.ne_of_lt (Nat.lt_of_lt_of_le f383.lt zq376)
                  have ne_b117_b376 : b117 ≠ b376 := Nat.ne_of_lt (Nat.lt_of_lt_of_le V375.lt zq376)
                  have sz_b376 : h0.size ≤ b376 := Nat.le_trans (KK375).1 zq376
                  have N376 := Fr.app N375 Nq376
                  have KK376 : Keep h0 T376.heap [oa] := Keep.trans (KK375) Kq376 all0
                  have Z376 : n0 ≤ T376.heap.size := Nat.le_trans Z375 Kq376.1
                  refine ownEnds.law st376 ?_
                  show ownEnds _ _ _ _ (T376.setTop (mkF m 224 #[.val (.ref oa), .val (.ref ob), .val (.int (LI3 w0 w1 w2 w3)), .val (.int ((LS3 w0 w1 w2 w3) + w3)), .val (.int (4 : Int32)), .val (.ref b117), .val (.int (4 : Int32))] [(.ref b376), (.ref oa)]))
                  have f384 := (Exa.keep f378 Kq376)
                  have f385 := (Fld.keep (Fld.other W375 (Fld.other W362 (Fld.other W286 (Fld.other W126 (Fld.ext E117 (Fld.other W114 (Fld.other W106 (Fld.other W100 (Fld.other W96 (Fld.other W88 (Fld.other W82 (Fld.other W78 (Fld.other W70 (Fld.other W64 (Fld.other W60 (Fld.other W52 (Fld.other W46 (Fld.other W42 (Fld.other W36 (Fld.ext E28 (Fld.other W25 (Fld.ext E18 (Fld.other W15 (Fld.ext E9 (Fld.other W6 (Fld.ext E2 F_oa_runs) (Or.inr (slot_ne (Or.inr (wd_42 hw)) (Or.inr (wd_24 hw)) (by decide) (t := (.array .int)) (t' := (.array .int)) (by decide) (by decide))))) (Or.inr (slot_ne (Or.inr (wd_42 hw)) (Or.inr (wd_26 hw)) (by decide) (t := (.array .int)) (t' := (.array .int)) (by decide) (by decide))))) (Or.inr (slot_ne (Or.inr (wd_42 hw)) (Or.inr (wd_28 hw)) (by decide) (t := (.array .int)) (t' := (.array .int)) (by decide) (by decide))))) (Or.inr (slot_ne (Or.inr (wd_42 hw)) (Or.inr (wd_31 hw)) (by decide) (t := (.array .int)) (t' := (.array .long)) (by decide) (by decide)))) (Or.inl ne_oa_b9)) (Or.inl ne_oa_b18)) (Or.inl ne_oa_b28)) (Or.inl ne_oa_b9)) (Or.inl ne_oa_b18)) (Or.inl ne_oa_b28)) (Or.inl ne_oa_b9)) (Or.inl ne_oa_b18)) (Or.inl ne_oa_b28)) (Or.inl ne_oa_b9)) (Or.inl ne_oa_b18)) (Or.inl ne_oa_b28)) (Or.inr (slot_ne (Or.inr (wd_42 hw)) (Or.inr (wd_34 hw)) (by decide) (t := (.array .int)) (t' := .int) (by decide) (by decide))))) (Or.inl ne_oa_b117)) (Or.inl ne_oa_b117)) (Or.inl ne_oa_b117)) (Or.inl ne_oa_b117)) Kq376 nin0)
                  obtain ⟨T386, h386, X386, e386, W386, st386⟩ := putF X376 hx hZ hown (host := "") (Or.inl (wd_41 hw)) Via.refl rfl f385 f384 (Or.inr ⟨(wd_42 hw), rfl, hnm⟩) (wd_5 hw) (ty := (.array .int)) (by decide) rfl rfl (g := (mkF m 224 #[.val (.ref oa), .val (.ref ob), .val (.int (LI3 w0 w1 w2 w3)), .val (.int ((LS3 w0 w1 w2 w3) + w3)), .val (.int (4 : Int32)), .val (.ref b117), .val (.int (4 : Int32))] [(.ref b376), (.ref oa)])) rfl rfl (hb hby d2_224)
                  refine ownEnds.law st386 ?_
                  have N386 := Fr.snoc X386 N376 g_oa
                  have KK386 : Keep h0 h386 [oa] := (KK376).wr W386 (Or.inl (List.mem_of_getElem? (i := 0) rfl))
                  have Z386 : n0 ≤ h386.size := by rw [W386.size]; exact Z376
                  have Fw386 : Fld Z h386 oa "com/example/libreach/libreach/engine/StateLayout" "runs" "[I" (.ref b376) := Fld.same W386 f385
                  show ownEnds _ _ _ _ (T386.setTop (mkF m 227 #[.val (.ref oa), .val (.ref ob), .val (.int (LI3 w0 w1 w2 w3)), .val (.int ((LS3 w0 w1 w2 w3) + w3)), .val (.int (4 : Int32)), .val (.ref b117), .val (.int (4 : Int32))] []))
                  refine ownRetV X386 hlk hx hret (hb hby d2_227) (by decide) (by decide) ?_
                  have f387 := (Exa.wr W386 f384)
                  have f388 := (Fld.other W386 (Fld.keep (Fld.other W375 (Fld.other W362 (Fld.other W286 (Fld.other W126 (Fld.ext E117 (Fld.other W114 (Fld.other W106 (Fld.other W100 (Fld.other W96 (Fld.other W88 (Fld.other W82 (Fld.other W78 (Fld.other W70 (Fld.other W64 (Fld.other W60 (Fld.other W52 (Fld.other W46 (Fld.other W42 (Fld.other W36 (Fld.ext E28 (Fld.other W25 (Fld.ext E18 (Fld.other W15 (Fld.ext E9 Fw6) (Or.inr (slot_ne (Or.inr (wd_24 hw)) (Or.inr (wd_26 hw)) (by decide) (t := (.array .int)) (t' := (.array .int)) (by decide) (by decide))))) (Or.inr (slot_ne (Or.inr (wd_24 hw)) (Or.inr (wd_28 hw)) (by decide) (t := (.array .int)) (t' := (.array .int)) (by decide) (by decide))))) (Or.inr (slot_ne (Or.inr (wd_24 hw)) (Or.inr (wd_31 hw)) (by decide) (t := (.array .int)) (t' := (.array .long)) (by decide) (by decide)))) (Or.inl ne_oa_b9)) (Or.inl ne_oa_b18)) (Or.inl ne_oa_b28)) (Or.inl ne_oa_b9)) (Or.inl ne_oa_b18)) (Or.inl ne_oa_b28)) (Or.inl ne_oa_b9)) (Or.inl ne_oa_b18)) (Or.inl ne_oa_b28)) (Or.inl ne_oa_b9)) (Or.inl ne_oa_b18)) (Or.inl ne_oa_b28)) (Or.inr (slot_ne (Or.inr (wd_24 hw)) (Or.inr (wd_34 hw)) (by decide) (t := (.array .int)) (t' := .int) (by decide) (by decide))))) (Or.inl ne_oa_b117)) (Or.inl ne_oa_b117)) (Or.inl ne_oa_b117)) (Or.inl ne_oa_b117)) Kq376 nin0) (Or.inr (slot_ne (Or.inr (wd_24 hw)) (Or.inr (wd_42 hw)) (by decide) (t := (.array .int)) (t' := (.array .int)) (by decide) (by decide))))
                  have f389 := (Arv.other (Arv.keep f380 Kq376 nin0) W386 (Ne.symm ne_oa_b2))
                  have f390 := (Fld.other W386 (Fld.keep (Fld.other W375 f365 (Or.inl ne_oa_b117)) Kq376 nin0) (Or.inr (slot_ne (Or.inr (wd_26 hw)) (Or.inr (wd_42 hw)) (by decide) (t := (.array .int)) (t' := (.array .int)) (by decide) (by decide))))
                  have f391 := (Arv.other (Arv.keep f381 Kq376 nin0) W386 (Ne.symm ne_oa_b9))
                  have f392 := (Fld.other W386 (Fld.keep (Fld.other W375 (Fld.other W362 (Fld.other W286 (Fld.other W126 (Fld.ext E117 (Fld.other W114 (Fld.other W106 (Fld.other W100 f98 (Or.inl ne_oa_b18)) (Or.inl ne_oa_b28)) (Or.inr (slot_ne (Or.inr (wd_28 hw)) (Or.inr (wd_34 hw)) (by decide) (t := (.array .int)) (t' := .int) (by decide) (by decide))))) (Or.inl ne_oa_b117)) (Or.inl ne_oa_b117)) (Or.inl ne_oa_b117)) (Or.inl ne_oa_b117)) Kq376 nin0) (Or.inr (slot_ne (Or.inr (wd_28 hw)) (Or.inr (wd_42 hw)) (by decide) (t := (.array .int)) (t' := (.array .int)) (by decide) (by decide))))
                  have f393 := (Arv.other (Arv.keep f382 Kq376 nin0) W386 (Ne.symm ne_oa_b18))
                  have f394 := (Fld.other W386 (Fld.keep (Fld.other W375 (Fld.other W362 (Fld.other W286 (Fld.other W126 (Fld.ext E117 (Fld.other W114 (Fld.other W106 f102 (Or.inl ne_oa_b28)) (Or.inr (slot_ne (Or.inr (wd_31 hw)) (Or.inr (wd_34 hw)) (by decide) (t := (.array .long)) (t' := .int) (by decide) (by decide))))) (Or.inl ne_oa_b117)) (Or.inl ne_oa_b117)) (Or.inl ne_oa_b117)) (Or.inl ne_oa_b117)) Kq376 nin0) (Or.inr (slot_ne (Or.inr (wd_31 hw)) (Or.inr (wd_42 hw)) (by decide) (t := (.array .long)) (t' := (.array .int)) (by decide) (by decide))))
                  have f395 := (Arv.other (Arv.keep f383 Kq376 nin0) W386 (Ne.symm ne_oa_b28))
                  have f396 := (Arv.other Vq376 W386 (Ne.symm ne_oa_b376))
                  rw [e386]
                  have hok : RunOK w0 w1 w2 w3 [(.int (0 : Int32)), (.int (1 : Int32)), (.int (2 : Int32)), (.int (4 : Int32))] (4 : Int32) := own_run001 hN1 hN2 hN3
                  exact ⟨rfl, N386, KK386, b2, b9, b18, b28, b376, k_ob, k9, k18, k28, kb376, [(.int (0 : Int32)), (.int (1 : Int32)), (.int (2 : Int32)), (.int (4 : Int32))], (4 : Int32), f387, f388, f389, f390, f391, f392, f393, f394, f395, Fw386, f396, hok⟩
                · have J190_3 : ∀ (T397 : State) (lc397 : List Loc) (X397 : Stand p l e ({ frames := 2, cells := 6, slots := 40, locals := 60 } : Room) s m #[(.ref oa), (.ref ob)] below meth c T397 lc397 5 21) (N397 : Fr n0 lc397) (e397 : T397.heap = h362) , ownEnds p.tables e below (ownPost s (fun v h L => v = none ∧ Fr n0 L ∧ Keep h0 h [oa] ∧ ∃ (c0 c1 c2 c3 c4 : Addr) (k0 k1 k2 k3 k4 : ClassId) (rs : List Value) (len : Int32), Exa Z h oa "com/example/libreach/libreach/engine/StateLayout" ∧ Fld Z h oa "com/example/libreach/libreach/engine/StateLayout" "widths" "[I" (.ref c0) ∧ Arv Z h c0 k0 .int (4 : Int32) [(.int w0), (.int w1), (.int w2), (.int w3)] (.int (0 : Int32)) ∧ Fld Z h oa "com/example/libreach/libreach/engine/StateLayout" "word" "[I" (.ref c1) ∧ Arv Z h c1 k1 .int (4 : Int32) [(.int (0 : Int32)), (.int (LI1 w0 w1)), (.int (LI2 w0 w1 w2)), (.int (LI3 w0 w1 w2 w3))] (.int (0 : Int32)) ∧ Fld Z h oa "com/example/libreach/libreach/engine/StateLayout" "shift" "[I" (.ref c2) ∧ Arv Z h c2 k2 .int (4 : Int32) [(.int (0 : Int32)), (.int (LS1 w0 w1)), (.int (LS2 w0 w1 w2)), (.int (LS3 w0 w1 w2 w3))] (.int (0 : Int32)) ∧ Fld Z h oa "com/example/libreach/libreach/engine/StateLayout" "largest" "[J" (.ref c3) ∧ Arv Z h c3 k3 .long (4 : Int32) [(.long (LM w0)), (.long (LM w1)), (.long (LM w2)), (.long (LM w3))] (.long (0 : Int64)) ∧ Fld Z h oa "com/example/libreach/libreach/engine/StateLayout" "runs" "[I" (.ref c4) ∧ Arv Z h c4 k4 .int len rs (.int (0 : Int32)) ∧ RunOK w0 w1 w2 w3 rs len) ({ frames := 2, cells := 6, slots := 40, locals := 60 } : Room).cells ({ frames := 2, cells := 6, slots := 40, locals := 60 } : Room).slots) (T397.setTop (mkF m 190 #[.val (.ref oa), .val (.ref ob), .val (.int (LI3 w0 w1 w2 w3)), .val (.int ((LS3 w0 w1 w2 w3) + w3)), .val (.int (3 : Int32)), .val (.ref b117), .val (.int (3 : Int32))] [])) := by
                    intro T397 lc397 X397 N397 e397 
                    show ownEnds _ _ _ _ (T397.setTop (mkF m 190 #[.val (.ref oa), .val (.ref ob), .val (.int (LI3 w0 w1 w2 w3)), .val (.int ((LS3 w0 w1 w2 w3) + w3)), .val (.int (3 : Int32)), .val (.ref b117), .val (.int (3 : Int32))] []))
                    refine ownEnds.law (fun t k => XS.aload X397.here hx rfl (hb hby d2_190) rfl rfl (XS.iload X397.here hx rfl (hb hby d2_192) rfl (XS.iinc X397.here hx rfl (hb hby d2_194) rfl (l' := #[.val (.ref oa), .val (.ref ob), .val (.int (LI3 w0 w1 w2 w3)), .val (.int ((LS3 w0 w1 w2 w3) + w3)), .val (.int (4 : Int32)), .val (.ref b117), .val (.int (3 : Int32))]) rfl (XS.iload X397.here hx rfl (hb hby d2_197) rfl k)))) ?_
                    show ownEnds _ _ _ _ (T397.setTop (mkF m 199 #[.val (.ref oa), .val (.ref ob), .val (.int (LI3 w0 w1 w2 w3)), .val (.int ((LS3 w0 w1 w2 w3) + w3)), .val (.int (4 : Int32)), .val (.ref b117), .val (.int (3 : Int32))] [(.int (3 : Int32)), (.int (3 : Int32)), (.ref b117)]))
                    obtain ⟨cl398, Ar398, q398, S398, N398, H398, G398⟩ := id V362
                    obtain ⟨T398, h398, X398, e398, W398, st398⟩ := stI X397 hx hZ e397 Ar398 (j := (3 : Int32)) (inb_of S398 ⟨by decide, by decide⟩) (g := (mkF m 199 #[.val (.ref oa), .val (.ref ob), .val (.int (LI3 w0 w1 w2 w3)), .val (.int ((LS3 w0 w1 w2 w3) + w3)), .val (.int (4 : Int32)), .val (.ref b117), .val (.int (3 : Int32))] [(.int (3 : Int32)), (.int (3 : Int32)), (.ref b117)])) rfl rfl (hb hby d2_199)
                    refine ownEnds.law st398 ?_
                    have V398 : Arv Z h398 b117 k117 .int (5 : Int32) [(.int (0 : Int32)), (.int (1 : Int32)), (.int (2 : Int32)), (.int (3 : Int32)), (.int (0 : Int32))] (.int (0 : Int32)) := Arv.set Ar398 q398 S398 N398 H398 G398 rfl W398 3 rfl (Nat.le_of_ble_eq_true rfl)
                    have N398 := Fr.snoc X398 N397 g_b117
                    have KK398 : Keep h0 h398 [oa] := (KK362).wr W398 (Or.inr sz_b117)
                    have Z398 : n0 ≤ h398.size := by rw [W398.size]; exact Z362
                    show ownEnds _ _ _ _ (T398.setTop (mkF m 200 #[.val (.ref oa), .val (.ref ob), .val (.int (LI3 w0 w1 w2 w3)), .val (.int ((LS3 w0 w1 w2 w3) + w3)), .val (.int (4 : Int32)), .val (.ref b117), .val (.int (3 : Int32))] []))
                    refine ownEnds.law (fun t k => XS.iinc X398.here hx rfl (hb hby d2_200) rfl (l' := #[.val (.ref oa), .val (.ref ob), .val (.int (LI3 w0 w1 w2 w3)), .val (.int ((LS3 w0 w1 w2 w3) + w3)), .val (.int (4 : Int32)), .val (.ref b117), .val (.int (4 : Int32))]) rfl (XS.goto X398.here hx rfl (pc0 := 203) (pc' := 146) rfl (hb hby d2_203) (by decide) (by decide) (XS.iload X398.here hx rfl (hb hby d2_146) rfl (XS.aloadN X398.here hx rfl (hb hby d2_148) rfl rfl k)))) ?_
                    show ownEnds _ _ _ _ (T398.setTop (mkF m 149 #[.val (.ref oa), .val (.ref ob), .val (.int (LI3 w0 w1 w2 w3)), .val (.int ((LS3 w0 w1 w2 w3) + w3)), .val (.int (4 : Int32)), .val (.ref b117), .val (.int (4 : Int32))] [(.ref ob), (.int (4 : Int32))]))
                    have f400 := (Arv.other f364 W398 ne_ob_b117)
                    obtain ⟨cl399, Ar399, -, S399, N399, -, -⟩ := id f400
                    refine ownEnds.law (X398.arraylength hx (by rw [e398]; exact Ar399.1) (State.isArrayOf_alike hZ.alike Ar399.2.1) (g := (mkF m 149 #[.val (.ref oa), .val (.ref ob), .val (.int (LI3 w0 w1 w2 w3)), .val (.int ((LS3 w0 w1 w2 w3) + w3)), .val (.int (4 : Int32)), .val (.ref b117), .val (.int (4 : Int32))] [(.ref ob), (.int (4 : Int32))])) rfl rfl (hb hby d2_149)) ?_
                    rw [len_of S399 N399]
                    show ownEnds _ _ _ _ (T398.setTop (mkF m 150 #[.val (.ref oa), .val (.ref ob), .val (.int (LI3 w0 w1 w2 w3)), .val (.int ((LS3 w0 w1 w2 w3) + w3)), .val (.int (4 : Int32)), .val (.ref b117), .val (.int (4 : Int32))] [(.int (4 : Int32)), (.int (4 : Int32))]))
                    refine ownEnds.law (fun t => XS.icmpYes X398.here hx rfl (pc0 := 150) (pc' := 206) rfl (hb hby d2_150) rfl (flt (Int32.lt_irrefl)).2.1 (by decide) (by decide)) ?_
                    show ownEnds _ _ _ _ (T398.setTop (mkF m 206 #[.val (.ref oa), .val (.ref ob), .val (.int (LI3 w0 w1 w2 w3)), .val (.int ((LS3 w0 w1 w2 w3) + w3)), .val (.int (4 : Int32)), .val (.ref b117), .val (.int (4 : Int32))] []))
                    refine ownEnds.law (fun t k => XS.aload X398.here hx rfl (hb hby d2_206) rfl rfl (XS.iload X398.here hx rfl (hb hby d2_208) rfl (XS.iinc X398.here hx rfl (hb hby d2_210) rfl (l' := #[.val (.ref oa), .val (.ref ob), .val (.int (LI3 w0 w1 w2 w3)), .val (.int ((LS3 w0 w1 w2 w3) + w3)), .val (.int (5 : Int32)), .val (.ref b117), .val (.int (4 : Int32))]) rfl (XS.aloadN X398.here hx rfl (hb hby d2_213) rfl rfl k)))) ?_
                    show ownEnds _ _ _ _ (T398.setTop (mkF m 214 #[.val (.ref oa), .val (.ref ob), .val (.int (LI3 w0 w1 w2 w3)), .val (.int ((LS3 w0 w1 w2 w3) + w3)), .val (.int (5 : Int32)), .val (.ref b117), .val (.int (4 : Int32))] [(.ref ob), (.int (4 : Int32)), (.ref b117)]))
                    obtain ⟨cl401, Ar401, -, S401, N401, -, -⟩ := id f400
                    refine ownEnds.law (X398.arraylength hx (by rw [e398]; exact Ar401.1) (State.isArrayOf_alike hZ.alike Ar401.2.1) (g := (mkF m 214 #[.val (.ref oa), .val (.ref ob), .val (.int (LI3 w0 w1 w2 w3)), .val (.int ((LS3 w0 w1 w2 w3) + w3)), .val (.int (5 : Int32)), .val (.ref b117), .val (.int (4 : Int32))] [(.ref ob), (.int (4 : Int32)), (.ref b117)])) rfl rfl (hb hby d2_214)) ?_
                    rw [len_of S401 N401]
                    show ownEnds _ _ _ _ (T398.setTop (mkF m 215 #[.val (.ref oa), .val (.ref ob), .val (.int (LI3 w0 w1 w2 w3)), .val (.int ((LS3 w0 w1 w2 w3) + w3)), .val (.int (5 : Int32)), .val (.ref b117), .val (.int (4 : Int32))] [(.int (4 : Int32)), (.int (4 : Int32)), (.ref b117)]))
                    obtain ⟨cl402, Ar402, q402, S402, N402, H402, G402⟩ := id V398
                    obtain ⟨T402, h402, X402, e402, W402, st402⟩ := stI X398 hx hZ e398 Ar402 (j := (4 : Int32)) (inb_of S402 ⟨by decide, by decide⟩) (g := (mkF m 215 #[.val (.ref oa), .val (.ref ob), .val (.int (LI3 w0 w1 w2 w3)), .val (.int ((LS3 w0 w1 w2 w3) + w3)), .val (.int (5 : Int32)), .val (.ref b117), .val (.int (4 : Int32))] [(.int (4 : Int32)), (.int (4 : Int32)), (.ref b117)])) rfl rfl (hb hby d2_215)
                    refine ownEnds.law st402 ?_
                    have V402 : Arv Z h402 b117 k117 .int (5 : Int32) [(.int (0 : Int32)), (.int (1 : Int32)), (.int (2 : Int32)), (.int (3 : Int32)), (.int (4 : Int32))] (.int (0 : Int32)) := Arv.set Ar402 q402 S402 N402 H402 G402 rfl W402 4 rfl (Nat.le_of_ble_eq_true rfl)
                    have N402 := Fr.snoc X402 N398 g_b117
                    have KK402 : Keep h0 h402 [oa] := (KK398).wr W402 (Or.inr sz_b117)
                    have Z402 : n0 ≤ h402.size := by rw [W402.size]; exact Z398
                    show ownEnds _ _ _ _ (T402.setTop (mkF m 216 #[.val (.ref oa), .val (.ref ob), .val (.int (LI3 w0 w1 w2 w3)), .val (.int ((LS3 w0 w1 w2 w3) + w3)), .val (.int (5 : Int32)), .val (.ref b117), .val (.int (4 : Int32))] []))
                    refine ownEnds.law (fun t k => XS.aloadN X402.here hx rfl (hb hby d2_216) rfl rfl (XS.aload X402.here hx rfl (hb hby d2_217) rfl rfl (XS.iload X402.here hx rfl (hb hby d2_219) rfl k))) ?_
                    show ownEnds _ _ _ _ (T402.setTop (mkF m 221 #[.val (.ref oa), .val (.ref ob), .val (.int (LI3 w0 w1 w2 w3)), .val (.int ((LS3 w0 w1 w2 w3) + w3)), .val (.int (5 : Int32)), .val (.ref b117), .val (.int (4 : Int32))] [(.int (5 : Int32)), (.ref b117), (.ref oa)]))
                    have f404 := (Exa.wr W402 (Exa.wr W398 (Exa.wr W362 (Exa.wr W286 (Exa.wr W126 Ax117)))))
                    obtain ⟨v403, T403, L403, X403, hQ403, st403⟩ := ownCallS X402 hx hZ hown (y := (⟨"java/util/Arrays", "copyOf", "([II)[I"⟩ : MethodName)) (as := [(.ref b117), (.int (5 : Int32))]) (wd_35 hw) (wd_36 hw) (wd_37 hw) (wd_38 hw) (by decide) (rm4_5 l Z a0 hw b117 k117 (.int (0 : Int32)) (.int (1 : Int32)) (.int (2 : Int32)) (.int (3 : Int32)) (.int (4 : Int32)) h402 n0 Z402 V402 f404) e402 1 (by decide) (by decide) (by decide) (by decide) (g := (mkF m 221 #[.val (.ref oa), .val (.ref ob), .val (.int (LI3 w0 w1 w2 w3)), .val (.int ((LS3 w0 w1 w2 w3) + w3)), .val (.int (5 : Int32)), .val (.ref b117), .val (.int (4 : Int32))] [(.int (5 : Int32)), (.ref b117), (.ref oa)])) rfl (by rw [hml]; rfl) (rest := [(.ref oa)]) pd_1 rfl rfl (by show 2 * 0 + _ ≤ _; exact Nat.le_of_eq rfl) (hb hby d2_221)
                    obtain ⟨b403, kb403, rfl, Nq403, Kq403, g_b403, zq403, Vq403⟩ := hQ403
                    have f405 := (Exa.wr W402 (Exa.wr W398 (Exa.wr W362 (Exa.wr W286 (Exa.wr W126 (Exa.ext E117 f118))))))
                    have ne_oa_b403 : oa ≠ b403 := Nat.ne_of_lt (Nat.lt_of_lt_of_le f405.lt zq403)
                    have f406 := (Exa.wr W402 (Exa.wr W398 (Exa.wr W362 (Exa.wr W286 (Exa.wr W126 (Exa.ext E117 f119))))))
                    have ne_ob_b403 : ob ≠ b403 := Nat.ne_of_lt (Nat.lt_of_lt_of_le f406.lt zq403)
                    have f407 := (Arv.other (Arv.other (Arv.other (Arv.other (Arv.other (Arv.ext f120 E117) W126 ne_b2_b117) W286 ne_b2_b117) W362 ne_b2_b117) W398 ne_b2_b117) W402 ne_b2_b117)
                    have ne_b2_b403 : b2 ≠ b403 := Nat.ne_of_lt (Nat.lt_of_lt_of_le f407.lt zq403)
                    have f408 := (Arv.other (Arv.other (Arv.other (Arv.other (Arv.other (Arv.ext f121 E117) W126 ne_b9_b117) W286 ne_b9_b117) W362 ne_b9_b117) W398 ne_b9_b117) W402 ne_b9_b117)
                    have ne_b9_b403 : b9 ≠ b403 := Nat.ne_of_lt (Nat.lt_of_lt_of_le f408.lt zq403)
                    have f409 := (Arv.other (Arv.other (Arv.other (Arv.other (Arv.other (Arv.ext f122 E117) W126 ne_b18_b117) W286 ne_b18_b117) W362 ne_b18_b117) W398 ne_b18_b117) W402 ne_b18_b117)
                    have ne_b18_b403 : b18 ≠ b403 := Nat.ne_of_lt (Nat.lt_of_lt_of_le f409.lt zq403)
                    have f410 := (Arv.other (Arv.other (Arv.other (Arv.other (Arv.other (Arv.ext f123 E117) W126 ne_b28_b117) W286 ne_b28_b117) W362 ne_b28_b117) W398 ne_b28_b117) W402 ne_b28_b117)
                    have ne_b28_b403 : b28 ≠ b403 := Nat.ne_of_lt (Nat.lt_of_lt_of_le f410.lt zq403)
                    have ne_b117_b403 : b117 ≠ b403 := Nat.ne_of_lt (Nat.lt_of_lt_of_le V402.lt zq403)
                    have sz_b403 : h0.size ≤ b403 := Nat.le_trans (KK402).1 zq403
                    have N403 := Fr.app N402 Nq403
                    have KK403 : Keep h0 T403.heap [oa] := Keep.trans (KK402) Kq403 all0
                    have Z403 : n0 ≤ T403.heap.size := Nat.le_trans Z402 Kq403.1
                    refine ownEnds.law st403 ?_
                    show ownEnds _ _ _ _ (T403.setTop (mkF m 224 #[.val (.ref oa), .val (.ref ob), .val (.int (LI3 w0 w1 w2 w3)), .val (.int ((LS3 w0 w1 w2 w3) + w3)), .val (.int (5 : Int32)), .val (.ref b117), .val (.int (4 : Int32))] [(.ref b403), (.ref oa)]))
                    have f411 := (Exa.keep f405 Kq403)
                    have f412 := (Fld.keep (Fld.other W402 (Fld.other W398 (Fld.other W362 (Fld.other W286 (Fld.other W126 (Fld.ext E117 (Fld.other W114 (Fld.other W106 (Fld.other W100 (Fld.other W96 (Fld.other W88 (Fld.other W82 (Fld.other W78 (Fld.other W70 (Fld.other W64 (Fld.other W60 (Fld.other W52 (Fld.other W46 (Fld.other W42 (Fld.other W36 (Fld.ext E28 (Fld.other W25 (Fld.ext E18 (Fld.other W15 (Fld.ext E9 (Fld.other W6 (Fld.ext E2 F_oa_runs) (Or.inr (slot_ne (Or.inr (wd_42 hw)) (Or.inr (wd_24 hw)) (by decide) (t := (.array .int)) (t' := (.array .int)) (by decide) (by decide))))) (Or.inr (slot_ne (Or.inr (wd_42 hw)) (Or.inr (wd_26 hw)) (by decide) (t := (.array .int)) (t' := (.array .int)) (by decide) (by decide))))) (Or.inr (slot_ne (Or.inr (wd_42 hw)) (Or.inr (wd_28 hw)) (by decide) (t := (.array .int)) (t' := (.array .int)) (by decide) (by decide))))) (Or.inr (slot_ne (Or.inr (wd_42 hw)) (Or.inr (wd_31 hw)) (by decide) (t := (.array .int)) (t' := (.array .long)) (by decide) (by decide)))) (Or.inl ne_oa_b9)) (Or.inl ne_oa_b18)) (Or.inl ne_oa_b28)) (Or.inl ne_oa_b9)) (Or.inl ne_oa_b18)) (Or.inl ne_oa_b28)) (Or.inl ne_oa_b9)) (Or.inl ne_oa_b18)) (Or.inl ne_oa_b28)) (Or.inl ne_oa_b9)) (Or.inl ne_oa_b18)) (Or.inl ne_oa_b28)) (Or.inr (slot_ne (Or.inr (wd_42 hw)) (Or.inr (wd_34 hw)) (by decide) (t := (.array .int)) (t' := .int) (by decide) (by decide))))) (Or.inl ne_oa_b117)) (Or.inl ne_oa_b117)) (Or.inl ne_oa_b117)) (Or.inl ne_oa_b117)) (Or.inl ne_oa_b117)) Kq403 nin0)
                    obtain ⟨T413, h413, X413, e413, W413, st413⟩ := putF X403 hx hZ hown (host := "") (Or.inl (wd_41 hw)) Via.refl rfl f412 f411 (Or.inr ⟨(wd_42 hw), rfl, hnm⟩) (wd_5 hw) (ty := (.array .int)) (by decide) rfl rfl (g := (mkF m 224 #[.val (.ref oa), .val (.ref ob), .val (.int (LI3 w0 w1 w2 w3)), .val (.int ((LS3 w0 w1 w2 w3) + w3)), .val (.int (5 : Int32)), .val (.ref b117), .val (.int (4 : Int32))] [(.ref b403), (.ref oa)])) rfl rfl (hb hby d2_224)
                    refine ownEnds.law st413 ?_
                    have N413 := Fr.snoc X413 N403 g_oa
                    have KK413 : Keep h0 h413 [oa] := (KK403).wr W413 (Or.inl (List.mem_of_getElem? (i := 0) rfl))
                    have Z413 : n0 ≤ h413.size := by rw [W413.size]; exact Z403
                    have Fw413 : Fld Z h413 oa "com/example/libreach/libreach/engine/StateLayout" "runs" "[I" (.ref b403) := Fld.same W413 f412
                    show ownEnds _ _ _ _ (T413.setTop (mkF m 227 #[.val (.ref oa), .val (.ref ob), .val (.int (LI3 w0 w1 w2 w3)), .val (.int ((LS3 w0 w1 w2 w3) + w3)), .val (.int (5 : Int32)), .val (.ref b117), .val (.int (4 : Int32))] []))
                    refine ownRetV X413 hlk hx hret (hb hby d2_227) (by decide) (by decide) ?_
                    have f414 := (Exa.wr W413 f411)
                    have f415 := (Fld.other W413 (Fld.keep (Fld.other W402 (Fld.other W398 (Fld.other W362 (Fld.other W286 (Fld.other W126 (Fld.ext E117 (Fld.other W114 (Fld.other W106 (Fld.other W100 (Fld.other W96 (Fld.other W88 (Fld.other W82 (Fld.other W78 (Fld.other W70 (Fld.other W64 (Fld.other W60 (Fld.other W52 (Fld.other W46 (Fld.other W42 (Fld.other W36 (Fld.ext E28 (Fld.other W25 (Fld.ext E18 (Fld.other W15 (Fld.ext E9 Fw6) (Or.inr (slot_ne (Or.inr (wd_24 hw)) (Or.inr (wd_26 hw)) (by decide) (t := (.array .int)) (t' := (.array .int)) (by decide) (by decide))))) (Or.inr (slot_ne (Or.inr (wd_24 hw)) (Or.inr (wd_28 hw)) (by decide) (t := (.array .int)) (t' := (.array .int)) (by decide) (by decide))))) (Or.inr (slot_ne (Or.inr (wd_24 hw)) (Or.inr (wd_31 hw)) (by decide) (t := (.array .int)) (t' := (.array .long)) (by decide) (by decide)))) (Or.inl ne_oa_b9)) (Or.inl ne_oa_b18)) (Or.inl ne_oa_b28)) (Or.inl ne_oa_b9)) (Or.inl ne_oa_b18)) (Or.inl ne_oa_b28)) (Or.inl ne_oa_b9)) (Or.inl ne_oa_b18)) (Or.inl ne_oa_b28)) (Or.inl ne_oa_b9)) (Or.inl ne_oa_b18)) (Or.inl ne_oa_b28)) (Or.inr (slot_ne (Or.inr (wd_24 hw)) (Or.inr (wd_34 hw)) (by decide) (t := (.array .int)) (t' := .int) (by decide) (by decide))))) (Or.inl ne_oa_b117)) (Or.inl ne_oa_b117)) (Or.inl ne_oa_b117)) (Or.inl ne_oa_b117)) (Or.inl ne_oa_b117)) Kq403 nin0) (Or.inr (slot_ne (Or.inr (wd_24 hw)) (Or.inr (wd_42 hw)) (by decide) (t := (.array .int)) (t' := (.array .int)) (by decide) (by decide))))
                    have f416 := (Arv.other (Arv.keep f407 Kq403 nin0) W413 (Ne.symm ne_oa_b2))
                    have f417 := (Fld.other W413 (Fld.keep (Fld.other W402 (Fld.other W398 (Fld.other W362 (Fld.other W286 (Fld.other W126 (Fld.ext E117 (Fld.other W114 (Fld.other W106 (Fld.other W100 (Fld.other W96 f94 (Or.inl ne_oa_b9)) (Or.inl ne_oa_b18)) (Or.inl ne_oa_b28)) (Or.inr (slot_ne (Or.inr (wd_26 hw)) (Or.inr (wd_34 hw)) (by decide) (t := (.array .int)) (t' := .int) (by decide) (by decide))))) (Or.inl ne_oa_b117)) (Or.inl ne_oa_b117)) (Or.inl ne_oa_b117)) (Or.inl ne_oa_b117)) (Or.inl ne_oa_b117)) Kq403 nin0) (Or.inr (slot_ne (Or.inr (wd_26 hw)) (Or.inr (wd_42 hw)) (by decide) (t := (.array .int)) (t' := (.array .int)) (by decide) (by decide))))
                    have f418 := (Arv.other (Arv.keep f408 Kq403 nin0) W413 (Ne.symm ne_oa_b9))
                    have f419 := (Fld.other W413 (Fld.keep (Fld.other W402 (Fld.other W398 (Fld.other W362 (Fld.other W286 (Fld.other W126 (Fld.ext E117 (Fld.other W114 (Fld.other W106 (Fld.other W100 f98 (Or.inl ne_oa_b18)) (Or.inl ne_oa_b28)) (Or.inr (slot_ne (Or.inr (wd_28 hw)) (Or.inr (wd_34 hw)) (by decide) (t := (.array .int)) (t' := .int) (by decide) (by decide))))) (Or.inl ne_oa_b117)) (Or.inl ne_oa_b117)) (Or.inl ne_oa_b117)) (Or.inl ne_oa_b117)) (Or.inl ne_oa_b117)) Kq403 nin0) (Or.inr (slot_ne (Or.inr (wd_28 hw)) (Or.inr (wd_42 hw)) (by decide) (t := (.array .int)) (t' := (.array .int)) (by decide) (by decide))))
                    have f420 := (Arv.other (Arv.keep f409 Kq403 nin0) W413 (Ne.symm ne_oa_b18))
                    have f421 := (Fld.other W413 (Fld.keep (Fld.other W402 (Fld.other W398 (Fld.other W362 (Fld.other W286 (Fld.other W126 (Fld.ext E117 (Fld.other W114 (Fld.other W106 f102 (Or.inl ne_oa_b28)) (Or.inr (slot_ne (Or.inr (wd_31 hw)) (Or.inr (wd_34 hw)) (by decide) (t := (.array .long)) (t' := .int) (by decide) (by decide))))) (Or.inl ne_oa_b117)) (Or.inl ne_oa_b117)) (Or.inl ne_oa_b117)) (Or.inl ne_oa_b117)) (Or.inl ne_oa_b117)) Kq403 nin0) (Or.inr (slot_ne (Or.inr (wd_31 hw)) (Or.inr (wd_42 hw)) (by decide) (t := (.array .long)) (t' := (.array .int)) (by decide) (by decide))))
                    have f422 := (Arv.other (Arv.keep f410 Kq403 nin0) W413 (Ne.symm ne_oa_b28))
                    have f423 := (Arv.other Vq403 W413 (Ne.symm ne_oa_b403))
                    rw [e413]
                    have hok : RunOK w0 w1 w2 w3 [(.int (0 : Int32)), (.int (1 : Int32)), (.int (2 : Int32)), (.int (3 : Int32)), (.int (4 : Int32))] (5 : Int32) := own_run000 hN1 hN2 hN3
                    exact ⟨rfl, N413, KK413, b2, b9, b18, b28, b403, k_ob, k9, k18, k28, kb403, [(.int (0 : Int32)), (.int (1 : Int32)), (.int (2 : Int32)), (.int (3 : Int32)), (.int (4 : Int32))], (5 : Int32), f414, f415, f416, f417, f418, f419, f420, f421, f422, Fw413, f423, hok⟩
                  show ownEnds _ _ _ _ (T362.setTop (mkF m 158 #[.val (.ref oa), .val (.ref ob), .val (.int (LI3 w0 w1 w2 w3)), .val (.int ((LS3 w0 w1 w2 w3) + w3)), .val (.int (3 : Int32)), .val (.ref b117), .val (.int (3 : Int32))] []))
                  refine ownEnds.law (fun t k => XS.aloadN X362.here hx rfl (hb hby d2_158) rfl rfl k) ?_
                  show ownEnds _ _ _ _ (T362.setTop (mkF m 159 #[.val (.ref oa), .val (.ref ob), .val (.int (LI3 w0 w1 w2 w3)), .val (.int ((LS3 w0 w1 w2 w3) + w3)), .val (.int (3 : Int32)), .val (.ref b117), .val (.int (3 : Int32))] [(.ref oa)]))
                  have f424 := (Fld.other W362 (Fld.other W286 (Fld.other W126 (Fld.ext E117 (Fld.other W114 (Fld.other W106 (Fld.other W100 (Fld.other W96 f94 (Or.inl ne_oa_b9)) (Or.inl ne_oa_b18)) (Or.inl ne_oa_b28)) (Or.inr (slot_ne (Or.inr (wd_26 hw)) (Or.inr (wd_34 hw)) (by decide) (t := (.array .int)) (t' := .int) (by decide) (by decide))))) (Or.inl ne_oa_b117)) (Or.inl ne_oa_b117)) (Or.inl ne_oa_b117))
                  obtain ⟨T425, X425, e425, st425⟩ := getF X362 hx hZ hown (host := "") (Or.inl (wd_25 hw)) Via.refl e362 f424 (g := (mkF m 159 #[.val (.ref oa), .val (.ref ob), .val (.int (LI3 w0 w1 w2 w3)), .val (.int ((LS3 w0 w1 w2 w3) + w3)), .val (.int (3 : Int32)), .val (.ref b117), .val (.int (3 : Int32))] [(.ref oa)])) rfl rfl (hb hby d2_159)
                  refine ownEnds.law st425 ?_
                  show ownEnds _ _ _ _ (T425.setTop (mkF m 162 #[.val (.ref oa), .val (.ref ob), .val (.int (LI3 w0 w1 w2 w3)), .val (.int ((LS3 w0 w1 w2 w3) + w3)), .val (.int (3 : Int32)), .val (.ref b117), .val (.int (3 : Int32))] [(.ref b9)]))
                  refine ownEnds.law (fun t k => XS.iload X425.here hx rfl (hb hby d2_162) rfl k) ?_
                  show ownEnds _ _ _ _ (T425.setTop (mkF m 164 #[.val (.ref oa), .val (.ref ob), .val (.int (LI3 w0 w1 w2 w3)), .val (.int ((LS3 w0 w1 w2 w3) + w3)), .val (.int (3 : Int32)), .val (.ref b117), .val (.int (3 : Int32))] [(.int (3 : Int32)), (.ref b9)]))
                  have f427 := (Arv.other (Arv.other (Arv.other (Arv.ext f121 E117) W126 ne_b9_b117) W286 ne_b9_b117) W362 ne_b9_b117)
                  obtain ⟨cl426, Ar426, q426, S426, N426, H426, G426⟩ := id f427
                  have hi426 := inb_of (j := (3 : Int32)) S426 ⟨by decide, by decide⟩
                  have hv426 : cl426.slots[((3 : Int32)).toNatClampNeg]? = some (.int (LI3 w0 w1 w2 w3)) := H426.at hi426 rfl
                  refine ownEnds.law (fun t k => X425.iaload hx (j := (3 : Int32)) (v := (.int (LI3 w0 w1 w2 w3))) (by rw [e425]; exact Ar426.1) (State.isArrayOf_alike hZ.alike Ar426.2.1) Ar426.2.2 hi426 hv426 (g := (mkF m 164 #[.val (.ref oa), .val (.ref ob), .val (.int (LI3 w0 w1 w2 w3)), .val (.int ((LS3 w0 w1 w2 w3) + w3)), .val (.int (3 : Int32)), .val (.ref b117), .val (.int (3 : Int32))] [(.int (3 : Int32)), (.ref b9)])) rfl rfl (hb hby d2_164) _ (XS.aloadN X425.here hx rfl (hb hby d2_165) rfl rfl k)) ?_
                  show ownEnds _ _ _ _ (T425.setTop (mkF m 166 #[.val (.ref oa), .val (.ref ob), .val (.int (LI3 w0 w1 w2 w3)), .val (.int ((LS3 w0 w1 w2 w3) + w3)), .val (.int (3 : Int32)), .val (.ref b117), .val (.int (3 : Int32))] [(.ref oa), (.int (LI3 w0 w1 w2 w3))]))
                  obtain ⟨T428, X428, e428, st428⟩ := getF X425 hx hZ hown (host := "") (Or.inl (wd_25 hw)) Via.refl e425 f424 (g := (mkF m 166 #[.val (.ref oa), .val (.ref ob), .val (.int (LI3 w0 w1 w2 w3)), .val (.int ((LS3 w0 w1 w2 w3) + w3)), .val (.int (3 : Int32)), .val (.ref b117), .val (.int (3 : Int32))] [(.ref oa), (.int (LI3 w0 w1 w2 w3))])) rfl rfl (hb hby d2_166)
                  refine ownEnds.law st428 ?_
                  show ownEnds _ _ _ _ (T428.setTop (mkF m 169 #[.val (.ref oa), .val (.ref ob), .val (.int (LI3 w0 w1 w2 w3)), .val (.int ((LS3 w0 w1 w2 w3) + w3)), .val (.int (3 : Int32)), .val (.ref b117), .val (.int (3 : Int32))] [(.ref b9), (.int (LI3 w0 w1 w2 w3))]))
                  refine ownEnds.law (fun t k => XS.iload X428.here hx rfl (hb hby d2_169) rfl (XS.iconst X428.here hx rfl (hb hby d2_171) (XS.isub X428.here hx rfl (hb hby d2_172) rfl k))) ?_
                  show ownEnds _ _ _ _ (T428.setTop (mkF m 173 #[.val (.ref oa), .val (.ref ob), .val (.int (LI3 w0 w1 w2 w3)), .val (.int ((LS3 w0 w1 w2 w3) + w3)), .val (.int (3 : Int32)), .val (.ref b117), .val (.int (3 : Int32))] [(.int (2 : Int32)), (.ref b9), (.int (LI3 w0 w1 w2 w3))]))
                  obtain ⟨cl429, Ar429, q429, S429, N429, H429, G429⟩ := id f427
                  have hi429 := inb_of (j := (2 : Int32)) S429 ⟨by decide, by decide⟩
                  have hv429 : cl429.slots[((2 : Int32)).toNatClampNeg]? = some (.int (LI2 w0 w1 w2)) := H429.at hi429 rfl
                  refine ownEnds.law (fun t k => X428.iaload hx (j := (2 : Int32)) (v := (.int (LI2 w0 w1 w2))) (by rw [e428]; exact Ar429.1) (State.isArrayOf_alike hZ.alike Ar429.2.1) Ar429.2.2 hi429 hv429 (g := (mkF m 173 #[.val (.ref oa), .val (.ref ob), .val (.int (LI3 w0 w1 w2 w3)), .val (.int ((LS3 w0 w1 w2 w3) + w3)), .val (.int (3 : Int32)), .val (.ref b117), .val (.int (3 : Int32))] [(.int (2 : Int32)), (.ref b9), (.int (LI3 w0 w1 w2 w3))])) rfl rfl (hb hby d2_173) _ k) ?_
                  show ownEnds _ _ _ _ (T428.setTop (mkF m 174 #[.val (.ref oa), .val (.ref ob), .val (.int (LI3 w0 w1 w2 w3)), .val (.int ((LS3 w0 w1 w2 w3) + w3)), .val (.int (3 : Int32)), .val (.ref b117), .val (.int (3 : Int32))] [(.int (LI2 w0 w1 w2)), (.int (LI3 w0 w1 w2 w3))]))
                  by_cases hc174 : (LI3 w0 w1 w2 w3) = (LI2 w0 w1 w2)
                  · refine ownEnds.law (fun t => XS.icmpNo X428.here hx rfl (hb hby d2_174) rfl (teq hc174).2) ?_
                    show ownEnds _ _ _ _ (T428.setTop (mkF m 177 #[.val (.ref oa), .val (.ref ob), .val (.int (LI3 w0 w1 w2 w3)), .val (.int ((LS3 w0 w1 w2 w3) + w3)), .val (.int (3 : Int32)), .val (.ref b117), .val (.int (3 : Int32))] []))
                    refine ownEnds.law (fun t k => XS.aloadN X428.here hx rfl (hb hby d2_177) rfl rfl (XS.iload X428.here hx rfl (hb hby d2_178) rfl k)) ?_
                    show ownEnds _ _ _ _ (T428.setTop (mkF m 180 #[.val (.ref oa), .val (.ref ob), .val (.int (LI3 w0 w1 w2 w3)), .val (.int ((LS3 w0 w1 w2 w3) + w3)), .val (.int (3 : Int32)), .val (.ref b117), .val (.int (3 : Int32))] [(.int (3 : Int32)), (.ref ob)]))
                    obtain ⟨cl430, Ar430, q430, S430, N430, H430, G430⟩ := id f364
                    have hi430 := inb_of (j := (3 : Int32)) S430 ⟨by decide, by decide⟩
                    have hv430 : cl430.slots[((3 : Int32)).toNatClampNeg]? = some (.int w3) := H430.at hi430 rfl
                    refine ownEnds.law (fun t k => X428.iaload hx (j := (3 : Int32)) (v := (.int w3)) (by rw [e428]; exact Ar430.1) (State.isArrayOf_alike hZ.alike Ar430.2.1) Ar430.2.2 hi430 hv430 (g := (mkF m 180 #[.val (.ref oa), .val (.ref ob), .val (.int (LI3 w0 w1 w2 w3)), .val (.int ((LS3 w0 w1 w2 w3) + w3)), .val (.int (3 : Int32)), .val (.ref b117), .val (.int (3 : Int32))] [(.int (3 : Int32)), (.ref ob)])) rfl rfl (hb hby d2_180) _ (XS.aloadN X428.here hx rfl (hb hby d2_181) rfl rfl (XS.iload X428.here hx rfl (hb hby d2_182) rfl (XS.iconst X428.here hx rfl (hb hby d2_184) (XS.isub X428.here hx rfl (hb hby d2_185) rfl k))))) ?_
                    show ownEnds _ _ _ _ (T428.setTop (mkF m 186 #[.val (.ref oa), .val (.ref ob), .val (.int (LI3 w0 w1 w2 w3)), .val (.int ((LS3 w0 w1 w2 w3) + w3)), .val (.int (3 : Int32)), .val (.ref b117), .val (.int (3 : Int32))] [(.int (2 : Int32)), (.ref ob), (.int w3)]))
                    obtain ⟨cl431, Ar431, q431, S431, N431, H431, G431⟩ := id f364
                    have hi431 := inb_of (j := (2 : Int32)) S431 ⟨by decide, by decide⟩
                    have hv431 : cl431.slots[((2 : Int32)).toNatClampNeg]? = some (.int w2) := H431.at hi431 rfl
                    refine ownEnds.law (fun t k => X428.iaload hx (j := (2 : Int32)) (v := (.int w2)) (by rw [e428]; exact Ar431.1) (State.isArrayOf_alike hZ.alike Ar431.2.1) Ar431.2.2 hi431 hv431 (g := (mkF m 186 #[.val (.ref oa), .val (.ref ob), .val (.int (LI3 w0 w1 w2 w3)), .val (.int ((LS3 w0 w1 w2 w3) + w3)), .val (.int (3 : Int32)), .val (.ref b117), .val (.int (3 : Int32))] [(.int (2 : Int32)), (.ref ob), (.int w3)])) rfl rfl (hb hby d2_186) _ k) ?_
                    show ownEnds _ _ _ _ (T428.setTop (mkF m 187 #[.val (.ref oa), .val (.ref ob), .val (.int (LI3 w0 w1 w2 w3)), .val (.int ((LS3 w0 w1 w2 w3) + w3)), .val (.int (3 : Int32)), .val (.ref b117), .val (.int (3 : Int32))] [(.int w2), (.int w3)]))
                    have hc187 : ¬ (w3 = w2) := fun q => hN3 ⟨hc174, q⟩
                    refine ownEnds.law (fun t => XS.icmpNo X428.here hx rfl (hb hby d2_187) rfl (feq hc187).1) ?_
                    exact J190_3 _ _ X428 N362 e428
                  · refine ownEnds.law (fun t => XS.icmpYes X428.here hx rfl (pc0 := 174) (pc' := 190) rfl (hb hby d2_174) rfl (feq hc174).2 (by decide) (by decide)) ?_
                    exact J190_3 _ _ X428 N362 e428
              show ownEnds _ _ _ _ (T286.setTop (mkF m 158 #[.val (.ref oa), .val (.ref ob), .val (.int (LI3 w0 w1 w2 w3)), .val (.int ((LS3 w0 w1 w2 w3) + w3)), .val (.int (2 : Int32)), .val (.ref b117), .val (.int (2 : Int32))] []))
              refine ownEnds.law (fun t k => XS.aloadN X286.here hx rfl (hb hby d2_158) rfl rfl k) ?_
              show ownEnds _ _ _ _ (T286.setTop (mkF m 159 #[.val (.ref oa), .val (.ref ob), .val (.int (LI3 w0 w1 w2 w3)), .val (.int ((LS3 w0 w1 w2 w3) + w3)), .val (.int (2 : Int32)), .val (.ref b117), .val (.int (2 : Int32))] [(.ref oa)]))
              have f432 := (Fld.other W286 (Fld.other W126 (Fld.ext E117 (Fld.other W114 (Fld.other W106 (Fld.other W100 (Fld.other W96 f94 (Or.inl ne_oa_b9)) (Or.inl ne_oa_b18)) (Or.inl ne_oa_b28)) (Or.inr (slot_ne (Or.inr (wd_26 hw)) (Or.inr (wd_34 hw)) (by decide) (t := (.array .int)) (t' := .int) (by decide) (by decide))))) (Or.inl ne_oa_b117)) (Or.inl ne_oa_b117))
              obtain ⟨T433, X433, e433, st433⟩ := getF X286 hx hZ hown (host := "") (Or.inl (wd_25 hw)) Via.refl e286 f432 (g := (mkF m 159 #[.val (.ref oa), .val (.ref ob), .val (.int (LI3 w0 w1 w2 w3)), .val (.int ((LS3 w0 w1 w2 w3) + w3)), .val (.int (2 : Int32)), .val (.ref b117), .val (.int (2 : Int32))] [(.ref oa)])) rfl rfl (hb hby d2_159)
              refine ownEnds.law st433 ?_
              show ownEnds _ _ _ _ (T433.setTop (mkF m 162 #[.val (.ref oa), .val (.ref ob), .val (.int (LI3 w0 w1 w2 w3)), .val (.int ((LS3 w0 w1 w2 w3) + w3)), .val (.int (2 : Int32)), .val (.ref b117), .val (.int (2 : Int32))] [(.ref b9)]))
              refine ownEnds.law (fun t k => XS.iload X433.here hx rfl (hb hby d2_162) rfl k) ?_
              show ownEnds _ _ _ _ (T433.setTop (mkF m 164 #[.val (.ref oa), .val (.ref ob), .val (.int (LI3 w0 w1 w2 w3)), .val (.int ((LS3 w0 w1 w2 w3) + w3)), .val (.int (2 : Int32)), .val (.ref b117), .val (.int (2 : Int32))] [(.int (2 : Int32)), (.ref b9)]))
              have f435 := (Arv.other (Arv.other (Arv.ext f121 E117) W126 ne_b9_b117) W286 ne_b9_b117)
              obtain ⟨cl434, Ar434, q434, S434, N434, H434, G434⟩ := id f435
              have hi434 := inb_of (j := (2 : Int32)) S434 ⟨by decide, by decide⟩
              have hv434 : cl434.slots[((2 : Int32)).toNatClampNeg]? = some (.int (LI2 w0 w1 w2)) := H434.at hi434 rfl
              refine ownEnds.law (fun t k => X433.iaload hx (j := (2 : Int32)) (v := (.int (LI2 w0 w1 w2))) (by rw [e433]; exact Ar434.1) (State.isArrayOf_alike hZ.alike Ar434.2.1) Ar434.2.2 hi434 hv434 (g := (mkF m 164 #[.val (.ref oa), .val (.ref ob), .val (.int (LI3 w0 w1 w2 w3)), .val (.int ((LS3 w0 w1 w2 w3) + w3)), .val (.int (2 : Int32)), .val (.ref b117), .val (.int (2 : Int32))] [(.int (2 : Int32)), (.ref b9)])) rfl rfl (hb hby d2_164) _ (XS.aloadN X433.here hx rfl (hb hby d2_165) rfl rfl k)) ?_
              show ownEnds _ _ _ _ (T433.setTop (mkF m 166 #[.val (.ref oa), .val (.ref ob), .val (.int (LI3 w0 w1 w2 w3)), .val (.int ((LS3 w0 w1 w2 w3) + w3)), .val (.int (2 : Int32)), .val (.ref b117), .val (.int (2 : Int32))] [(.ref oa), (.int (LI2 w0 w1 w2))]))
              obtain ⟨T436, X436, e436, st436⟩ := getF X433 hx hZ hown (host := "") (Or.inl (wd_25 hw)) Via.refl e433 f432 (g := (mkF m 166 #[.val (.ref oa), .val (.ref ob), .val (.int (LI3 w0 w1 w2 w3)), .val (.int ((LS3 w0 w1 w2 w3) + w3)), .val (.int (2 : Int32)), .val (.ref b117), .val (.int (2 : Int32))] [(.ref oa), (.int (LI2 w0 w1 w2))])) rfl rfl (hb hby d2_166)
              refine ownEnds.law st436 ?_
              show ownEnds _ _ _ _ (T436.setTop (mkF m 169 #[.val (.ref oa), .val (.ref ob), .val (.int (LI3 w0 w1 w2 w3)), .val (.int ((LS3 w0 w1 w2 w3) + w3)), .val (.int (2 : Int32)), .val (.ref b117), .val (.int (2 : Int32))] [(.ref b9), (.int (LI2 w0 w1 w2))]))
              refine ownEnds.law (fun t k => XS.iload X436.here hx rfl (hb hby d2_169) rfl (XS.iconst X436.here hx rfl (hb hby d2_171) (XS.isub X436.here hx rfl (hb hby d2_172) rfl k))) ?_
              show ownEnds _ _ _ _ (T436.setTop (mkF m 173 #[.val (.ref oa), .val (.ref ob), .val (.int (LI3 w0 w1 w2 w3)), .val (.int ((LS3 w0 w1 w2 w3) + w3)), .val (.int (2 : Int32)), .val (.ref b117), .val (.int (2 : Int32))] [(.int (1 : Int32)), (.ref b9), (.int (LI2 w0 w1 w2))]))
              obtain ⟨cl437, Ar437, q437, S437, N437, H437, G437⟩ := id f435
              have hi437 := inb_of (j := (1 : Int32)) S437 ⟨by decide, by decide⟩
              have hv437 : cl437.slots[((1 : Int32)).toNatClampNeg]? = some (.int (LI1 w0 w1)) := H437.at hi437 rfl
              refine ownEnds.law (fun t k => X436.iaload hx (j := (1 : Int32)) (v := (.int (LI1 w0 w1))) (by rw [e436]; exact Ar437.1) (State.isArrayOf_alike hZ.alike Ar437.2.1) Ar437.2.2 hi437 hv437 (g := (mkF m 173 #[.val (.ref oa), .val (.ref ob), .val (.int (LI3 w0 w1 w2 w3)), .val (.int ((LS3 w0 w1 w2 w3) + w3)), .val (.int (2 : Int32)), .val (.ref b117), .val (.int (2 : Int32))] [(.int (1 : Int32)), (.ref b9), (.int (LI2 w0 w1 w2))])) rfl rfl (hb hby d2_173) _ k) ?_
              show ownEnds _ _ _ _ (T436.setTop (mkF m 174 #[.val (.ref oa), .val (.ref ob), .val (.int (LI3 w0 w1 w2 w3)), .val (.int ((LS3 w0 w1 w2 w3) + w3)), .val (.int (2 : Int32)), .val (.ref b117), .val (.int (2 : Int32))] [(.int (LI1 w0 w1)), (.int (LI2 w0 w1 w2))]))
              by_cases hc174 : (LI2 w0 w1 w2) = (LI1 w0 w1)
              · refine ownEnds.law (fun t => XS.icmpNo X436.here hx rfl (hb hby d2_174) rfl (teq hc174).2) ?_
                show ownEnds _ _ _ _ (T436.setTop (mkF m 177 #[.val (.ref oa), .val (.ref ob), .val (.int (LI3 w0 w1 w2 w3)), .val (.int ((LS3 w0 w1 w2 w3) + w3)), .val (.int (2 : Int32)), .val (.ref b117), .val (.int (2 : Int32))] []))
                refine ownEnds.law (fun t k => XS.aloadN X436.here hx rfl (hb hby d2_177) rfl rfl (XS.iload X436.here hx rfl (hb hby d2_178) rfl k)) ?_
                show ownEnds _ _ _ _ (T436.setTop (mkF m 180 #[.val (.ref oa), .val (.ref ob), .val (.int (LI3 w0 w1 w2 w3)), .val (.int ((LS3 w0 w1 w2 w3) + w3)), .val (.int (2 : Int32)), .val (.ref b117), .val (.int (2 : Int32))] [(.int (2 : Int32)), (.ref ob)]))
                obtain ⟨cl438, Ar438, q438, S438, N438, H438, G438⟩ := id f288
                have hi438 := inb_of (j := (2 : Int32)) S438 ⟨by decide, by decide⟩
                have hv438 : cl438.slots[((2 : Int32)).toNatClampNeg]? = some (.int w2) := H438.at hi438 rfl
                refine ownEnds.law (fun t k => X436.iaload hx (j := (2 : Int32)) (v := (.int w2)) (by rw [e436]; exact Ar438.1) (State.isArrayOf_alike hZ.alike Ar438.2.1) Ar438.2.2 hi438 hv438 (g := (mkF m 180 #[.val (.ref oa), .val (.ref ob), .val (.int (LI3 w0 w1 w2 w3)), .val (.int ((LS3 w0 w1 w2 w3) + w3)), .val (.int (2 : Int32)), .val (.ref b117), .val (.int (2 : Int32))] [(.int (2 : Int32)), (.ref ob)])) rfl rfl (hb hby d2_180) _ (XS.aloadN X436.here hx rfl (hb hby d2_181) rfl rfl (XS.iload X436.here hx rfl (hb hby d2_182) rfl (XS.iconst X436.here hx rfl (hb hby d2_184) (XS.isub X436.here hx rfl (hb hby d2_185) rfl k))))) ?_
                show ownEnds _ _ _ _ (T436.setTop (mkF m 186 #[.val (.ref oa), .val (.ref ob), .val (.int (LI3 w0 w1 w2 w3)), .val (.int ((LS3 w0 w1 w2 w3) + w3)), .val (.int (2 : Int32)), .val (.ref b117), .val (.int (2 : Int32))] [(.int (1 : Int32)), (.ref ob), (.int w2)]))
                obtain ⟨cl439, Ar439, q439, S439, N439, H439, G439⟩ := id f288
                have hi439 := inb_of (j := (1 : Int32)) S439 ⟨by decide, by decide⟩
                have hv439 : cl439.slots[((1 : Int32)).toNatClampNeg]? = some (.int w1) := H439.at hi439 rfl
                refine ownEnds.law (fun t k => X436.iaload hx (j := (1 : Int32)) (v := (.int w1)) (by rw [e436]; exact Ar439.1) (State.isArrayOf_alike hZ.alike Ar439.2.1) Ar439.2.2 hi439 hv439 (g := (mkF m 186 #[.val (.ref oa), .val (.ref ob), .val (.int (LI3 w0 w1 w2 w3)), .val (.int ((LS3 w0 w1 w2 w3) + w3)), .val (.int (2 : Int32)), .val (.ref b117), .val (.int (2 : Int32))] [(.int (1 : Int32)), (.ref ob), (.int w2)])) rfl rfl (hb hby d2_186) _ k) ?_
                show ownEnds _ _ _ _ (T436.setTop (mkF m 187 #[.val (.ref oa), .val (.ref ob), .val (.int (LI3 w0 w1 w2 w3)), .val (.int ((LS3 w0 w1 w2 w3) + w3)), .val (.int (2 : Int32)), .val (.ref b117), .val (.int (2 : Int32))] [(.int w1), (.int w2)]))
                have hc187 : ¬ (w2 = w1) := fun q => hN2 ⟨hc174, q⟩
                refine ownEnds.law (fun t => XS.icmpNo X436.here hx rfl (hb hby d2_187) rfl (feq hc187).1) ?_
                exact J190_2 _ _ X436 N286 e436
              · refine ownEnds.law (fun t => XS.icmpYes X436.here hx rfl (pc0 := 174) (pc' := 190) rfl (hb hby d2_174) rfl (feq hc174).2 (by decide) (by decide)) ?_
                exact J190_2 _ _ X436 N286 e436
          show ownEnds _ _ _ _ (T126.setTop (mkF m 158 #[.val (.ref oa), .val (.ref ob), .val (.int (LI3 w0 w1 w2 w3)), .val (.int ((LS3 w0 w1 w2 w3) + w3)), .val (.int (1 : Int32)), .val (.ref b117), .val (.int (1 : Int32))] []))
          refine ownEnds.law (fun t k => XS.aloadN X126.here hx rfl (hb hby d2_158) rfl rfl k) ?_
          show ownEnds _ _ _ _ (T126.setTop (mkF m 159 #[.val (.ref oa), .val (.ref ob), .val (.int (LI3 w0 w1 w2 w3)), .val (.int ((LS3 w0 w1 w2 w3) + w3)), .val (.int (1 : Int32)), .val (.ref b117), .val (.int (1 : Int32))] [(.ref oa)]))
          have f440 := (Fld.other W126 (Fld.ext E117 (Fld.other W114 (Fld.other W106 (Fld.other W100 (Fld.other W96 f94 (Or.inl ne_oa_b9)) (Or.inl ne_oa_b18)) (Or.inl ne_oa_b28)) (Or.inr (slot_ne (Or.inr (wd_26 hw)) (Or.inr (wd_34 hw)) (by decide) (t := (.array .int)) (t' := .int) (by decide) (by decide))))) (Or.inl ne_oa_b117))
          obtain ⟨T441, X441, e441, st441⟩ := getF X126 hx hZ hown (host := "") (Or.inl (wd_25 hw)) Via.refl e126 f440 (g := (mkF m 159 #[.val (.ref oa), .val (.ref ob), .val (.int (LI3 w0 w1 w2 w3)), .val (.int ((LS3 w0 w1 w2 w3) + w3)), .val (.int (1 : Int32)), .val (.ref b117), .val (.int (1 : Int32))] [(.ref oa)])) rfl rfl (hb hby d2_159)
          refine ownEnds.law st441 ?_
          show ownEnds _ _ _ _ (T441.setTop (mkF m 162 #[.val (.ref oa), .val (.ref ob), .val (.int (LI3 w0 w1 w2 w3)), .val (.int ((LS3 w0 w1 w2 w3) + w3)), .val (.int (1 : Int32)), .val (.ref b117), .val (.int (1 : Int32))] [(.ref b9)]))
          refine ownEnds.law (fun t k => XS.iload X441.here hx rfl (hb hby d2_162) rfl k) ?_
          show ownEnds _ _ _ _ (T441.setTop (mkF m 164 #[.val (.ref oa), .val (.ref ob), .val (.int (LI3 w0 w1 w2 w3)), .val (.int ((LS3 w0 w1 w2 w3) + w3)), .val (.int (1 : Int32)), .val (.ref b117), .val (.int (1 : Int32))] [(.int (1 : Int32)), (.ref b9)]))
          have f443 := (Arv.other (Arv.ext f121 E117) W126 ne_b9_b117)
          obtain ⟨cl442, Ar442, q442, S442, N442, H442, G442⟩ := id f443
          have hi442 := inb_of (j := (1 : Int32)) S442 ⟨by decide, by decide⟩
          have hv442 : cl442.slots[((1 : Int32)).toNatClampNeg]? = some (.int (LI1 w0 w1)) := H442.at hi442 rfl
          refine ownEnds.law (fun t k => X441.iaload hx (j := (1 : Int32)) (v := (.int (LI1 w0 w1))) (by rw [e441]; exact Ar442.1) (State.isArrayOf_alike hZ.alike Ar442.2.1) Ar442.2.2 hi442 hv442 (g := (mkF m 164 #[.val (.ref oa), .val (.ref ob), .val (.int (LI3 w0 w1 w2 w3)), .val (.int ((LS3 w0 w1 w2 w3) + w3)), .val (.int (1 : Int32)), .val (.ref b117), .val (.int (1 : Int32))] [(.int (1 : Int32)), (.ref b9)])) rfl rfl (hb hby d2_164) _ (XS.aloadN X441.here hx rfl (hb hby d2_165) rfl rfl k)) ?_
          show ownEnds _ _ _ _ (T441.setTop (mkF m 166 #[.val (.ref oa), .val (.ref ob), .val (.int (LI3 w0 w1 w2 w3)), .val (.int ((LS3 w0 w1 w2 w3) + w3)), .val (.int (1 : Int32)), .val (.ref b117), .val (.int (1 : Int32))] [(.ref oa), (.int (LI1 w0 w1))]))
          obtain ⟨T444, X444, e444, st444⟩ := getF X441 hx hZ hown (host := "") (Or.inl (wd_25 hw)) Via.refl e441 f440 (g := (mkF m 166 #[.val (.ref oa), .val (.ref ob), .val (.int (LI3 w0 w1 w2 w3)), .val (.int ((LS3 w0 w1 w2 w3) + w3)), .val (.int (1 : Int32)), .val (.ref b117), .val (.int (1 : Int32))] [(.ref oa), (.int (LI1 w0 w1))])) rfl rfl (hb hby d2_166)
          refine ownEnds.law st444 ?_
          show ownEnds _ _ _ _ (T444.setTop (mkF m 169 #[.val (.ref oa), .val (.ref ob), .val (.int (LI3 w0 w1 w2 w3)), .val (.int ((LS3 w0 w1 w2 w3) + w3)), .val (.int (1 : Int32)), .val (.ref b117), .val (.int (1 : Int32))] [(.ref b9), (.int (LI1 w0 w1))]))
          refine ownEnds.law (fun t k => XS.iload X444.here hx rfl (hb hby d2_169) rfl (XS.iconst X444.here hx rfl (hb hby d2_171) (XS.isub X444.here hx rfl (hb hby d2_172) rfl k))) ?_
          show ownEnds _ _ _ _ (T444.setTop (mkF m 173 #[.val (.ref oa), .val (.ref ob), .val (.int (LI3 w0 w1 w2 w3)), .val (.int ((LS3 w0 w1 w2 w3) + w3)), .val (.int (1 : Int32)), .val (.ref b117), .val (.int (1 : Int32))] [(.int (0 : Int32)), (.ref b9), (.int (LI1 w0 w1))]))
          obtain ⟨cl445, Ar445, q445, S445, N445, H445, G445⟩ := id f443
          have hi445 := inb_of (j := (0 : Int32)) S445 ⟨by decide, by decide⟩
          have hv445 : cl445.slots[((0 : Int32)).toNatClampNeg]? = some (.int (0 : Int32)) := H445.at hi445 rfl
          refine ownEnds.law (fun t k => X444.iaload hx (j := (0 : Int32)) (v := (.int (0 : Int32))) (by rw [e444]; exact Ar445.1) (State.isArrayOf_alike hZ.alike Ar445.2.1) Ar445.2.2 hi445 hv445 (g := (mkF m 173 #[.val (.ref oa), .val (.ref ob), .val (.int (LI3 w0 w1 w2 w3)), .val (.int ((LS3 w0 w1 w2 w3) + w3)), .val (.int (1 : Int32)), .val (.ref b117), .val (.int (1 : Int32))] [(.int (0 : Int32)), (.ref b9), (.int (LI1 w0 w1))])) rfl rfl (hb hby d2_173) _ k) ?_
          show ownEnds _ _ _ _ (T444.setTop (mkF m 174 #[.val (.ref oa), .val (.ref ob), .val (.int (LI3 w0 w1 w2 w3)), .val (.int ((LS3 w0 w1 w2 w3) + w3)), .val (.int (1 : Int32)), .val (.ref b117), .val (.int (1 : Int32))] [(.int (0 : Int32)), (.int (LI1 w0 w1))]))
          by_cases hc174 : (LI1 w0 w1) = (0 : Int32)
          · refine ownEnds.law (fun t => XS.icmpNo X444.here hx rfl (hb hby d2_174) rfl (teq hc174).2) ?_
            show ownEnds _ _ _ _ (T444.setTop (mkF m 177 #[.val (.ref oa), .val (.ref ob), .val (.int (LI3 w0 w1 w2 w3)), .val (.int ((LS3 w0 w1 w2 w3) + w3)), .val (.int (1 : Int32)), .val (.ref b117), .val (.int (1 : Int32))] []))
            refine ownEnds.law (fun t k => XS.aloadN X444.here hx rfl (hb hby d2_177) rfl rfl (XS.iload X444.here hx rfl (hb hby d2_178) rfl k)) ?_
            show ownEnds _ _ _ _ (T444.setTop (mkF m 180 #[.val (.ref oa), .val (.ref ob), .val (.int (LI3 w0 w1 w2 w3)), .val (.int ((LS3 w0 w1 w2 w3) + w3)), .val (.int (1 : Int32)), .val (.ref b117), .val (.int (1 : Int32))] [(.int (1 : Int32)), (.ref ob)]))
            obtain ⟨cl446, Ar446, q446, S446, N446, H446, G446⟩ := id f128
            have hi446 := inb_of (j := (1 : Int32)) S446 ⟨by decide, by decide⟩
            have hv446 : cl446.slots[((1 : Int32)).toNatClampNeg]? = some (.int w1) := H446.at hi446 rfl
            refine ownEnds.law (fun t k => X444.iaload hx (j := (1 : Int32)) (v := (.int w1)) (by rw [e444]; exact Ar446.1) (State.isArrayOf_alike hZ.alike Ar446.2.1) Ar446.2.2 hi446 hv446 (g := (mkF m 180 #[.val (.ref oa), .val (.ref ob), .val (.int (LI3 w0 w1 w2 w3)), .val (.int ((LS3 w0 w1 w2 w3) + w3)), .val (.int (1 : Int32)), .val (.ref b117), .val (.int (1 : Int32))] [(.int (1 : Int32)), (.ref ob)])) rfl rfl (hb hby d2_180) _ (XS.aloadN X444.here hx rfl (hb hby d2_181) rfl rfl (XS.iload X444.here hx rfl (hb hby d2_182) rfl (XS.iconst X444.here hx rfl (hb hby d2_184) (XS.isub X444.here hx rfl (hb hby d2_185) rfl k))))) ?_
            show ownEnds _ _ _ _ (T444.setTop (mkF m 186 #[.val (.ref oa), .val (.ref ob), .val (.int (LI3 w0 w1 w2 w3)), .val (.int ((LS3 w0 w1 w2 w3) + w3)), .val (.int (1 : Int32)), .val (.ref b117), .val (.int (1 : Int32))] [(.int (0 : Int32)), (.ref ob), (.int w1)]))
            obtain ⟨cl447, Ar447, q447, S447, N447, H447, G447⟩ := id f128
            have hi447 := inb_of (j := (0 : Int32)) S447 ⟨by decide, by decide⟩
            have hv447 : cl447.slots[((0 : Int32)).toNatClampNeg]? = some (.int w0) := H447.at hi447 rfl
            refine ownEnds.law (fun t k => X444.iaload hx (j := (0 : Int32)) (v := (.int w0)) (by rw [e444]; exact Ar447.1) (State.isArrayOf_alike hZ.alike Ar447.2.1) Ar447.2.2 hi447 hv447 (g := (mkF m 186 #[.val (.ref oa), .val (.ref ob), .val (.int (LI3 w0 w1 w2 w3)), .val (.int ((LS3 w0 w1 w2 w3) + w3)), .val (.int (1 : Int32)), .val (.ref b117), .val (.int (1 : Int32))] [(.int (0 : Int32)), (.ref ob), (.int w1)])) rfl rfl (hb hby d2_186) _ k) ?_
            show ownEnds _ _ _ _ (T444.setTop (mkF m 187 #[.val (.ref oa), .val (.ref ob), .val (.int (LI3 w0 w1 w2 w3)), .val (.int ((LS3 w0 w1 w2 w3) + w3)), .val (.int (1 : Int32)), .val (.ref b117), .val (.int (1 : Int32))] [(.int w0), (.int w1)]))
            have hc187 : ¬ (w1 = w0) := fun q => hN1 ⟨hc174, q⟩
            refine ownEnds.law (fun t => XS.icmpNo X444.here hx rfl (hb hby d2_187) rfl (feq hc187).1) ?_
            exact J190_1 _ _ X444 N126 e444
          · refine ownEnds.law (fun t => XS.icmpYes X444.here hx rfl (pc0 := 174) (pc' := 190) rfl (hb hby d2_174) rfl (feq hc174).2 (by decide) (by decide)) ?_
            exact J190_1 _ _ X444 N126 e444
      show ownEnds _ _ _ _ (T88.setTop (mkF m 61 #[.val (.ref oa), .val (.ref ob), .val (.int (LI2 w0 w1 w2)), .val (.int ((LS2 w0 w1 w2) + w2)), .val (.int (3 : Int32)), .unset, .unset] [(.int (64 : Int32)), (.int (((LS2 w0 w1 w2) + w2) + w3))]))
      by_cases hc61 : (64 : Int32) < (((LS2 w0 w1 w2) + w2) + w3)
      · refine ownEnds.law (fun t => XS.icmpNo X88.here hx rfl (hb hby d2_61) rfl (tlt hc61).2.2.2) ?_
        show ownEnds _ _ _ _ (T88.setTop (mkF m 64 #[.val (.ref oa), .val (.ref ob), .val (.int (LI2 w0 w1 w2)), .val (.int ((LS2 w0 w1 w2) + w2)), .val (.int (3 : Int32)), .unset, .unset] []))
        refine ownEnds.law (fun t k => XS.iinc X88.here hx rfl (hb hby d2_64) rfl (l' := #[.val (.ref oa), .val (.ref ob), .val (.int ((LI2 w0 w1 w2) + (1 : Int32))), .val (.int ((LS2 w0 w1 w2) + w2)), .val (.int (3 : Int32)), .unset, .unset]) rfl (XS.iconst X88.here hx rfl (hb hby d2_67) (XS.istoreN X88.here hx rfl (hb hby d2_68) rfl (l' := #[.val (.ref oa), .val (.ref ob), .val (.int ((LI2 w0 w1 w2) + (1 : Int32))), .val (.int (0 : Int32)), .val (.int (3 : Int32)), .unset, .unset]) rfl k))) ?_
        show ownEnds _ _ _ _ (T88.setTop (mkF m 69 #[.val (.ref oa), .val (.ref ob), .val (.int ((LI2 w0 w1 w2) + (1 : Int32))), .val (.int (0 : Int32)), .val (.int (3 : Int32)), .unset, .unset] []))
        exact J69_3 _ _ (by rw [LI3, if_pos hc61]) (by rw [LS3, if_pos hc61])
      · refine ownEnds.law (fun t => XS.icmpYes X88.here hx rfl (pc0 := 61) (pc' := 69) rfl (hb hby d2_61) rfl (flt hc61).2.2.2 (by decide) (by decide)) ?_
        exact J69_3 _ _ (by rw [LI3, if_neg hc61]) (by rw [LS3, if_neg hc61])
    show ownEnds _ _ _ _ (T70.setTop (mkF m 61 #[.val (.ref oa), .val (.ref ob), .val (.int (LI1 w0 w1)), .val (.int ((LS1 w0 w1) + w1)), .val (.int (2 : Int32)), .unset, .unset] [(.int (64 : Int32)), (.int (((LS1 w0 w1) + w1) + w2))]))
    by_cases hc61 : (64 : Int32) < (((LS1 w0 w1) + w1) + w2)
    · refine ownEnds.law (fun t => XS.icmpNo X70.here hx rfl (hb hby d2_61) rfl (tlt hc61).2.2.2) ?_
      show ownEnds _ _ _ _ (T70.setTop (mkF m 64 #[.val (.ref oa), .val (.ref ob), .val (.int (LI1 w0 w1)), .val (.int ((LS1 w0 w1) + w1)), .val (.int (2 : Int32)), .unset, .unset] []))
      refine ownEnds.law (fun t k => XS.iinc X70.here hx rfl (hb hby d2_64) rfl (l' := #[.val (.ref oa), .val (.ref ob), .val (.int ((LI1 w0 w1) + (1 : Int32))), .val (.int ((LS1 w0 w1) + w1)), .val (.int (2 : Int32)), .unset, .unset]) rfl (XS.iconst X70.here hx rfl (hb hby d2_67) (XS.istoreN X70.here hx rfl (hb hby d2_68) rfl (l' := #[.val (.ref oa), .val (.ref ob), .val (.int ((LI1 w0 w1) + (1 : Int32))), .val (.int (0 : Int32)), .val (.int (2 : Int32)), .unset, .unset]) rfl k))) ?_
      show ownEnds _ _ _ _ (T70.setTop (mkF m 69 #[.val (.ref oa), .val (.ref ob), .val (.int ((LI1 w0 w1) + (1 : Int32))), .val (.int (0 : Int32)), .val (.int (2 : Int32)), .unset, .unset] []))
      exact J69_2 _ _ (by rw [LI2, if_pos hc61]) (by rw [LS2, if_pos hc61])
    · refine ownEnds.law (fun t => XS.icmpYes X70.here hx rfl (pc0 := 61) (pc' := 69) rfl (hb hby d2_61) rfl (flt hc61).2.2.2 (by decide) (by decide)) ?_
      exact J69_2 _ _ (by rw [LI2, if_neg hc61]) (by rw [LS2, if_neg hc61])
  show ownEnds _ _ _ _ (T52.setTop (mkF m 61 #[.val (.ref oa), .val (.ref ob), .val (.int (0 : Int32)), .val (.int w0), .val (.int (1 : Int32)), .unset, .unset] [(.int (64 : Int32)), (.int (w0 + w1))]))
  by_cases hc61 : (64 : Int32) < (w0 + w1)
  · refine ownEnds.law (fun t => XS.icmpNo X52.here hx rfl (hb hby d2_61) rfl (tlt hc61).2.2.2) ?_
    show ownEnds _ _ _ _ (T52.setTop (mkF m 64 #[.val (.ref oa), .val (.ref ob), .val (.int (0 : Int32)), .val (.int w0), .val (.int (1 : Int32)), .unset, .unset] []))
    refine ownEnds.law (fun t k => XS.iinc X52.here hx rfl (hb hby d2_64) rfl (l' := #[.val (.ref oa), .val (.ref ob), .val (.int (1 : Int32)), .val (.int w0), .val (.int (1 : Int32)), .unset, .unset]) rfl (XS.iconst X52.here hx rfl (hb hby d2_67) (XS.istoreN X52.here hx rfl (hb hby d2_68) rfl (l' := #[.val (.ref oa), .val (.ref ob), .val (.int (1 : Int32)), .val (.int (0 : Int32)), .val (.int (1 : Int32)), .unset, .unset]) rfl k))) ?_
    show ownEnds _ _ _ _ (T52.setTop (mkF m 69 #[.val (.ref oa), .val (.ref ob), .val (.int (1 : Int32)), .val (.int (0 : Int32)), .val (.int (1 : Int32)), .unset, .unset] []))
    exact J69_1 _ _ (by rw [LI1, if_pos hc61]) (by rw [LS1, if_pos hc61])
  · refine ownEnds.law (fun t => XS.icmpYes X52.here hx rfl (pc0 := 61) (pc' := 69) rfl (hb hby d2_61) rfl (flt hc61).2.2.2 (by decide) (by decide)) ?_
    exact J69_1 _ _ (by rw [LI1, if_neg hc61]) (by rw [LS1, if_neg hc61])
set_option maxRecDepth 65536 in
set_option maxHeartbeats 40000000 in
theorem rm5 (l : Launch) (Z : State) (a0 : Array Value) (hw : ∀ d ∈ tables_1, d.before a0 Z = true) (oa : Addr) (ob : Addr) (xf : Int32) (oc : Addr) (w0 w1 w2 w3 : Int32) (s0 s1 s2 s3 : Int64) (c0 c1 c2 c3 c4 : Addr) (k0 k1 k2 k3 k4 kb kc : ClassId) (rs vs : List Value) (len : Int32) (h0 : Heap) (n0 : Nat) (Z0 : n0 ≤ h0.size) (E_oa : Exa Z h0 oa "com/example/libreach/libreach/engine/StateLayout") (F0 : Fld Z h0 oa "com/example/libreach/libreach/engine/StateLayout" "widths" "[I" (.ref c0)) (V0 : Arv Z h0 c0 k0 .int (4 : Int32) [(.int w0), (.int w1), (.int w2), (.int w3)] (.int (0 : Int32))) (F1 : Fld Z h0 oa "com/example/libreach/libreach/engine/StateLayout" "word" "[I" (.ref c1)) (V1 : Arv Z h0 c1 k1 .int (4 : Int32) [(.int (0 : Int32)), (.int (LI1 w0 w1)), (.int (LI2 w0 w1 w2)), (.int (LI3 w0 w1 w2 w3))] (.int (0 : Int32))) (F2 : Fld Z h0 oa "com/example/libreach/libreach/engine/StateLayout" "shift" "[I" (.ref c2)) (V2 : Arv Z h0 c2 k2 .int (4 : Int32) [(.int (0 : Int32)), (.int (LS1 w0 w1)), (.int (LS2 w0 w1 w2)), (.int (LS3 w0 w1 w2 w3))] (.int (0 : Int32))) (F3 : Fld Z h0 oa "com/example/libreach/libreach/engine/StateLayout" "largest" "[J" (.ref c3)) (V3 : Arv Z h0 c3 k3 .long (4 : Int32) [(.long (LM w0)), (.long (LM w1)), (.long (LM w2)), (.long (LM w3))] (.long (0 : Int64))) (F4 : Fld Z h0 oa "com/example/libreach/libreach/engine/StateLayout" "runs" "[I" (.ref c4)) (V4 : Arv Z h0 c4 k4 .int len rs (.int (0 : Int32))) (RO : RunOK w0 w1 w2 w3 rs len) (Vb : Arv Z h0 ob kb .long (8 : Int32) vs (.long (0 : Int64))) (hS : StOK xf vs s0 s1 s2 s3) (Vc0 : Arv Z h0 oc kc .long (5 : Int32) [(.long (-7 : Int64)), (.long (-7 : Int64)), (.long (-7 : Int64)), (.long (-7 : Int64)), (.long (-7 : Int64))] (.long (0 : Int64))) (g_oc : n0 ≤ oc) (ne_oa_oc : oa ≠ oc) (ne_c0_oc : c0 ≠ oc) (ne_c1_oc : c1 ≠ oc) (ne_c2_oc : c2 ≠ oc) (ne_c3_oc : c3 ≠ oc) (ne_c4_oc : c4 ≠ oc) (ne_ob_oc : ob ≠ oc) (hr0 : 0 < w0.toInt ∧ w0.toInt < 64) (hr1 : 0 < w1.toInt ∧ w1.toInt < 64) (hr2 : 0 < w2.toInt ∧ w2.toInt < 64) (hr3 : 0 < w3.toInt ∧ w3.toInt < 64) :
    ownMet l Z (⟨"com/example/libreach/libreach/engine/StateLayout", "unpack", "([JI[J)V"⟩ : MethodName) prog_17_method_8_code 12 none [] ({ frames := 0, cells := 0, slots := 0, locals := 0 } : Room) #[(.ref oa), (.ref ob), (.int xf), (.ref oc)] h0 (fun v h L => v = none ∧ Fr n0 L ∧ Keep h0 h [oc] ∧ Arv Z h oc kc .long (5 : Int32) [(.long (XV (GW (0 : Int32) s0 s1 s2 s3) (0 : Int32) w0)), (.long (XV (GW (LI1 w0 w1) s0 s1 s2 s3) (LS1 w0 w1) w1)), (.long (XV (GW (LI2 w0 w1 w2) s0 s1 s2 s3) (LS2 w0 w1 w2) w2)), (.long (XV (GW (LI3 w0 w1 w2 w3) s0 s1 s2 s3) (LS3 w0 w1 w2 w3) w3)), (.long (-7 : Int64))] (.long (0 : Int64))) := by
  refine ownMet.of (plainFor_of_name pn_5) ?_
  intro p e s m below meth c T0 hx hby hml hZ hown hnm hret hlk X0 e0
  refine ownEnds.cast (ef_rm5 m oa ob xf oc) ?_
  obtain ⟨R0, R1, R2, R3, Q0, Q1, Q2, Q3, B0, B1, B2, B3, BL⟩ := RO
  have J3 : ∀ (T1 : State) (lc1 : List Loc) (hp : Heap) (X1 : Stand p l e ({ frames := 0, cells := 0, slots := 0, locals := 0 } : Room) s m #[(.ref oa), (.ref ob), (.int xf), (.ref oc)] below meth c T1 lc1 0 0) (N1 : Fr n0 lc1) (e1 : T1.heap = hp) (Kp : Keep h0 hp [oc]) (kk fst ww : Int32) (mm bt : Int64) (hk : kk = (GK3 w0 w1 w2 w3)) (hww : ww = w3) (hmm : mm = (LM w3)) (hbt : bt = (SR (GW (LI3 w0 w1 w2 w3) s0 s1 s2 s3) (LS3 w0 w1 w2 w3))) (Vp : Arv Z hp oc kc .long (5 : Int32) [(.long (XV (GW (0 : Int32) s0 s1 s2 s3) (0 : Int32) w0)), (.long (XV (GW (LI1 w0 w1) s0 s1 s2 s3) (LS1 w0 w1) w1)), (.long (XV (GW (LI2 w0 w1 w2) s0 s1 s2 s3) (LS2 w0 w1 w2) w2)), (.long (-7 : Int64)), (.long (-7 : Int64))] (.long (0 : Int64))), ownEnds p.tables e below (ownPost s (fun v h L => v = none ∧ Fr n0 L ∧ Keep h0 h [oc] ∧ Arv Z h oc kc .long (5 : Int32) [(.long (XV (GW (0 : Int32) s0 s1 s2 s3) (0 : Int32) w0)), (.long (XV (GW (LI1 w0 w1) s0 s1 s2 s3) (LS1 w0 w1) w1)), (.long (XV (GW (LI2 w0 w1 w2) s0 s1 s2 s3) (LS2 w0 w1 w2) w2)), (.long (XV (GW (LI3 w0 w1 w2 w3) s0 s1 s2 s3) (LS3 w0 w1 w2 w3) w3)), (.long (-7 : Int64))] (.long (0 : Int64))) ({ frames := 0, cells := 0, slots := 0, locals := 0 } : Room).cells ({ frames := 0, cells := 0, slots := 0, locals := 0 } : Room).slots) (T1.setTop (mkF m 67 #[.val (.ref oa), .val (.ref ob), .val (.int xf), .val (.ref oc), .val (.int kk), .val (.int fst), .val (.int ww), .val (.long mm), .second, .val (.long bt), .second, .val (.int (3 : Int32))] [])) := by
    intro T1 lc1 hp X1 N1 e1 Kp kk fst ww mm bt hk hww hmm hbt Vp
    show ownEnds _ _ _ _ (T1.setTop (mkF m 67 #[.val (.ref oa), .val (.ref ob), .val (.int xf), .val (.ref oc), .val (.int kk), .val (.int fst), .val (.int ww), .val (.long mm), .second, .val (.long bt), .second, .val (.int (3 : Int32))] []))
    refine ownEnds.law (fun t k => XS.iload X1.here hx rfl (hb hby d5_67) rfl (XS.aloadN X1.here hx rfl (hb hby d5_69) rfl rfl k)) ?_
    show ownEnds _ _ _ _ (T1.setTop (mkF m 70 #[.val (.ref oa), .val (.ref ob), .val (.int xf), .val (.ref oc), .val (.int kk), .val (.int fst), .val (.int ww), .val (.long mm), .second, .val (.long bt), .second, .val (.int (3 : Int32))] [(.ref oa), (.int (3 : Int32))]))
    have f2 := (Fld.keep F4 Kp (ninS ne_oa_oc nin0))
    obtain ⟨T3, X3, e3, st3⟩ := getF X1 hx hZ hown (host := "") (Or.inl (wd_41 hw)) Via.refl e1 f2 (g := (mkF m 70 #[.val (.ref oa), .val (.ref ob), .val (.int xf), .val (.ref oc), .val (.int kk), .val (.int fst), .val (.int ww), .val (.long mm), .second, .val (.long bt), .second, .val (.int (3 : Int32))] [(.ref oa), (.int (3 : Int32))])) rfl rfl (hb hby d5_70)
    refine ownEnds.law st3 ?_
    show ownEnds _ _ _ _ (T3.setTop (mkF m 73 #[.val (.ref oa), .val (.ref ob), .val (.int xf), .val (.ref oc), .val (.int kk), .val (.int fst), .val (.int ww), .val (.long mm), .second, .val (.long bt), .second, .val (.int (3 : Int32))] [(.ref c4), (.int (3 : Int32))]))
    refine ownEnds.law (fun t k => XS.iload X3.here hx rfl (hb hby d5_73) rfl (XS.iconst X3.here hx rfl (hb hby d5_75) (XS.iadd X3.here hx rfl (hb hby d5_76) rfl k))) ?_
    show ownEnds _ _ _ _ (T3.setTop (mkF m 77 #[.val (.ref oa), .val (.ref ob), .val (.int xf), .val (.ref oc), .val (.int kk), .val (.int fst), .val (.int ww), .val (.long mm), .second, .val (.long bt), .second, .val (.int (3 : Int32))] [(.int (kk + (1 : Int32))), (.ref c4), (.int (3 : Int32))]))
    have f5 := (Arv.keep V4 Kp (ninS ne_c4_oc nin0))
    obtain ⟨cl4, Ar4, q4, S4, N4, H4, G4⟩ := id f5
    have hi4 := inb_of (j := (kk + (1 : Int32))) S4 (by rw [hk]; exact ⟨B3.2.2.1, B3.2.2.2.1⟩)
    have hv4 : cl4.slots[((kk + (1 : Int32))).toNatClampNeg]? = some (.int (4 : Int32)) := H4.at hi4 (by rw [hk]; exact Q3)
    refine ownEnds.law (X3.iaload hx (j := (kk + (1 : Int32))) (v := (.int (4 : Int32))) (by rw [e3]; exact Ar4.1) (State.isArrayOf_alike hZ.alike Ar4.2.1) Ar4.2.2 hi4 hv4 (g := (mkF m 77 #[.val (.ref oa), .val (.ref ob), .val (.int xf), .val (.ref oc), .val (.int kk), .val (.int fst), .val (.int ww), .val (.long mm), .second, .val (.long bt), .second, .val (.int (3 : Int32))] [(.int (kk + (1 : Int32))), (.ref c4), (.int (3 : Int32))])) rfl rfl (hb hby d5_77)) ?_
    show ownEnds _ _ _ _ (T3.setTop (mkF m 78 #[.val (.ref oa), .val (.ref ob), .val (.int xf), .val (.ref oc), .val (.int kk), .val (.int fst), .val (.int ww), .val (.long mm), .second, .val (.long bt), .second, .val (.int (3 : Int32))] [(.int (4 : Int32)), (.int (3 : Int32))]))
    have hc78 : (3 : Int32) < (4 : Int32) := by decide
    refine ownEnds.law (fun t => XS.icmpNo X3.here hx rfl (hb hby d5_78) rfl (tlt hc78).2.1) ?_
    show ownEnds _ _ _ _ (T3.setTop (mkF m 81 #[.val (.ref oa), .val (.ref ob), .val (.int xf), .val (.ref oc), .val (.int kk), .val (.int fst), .val (.int ww), .val (.long mm), .second, .val (.long bt), .second, .val (.int (3 : Int32))] []))
    refine ownEnds.law (fun t k => XS.aloadN X3.here hx rfl (hb hby d5_81) rfl rfl (XS.iload X3.here hx rfl (hb hby d5_82) rfl (XS.lload X3.here hx rfl (hb hby d5_84) rfl (XS.lload X3.here hx rfl (hb hby d5_86) rfl (XS.land X3.here hx rfl (hb hby d5_88) rfl k))))) ?_
    show ownEnds _ _ _ _ (T3.setTop (mkF m 89 #[.val (.ref oa), .val (.ref ob), .val (.int xf), .val (.ref oc), .val (.int kk), .val (.int fst), .val (.int ww), .val (.long mm), .second, .val (.long bt), .second, .val (.int (3 : Int32))] [(.long (bt &&& mm)), (.int (3 : Int32)), (.ref oc)]))
    obtain ⟨cl6, Ar6, q6, S6, N6, H6, G6⟩ := id Vp
    obtain ⟨T6, h6, X6, e6, W6, st6⟩ := stJ X3 hx hZ e3 Ar6 (j := (3 : Int32)) (inb_of S6 ⟨by decide, by decide⟩) (g := (mkF m 89 #[.val (.ref oa), .val (.ref ob), .val (.int xf), .val (.ref oc), .val (.int kk), .val (.int fst), .val (.int ww), .val (.long mm), .second, .val (.long bt), .second, .val (.int (3 : Int32))] [(.long (bt &&& mm)), (.int (3 : Int32)), (.ref oc)])) rfl rfl (hb hby d5_89)
    refine ownEnds.law st6 ?_
    have V6 : Arv Z h6 oc kc .long (5 : Int32) [(.long (XV (GW (0 : Int32) s0 s1 s2 s3) (0 : Int32) w0)), (.long (XV (GW (LI1 w0 w1) s0 s1 s2 s3) (LS1 w0 w1) w1)), (.long (XV (GW (LI2 w0 w1 w2) s0 s1 s2 s3) (LS2 w0 w1 w2) w2)), (.long (bt &&& mm)), (.long (-7 : Int64))] (.long (0 : Int64)) := Arv.set Ar6 q6 S6 N6 H6 G6 rfl W6 3 rfl (Nat.le_of_ble_eq_true rfl)
    have N6 := Fr.snoc X6 N1 g_oc
    have KK6 : Keep h0 h6 [oc] := (Kp).wr W6 (Or.inl (List.mem_of_getElem? (i := 0) rfl))
    have Z6 : n0 ≤ h6.size := by rw [W6.size]; exact (Nat.le_trans Z0 Kp.1)
    show ownEnds _ _ _ _ (T6.setTop (mkF m 90 #[.val (.ref oa), .val (.ref ob), .val (.int xf), .val (.ref oc), .val (.int kk), .val (.int fst), .val (.int ww), .val (.long mm), .second, .val (.long bt), .second, .val (.int (3 : Int32))] []))
    refine ownEnds.law (fun t k => XS.lload X6.here hx rfl (hb hby d5_90) rfl (XS.iload X6.here hx rfl (hb hby d5_92) rfl (XS.lushr X6.here hx rfl (hb hby d5_94) rfl k))) ?_
    show ownEnds _ _ _ _ (T6.setTop (mkF m 95 #[.val (.ref oa), .val (.ref ob), .val (.int xf), .val (.ref oc), .val (.int kk), .val (.int fst), .val (.int ww), .val (.long mm), .second, .val (.long bt), .second, .val (.int (3 : Int32))] [(.long ((bt.toUInt64 >>> (ww &&& 0x3f).toInt64.toUInt64).toInt64))]))
    obtain ⟨bu7, e_bu7⟩ : ∃ z : Int64, z = ((bt.toUInt64 >>> (ww &&& 0x3f).toInt64.toUInt64).toInt64) := ⟨_, rfl⟩
    rw [← e_bu7]
    show ownEnds _ _ _ _ (T6.setTop (mkF m 95 #[.val (.ref oa), .val (.ref ob), .val (.int xf), .val (.ref oc), .val (.int kk), .val (.int fst), .val (.int ww), .val (.long mm), .second, .val (.long bt), .second, .val (.int (3 : Int32))] [(.long bu7)]))
    refine ownEnds.law (fun t k => XS.lstore X6.here hx rfl (hb hby d5_95) rfl (l' := #[.val (.ref oa), .val (.ref ob), .val (.int xf), .val (.ref oc), .val (.int kk), .val (.int fst), .val (.int ww), .val (.long mm), .second, .val (.long bu7), .second, .val (.int (3 : Int32))]) rfl (XS.iinc X6.here hx rfl (hb hby d5_97) rfl (l' := #[.val (.ref oa), .val (.ref ob), .val (.int xf), .val (.ref oc), .val (.int kk), .val (.int fst), .val (.int ww), .val (.long mm), .second, .val (.long bu7), .second, .val (.int (4 : Int32))]) rfl (XS.goto X6.here hx rfl (pc0 := 100) (pc' := 67) rfl (hb hby d5_100) (by decide) (by decide) k))) ?_
    show ownEnds _ _ _ _ (T6.setTop (mkF m 67 #[.val (.ref oa), .val (.ref ob), .val (.int xf), .val (.ref oc), .val (.int kk), .val (.int fst), .val (.int ww), .val (.long mm), .second, .val (.long bu7), .second, .val (.int (4 : Int32))] []))
    have ex3 : (bt &&& mm) = (XV (GW (LI3 w0 w1 w2 w3) s0 s1 s2 s3) (LS3 w0 w1 w2 w3) w3) := by rw [hbt, hmm]; rfl
    have VV4 : Arv Z h6 oc kc .long (5 : Int32) [(.long (XV (GW (0 : Int32) s0 s1 s2 s3) (0 : Int32) w0)), (.long (XV (GW (LI1 w0 w1) s0 s1 s2 s3) (LS1 w0 w1) w1)), (.long (XV (GW (LI2 w0 w1 w2) s0 s1 s2 s3) (LS2 w0 w1 w2) w2)), (.long (XV (GW (LI3 w0 w1 w2 w3) s0 s1 s2 s3) (LS3 w0 w1 w2 w3) w3)), (.long (-7 : Int64))] (.long (0 : Int64)) := by have q := V6; rw [ex3] at q; exact q
    show ownEnds _ _ _ _ (T6.setTop (mkF m 67 #[.val (.ref oa), .val (.ref ob), .val (.int xf), .val (.ref oc), .val (.int kk), .val (.int fst), .val (.int ww), .val (.long mm), .second, .val (.long bu7), .second, .val (.int (4 : Int32))] []))
    refine ownEnds.law (fun t k => XS.iload X6.here hx rfl (hb hby d5_67) rfl (XS.aloadN X6.here hx rfl (hb hby d5_69) rfl rfl k)) ?_
    show ownEnds _ _ _ _ (T6.setTop (mkF m 70 #[.val (.ref oa), .val (.ref ob), .val (.int xf), .val (.ref oc), .val (.int kk), .val (.int fst), .val (.int ww), .val (.long mm), .second, .val (.long bu7), .second, .val (.int (4 : Int32))] [(.ref oa), (.int (4 : Int32))]))
    have f8 := (Fld.other W6 f2 (Or.inl ne_oa_oc))
    obtain ⟨T9, X9, e9, st9⟩ := getF X6 hx hZ hown (host := "") (Or.inl (wd_41 hw)) Via.refl e6 f8 (g := (mkF m 70 #[.val (.ref oa), .val (.ref ob), .val (.int xf), .val (.ref oc), .val (.int kk), .val (.int fst), .val (.int ww), .val (.long mm), .second, .val (.long bu7), .second, .val (.int (4 : Int32))] [(.ref oa), (.int (4 : Int32))])) rfl rfl (hb hby d5_70)
    refine ownEnds.law st9 ?_
    show ownEnds _ _ _ _ (T9.setTop (mkF m 73 #[.val (.ref oa), .val (.ref ob), .val (.int xf), .val (.ref oc), .val (.int kk), .val (.int fst), .val (.int ww), .val (.long mm), .second, .val (.long bu7), .second, .val (.int (4 : Int32))] [(.ref c4), (.int (4 : Int32))]))
    refine ownEnds.law (fun t k => XS.iload X9.here hx rfl (hb hby d5_73) rfl (XS.iconst X9.here hx rfl (hb hby d5_75) (XS.iadd X9.here hx rfl (hb hby d5_76) rfl k))) ?_
    show ownEnds _ _ _ _ (T9.setTop (mkF m 77 #[.val (.ref oa), .val (.ref ob), .val (.int xf), .val (.ref oc), .val (.int kk), .val (.int fst), .val (.int ww), .val (.long mm), .second, .val (.long bu7), .second, .val (.int (4 : Int32))] [(.int (kk + (1 : Int32))), (.ref c4), (.int (4 : Int32))]))
    have f11 := (Arv.other f5 W6 ne_c4_oc)
    obtain ⟨cl10, Ar10, q10, S10, N10, H10, G10⟩ := id f11
    have hi10 := inb_of (j := (kk + (1 : Int32))) S10 (by rw [hk]; exact ⟨B3.2.2.1, B3.2.2.2.1⟩)
    have hv10 : cl10.slots[((kk + (1 : Int32))).toNatClampNeg]? = some (.int (4 : Int32)) := H10.at hi10 (by rw [hk]; exact Q3)
    refine ownEnds.law (X9.iaload hx (j := (kk + (1 : Int32))) (v := (.int (4 : Int32))) (by rw [e9]; exact Ar10.1) (State.isArrayOf_alike hZ.alike Ar10.2.1) Ar10.2.2 hi10 hv10 (g := (mkF m 77 #[.val (.ref oa), .val (.ref ob), .val (.int xf), .val (.ref oc), .val (.int kk), .val (.int fst), .val (.int ww), .val (.long mm), .second, .val (.long bu7), .second, .val (.int (4 : Int32))] [(.int (kk + (1 : Int32))), (.ref c4), (.int (4 : Int32))])) rfl rfl (hb hby d5_77)) ?_
    show ownEnds _ _ _ _ (T9.setTop (mkF m 78 #[.val (.ref oa), .val (.ref ob), .val (.int xf), .val (.ref oc), .val (.int kk), .val (.int fst), .val (.int ww), .val (.long mm), .second, .val (.long bu7), .second, .val (.int (4 : Int32))] [(.int (4 : Int32)), (.int (4 : Int32))]))
    have hc78 : ¬ ((4 : Int32) < (4 : Int32)) := by decide
    refine ownEnds.law (fun t => XS.icmpYes X9.here hx rfl (pc0 := 78) (pc' := 103) rfl (hb hby d5_78) rfl (flt hc78).2.1 (by decide) (by decide)) ?_
    show ownEnds _ _ _ _ (T9.setTop (mkF m 103 #[.val (.ref oa), .val (.ref ob), .val (.int xf), .val (.ref oc), .val (.int kk), .val (.int fst), .val (.int ww), .val (.long mm), .second, .val (.long bu7), .second, .val (.int (4 : Int32))] []))
    refine ownEnds.law (fun t k => XS.iinc X9.here hx rfl (hb hby d5_103) rfl (l' := #[.val (.ref oa), .val (.ref ob), .val (.int xf), .val (.ref oc), .val (.int (kk + (1 : Int32))), .val (.int fst), .val (.int ww), .val (.long mm), .second, .val (.long bu7), .second, .val (.int (4 : Int32))]) rfl (XS.goto X9.here hx rfl (pc0 := 106) (pc' := 3) rfl (hb hby d5_106) (by decide) (by decide) (XS.iload X9.here hx rfl (hb hby d5_3) rfl (XS.aloadN X9.here hx rfl (hb hby d5_5) rfl rfl k)))) ?_
    show ownEnds _ _ _ _ (T9.setTop (mkF m 6 #[.val (.ref oa), .val (.ref ob), .val (.int xf), .val (.ref oc), .val (.int (kk + (1 : Int32))), .val (.int fst), .val (.int ww), .val (.long mm), .second, .val (.long bu7), .second, .val (.int (4 : Int32))] [(.ref oa), (.int (kk + (1 : Int32)))]))
    obtain ⟨T12, X12, e12, st12⟩ := getF X9 hx hZ hown (host := "") (Or.inl (wd_41 hw)) Via.refl e9 f8 (g := (mkF m 6 #[.val (.ref oa), .val (.ref ob), .val (.int xf), .val (.ref oc), .val (.int (kk + (1 : Int32))), .val (.int fst), .val (.int ww), .val (.long mm), .second, .val (.long bu7), .second, .val (.int (4 : Int32))] [(.ref oa), (.int (kk + (1 : Int32)))])) rfl rfl (hb hby d5_6)
    refine ownEnds.law st12 ?_
    show ownEnds _ _ _ _ (T12.setTop (mkF m 9 #[.val (.ref oa), .val (.ref ob), .val (.int xf), .val (.ref oc), .val (.int (kk + (1 : Int32))), .val (.int fst), .val (.int ww), .val (.long mm), .second, .val (.long bu7), .second, .val (.int (4 : Int32))] [(.ref c4), (.int (kk + (1 : Int32)))]))
    obtain ⟨cl13, Ar13, -, S13, N13, -, -⟩ := id f11
    refine ownEnds.law (X12.arraylength hx (by rw [e12]; exact Ar13.1) (State.isArrayOf_alike hZ.alike Ar13.2.1) (g := (mkF m 9 #[.val (.ref oa), .val (.ref ob), .val (.int xf), .val (.ref oc), .val (.int (kk + (1 : Int32))), .val (.int fst), .val (.int ww), .val (.long mm), .second, .val (.long bu7), .second, .val (.int (4 : Int32))] [(.ref c4), (.int (kk + (1 : Int32)))])) rfl rfl (hb hby d5_9)) ?_
    rw [len_of S13 N13]
    show ownEnds _ _ _ _ (T12.setTop (mkF m 10 #[.val (.ref oa), .val (.ref ob), .val (.int xf), .val (.ref oc), .val (.int (kk + (1 : Int32))), .val (.int fst), .val (.int ww), .val (.long mm), .second, .val (.long bu7), .second, .val (.int (4 : Int32))] [(.int len), (.int (kk + (1 : Int32)))]))
    refine ownEnds.law (fun t k => XS.iconst X12.here hx rfl (hb hby d5_10) (XS.isub X12.here hx rfl (hb hby d5_11) rfl k)) ?_
    show ownEnds _ _ _ _ (T12.setTop (mkF m 12 #[.val (.ref oa), .val (.ref ob), .val (.int xf), .val (.ref oc), .val (.int (kk + (1 : Int32))), .val (.int fst), .val (.int ww), .val (.long mm), .second, .val (.long bu7), .second, .val (.int (4 : Int32))] [(.int (len - (1 : Int32))), (.int (kk + (1 : Int32)))]))
    have hc12 : ¬ ((kk + (1 : Int32)) < (len - (1 : Int32))) := by rw [hk]; exact BL
    refine ownEnds.law (fun t => XS.icmpYes X12.here hx rfl (pc0 := 12) (pc' := 109) rfl (hb hby d5_12) rfl (flt hc12).2.1 (by decide) (by decide)) ?_
    show ownEnds _ _ _ _ (T12.setTop (mkF m 109 #[.val (.ref oa), .val (.ref ob), .val (.int xf), .val (.ref oc), .val (.int (kk + (1 : Int32))), .val (.int fst), .val (.int ww), .val (.long mm), .second, .val (.long bu7), .second, .val (.int (4 : Int32))] []))
    refine ownRetV X12 hlk hx hret (hb hby d5_109) (by decide) (by decide) ?_
    rw [e12]
    exact ⟨rfl, N6, KK6, VV4⟩
  have J2 : ∀ (T14 : State) (lc14 : List Loc) (hp : Heap) (X14 : Stand p l e ({ frames := 0, cells := 0, slots := 0, locals := 0 } : Room) s m #[(.ref oa), (.ref ob), (.int xf), (.ref oc)] below meth c T14 lc14 0 0) (N14 : Fr n0 lc14) (e14 : T14.heap = hp) (Kp : Keep h0 hp [oc]) (kk fst ww : Int32) (mm bt : Int64) (hk : kk = (GK2 w0 w1 w2)) (hww : ww = w2) (hmm : mm = (LM w2)) (hbt : bt = (SR (GW (LI2 w0 w1 w2) s0 s1 s2 s3) (LS2 w0 w1 w2))) (Vp : Arv Z hp oc kc .long (5 : Int32) [(.long (XV (GW (0 : Int32) s0 s1 s2 s3) (0 : Int32) w0)), (.long (XV (GW (LI1 w0 w1) s0 s1 s2 s3) (LS1 w0 w1) w1)), (.long (-7 : Int64)), (.long (-7 : Int64)), (.long (-7 : Int64))] (.long (0 : Int64))), ownEnds p.tables e below (ownPost s (fun v h L => v = none ∧ Fr n0 L ∧ Keep h0 h [oc] ∧ Arv Z h oc kc .long (5 : Int32) [(.long (XV (GW (0 : Int32) s0 s1 s2 s3) (0 : Int32) w0)), (.long (XV (GW (LI1 w0 w1) s0 s1 s2 s3) (LS1 w0 w1) w1)), (.long (XV (GW (LI2 w0 w1 w2) s0 s1 s2 s3) (LS2 w0 w1 w2) w2)), (.long (XV (GW (LI3 w0 w1 w2 w3) s0 s1 s2 s3) (LS3 w0 w1 w2 w3) w3)), (.long (-7 : Int64))] (.long (0 : Int64))) ({ frames := 0, cells := 0, slots := 0, locals := 0 } : Room).cells ({ frames := 0, cells := 0, slots := 0, locals := 0 } : Room).slots) (T14.setTop (mkF m 67 #[.val (.ref oa), .val (.ref ob), .val (.int xf), .val (.ref oc), .val (.int kk), .val (.int fst), .val (.int ww), .val (.long mm), .second, .val (.long bt), .second, .val (.int (2 : Int32))] [])) := by
    intro T14 lc14 hp X14 N14 e14 Kp kk fst ww mm bt hk hww hmm hbt Vp
    show ownEnds _ _ _ _ (T14.setTop (mkF m 67 #[.val (.ref oa), .val (.ref ob), .val (.int xf), .val (.ref oc), .val (.int kk), .val (.int fst), .val (.int ww), .val (.long mm), .second, .val (.long bt), .second, .val (.int (2 : Int32))] []))
    refine ownEnds.law (fun t k => XS.iload X14.here hx rfl (hb hby d5_67) rfl (XS.aloadN X14.here hx rfl (hb hby d5_69) rfl rfl k)) ?_
    show ownEnds _ _ _ _ (T14.setTop (mkF m 70 #[.val (.ref oa), .val (.ref ob), .val (.int xf), .val (.ref oc), .val (.int kk), .val (.int fst), .val (.int ww), .val (.long mm), .second, .val (.long bt), .second, .val (.int (2 : Int32))] [(.ref oa), (.int (2 : Int32))]))
    have f15 := (Fld.keep F4 Kp (ninS ne_oa_oc nin0))
    obtain ⟨T16, X16, e16, st16⟩ := getF X14 hx hZ hown (host := "") (Or.inl (wd_41 hw)) Via.refl e14 f15 (g := (mkF m 70 #[.val (.ref oa), .val (.ref ob), .val (.int xf), .val (.ref oc), .val (.int kk), .val (.int fst), .val (.int ww), .val (.long mm), .second, .val (.long bt), .second, .val (.int (2 : Int32))] [(.ref oa), (.int (2 : Int32))])) rfl rfl (hb hby d5_70)
    refine ownEnds.law st16 ?_
    show ownEnds _ _ _ _ (T16.setTop (mkF m 73 #[.val (.ref oa), .val (.ref ob), .val (.int xf), .val (.ref oc), .val (.int kk), .val (.int fst), .val (.int ww), .val (.long mm), .second, .val (.long bt), .second, .val (.int (2 : Int32))] [(.ref c4), (.int (2 : Int32))]))
    refine ownEnds.law (fun t k => XS.iload X16.here hx rfl (hb hby d5_73) rfl (XS.iconst X16.here hx rfl (hb hby d5_75) (XS.iadd X16.here hx rfl (hb hby d5_76) rfl k))) ?_
    show ownEnds _ _ _ _ (T16.setTop (mkF m 77 #[.val (.ref oa), .val (.ref ob), .val (.int xf), .val (.ref oc), .val (.int kk), .val (.int fst), .val (.int ww), .val (.long mm), .second, .val (.long bt), .second, .val (.int (2 : Int32))] [(.int (kk + (1 : Int32))), (.ref c4), (.int (2 : Int32))]))
    have f18 := (Arv.keep V4 Kp (ninS ne_c4_oc nin0))
    obtain ⟨cl17, Ar17, q17, S17, N17, H17, G17⟩ := id f18
    have hi17 := inb_of (j := (kk + (1 : Int32))) S17 (by rw [hk]; exact ⟨B2.2.2.1, B2.2.2.2.1⟩)
    have hv17 : cl17.slots[((kk + (1 : Int32))).toNatClampNeg]? = some (.int (GE2 w0 w1 w2 w3)) := H17.at hi17 (by rw [hk]; exact Q2)
    refine ownEnds.law (X16.iaload hx (j := (kk + (1 : Int32))) (v := (.int (GE2 w0 w1 w2 w3))) (by rw [e16]; exact Ar17.1) (State.isArrayOf_alike hZ.alike Ar17.2.1) Ar17.2.2 hi17 hv17 (g := (mkF m 77 #[.val (.ref oa), .val (.ref ob), .val (.int xf), .val (.ref oc), .val (.int kk), .val (.int fst), .val (.int ww), .val (.long mm), .second, .val (.long bt), .second, .val (.int (2 : Int32))] [(.int (kk + (1 : Int32))), (.ref c4), (.int (2 : Int32))])) rfl rfl (hb hby d5_77)) ?_
    show ownEnds _ _ _ _ (T16.setTop (mkF m 78 #[.val (.ref oa), .val (.ref ob), .val (.int xf), .val (.ref oc), .val (.int kk), .val (.int fst), .val (.int ww), .val (.long mm), .second, .val (.long bt), .second, .val (.int (2 : Int32))] [(.int (GE2 w0 w1 w2 w3)), (.int (2 : Int32))]))
    have hc78 : (2 : Int32) < (GE2 w0 w1 w2 w3) := (own_e2 _ _ _ _).1
    refine ownEnds.law (fun t => XS.icmpNo X16.here hx rfl (hb hby d5_78) rfl (tlt hc78).2.1) ?_
    show ownEnds _ _ _ _ (T16.setTop (mkF m 81 #[.val (.ref oa), .val (.ref ob), .val (.int xf), .val (.ref oc), .val (.int kk), .val (.int fst), .val (.int ww), .val (.long mm), .second, .val (.long bt), .second, .val (.int (2 : Int32))] []))
    refine ownEnds.law (fun t k => XS.aloadN X16.here hx rfl (hb hby d5_81) rfl rfl (XS.iload X16.here hx rfl (hb hby d5_82) rfl (XS.lload X16.here hx rfl (hb hby d5_84) rfl (XS.lload X16.here hx rfl (hb hby d5_86) rfl (XS.land X16.here hx rfl (hb hby d5_88) rfl k))))) ?_
    show ownEnds _ _ _ _ (T16.setTop (mkF m 89 #[.val (.ref oa), .val (.ref ob), .val (.int xf), .val (.ref oc), .val (.int kk), .val (.int fst), .val (.int ww), .val (.long mm), .second, .val (.long bt), .second, .val (.int (2 : Int32))] [(.long (bt &&& mm)), (.int (2 : Int32)), (.ref oc)]))
    obtain ⟨cl19, Ar19, q19, S19, N19, H19, G19⟩ := id Vp
    obtain ⟨T19, h19, X19, e19, W19, st19⟩ := stJ X16 hx hZ e16 Ar19 (j := (2 : Int32)) (inb_of S19 ⟨by decide, by decide⟩) (g := (mkF m 89 #[.val (.ref oa), .val (.ref ob), .val (.int xf), .val (.ref oc), .val (.int kk), .val (.int fst), .val (.int ww), .val (.long mm), .second, .val (.long bt), .second, .val (.int (2 : Int32))] [(.long (bt &&& mm)), (.int (2 : Int32)), (.ref oc)])) rfl rfl (hb hby d5_89)
    refine ownEnds.law st19 ?_
    have V19 : Arv Z h19 oc kc .long (5 : Int32) [(.long (XV (GW (0 : Int32) s0 s1 s2 s3) (0 : Int32) w0)), (.long (XV (GW (LI1 w0 w1) s0 s1 s2 s3) (LS1 w0 w1) w1)), (.long (bt &&& mm)), (.long (-7 : Int64)), (.long (-7 : Int64))] (.long (0 : Int64)) := Arv.set Ar19 q19 S19 N19 H19 G19 rfl W19 2 rfl (Nat.le_of_ble_eq_true rfl)
    have N19 := Fr.snoc X19 N14 g_oc
    have KK19 : Keep h0 h19 [oc] := (Kp).wr W19 (Or.inl (List.mem_of_getElem? (i := 0) rfl))
    have Z19 : n0 ≤ h19.size := by rw [W19.size]; exact (Nat.le_trans Z0 Kp.1)
    show ownEnds _ _ _ _ (T19.setTop (mkF m 90 #[.val (.ref oa), .val (.ref ob), .val (.int xf), .val (.ref oc), .val (.int kk), .val (.int fst), .val (.int ww), .val (.long mm), .second, .val (.long bt), .second, .val (.int (2 : Int32))] []))
    refine ownEnds.law (fun t k => XS.lload X19.here hx rfl (hb hby d5_90) rfl (XS.iload X19.here hx rfl (hb hby d5_92) rfl (XS.lushr X19.here hx rfl (hb hby d5_94) rfl k))) ?_
    show ownEnds _ _ _ _ (T19.setTop (mkF m 95 #[.val (.ref oa), .val (.ref ob), .val (.int xf), .val (.ref oc), .val (.int kk), .val (.int fst), .val (.int ww), .val (.long mm), .second, .val (.long bt), .second, .val (.int (2 : Int32))] [(.long ((bt.toUInt64 >>> (ww &&& 0x3f).toInt64.toUInt64).toInt64))]))
    obtain ⟨bu20, e_bu20⟩ : ∃ z : Int64, z = ((bt.toUInt64 >>> (ww &&& 0x3f).toInt64.toUInt64).toInt64) := ⟨_, rfl⟩
    rw [← e_bu20]
    show ownEnds _ _ _ _ (T19.setTop (mkF m 95 #[.val (.ref oa), .val (.ref ob), .val (.int xf), .val (.ref oc), .val (.int kk), .val (.int fst), .val (.int ww), .val (.long mm), .second, .val (.long bt), .second, .val (.int (2 : Int32))] [(.long bu20)]))
    refine ownEnds.law (fun t k => XS.lstore X19.here hx rfl (hb hby d5_95) rfl (l' := #[.val (.ref oa), .val (.ref ob), .val (.int xf), .val (.ref oc), .val (.int kk), .val (.int fst), .val (.int ww), .val (.long mm), .second, .val (.long bu20), .second, .val (.int (2 : Int32))]) rfl (XS.iinc X19.here hx rfl (hb hby d5_97) rfl (l' := #[.val (.ref oa), .val (.ref ob), .val (.int xf), .val (.ref oc), .val (.int kk), .val (.int fst), .val (.int ww), .val (.long mm), .second, .val (.long bu20), .second, .val (.int (3 : Int32))]) rfl (XS.goto X19.here hx rfl (pc0 := 100) (pc' := 67) rfl (hb hby d5_100) (by decide) (by decide) k))) ?_
    show ownEnds _ _ _ _ (T19.setTop (mkF m 67 #[.val (.ref oa), .val (.ref ob), .val (.int xf), .val (.ref oc), .val (.int kk), .val (.int fst), .val (.int ww), .val (.long mm), .second, .val (.long bu20), .second, .val (.int (3 : Int32))] []))
    have ex2 : (bt &&& mm) = (XV (GW (LI2 w0 w1 w2) s0 s1 s2 s3) (LS2 w0 w1 w2) w2) := by rw [hbt, hmm]; rfl
    have VV3 : Arv Z h19 oc kc .long (5 : Int32) [(.long (XV (GW (0 : Int32) s0 s1 s2 s3) (0 : Int32) w0)), (.long (XV (GW (LI1 w0 w1) s0 s1 s2 s3) (LS1 w0 w1) w1)), (.long (XV (GW (LI2 w0 w1 w2) s0 s1 s2 s3) (LS2 w0 w1 w2) w2)), (.long (-7 : Int64)), (.long (-7 : Int64))] (.long (0 : Int64)) := by have q := V19; rw [ex2] at q; exact q
    by_cases hN3 : N3 w0 w1 w2 w3
    · exact J3 _ _ _ X19 N19 e19 (KK19) _ _ _ _ _ (by rw [hk, GK3, if_pos hN3]) (by rw [hww, hN3.2]) (by rw [hmm, hN3.2]) (by rw [e_bu20, hbt, hww]; exact own_sh3 hN3 hr0 hr1 hr2 hr3) VV3
    · have hkn : kk + 1 = (GK3 w0 w1 w2 w3) := by rw [hk, GK3, if_neg hN3]
      show ownEnds _ _ _ _ (T19.setTop (mkF m 67 #[.val (.ref oa), .val (.ref ob), .val (.int xf), .val (.ref oc), .val (.int kk), .val (.int fst), .val (.int ww), .val (.long mm), .second, .val (.long bu20), .second, .val (.int (3 : Int32))] []))
      refine ownEnds.law (fun t k => XS.iload X19.here hx rfl (hb hby d5_67) rfl (XS.aloadN X19.here hx rfl (hb hby d5_69) rfl rfl k)) ?_
      show ownEnds _ _ _ _ (T19.setTop (mkF m 70 #[.val (.ref oa), .val (.ref ob), .val (.int xf), .val (.ref oc), .val (.int kk), .val (.int fst), .val (.int ww), .val (.long mm), .second, .val (.long bu20), .second, .val (.int (3 : Int32))] [(.ref oa), (.int (3 : Int32))]))
      have f21 := (Fld.other W19 f15 (Or.inl ne_oa_oc))
      obtain ⟨T22, X22, e22, st22⟩ := getF X19 hx hZ hown (host := "") (Or.inl (wd_41 hw)) Via.refl e19 f21 (g := (mkF m 70 #[.val (.ref oa), .val (.ref ob), .val (.int xf), .val (.ref oc), .val (.int kk), .val (.int fst), .val (.int ww), .val (.long mm), .second, .val (.long bu20), .second, .val (.int (3 : Int32))] [(.ref oa), (.int (3 : Int32))])) rfl rfl (hb hby d5_70)
      refine ownEnds.law st22 ?_
      show ownEnds _ _ _ _ (T22.setTop (mkF m 73 #[.val (.ref oa), .val (.ref ob), .val (.int xf), .val (.ref oc), .val (.int kk), .val (.int fst), .val (.int ww), .val (.long mm), .second, .val (.long bu20), .second, .val (.int (3 : Int32))] [(.ref c4), (.int (3 : Int32))]))
      refine ownEnds.law (fun t k => XS.iload X22.here hx rfl (hb hby d5_73) rfl (XS.iconst X22.here hx rfl (hb hby d5_75) (XS.iadd X22.here hx rfl (hb hby d5_76) rfl k))) ?_
      show ownEnds _ _ _ _ (T22.setTop (mkF m 77 #[.val (.ref oa), .val (.ref ob), .val (.int xf), .val (.ref oc), .val (.int kk), .val (.int fst), .val (.int ww), .val (.long mm), .second, .val (.long bu20), .second, .val (.int (3 : Int32))] [(.int (kk + (1 : Int32))), (.ref c4), (.int (3 : Int32))]))
      have f24 := (Arv.other f18 W19 ne_c4_oc)
      obtain ⟨cl23, Ar23, q23, S23, N23, H23, G23⟩ := id f24
      have hi23 := inb_of (j := (kk + (1 : Int32))) S23 (by rw [hk]; exact ⟨B2.2.2.1, B2.2.2.2.1⟩)
      have hv23 : cl23.slots[((kk + (1 : Int32))).toNatClampNeg]? = some (.int (GE2 w0 w1 w2 w3)) := H23.at hi23 (by rw [hk]; exact Q2)
      refine ownEnds.law (X22.iaload hx (j := (kk + (1 : Int32))) (v := (.int (GE2 w0 w1 w2 w3))) (by rw [e22]; exact Ar23.1) (State.isArrayOf_alike hZ.alike Ar23.2.1) Ar23.2.2 hi23 hv23 (g := (mkF m 77 #[.val (.ref oa), .val (.ref ob), .val (.int xf), .val (.ref oc), .val (.int kk), .val (.int fst), .val (.int ww), .val (.long mm), .second, .val (.long bu20), .second, .val (.int (3 : Int32))] [(.int (kk + (1 : Int32))), (.ref c4), (.int (3 : Int32))])) rfl rfl (hb hby d5_77)) ?_
      show ownEnds _ _ _ _ (T22.setTop (mkF m 78 #[.val (.ref oa), .val (.ref ob), .val (.int xf), .val (.ref oc), .val (.int kk), .val (.int fst), .val (.int ww), .val (.long mm), .second, .val (.long bu20), .second, .val (.int (3 : Int32))] [(.int (GE2 w0 w1 w2 w3)), (.int (3 : Int32))]))
      have hc78 : ¬ ((3 : Int32) < (GE2 w0 w1 w2 w3)) := by rw [GE2, if_neg hN3]; decide
      refine ownEnds.law (fun t => XS.icmpYes X22.here hx rfl (pc0 := 78) (pc' := 103) rfl (hb hby d5_78) rfl (flt hc78).2.1 (by decide) (by decide)) ?_
      show ownEnds _ _ _ _ (T22.setTop (mkF m 103 #[.val (.ref oa), .val (.ref ob), .val (.int xf), .val (.ref oc), .val (.int kk), .val (.int fst), .val (.int ww), .val (.long mm), .second, .val (.long bu20), .second, .val (.int (3 : Int32))] []))
      refine ownEnds.law (fun t k => XS.iinc X22.here hx rfl (hb hby d5_103) rfl (l' := #[.val (.ref oa), .val (.ref ob), .val (.int xf), .val (.ref oc), .val (.int (kk + (1 : Int32))), .val (.int fst), .val (.int ww), .val (.long mm), .second, .val (.long bu20), .second, .val (.int (3 : Int32))]) rfl (XS.goto X22.here hx rfl (pc0 := 106) (pc' := 3) rfl (hb hby d5_106) (by decide) (by decide) (XS.iload X22.here hx rfl (hb hby d5_3) rfl (XS.aloadN X22.here hx rfl (hb hby d5_5) rfl rfl k)))) ?_
      show ownEnds _ _ _ _ (T22.setTop (mkF m 6 #[.val (.ref oa), .val (.ref ob), .val (.int xf), .val (.ref oc), .val (.int (kk + (1 : Int32))), .val (.int fst), .val (.int ww), .val (.long mm), .second, .val (.long bu20), .second, .val (.int (3 : Int32))] [(.ref oa), (.int (kk + (1 : Int32)))]))
      obtain ⟨T25, X25, e25, st25⟩ := getF X22 hx hZ hown (host := "") (Or.inl (wd_41 hw)) Via.refl e22 f21 (g := (mkF m 6 #[.val (.ref oa), .val (.ref ob), .val (.int xf), .val (.ref oc), .val (.int (kk + (1 : Int32))), .val (.int fst), .val (.int ww), .val (.long mm), .second, .val (.long bu20), .second, .val (.int (3 : Int32))] [(.ref oa), (.int (kk + (1 : Int32)))])) rfl rfl (hb hby d5_6)
      refine ownEnds.law st25 ?_
      show ownEnds _ _ _ _ (T25.setTop (mkF m 9 #[.val (.ref oa), .val (.ref ob), .val (.int xf), .val (.ref oc), .val (.int (kk + (1 : Int32))), .val (.int fst), .val (.int ww), .val (.long mm), .second, .val (.long bu20), .second, .val (.int (3 : Int32))] [(.ref c4), (.int (kk + (1 : Int32)))]))
      obtain ⟨cl26, Ar26, -, S26, N26, -, -⟩ := id f24
      refine ownEnds.law (X25.arraylength hx (by rw [e25]; exact Ar26.1) (State.isArrayOf_alike hZ.alike Ar26.2.1) (g := (mkF m 9 #[.val (.ref oa), .val (.ref ob), .val (.int xf), .val (.ref oc), .val (.int (kk + (1 : Int32))), .val (.int fst), .val (.int ww), .val (.long mm), .second, .val (.long bu20), .second, .val (.int (3 : Int32))] [(.ref c4), (.int (kk + (1 : Int32)))])) rfl rfl (hb hby d5_9)) ?_
      rw [len_of S26 N26]
      show ownEnds _ _ _ _ (T25.setTop (mkF m 10 #[.val (.ref oa), .val (.ref ob), .val (.int xf), .val (.ref oc), .val (.int (kk + (1 : Int32))), .val (.int fst), .val (.int ww), .val (.long mm), .second, .val (.long bu20), .second, .val (.int (3 : Int32))] [(.int len), (.int (kk + (1 : Int32)))]))
      refine ownEnds.law (fun t k => XS.iconst X25.here hx rfl (hb hby d5_10) (XS.isub X25.here hx rfl (hb hby d5_11) rfl k)) ?_
      show ownEnds _ _ _ _ (T25.setTop (mkF m 12 #[.val (.ref oa), .val (.ref ob), .val (.int xf), .val (.ref oc), .val (.int (kk + (1 : Int32))), .val (.int fst), .val (.int ww), .val (.long mm), .second, .val (.long bu20), .second, .val (.int (3 : Int32))] [(.int (len - (1 : Int32))), (.int (kk + (1 : Int32)))]))
      have hc12 : (kk + (1 : Int32)) < (len - (1 : Int32)) := by rw [hkn]; exact B3.2.2.2.2
      refine ownEnds.law (fun t => XS.icmpNo X25.here hx rfl (hb hby d5_12) rfl (tlt hc12).2.1) ?_
      show ownEnds _ _ _ _ (T25.setTop (mkF m 15 #[.val (.ref oa), .val (.ref ob), .val (.int xf), .val (.ref oc), .val (.int (kk + (1 : Int32))), .val (.int fst), .val (.int ww), .val (.long mm), .second, .val (.long bu20), .second, .val (.int (3 : Int32))] []))
      refine ownEnds.law (fun t k => XS.aloadN X25.here hx rfl (hb hby d5_15) rfl rfl k) ?_
      show ownEnds _ _ _ _ (T25.setTop (mkF m 16 #[.val (.ref oa), .val (.ref ob), .val (.int xf), .val (.ref oc), .val (.int (kk + (1 : Int32))), .val (.int fst), .val (.int ww), .val (.long mm), .second, .val (.long bu20), .second, .val (.int (3 : Int32))] [(.ref oa)]))
      obtain ⟨T27, X27, e27, st27⟩ := getF X25 hx hZ hown (host := "") (Or.inl (wd_41 hw)) Via.refl e25 f21 (g := (mkF m 16 #[.val (.ref oa), .val (.ref ob), .val (.int xf), .val (.ref oc), .val (.int (kk + (1 : Int32))), .val (.int fst), .val (.int ww), .val (.long mm), .second, .val (.long bu20), .second, .val (.int (3 : Int32))] [(.ref oa)])) rfl rfl (hb hby d5_16)
      refine ownEnds.law st27 ?_
      show ownEnds _ _ _ _ (T27.setTop (mkF m 19 #[.val (.ref oa), .val (.ref ob), .val (.int xf), .val (.ref oc), .val (.int (kk + (1 : Int32))), .val (.int fst), .val (.int ww), .val (.long mm), .second, .val (.long bu20), .second, .val (.int (3 : Int32))] [(.ref c4)]))
      refine ownEnds.law (fun t k => XS.iload X27.here hx rfl (hb hby d5_19) rfl k) ?_
      show ownEnds _ _ _ _ (T27.setTop (mkF m 21 #[.val (.ref oa), .val (.ref ob), .val (.int xf), .val (.ref oc), .val (.int (kk + (1 : Int32))), .val (.int fst), .val (.int ww), .val (.long mm), .second, .val (.long bu20), .second, .val (.int (3 : Int32))] [(.int (kk + (1 : Int32))), (.ref c4)]))
      obtain ⟨cl28, Ar28, q28, S28, N28, H28, G28⟩ := id f24
      have hi28 := inb_of (j := (kk + (1 : Int32))) S28 (by rw [hkn]; exact ⟨B3.1, B3.2.1⟩)
      have hv28 : cl28.slots[((kk + (1 : Int32))).toNatClampNeg]? = some (.int (3 : Int32)) := H28.at hi28 (by rw [hkn]; exact R3 hN3)
      refine ownEnds.law (X27.iaload hx (j := (kk + (1 : Int32))) (v := (.int (3 : Int32))) (by rw [e27]; exact Ar28.1) (State.isArrayOf_alike hZ.alike Ar28.2.1) Ar28.2.2 hi28 hv28 (g := (mkF m 21 #[.val (.ref oa), .val (.ref ob), .val (.int xf), .val (.ref oc), .val (.int (kk + (1 : Int32))), .val (.int fst), .val (.int ww), .val (.long mm), .second, .val (.long bu20), .second, .val (.int (3 : Int32))] [(.int (kk + (1 : Int32))), (.ref c4)])) rfl rfl (hb hby d5_21)) ?_
      show ownEnds _ _ _ _ (T27.setTop (mkF m 22 #[.val (.ref oa), .val (.ref ob), .val (.int xf), .val (.ref oc), .val (.int (kk + (1 : Int32))), .val (.int fst), .val (.int ww), .val (.long mm), .second, .val (.long bu20), .second, .val (.int (3 : Int32))] [(.int (3 : Int32))]))
      refine ownEnds.law (fun t k => XS.istore X27.here hx rfl (hb hby d5_22) rfl (l' := #[.val (.ref oa), .val (.ref ob), .val (.int xf), .val (.ref oc), .val (.int (kk + (1 : Int32))), .val (.int (3 : Int32)), .val (.int ww), .val (.long mm), .second, .val (.long bu20), .second, .val (.int (3 : Int32))]) rfl (XS.aloadN X27.here hx rfl (hb hby d5_24) rfl rfl k)) ?_
      show ownEnds _ _ _ _ (T27.setTop (mkF m 25 #[.val (.ref oa), .val (.ref ob), .val (.int xf), .val (.ref oc), .val (.int (kk + (1 : Int32))), .val (.int (3 : Int32)), .val (.int ww), .val (.long mm), .second, .val (.long bu20), .second, .val (.int (3 : Int32))] [(.ref oa)]))
      have f29 := (Fld.other W19 (Fld.keep F0 Kp (ninS ne_oa_oc nin0)) (Or.inl ne_oa_oc))
      obtain ⟨T30, X30, e30, st30⟩ := getF X27 hx hZ hown (host := "") (Or.inl (wd_23 hw)) Via.refl e27 f29 (g := (mkF m 25 #[.val (.ref oa), .val (.ref ob), .val (.int xf), .val (.ref oc), .val (.int (kk + (1 : Int32))), .val (.int (3 : Int32)), .val (.int ww), .val (.long mm), .second, .val (.long bu20), .second, .val (.int (3 : Int32))] [(.ref oa)])) rfl rfl (hb hby d5_25)
      refine ownEnds.law st30 ?_
      show ownEnds _ _ _ _ (T30.setTop (mkF m 28 #[.val (.ref oa), .val (.ref ob), .val (.int xf), .val (.ref oc), .val (.int (kk + (1 : Int32))), .val (.int (3 : Int32)), .val (.int ww), .val (.long mm), .second, .val (.long bu20), .second, .val (.int (3 : Int32))] [(.ref c0)]))
      refine ownEnds.law (fun t k => XS.iload X30.here hx rfl (hb hby d5_28) rfl k) ?_
      show ownEnds _ _ _ _ (T30.setTop (mkF m 30 #[.val (.ref oa), .val (.ref ob), .val (.int xf), .val (.ref oc), .val (.int (kk + (1 : Int32))), .val (.int (3 : Int32)), .val (.int ww), .val (.long mm), .second, .val (.long bu20), .second, .val (.int (3 : Int32))] [(.int (3 : Int32)), (.ref c0)]))
      have f32 := (Arv.other (Arv.keep V0 Kp (ninS ne_c0_oc nin0)) W19 ne_c0_oc)
      obtain ⟨cl31, Ar31, q31, S31, N31, H31, G31⟩ := id f32
      have hi31 := inb_of (j := (3 : Int32)) S31 ⟨by decide, by decide⟩
      have hv31 : cl31.slots[((3 : Int32)).toNatClampNeg]? = some (.int w3) := H31.at hi31 rfl
      refine ownEnds.law (fun t k => X30.iaload hx (j := (3 : Int32)) (v := (.int w3)) (by rw [e30]; exact Ar31.1) (State.isArrayOf_alike hZ.alike Ar31.2.1) Ar31.2.2 hi31 hv31 (g := (mkF m 30 #[.val (.ref oa), .val (.ref ob), .val (.int xf), .val (.ref oc), .val (.int (kk + (1 : Int32))), .val (.int (3 : Int32)), .val (.int ww), .val (.long mm), .second, .val (.long bu20), .second, .val (.int (3 : Int32))] [(.int (3 : Int32)), (.ref c0)])) rfl rfl (hb hby d5_30) _ (XS.istore X30.here hx rfl (hb hby d5_31) rfl (l' := #[.val (.ref oa), .val (.ref ob), .val (.int xf), .val (.ref oc), .val (.int (kk + (1 : Int32))), .val (.int (3 : Int32)), .val (.int w3), .val (.long mm), .second, .val (.long bu20), .second, .val (.int (3 : Int32))]) rfl (XS.aloadN X30.here hx rfl (hb hby d5_33) rfl rfl k))) ?_
      show ownEnds _ _ _ _ (T30.setTop (mkF m 34 #[.val (.ref oa), .val (.ref ob), .val (.int xf), .val (.ref oc), .val (.int (kk + (1 : Int32))), .val (.int (3 : Int32)), .val (.int w3), .val (.long mm), .second, .val (.long bu20), .second, .val (.int (3 : Int32))] [(.ref oa)]))
      have f33 := (Fld.other W19 (Fld.keep F3 Kp (ninS ne_oa_oc nin0)) (Or.inl ne_oa_oc))
      obtain ⟨T34, X34, e34, st34⟩ := getF X30 hx hZ hown (host := "") (Or.inl (wd_30 hw)) Via.refl e30 f33 (g := (mkF m 34 #[.val (.ref oa), .val (.ref ob), .val (.int xf), .val (.ref oc), .val (.int (kk + (1 : Int32))), .val (.int (3 : Int32)), .val (.int w3), .val (.long mm), .second, .val (.long bu20), .second, .val (.int (3 : Int32))] [(.ref oa)])) rfl rfl (hb hby d5_34)
      refine ownEnds.law st34 ?_
      show ownEnds _ _ _ _ (T34.setTop (mkF m 37 #[.val (.ref oa), .val (.ref ob), .val (.int xf), .val (.ref oc), .val (.int (kk + (1 : Int32))), .val (.int (3 : Int32)), .val (.int w3), .val (.long mm), .second, .val (.long bu20), .second, .val (.int (3 : Int32))] [(.ref c3)]))
      refine ownEnds.law (fun t k => XS.iload X34.here hx rfl (hb hby d5_37) rfl k) ?_
      show ownEnds _ _ _ _ (T34.setTop (mkF m 39 #[.val (.ref oa), .val (.ref ob), .val (.int xf), .val (.ref oc), .val (.int (kk + (1 : Int32))), .val (.int (3 : Int32)), .val (.int w3), .val (.long mm), .second, .val (.long bu20), .second, .val (.int (3 : Int32))] [(.int (3 : Int32)), (.ref c3)]))
      have f36 := (Arv.other (Arv.keep V3 Kp (ninS ne_c3_oc nin0)) W19 ne_c3_oc)
      obtain ⟨cl35, Ar35, q35, S35, N35, H35, G35⟩ := id f36
      have hi35 := inb_of (j := (3 : Int32)) S35 ⟨by decide, by decide⟩
      have hv35 : cl35.slots[((3 : Int32)).toNatClampNeg]? = some (.long (LM w3)) := H35.at hi35 rfl
      refine ownEnds.law (fun t k => X34.laload hx (j := (3 : Int32)) (v := (.long (LM w3))) (by rw [e34]; exact Ar35.1) (State.isArrayOf_alike hZ.alike Ar35.2.1) Ar35.2.2 hi35 hv35 (g := (mkF m 39 #[.val (.ref oa), .val (.ref ob), .val (.int xf), .val (.ref oc), .val (.int (kk + (1 : Int32))), .val (.int (3 : Int32)), .val (.int w3), .val (.long mm), .second, .val (.long bu20), .second, .val (.int (3 : Int32))] [(.int (3 : Int32)), (.ref c3)])) rfl rfl (hb hby d5_39) _ (XS.lstore X34.here hx rfl (hb hby d5_40) rfl (l' := #[.val (.ref oa), .val (.ref ob), .val (.int xf), .val (.ref oc), .val (.int (kk + (1 : Int32))), .val (.int (3 : Int32)), .val (.int w3), .val (.long (LM w3)), .second, .val (.long bu20), .second, .val (.int (3 : Int32))]) rfl (XS.aloadN X34.here hx rfl (hb hby d5_42) rfl rfl (XS.iloadN X34.here hx rfl (hb hby d5_43) rfl (XS.aloadN X34.here hx rfl (hb hby d5_44) rfl rfl k))))) ?_
      show ownEnds _ _ _ _ (T34.setTop (mkF m 45 #[.val (.ref oa), .val (.ref ob), .val (.int xf), .val (.ref oc), .val (.int (kk + (1 : Int32))), .val (.int (3 : Int32)), .val (.int w3), .val (.long (LM w3)), .second, .val (.long bu20), .second, .val (.int (3 : Int32))] [(.ref oa), (.int xf), (.ref ob)]))
      have f37 := (Fld.other W19 (Fld.keep F1 Kp (ninS ne_oa_oc nin0)) (Or.inl ne_oa_oc))
      obtain ⟨T38, X38, e38, st38⟩ := getF X34 hx hZ hown (host := "") (Or.inl (wd_25 hw)) Via.refl e34 f37 (g := (mkF m 45 #[.val (.ref oa), .val (.ref ob), .val (.int xf), .val (.ref oc), .val (.int (kk + (1 : Int32))), .val (.int (3 : Int32)), .val (.int w3), .val (.long (LM w3)), .second, .val (.long bu20), .second, .val (.int (3 : Int32))] [(.ref oa), (.int xf), (.ref ob)])) rfl rfl (hb hby d5_45)
      refine ownEnds.law st38 ?_
      show ownEnds _ _ _ _ (T38.setTop (mkF m 48 #[.val (.ref oa), .val (.ref ob), .val (.int xf), .val (.ref oc), .val (.int (kk + (1 : Int32))), .val (.int (3 : Int32)), .val (.int w3), .val (.long (LM w3)), .second, .val (.long bu20), .second, .val (.int (3 : Int32))] [(.ref c1), (.int xf), (.ref ob)]))
      refine ownEnds.law (fun t k => XS.iload X38.here hx rfl (hb hby d5_48) rfl k) ?_
      show ownEnds _ _ _ _ (T38.setTop (mkF m 50 #[.val (.ref oa), .val (.ref ob), .val (.int xf), .val (.ref oc), .val (.int (kk + (1 : Int32))), .val (.int (3 : Int32)), .val (.int w3), .val (.long (LM w3)), .second, .val (.long bu20), .second, .val (.int (3 : Int32))] [(.int (3 : Int32)), (.ref c1), (.int xf), (.ref ob)]))
      have f40 := (Arv.other (Arv.keep V1 Kp (ninS ne_c1_oc nin0)) W19 ne_c1_oc)
      obtain ⟨cl39, Ar39, q39, S39, N39, H39, G39⟩ := id f40
      have hi39 := inb_of (j := (3 : Int32)) S39 ⟨by decide, by decide⟩
      have hv39 : cl39.slots[((3 : Int32)).toNatClampNeg]? = some (.int (LI3 w0 w1 w2 w3)) := H39.at hi39 rfl
      refine ownEnds.law (fun t k => X38.iaload hx (j := (3 : Int32)) (v := (.int (LI3 w0 w1 w2 w3))) (by rw [e38]; exact Ar39.1) (State.isArrayOf_alike hZ.alike Ar39.2.1) Ar39.2.2 hi39 hv39 (g := (mkF m 50 #[.val (.ref oa), .val (.ref ob), .val (.int xf), .val (.ref oc), .val (.int (kk + (1 : Int32))), .val (.int (3 : Int32)), .val (.int w3), .val (.long (LM w3)), .second, .val (.long bu20), .second, .val (.int (3 : Int32))] [(.int (3 : Int32)), (.ref c1), (.int xf), (.ref ob)])) rfl rfl (hb hby d5_50) _ (XS.iadd X38.here hx rfl (hb hby d5_51) rfl k)) ?_
      show ownEnds _ _ _ _ (T38.setTop (mkF m 52 #[.val (.ref oa), .val (.ref ob), .val (.int xf), .val (.ref oc), .val (.int (kk + (1 : Int32))), .val (.int (3 : Int32)), .val (.int w3), .val (.long (LM w3)), .second, .val (.long bu20), .second, .val (.int (3 : Int32))] [(.int (xf + (LI3 w0 w1 w2 w3))), (.ref ob)]))
      have f42 := (Arv.other (Arv.keep Vb Kp (ninS ne_ob_oc nin0)) W19 ne_ob_oc)
      obtain ⟨cl41, Ar41, q41, S41, N41, H41, G41⟩ := id f42
      have hi41 := inb_of (j := (xf + (LI3 w0 w1 w2 w3))) S41 ((hS _ (own_r3 _ _ _ _)).1)
      have hv41 : cl41.slots[((xf + (LI3 w0 w1 w2 w3))).toNatClampNeg]? = some (.long (GW (LI3 w0 w1 w2 w3) s0 s1 s2 s3)) := H41.at hi41 ((hS _ (own_r3 _ _ _ _)).2)
      refine ownEnds.law (X38.laload hx (j := (xf + (LI3 w0 w1 w2 w3))) (v := (.long (GW (LI3 w0 w1 w2 w3) s0 s1 s2 s3))) (by rw [e38]; exact Ar41.1) (State.isArrayOf_alike hZ.alike Ar41.2.1) Ar41.2.2 hi41 hv41 (g := (mkF m 52 #[.val (.ref oa), .val (.ref ob), .val (.int xf), .val (.ref oc), .val (.int (kk + (1 : Int32))), .val (.int (3 : Int32)), .val (.int w3), .val (.long (LM w3)), .second, .val (.long bu20), .second, .val (.int (3 : Int32))] [(.int (xf + (LI3 w0 w1 w2 w3))), (.ref ob)])) rfl rfl (hb hby d5_52)) ?_
      show ownEnds _ _ _ _ (T38.setTop (mkF m 53 #[.val (.ref oa), .val (.ref ob), .val (.int xf), .val (.ref oc), .val (.int (kk + (1 : Int32))), .val (.int (3 : Int32)), .val (.int w3), .val (.long (LM w3)), .second, .val (.long bu20), .second, .val (.int (3 : Int32))] [(.long (GW (LI3 w0 w1 w2 w3) s0 s1 s2 s3))]))
      refine ownEnds.law (fun t k => XS.aloadN X38.here hx rfl (hb hby d5_53) rfl rfl k) ?_
      show ownEnds _ _ _ _ (T38.setTop (mkF m 54 #[.val (.ref oa), .val (.ref ob), .val (.int xf), .val (.ref oc), .val (.int (kk + (1 : Int32))), .val (.int (3 : Int32)), .val (.int w3), .val (.long (LM w3)), .second, .val (.long bu20), .second, .val (.int (3 : Int32))] [(.ref oa), (.long (GW (LI3 w0 w1 w2 w3) s0 s1 s2 s3))]))
      have f43 := (Fld.other W19 (Fld.keep F2 Kp (ninS ne_oa_oc nin0)) (Or.inl ne_oa_oc))
      obtain ⟨T44, X44, e44, st44⟩ := getF X38 hx hZ hown (host := "") (Or.inl (wd_27 hw)) Via.refl e38 f43 (g := (mkF m 54 #[.val (.ref oa), .val (.ref ob), .val (.int xf), .val (.ref oc), .val (.int (kk + (1 : Int32))), .val (.int (3 : Int32)), .val (.int w3), .val (.long (LM w3)), .second, .val (.long bu20), .second, .val (.int (3 : Int32))] [(.ref oa), (.long (GW (LI3 w0 w1 w2 w3) s0 s1 s2 s3))])) rfl rfl (hb hby d5_54)
      refine ownEnds.law st44 ?_
      show ownEnds _ _ _ _ (T44.setTop (mkF m 57 #[.val (.ref oa), .val (.ref ob), .val (.int xf), .val (.ref oc), .val (.int (kk + (1 : Int32))), .val (.int (3 : Int32)), .val (.int w3), .val (.long (LM w3)), .second, .val (.long bu20), .second, .val (.int (3 : Int32))] [(.ref c2), (.long (GW (LI3 w0 w1 w2 w3) s0 s1 s2 s3))]))
      refine ownEnds.law (fun t k => XS.iload X44.here hx rfl (hb hby d5_57) rfl k) ?_
      show ownEnds _ _ _ _ (T44.setTop (mkF m 59 #[.val (.ref oa), .val (.ref ob), .val (.int xf), .val (.ref oc), .val (.int (kk + (1 : Int32))), .val (.int (3 : Int32)), .val (.int w3), .val (.long (LM w3)), .second, .val (.long bu20), .second, .val (.int (3 : Int32))] [(.int (3 : Int32)), (.ref c2), (.long (GW (LI3 w0 w1 w2 w3) s0 s1 s2 s3))]))
      have f46 := (Arv.other (Arv.keep V2 Kp (ninS ne_c2_oc nin0)) W19 ne_c2_oc)
      obtain ⟨cl45, Ar45, q45, S45, N45, H45, G45⟩ := id f46
      have hi45 := inb_of (j := (3 : Int32)) S45 ⟨by decide, by decide⟩
      have hv45 : cl45.slots[((3 : Int32)).toNatClampNeg]? = some (.int (LS3 w0 w1 w2 w3)) := H45.at hi45 rfl
      refine ownEnds.law (fun t k => X44.iaload hx (j := (3 : Int32)) (v := (.int (LS3 w0 w1 w2 w3))) (by rw [e44]; exact Ar45.1) (State.isArrayOf_alike hZ.alike Ar45.2.1) Ar45.2.2 hi45 hv45 (g := (mkF m 59 #[.val (.ref oa), .val (.ref ob), .val (.int xf), .val (.ref oc), .val (.int (kk + (1 : Int32))), .val (.int (3 : Int32)), .val (.int w3), .val (.long (LM w3)), .second, .val (.long bu20), .second, .val (.int (3 : Int32))] [(.int (3 : Int32)), (.ref c2), (.long (GW (LI3 w0 w1 w2 w3) s0 s1 s2 s3))])) rfl rfl (hb hby d5_59) _ (XS.lushr X44.here hx rfl (hb hby d5_60) rfl k)) ?_
      show ownEnds _ _ _ _ (T44.setTop (mkF m 61 #[.val (.ref oa), .val (.ref ob), .val (.int xf), .val (.ref oc), .val (.int (kk + (1 : Int32))), .val (.int (3 : Int32)), .val (.int w3), .val (.long (LM w3)), .second, .val (.long bu20), .second, .val (.int (3 : Int32))] [(.long (((GW (LI3 w0 w1 w2 w3) s0 s1 s2 s3).toUInt64 >>> ((LS3 w0 w1 w2 w3) &&& 0x3f).toInt64.toUInt64).toInt64))]))
      obtain ⟨bt47, e_bt47⟩ : ∃ z : Int64, z = (((GW (LI3 w0 w1 w2 w3) s0 s1 s2 s3).toUInt64 >>> ((LS3 w0 w1 w2 w3) &&& 0x3f).toInt64.toUInt64).toInt64) := ⟨_, rfl⟩
      rw [← e_bt47]
      show ownEnds _ _ _ _ (T44.setTop (mkF m 61 #[.val (.ref oa), .val (.ref ob), .val (.int xf), .val (.ref oc), .val (.int (kk + (1 : Int32))), .val (.int (3 : Int32)), .val (.int w3), .val (.long (LM w3)), .second, .val (.long bu20), .second, .val (.int (3 : Int32))] [(.long bt47)]))
      refine ownEnds.law (fun t k => XS.lstore X44.here hx rfl (hb hby d5_61) rfl (l' := #[.val (.ref oa), .val (.ref ob), .val (.int xf), .val (.ref oc), .val (.int (kk + (1 : Int32))), .val (.int (3 : Int32)), .val (.int w3), .val (.long (LM w3)), .second, .val (.long bt47), .second, .val (.int (3 : Int32))]) rfl (XS.iload X44.here hx rfl (hb hby d5_63) rfl (XS.istore X44.here hx rfl (hb hby d5_65) rfl (l' := #[.val (.ref oa), .val (.ref ob), .val (.int xf), .val (.ref oc), .val (.int (kk + (1 : Int32))), .val (.int (3 : Int32)), .val (.int w3), .val (.long (LM w3)), .second, .val (.long bt47), .second, .val (.int (3 : Int32))]) rfl k))) ?_
      show ownEnds _ _ _ _ (T44.setTop (mkF m 67 #[.val (.ref oa), .val (.ref ob), .val (.int xf), .val (.ref oc), .val (.int (kk + (1 : Int32))), .val (.int (3 : Int32)), .val (.int w3), .val (.long (LM w3)), .second, .val (.long bt47), .second, .val (.int (3 : Int32))] []))
      exact J3 _ _ _ X44 N19 e44 (KK19) _ _ _ _ _ hkn rfl rfl (by rw [e_bt47]; rfl) VV3
  have J1 : ∀ (T48 : State) (lc48 : List Loc) (hp : Heap) (X48 : Stand p l e ({ frames := 0, cells := 0, slots := 0, locals := 0 } : Room) s m #[(.ref oa), (.ref ob), (.int xf), (.ref oc)] below meth c T48 lc48 0 0) (N48 : Fr n0 lc48) (e48 : T48.heap = hp) (Kp : Keep h0 hp [oc]) (kk fst ww : Int32) (mm bt : Int64) (hk : kk = (GK1 w0 w1)) (hww : ww = w1) (hmm : mm = (LM w1)) (hbt : bt = (SR (GW (LI1 w0 w1) s0 s1 s2 s3) (LS1 w0 w1))) (Vp : Arv Z hp oc kc .long (5 : Int32) [(.long (XV (GW (0 : Int32) s0 s1 s2 s3) (0 : Int32) w0)), (.long (-7 : Int64)), (.long (-7 : Int64)), (.long (-7 : Int64)), (.long (-7 : Int64))] (.long (0 : Int64))), ownEnds p.tables e below (ownPost s (fun v h L => v = none ∧ Fr n0 L ∧ Keep h0 h [oc] ∧ Arv Z h oc kc .long (5 : Int32) [(.long (XV (GW (0 : Int32) s0 s1 s2 s3) (0 : Int32) w0)), (.long (XV (GW (LI1 w0 w1) s0 s1 s2 s3) (LS1 w0 w1) w1)), (.long (XV (GW (LI2 w0 w1 w2) s0 s1 s2 s3) (LS2 w0 w1 w2) w2)), (.long (XV (GW (LI3 w0 w1 w2 w3) s0 s1 s2 s3) (LS3 w0 w1 w2 w3) w3)), (.long (-7 : Int64))] (.long (0 : Int64))) ({ frames := 0, cells := 0, slots := 0, locals := 0 } : Room).cells ({ frames := 0, cells := 0, slots := 0, locals := 0 } : Room).slots) (T48.setTop (mkF m 67 #[.val (.ref oa), .val (.ref ob), .val (.int xf), .val (.ref oc), .val (.int kk), .val (.int fst), .val (.int ww), .val (.long mm), .second, .val (.long bt), .second, .val (.int (1 : Int32))] [])) := by
    intro T48 lc48 hp X48 N48 e48 Kp kk fst ww mm bt hk hww hmm hbt Vp
    show ownEnds _ _ _ _ (T48.setTop (mkF m 67 #[.val (.ref oa), .val (.ref ob), .val (.int xf), .val (.ref oc), .val (.int kk), .val (.int fst), .val (.int ww), .val (.long mm), .second, .val (.long bt), .second, .val (.int (1 : Int32))] []))
    refine ownEnds.law (fun t k => XS.iload X48.here hx rfl (hb hby d5_67) rfl (XS.aloadN X48.here hx rfl (hb hby d5_69) rfl rfl k)) ?_
    show ownEnds _ _ _ _ (T48.setTop (mkF m 70 #[.val (.ref oa), .val (.ref ob), .val (.int xf), .val (.ref oc), .val (.int kk), .val (.int fst), .val (.int ww), .val (.long mm), .second, .val (.long bt), .second, .val (.int (1 : Int32))] [(.ref oa), (.int (1 : Int32))]))
    have f49 := (Fld.keep F4 Kp (ninS ne_oa_oc nin0))
    obtain ⟨T50, X50, e50, st50⟩ := getF X48 hx hZ hown (host := "") (Or.inl (wd_41 hw)) Via.refl e48 f49 (g := (mkF m 70 #[.val (.ref oa), .val (.ref ob), .val (.int xf), .val (.ref oc), .val (.int kk), .val (.int fst), .val (.int ww), .val (.long mm), .second, .val (.long bt), .second, .val (.int (1 : Int32))] [(.ref oa), (.int (1 : Int32))])) rfl rfl (hb hby d5_70)
    refine ownEnds.law st50 ?_
    show ownEnds _ _ _ _ (T50.setTop (mkF m 73 #[.val (.ref oa), .val (.ref ob), .val (.int xf), .val (.ref oc), .val (.int kk), .val (.int fst), .val (.int ww), .val (.long mm), .second, .val (.long bt), .second, .val (.int (1 : Int32))] [(.ref c4), (.int (1 : Int32))]))
    refine ownEnds.law (fun t k => XS.iload X50.here hx rfl (hb hby d5_73) rfl (XS.iconst X50.here hx rfl (hb hby d5_75) (XS.iadd X50.here hx rfl (hb hby d5_76) rfl k))) ?_
    show ownEnds _ _ _ _ (T50.setTop (mkF m 77 #[.val (.ref oa), .val (.ref ob), .val (.int xf), .val (.ref oc), .val (.int kk), .val (.int fst), .val (.int ww), .val (.long mm), .second, .val (.long bt), .second, .val (.int (1 : Int32))] [(.int (kk + (1 : Int32))), (.ref c4), (.int (1 : Int32))]))
    have f52 := (Arv.keep V4 Kp (ninS ne_c4_oc nin0))
    obtain ⟨cl51, Ar51, q51, S51, N51, H51, G51⟩ := id f52
    have hi51 := inb_of (j := (kk + (1 : Int32))) S51 (by rw [hk]; exact ⟨B1.2.2.1, B1.2.2.2.1⟩)
    have hv51 : cl51.slots[((kk + (1 : Int32))).toNatClampNeg]? = some (.int (GE1 w0 w1 w2 w3)) := H51.at hi51 (by rw [hk]; exact Q1)
    refine ownEnds.law (X50.iaload hx (j := (kk + (1 : Int32))) (v := (.int (GE1 w0 w1 w2 w3))) (by rw [e50]; exact Ar51.1) (State.isArrayOf_alike hZ.alike Ar51.2.1) Ar51.2.2 hi51 hv51 (g := (mkF m 77 #[.val (.ref oa), .val (.ref ob), .val (.int xf), .val (.ref oc), .val (.int kk), .val (.int fst), .val (.int ww), .val (.long mm), .second, .val (.long bt), .second, .val (.int (1 : Int32))] [(.int (kk + (1 : Int32))), (.ref c4), (.int (1 : Int32))])) rfl rfl (hb hby d5_77)) ?_
    show ownEnds _ _ _ _ (T50.setTop (mkF m 78 #[.val (.ref oa), .val (.ref ob), .val (.int xf), .val (.ref oc), .val (.int kk), .val (.int fst), .val (.int ww), .val (.long mm), .second, .val (.long bt), .second, .val (.int (1 : Int32))] [(.int (GE1 w0 w1 w2 w3)), (.int (1 : Int32))]))
    have hc78 : (1 : Int32) < (GE1 w0 w1 w2 w3) := own_e1 _ _ _ _
    refine ownEnds.law (fun t => XS.icmpNo X50.here hx rfl (hb hby d5_78) rfl (tlt hc78).2.1) ?_
    show ownEnds _ _ _ _ (T50.setTop (mkF m 81 #[.val (.ref oa), .val (.ref ob), .val (.int xf), .val (.ref oc), .val (.int kk), .val (.int fst), .val (.int ww), .val (.long mm), .second, .val (.long bt), .second, .val (.int (1 : Int32))] []))
    refine ownEnds.law (fun t k => XS.aloadN X50.here hx rfl (hb hby d5_81) rfl rfl (XS.iload X50.here hx rfl (hb hby d5_82) rfl (XS.lload X50.here hx rfl (hb hby d5_84) rfl (XS.lload X50.here hx rfl (hb hby d5_86) rfl (XS.land X50.here hx rfl (hb hby d5_88) rfl k))))) ?_
    show ownEnds _ _ _ _ (T50.setTop (mkF m 89 #[.val (.ref oa), .val (.ref ob), .val (.int xf), .val (.ref oc), .val (.int kk), .val (.int fst), .val (.int ww), .val (.long mm), .second, .val (.long bt), .second, .val (.int (1 : Int32))] [(.long (bt &&& mm)), (.int (1 : Int32)), (.ref oc)]))
    obtain ⟨cl53, Ar53, q53, S53, N53, H53, G53⟩ := id Vp
    obtain ⟨T53, h53, X53, e53, W53, st53⟩ := stJ X50 hx hZ e50 Ar53 (j := (1 : Int32)) (inb_of S53 ⟨by decide, by decide⟩) (g := (mkF m 89 #[.val (.ref oa), .val (.ref ob), .val (.int xf), .val (.ref oc), .val (.int kk), .val (.int fst), .val (.int ww), .val (.long mm), .second, .val (.long bt), .second, .val (.int (1 : Int32))] [(.long (bt &&& mm)), (.int (1 : Int32)), (.ref oc)])) rfl rfl (hb hby d5_89)
    refine ownEnds.law st53 ?_
    have V53 : Arv Z h53 oc kc .long (5 : Int32) [(.long (XV (GW (0 : Int32) s0 s1 s2 s3) (0 : Int32) w0)), (.long (bt &&& mm)), (.long (-7 : Int64)), (.long (-7 : Int64)), (.long (-7 : Int64))] (.long (0 : Int64)) := Arv.set Ar53 q53 S53 N53 H53 G53 rfl W53 1 rfl (Nat.le_of_ble_eq_true rfl)
    have N53 := Fr.snoc X53 N48 g_oc
    have KK53 : Keep h0 h53 [oc] := (Kp).wr W53 (Or.inl (List.mem_of_getElem? (i := 0) rfl))
    have Z53 : n0 ≤ h53.size := by rw [W53.size]; exact (Nat.le_trans Z0 Kp.1)
    show ownEnds _ _ _ _ (T53.setTop (mkF m 90 #[.val (.ref oa), .val (.ref ob), .val (.int xf), .val (.ref oc), .val (.int kk), .val (.int fst), .val (.int ww), .val (.long mm), .second, .val (.long bt), .second, .val (.int (1 : Int32))] []))
    refine ownEnds.law (fun t k => XS.lload X53.here hx rfl (hb hby d5_90) rfl (XS.iload X53.here hx rfl (hb hby d5_92) rfl (XS.lushr X53.here hx rfl (hb hby d5_94) rfl k))) ?_
    show ownEnds _ _ _ _ (T53.setTop (mkF m 95 #[.val (.ref oa), .val (.ref ob), .val (.int xf), .val (.ref oc), .val (.int kk), .val (.int fst), .val (.int ww), .val (.long mm), .second, .val (.long bt), .second, .val (.int (1 : Int32))] [(.long ((bt.toUInt64 >>> (ww &&& 0x3f).toInt64.toUInt64).toInt64))]))
    obtain ⟨bu54, e_bu54⟩ : ∃ z : Int64, z = ((bt.toUInt64 >>> (ww &&& 0x3f).toInt64.toUInt64).toInt64) := ⟨_, rfl⟩
    rw [← e_bu54]
    show ownEnds _ _ _ _ (T53.setTop (mkF m 95 #[.val (.ref oa), .val (.ref ob), .val (.int xf), .val (.ref oc), .val (.int kk), .val (.int fst), .val (.int ww), .val (.long mm), .second, .val (.long bt), .second, .val (.int (1 : Int32))] [(.long bu54)]))
    refine ownEnds.law (fun t k => XS.lstore X53.here hx rfl (hb hby d5_95) rfl (l' := #[.val (.ref oa), .val (.ref ob), .val (.int xf), .val (.ref oc), .val (.int kk), .val (.int fst), .val (.int ww), .val (.long mm), .second, .val (.long bu54), .second, .val (.int (1 : Int32))]) rfl (XS.iinc X53.here hx rfl (hb hby d5_97) rfl (l' := #[.val (.ref oa), .val (.ref ob), .val (.int xf), .val (.ref oc), .val (.int kk), .val (.int fst), .val (.int ww), .val (.long mm), .second, .val (.long bu54), .second, .val (.int (2 : Int32))]) rfl (XS.goto X53.here hx rfl (pc0 := 100) (pc' := 67) rfl (hb hby d5_100) (by decide) (by decide) k))) ?_
    show ownEnds _ _ _ _ (T53.setTop (mkF m 67 #[.val (.ref oa), .val (.ref ob), .val (.int xf), .val (.ref oc), .val (.int kk), .val (.int fst), .val (.int ww), .val (.long mm), .second, .val (.long bu54), .second, .val (.int (2 : Int32))] []))
    have ex1 : (bt &&& mm) = (XV (GW (LI1 w0 w1) s0 s1 s2 s3) (LS1 w0 w1) w1) := by rw [hbt, hmm]; rfl
    have VV2 : Arv Z h53 oc kc .long (5 : Int32) [(.long (XV (GW (0 : Int32) s0 s1 s2 s3) (0 : Int32) w0)), (.long (XV (GW (LI1 w0 w1) s0 s1 s2 s3) (LS1 w0 w1) w1)), (.long (-7 : Int64)), (.long (-7 : Int64)), (.long (-7 : Int64))] (.long (0 : Int64)) := by have q := V53; rw [ex1] at q; exact q
    by_cases hN2 : N2 w0 w1 w2
    · exact J2 _ _ _ X53 N53 e53 (KK53) _ _ _ _ _ (by rw [hk, GK2, if_pos hN2]) (by rw [hww, hN2.2]) (by rw [hmm, hN2.2]) (by rw [e_bu54, hbt, hww]; exact own_sh2 hN2 hr0 hr1 hr2 hr3) VV2
    · have hkn : kk + 1 = (GK2 w0 w1 w2) := by rw [hk, GK2, if_neg hN2]
      show ownEnds _ _ _ _ (T53.setTop (mkF m 67 #[.val (.ref oa), .val (.ref ob), .val (.int xf), .val (.ref oc), .val (.int kk), .val (.int fst), .val (.int ww), .val (.long mm), .second, .val (.long bu54), .second, .val (.int (2 : Int32))] []))
      refine ownEnds.law (fun t k => XS.iload X53.here hx rfl (hb hby d5_67) rfl (XS.aloadN X53.here hx rfl (hb hby d5_69) rfl rfl k)) ?_
      show ownEnds _ _ _ _ (T53.setTop (mkF m 70 #[.val (.ref oa), .val (.ref ob), .val (.int xf), .val (.ref oc), .val (.int kk), .val (.int fst), .val (.int ww), .val (.long mm), .second, .val (.long bu54), .second, .val (.int (2 : Int32))] [(.ref oa), (.int (2 : Int32))]))
      have f55 := (Fld.other W53 f49 (Or.inl ne_oa_oc))
      obtain ⟨T56, X56, e56, st56⟩ := getF X53 hx hZ hown (host := "") (Or.inl (wd_41 hw)) Via.refl e53 f55 (g := (mkF m 70 #[.val (.ref oa), .val (.ref ob), .val (.int xf), .val (.ref oc), .val (.int kk), .val (.int fst), .val (.int ww), .val (.long mm), .second, .val (.long bu54), .second, .val (.int (2 : Int32))] [(.ref oa), (.int (2 : Int32))])) rfl rfl (hb hby d5_70)
      refine ownEnds.law st56 ?_
      show ownEnds _ _ _ _ (T56.setTop (mkF m 73 #[.val (.ref oa), .val (.ref ob), .val (.int xf), .val (.ref oc), .val (.int kk), .val (.int fst), .val (.int ww), .val (.long mm), .second, .val (.long bu54), .second, .val (.int (2 : Int32))] [(.ref c4), (.int (2 : Int32))]))
      refine ownEnds.law (fun t k => XS.iload X56.here hx rfl (hb hby d5_73) rfl (XS.iconst X56.here hx rfl (hb hby d5_75) (XS.iadd X56.here hx rfl (hb hby d5_76) rfl k))) ?_
      show ownEnds _ _ _ _ (T56.setTop (mkF m 77 #[.val (.ref oa), .val (.ref ob), .val (.int xf), .val (.ref oc), .val (.int kk), .val (.int fst), .val (.int ww), .val (.long mm), .second, .val (.long bu54), .second, .val (.int (2 : Int32))] [(.int (kk + (1 : Int32))), (.ref c4), (.int (2 : Int32))]))
      have f58 := (Arv.other f52 W53 ne_c4_oc)
      obtain ⟨cl57, Ar57, q57, S57, N57, H57, G57⟩ := id f58
      have hi57 := inb_of (j := (kk + (1 : Int32))) S57 (by rw [hk]; exact ⟨B1.2.2.1, B1.2.2.2.1⟩)
      have hv57 : cl57.slots[((kk + (1 : Int32))).toNatClampNeg]? = some (.int (GE1 w0 w1 w2 w3)) := H57.at hi57 (by rw [hk]; exact Q1)
      refine ownEnds.law (X56.iaload hx (j := (kk + (1 : Int32))) (v := (.int (GE1 w0 w1 w2 w3))) (by rw [e56]; exact Ar57.1) (State.isArrayOf_alike hZ.alike Ar57.2.1) Ar57.2.2 hi57 hv57 (g := (mkF m 77 #[.val (.ref oa), .val (.ref ob), .val (.int xf), .val (.ref oc), .val (.int kk), .val (.int fst), .val (.int ww), .val (.long mm), .second, .val (.long bu54), .second, .val (.int (2 : Int32))] [(.int (kk + (1 : Int32))), (.ref c4), (.int (2 : Int32))])) rfl rfl (hb hby d5_77)) ?_
      show ownEnds _ _ _ _ (T56.setTop (mkF m 78 #[.val (.ref oa), .val (.ref ob), .val (.int xf), .val (.ref oc), .val (.int kk), .val (.int fst), .val (.int ww), .val (.long mm), .second, .val (.long bu54), .second, .val (.int (2 : Int32))] [(.int (GE1 w0 w1 w2 w3)), (.int (2 : Int32))]))
      have hc78 : ¬ ((2 : Int32) < (GE1 w0 w1 w2 w3)) := by rw [GE1, if_neg hN2]; decide
      refine ownEnds.law (fun t => XS.icmpYes X56.here hx rfl (pc0 := 78) (pc' := 103) rfl (hb hby d5_78) rfl (flt hc78).2.1 (by decide) (by decide)) ?_
      show ownEnds _ _ _ _ (T56.setTop (mkF m 103 #[.val (.ref oa), .val (.ref ob), .val (.int xf), .val (.ref oc), .val (.int kk), .val (.int fst), .val (.int ww), .val (.long mm), .second, .val (.long bu54), .second, .val (.int (2 : Int32))] []))
      refine ownEnds.law (fun t k => XS.iinc X56.here hx rfl (hb hby d5_103) rfl (l' := #[.val (.ref oa), .val (.ref ob), .val (.int xf), .val (.ref oc), .val (.int (kk + (1 : Int32))), .val (.int fst), .val (.int ww), .val (.long mm), .second, .val (.long bu54), .second, .val (.int (2 : Int32))]) rfl (XS.goto X56.here hx rfl (pc0 := 106) (pc' := 3) rfl (hb hby d5_106) (by decide) (by decide) (XS.iload X56.here hx rfl (hb hby d5_3) rfl (XS.aloadN X56.here hx rfl (hb hby d5_5) rfl rfl k)))) ?_
      show ownEnds _ _ _ _ (T56.setTop (mkF m 6 #[.val (.ref oa), .val (.ref ob), .val (.int xf), .val (.ref oc), .val (.int (kk + (1 : Int32))), .val (.int fst), .val (.int ww), .val (.long mm), .second, .val (.long bu54), .second, .val (.int (2 : Int32))] [(.ref oa), (.int (kk + (1 : Int32)))]))
      obtain ⟨T59, X59, e59, st59⟩ := getF X56 hx hZ hown (host := "") (Or.inl (wd_41 hw)) Via.refl e56 f55 (g := (mkF m 6 #[.val (.ref oa), .val (.ref ob), .val (.int xf), .val (.ref oc), .val (.int (kk + (1 : Int32))), .val (.int fst), .val (.int ww), .val (.long mm), .second, .val (.long bu54), .second, .val (.int (2 : Int32))] [(.ref oa), (.int (kk + (1 : Int32)))])) rfl rfl (hb hby d5_6)
      refine ownEnds.law st59 ?_
      show ownEnds _ _ _ _ (T59.setTop (mkF m 9 #[.val (.ref oa), .val (.ref ob), .val (.int xf), .val (.ref oc), .val (.int (kk + (1 : Int32))), .val (.int fst), .val (.int ww), .val (.long mm), .second, .val (.long bu54), .second, .val (.int (2 : Int32))] [(.ref c4), (.int (kk + (1 : Int32)))]))
      obtain ⟨cl60, Ar60, -, S60, N60, -, -⟩ := id f58
      refine ownEnds.law (X59.arraylength hx (by rw [e59]; exact Ar60.1) (State.isArrayOf_alike hZ.alike Ar60.2.1) (g := (mkF m 9 #[.val (.ref oa), .val (.ref ob), .val (.int xf), .val (.ref oc), .val (.int (kk + (1 : Int32))), .val (.int fst), .val (.int ww), .val (.long mm), .second, .val (.long bu54), .second, .val (.int (2 : Int32))] [(.ref c4), (.int (kk + (1 : Int32)))])) rfl rfl (hb hby d5_9)) ?_
      rw [len_of S60 N60]
      show ownEnds _ _ _ _ (T59.setTop (mkF m 10 #[.val (.ref oa), .val (.ref ob), .val (.int xf), .val (.ref oc), .val (.int (kk + (1 : Int32))), .val (.int fst), .val (.int ww), .val (.long mm), .second, .val (.long bu54), .second, .val (.int (2 : Int32))] [(.int len), (.int (kk + (1 : Int32)))]))
      refine ownEnds.law (fun t k => XS.iconst X59.here hx rfl (hb hby d5_10) (XS.isub X59.here hx rfl (hb hby d5_11) rfl k)) ?_
      show ownEnds _ _ _ _ (T59.setTop (mkF m 12 #[.val (.ref oa), .val (.ref ob), .val (.int xf), .val (.ref oc), .val (.int (kk + (1 : Int32))), .val (.int fst), .val (.int ww), .val (.long mm), .second, .val (.long bu54), .second, .val (.int (2 : Int32))] [(.int (len - (1 : Int32))), (.int (kk + (1 : Int32)))]))
      have hc12 : (kk + (1 : Int32)) < (len - (1 : Int32)) := by rw [hkn]; exact B2.2.2.2.2
      refine ownEnds.law (fun t => XS.icmpNo X59.here hx rfl (hb hby d5_12) rfl (tlt hc12).2.1) ?_
      show ownEnds _ _ _ _ (T59.setTop (mkF m 15 #[.val (.ref oa), .val (.ref ob), .val (.int xf), .val (.ref oc), .val (.int (kk + (1 : Int32))), .val (.int fst), .val (.int ww), .val (.long mm), .second, .val (.long bu54), .second, .val (.int (2 : Int32))] []))
      refine ownEnds.law (fun t k => XS.aloadN X59.here hx rfl (hb hby d5_15) rfl rfl k) ?_
      show ownEnds _ _ _ _ (T59.setTop (mkF m 16 #[.val (.ref oa), .val (.ref ob), .val (.int xf), .val (.ref oc), .val (.int (kk + (1 : Int32))), .val (.int fst), .val (.int ww), .val (.long mm), .second, .val (.long bu54), .second, .val (.int (2 : Int32))] [(.ref oa)]))
      obtain ⟨T61, X61, e61, st61⟩ := getF X59 hx hZ hown (host := "") (Or.inl (wd_41 hw)) Via.refl e59 f55 (g := (mkF m 16 #[.val (.ref oa), .val (.ref ob), .val (.int xf), .val (.ref oc), .val (.int (kk + (1 : Int32))), .val (.int fst), .val (.int ww), .val (.long mm), .second, .val (.long bu54), .second, .val (.int (2 : Int32))] [(.ref oa)])) rfl rfl (hb hby d5_16)
      refine ownEnds.law st61 ?_
      show ownEnds _ _ _ _ (T61.setTop (mkF m 19 #[.val (.ref oa), .val (.ref ob), .val (.int xf), .val (.ref oc), .val (.int (kk + (1 : Int32))), .val (.int fst), .val (.int ww), .val (.long mm), .second, .val (.long bu54), .second, .val (.int (2 : Int32))] [(.ref c4)]))
      refine ownEnds.law (fun t k => XS.iload X61.here hx rfl (hb hby d5_19) rfl k) ?_
      show ownEnds _ _ _ _ (T61.setTop (mkF m 21 #[.val (.ref oa), .val (.ref ob), .val (.int xf), .val (.ref oc), .val (.int (kk + (1 : Int32))), .val (.int fst), .val (.int ww), .val (.long mm), .second, .val (.long bu54), .second, .val (.int (2 : Int32))] [(.int (kk + (1 : Int32))), (.ref c4)]))
      obtain ⟨cl62, Ar62, q62, S62, N62, H62, G62⟩ := id f58
      have hi62 := inb_of (j := (kk + (1 : Int32))) S62 (by rw [hkn]; exact ⟨B2.1, B2.2.1⟩)
      have hv62 : cl62.slots[((kk + (1 : Int32))).toNatClampNeg]? = some (.int (2 : Int32)) := H62.at hi62 (by rw [hkn]; exact R2 hN2)
      refine ownEnds.law (X61.iaload hx (j := (kk + (1 : Int32))) (v := (.int (2 : Int32))) (by rw [e61]; exact Ar62.1) (State.isArrayOf_alike hZ.alike Ar62.2.1) Ar62.2.2 hi62 hv62 (g := (mkF m 21 #[.val (.ref oa), .val (.ref ob), .val (.int xf), .val (.ref oc), .val (.int (kk + (1 : Int32))), .val (.int fst), .val (.int ww), .val (.long mm), .second, .val (.long bu54), .second, .val (.int (2 : Int32))] [(.int (kk + (1 : Int32))), (.ref c4)])) rfl rfl (hb hby d5_21)) ?_
      show ownEnds _ _ _ _ (T61.setTop (mkF m 22 #[.val (.ref oa), .val (.ref ob), .val (.int xf), .val (.ref oc), .val (.int (kk + (1 : Int32))), .val (.int fst), .val (.int ww), .val (.long mm), .second, .val (.long bu54), .second, .val (.int (2 : Int32))] [(.int (2 : Int32))]))
      refine ownEnds.law (fun t k => XS.istore X61.here hx rfl (hb hby d5_22) rfl (l' := #[.val (.ref oa), .val (.ref ob), .val (.int xf), .val (.ref oc), .val (.int (kk + (1 : Int32))), .val (.int (2 : Int32)), .val (.int ww), .val (.long mm), .second, .val (.long bu54), .second, .val (.int (2 : Int32))]) rfl (XS.aloadN X61.here hx rfl (hb hby d5_24) rfl rfl k)) ?_
      show ownEnds _ _ _ _ (T61.setTop (mkF m 25 #[.val (.ref oa), .val (.ref ob), .val (.int xf), .val (.ref oc), .val (.int (kk + (1 : Int32))), .val (.int (2 : Int32)), .val (.int ww), .val (.long mm), .second, .val (.long bu54), .second, .val (.int (2 : Int32))] [(.ref oa)]))
      have f63 := (Fld.other W53 (Fld.keep F0 Kp (ninS ne_oa_oc nin0)) (Or.inl ne_oa_oc))
      obtain ⟨T64, X64, e64, st64⟩ := getF X61 hx hZ hown (host := "") (Or.inl (wd_23 hw)) Via.refl e61 f63 (g := (mkF m 25 #[.val (.ref oa), .val (.ref ob), .val (.int xf), .val (.ref oc), .val (.int (kk + (1 : Int32))), .val (.int (2 : Int32)), .val (.int ww), .val (.long mm), .second, .val (.long bu54), .second, .val (.int (2 : Int32))] [(.ref oa)])) rfl rfl (hb hby d5_25)
      refine ownEnds.law st64 ?_
      show ownEnds _ _ _ _ (T64.setTop (mkF m 28 #[.val (.ref oa), .val (.ref ob), .val (.int xf), .val (.ref oc), .val (.int (kk + (1 : Int32))), .val (.int (2 : Int32)), .val (.int ww), .val (.long mm), .second, .val (.long bu54), .second, .val (.int (2 : Int32))] [(.ref c0)]))
      refine ownEnds.law (fun t k => XS.iload X64.here hx rfl (hb hby d5_28) rfl k) ?_
      show ownEnds _ _ _ _ (T64.setTop (mkF m 30 #[.val (.ref oa), .val (.ref ob), .val (.int xf), .val (.ref oc), .val (.int (kk + (1 : Int32))), .val (.int (2 : Int32)), .val (.int ww), .val (.long mm), .second, .val (.long bu54), .second, .val (.int (2 : Int32))] [(.int (2 : Int32)), (.ref c0)]))
      have f66 := (Arv.other (Arv.keep V0 Kp (ninS ne_c0_oc nin0)) W53 ne_c0_oc)
      obtain ⟨cl65, Ar65, q65, S65, N65, H65, G65⟩ := id f66
      have hi65 := inb_of (j := (2 : Int32)) S65 ⟨by decide, by decide⟩
      have hv65 : cl65.slots[((2 : Int32)).toNatClampNeg]? = some (.int w2) := H65.at hi65 rfl
      refine ownEnds.law (fun t k => X64.iaload hx (j := (2 : Int32)) (v := (.int w2)) (by rw [e64]; exact Ar65.1) (State.isArrayOf_alike hZ.alike Ar65.2.1) Ar65.2.2 hi65 hv65 (g := (mkF m 30 #[.val (.ref oa), .val (.ref ob), .val (.int xf), .val (.ref oc), .val (.int (kk + (1 : Int32))), .val (.int (2 : Int32)), .val (.int ww), .val (.long mm), .second, .val (.long bu54), .second, .val (.int (2 : Int32))] [(.int (2 : Int32)), (.ref c0)])) rfl rfl (hb hby d5_30) _ (XS.istore X64.here hx rfl (hb hby d5_31) rfl (l' := #[.val (.ref oa), .val (.ref ob), .val (.int xf), .val (.ref oc), .val (.int (kk + (1 : Int32))), .val (.int (2 : Int32)), .val (.int w2), .val (.long mm), .second, .val (.long bu54), .second, .val (.int (2 : Int32))]) rfl (XS.aloadN X64.here hx rfl (hb hby d5_33) rfl rfl k))) ?_
      show ownEnds _ _ _ _ (T64.setTop (mkF m 34 #[.val (.ref oa), .val (.ref ob), .val (.int xf), .val (.ref oc), .val (.int (kk + (1 : Int32))), .val (.int (2 : Int32)), .val (.int w2), .val (.long mm), .second, .val (.long bu54), .second, .val (.int (2 : Int32))] [(.ref oa)]))
      have f67 := (Fld.other W53 (Fld.keep F3 Kp (ninS ne_oa_oc nin0)) (Or.inl ne_oa_oc))
      obtain ⟨T68, X68, e68, st68⟩ := getF X64 hx hZ hown (host := "") (Or.inl (wd_30 hw)) Via.refl e64 f67 (g := (mkF m 34 #[.val (.ref oa), .val (.ref ob), .val (.int xf), .val (.ref oc), .val (.int (kk + (1 : Int32))), .val (.int (2 : Int32)), .val (.int w2), .val (.long mm), .second, .val (.long bu54), .second, .val (.int (2 : Int32))] [(.ref oa)])) rfl rfl (hb hby d5_34)
      refine ownEnds.law st68 ?_
      show ownEnds _ _ _ _ (T68.setTop (mkF m 37 #[.val (.ref oa), .val (.ref ob), .val (.int xf), .val (.ref oc), .val (.int (kk + (1 : Int32))), .val (.int (2 : Int32)), .val (.int w2), .val (.long mm), .second, .val (.long bu54), .second, .val (.int (2 : Int32))] [(.ref c3)]))
      refine ownEnds.law (fun t k => XS.iload X68.here hx rfl (hb hby d5_37) rfl k) ?_
      show ownEnds _ _ _ _ (T68.setTop (mkF m 39 #[.val (.ref oa), .val (.ref ob), .val (.int xf), .val (.ref oc), .val (.int (kk + (1 : Int32))), .val (.int (2 : Int32)), .val (.int w2), .val (.long mm), .second, .val (.long bu54), .second, .val (.int (2 : Int32))] [(.int (2 : Int32)), (.ref c3)]))
      have f70 := (Arv.other (Arv.keep V3 Kp (ninS ne_c3_oc nin0)) W53 ne_c3_oc)
      obtain ⟨cl69, Ar69, q69, S69, N69, H69, G69⟩ := id f70
      have hi69 := inb_of (j := (2 : Int32)) S69 ⟨by decide, by decide⟩
      have hv69 : cl69.slots[((2 : Int32)).toNatClampNeg]? = some (.long (LM w2)) := H69.at hi69 rfl
      refine ownEnds.law (fun t k => X68.laload hx (j := (2 : Int32)) (v := (.long (LM w2))) (by rw [e68]; exact Ar69.1) (State.isArrayOf_alike hZ.alike Ar69.2.1) Ar69.2.2 hi69 hv69 (g := (mkF m 39 #[.val (.ref oa), .val (.ref ob), .val (.int xf), .val (.ref oc), .val (.int (kk + (1 : Int32))), .val (.int (2 : Int32)), .val (.int w2), .val (.long mm), .second, .val (.long bu54), .second, .val (.int (2 : Int32))] [(.int (2 : Int32)), (.ref c3)])) rfl rfl (hb hby d5_39) _ (XS.lstore X68.here hx rfl (hb hby d5_40) rfl (l' := #[.val (.ref oa), .val (.ref ob), .val (.int xf), .val (.ref oc), .val (.int (kk + (1 : Int32))), .val (.int (2 : Int32)), .val (.int w2), .val (.long (LM w2)), .second, .val (.long bu54), .second, .val (.int (2 : Int32))]) rfl (XS.aloadN X68.here hx rfl (hb hby d5_42) rfl rfl (XS.iloadN X68.here hx rfl (hb hby d5_43) rfl (XS.aloadN X68.here hx rfl (hb hby d5_44) rfl rfl k))))) ?_
      show ownEnds _ _ _ _ (T68.setTop (mkF m 45 #[.val (.ref oa), .val (.ref ob), .val (.int xf), .val (.ref oc), .val (.int (kk + (1 : Int32))), .val (.int (2 : Int32)), .val (.int w2), .val (.long (LM w2)), .second, .val (.long bu54), .second, .val (.int (2 : Int32))] [(.ref oa), (.int xf), (.ref ob)]))
      have f71 := (Fld.other W53 (Fld.keep F1 Kp (ninS ne_oa_oc nin0)) (Or.inl ne_oa_oc))
      obtain ⟨T72, X72, e72, st72⟩ := getF X68 hx hZ hown (host := "") (Or.inl (wd_25 hw)) Via.refl e68 f71 (g := (mkF m 45 #[.val (.ref oa), .val (.ref ob), .val (.int xf), .val (.ref oc), .val (.int (kk + (1 : Int32))), .val (.int (2 : Int32)), .val (.int w2), .val (.long (LM w2)), .second, .val (.long bu54), .second, .val (.int (2 : Int32))] [(.ref oa), (.int xf), (.ref ob)])) rfl rfl (hb hby d5_45)
      refine ownEnds.law st72 ?_
      show ownEnds _ _ _ _ (T72.setTop (mkF m 48 #[.val (.ref oa), .val (.ref ob), .val (.int xf), .val (.ref oc), .val (.int (kk + (1 : Int32))), .val (.int (2 : Int32)), .val (.int w2), .val (.long (LM w2)), .second, .val (.long bu54), .second, .val (.int (2 : Int32))] [(.ref c1), (.int xf), (.ref ob)]))
      refine ownEnds.law (fun t k => XS.iload X72.here hx rfl (hb hby d5_48) rfl k) ?_
      show ownEnds _ _ _ _ (T72.setTop (mkF m 50 #[.val (.ref oa), .val (.ref ob), .val (.int xf), .val (.ref oc), .val (.int (kk + (1 : Int32))), .val (.int (2 : Int32)), .val (.int w2), .val (.long (LM w2)), .second, .val (.long bu54), .second, .val (.int (2 : Int32))] [(.int (2 : Int32)), (.ref c1), (.int xf), (.ref ob)]))
      have f74 := (Arv.other (Arv.keep V1 Kp (ninS ne_c1_oc nin0)) W53 ne_c1_oc)
      obtain ⟨cl73, Ar73, q73, S73, N73, H73, G73⟩ := id f74
      have hi73 := inb_of (j := (2 : Int32)) S73 ⟨by decide, by decide⟩
      have hv73 : cl73.slots[((2 : Int32)).toNatClampNeg]? = some (.int (LI2 w0 w1 w2)) := H73.at hi73 rfl
      refine ownEnds.law (fun t k => X72.iaload hx (j := (2 : Int32)) (v := (.int (LI2 w0 w1 w2))) (by rw [e72]; exact Ar73.1) (State.isArrayOf_alike hZ.alike Ar73.2.1) Ar73.2.2 hi73 hv73 (g := (mkF m 50 #[.val (.ref oa), .val (.ref ob), .val (.int xf), .val (.ref oc), .val (.int (kk + (1 : Int32))), .val (.int (2 : Int32)), .val (.int w2), .val (.long (LM w2)), .second, .val (.long bu54), .second, .val (.int (2 : Int32))] [(.int (2 : Int32)), (.ref c1), (.int xf), (.ref ob)])) rfl rfl (hb hby d5_50) _ (XS.iadd X72.here hx rfl (hb hby d5_51) rfl k)) ?_
      show ownEnds _ _ _ _ (T72.setTop (mkF m 52 #[.val (.ref oa), .val (.ref ob), .val (.int xf), .val (.ref oc), .val (.int (kk + (1 : Int32))), .val (.int (2 : Int32)), .val (.int w2), .val (.long (LM w2)), .second, .val (.long bu54), .second, .val (.int (2 : Int32))] [(.int (xf + (LI2 w0 w1 w2))), (.ref ob)]))
      have f76 := (Arv.other (Arv.keep Vb Kp (ninS ne_ob_oc nin0)) W53 ne_ob_oc)
      obtain ⟨cl75, Ar75, q75, S75, N75, H75, G75⟩ := id f76
      have hi75 := inb_of (j := (xf + (LI2 w0 w1 w2))) S75 ((hS _ (own_r2 _ _ _)).1)
      have hv75 : cl75.slots[((xf + (LI2 w0 w1 w2))).toNatClampNeg]? = some (.long (GW (LI2 w0 w1 w2) s0 s1 s2 s3)) := H75.at hi75 ((hS _ (own_r2 _ _ _)).2)
      refine ownEnds.law (X72.laload hx (j := (xf + (LI2 w0 w1 w2))) (v := (.long (GW (LI2 w0 w1 w2) s0 s1 s2 s3))) (by rw [e72]; exact Ar75.1) (State.isArrayOf_alike hZ.alike Ar75.2.1) Ar75.2.2 hi75 hv75 (g := (mkF m 52 #[.val (.ref oa), .val (.ref ob), .val (.int xf), .val (.ref oc), .val (.int (kk + (1 : Int32))), .val (.int (2 : Int32)), .val (.int w2), .val (.long (LM w2)), .second, .val (.long bu54), .second, .val (.int (2 : Int32))] [(.int (xf + (LI2 w0 w1 w2))), (.ref ob)])) rfl rfl (hb hby d5_52)) ?_
      show ownEnds _ _ _ _ (T72.setTop (mkF m 53 #[.val (.ref oa), .val (.ref ob), .val (.int xf), .val (.ref oc), .val (.int (kk + (1 : Int32))), .val (.int (2 : Int32)), .val (.int w2), .val (.long (LM w2)), .second, .val (.long bu54), .second, .val (.int (2 : Int32))] [(.long (GW (LI2 w0 w1 w2) s0 s1 s2 s3))]))
      refine ownEnds.law (fun t k => XS.aloadN X72.here hx rfl (hb hby d5_53) rfl rfl k) ?_
      show ownEnds _ _ _ _ (T72.setTop (mkF m 54 #[.val (.ref oa), .val (.ref ob), .val (.int xf), .val (.ref oc), .val (.int (kk + (1 : Int32))), .val (.int (2 : Int32)), .val (.int w2), .val (.long (LM w2)), .second, .val (.long bu54), .second, .val (.int (2 : Int32))] [(.ref oa), (.long (GW (LI2 w0 w1 w2) s0 s1 s2 s3))]))
      have f77 := (Fld.other W53 (Fld.keep F2 Kp (ninS ne_oa_oc nin0)) (Or.inl ne_oa_oc))
      obtain ⟨T78, X78, e78, st78⟩ := getF X72 hx hZ hown (host := "") (Or.inl (wd_27 hw)) Via.refl e72 f77 (g := (mkF m 54 #[.val (.ref oa), .val (.ref ob), .val (.int xf), .val (.ref oc), .val (.int (kk + (1 : Int32))), .val (.int (2 : Int32)), .val (.int w2), .val (.long (LM w2)), .second, .val (.long bu54), .second, .val (.int (2 : Int32))] [(.ref oa), (.long (GW (LI2 w0 w1 w2) s0 s1 s2 s3))])) rfl rfl (hb hby d5_54)
      refine ownEnds.law st78 ?_
      show ownEnds _ _ _ _ (T78.setTop (mkF m 57 #[.val (.ref oa), .val (.ref ob), .val (.int xf), .val (.ref oc), .val (.int (kk + (1 : Int32))), .val (.int (2 : Int32)), .val (.int w2), .val (.long (LM w2)), .second, .val (.long bu54), .second, .val (.int (2 : Int32))] [(.ref c2), (.long (GW (LI2 w0 w1 w2) s0 s1 s2 s3))]))
      refine ownEnds.law (fun t k => XS.iload X78.here hx rfl (hb hby d5_57) rfl k) ?_
      show ownEnds _ _ _ _ (T78.setTop (mkF m 59 #[.val (.ref oa), .val (.ref ob), .val (.int xf), .val (.ref oc), .val (.int (kk + (1 : Int32))), .val (.int (2 : Int32)), .val (.int w2), .val (.long (LM w2)), .second, .val (.long bu54), .second, .val (.int (2 : Int32))] [(.int (2 : Int32)), (.ref c2), (.long (GW (LI2 w0 w1 w2) s0 s1 s2 s3))]))
      have f80 := (Arv.other (Arv.keep V2 Kp (ninS ne_c2_oc nin0)) W53 ne_c2_oc)
      obtain ⟨cl79, Ar79, q79, S79, N79, H79, G79⟩ := id f80
      have hi79 := inb_of (j := (2 : Int32)) S79 ⟨by decide, by decide⟩
      have hv79 : cl79.slots[((2 : Int32)).toNatClampNeg]? = some (.int (LS2 w0 w1 w2)) := H79.at hi79 rfl
      refine ownEnds.law (fun t k => X78.iaload hx (j := (2 : Int32)) (v := (.int (LS2 w0 w1 w2))) (by rw [e78]; exact Ar79.1) (State.isArrayOf_alike hZ.alike Ar79.2.1) Ar79.2.2 hi79 hv79 (g := (mkF m 59 #[.val (.ref oa), .val (.ref ob), .val (.int xf), .val (.ref oc), .val (.int (kk + (1 : Int32))), .val (.int (2 : Int32)), .val (.int w2), .val (.long (LM w2)), .second, .val (.long bu54), .second, .val (.int (2 : Int32))] [(.int (2 : Int32)), (.ref c2), (.long (GW (LI2 w0 w1 w2) s0 s1 s2 s3))])) rfl rfl (hb hby d5_59) _ (XS.lushr X78.here hx rfl (hb hby d5_60) rfl k)) ?_
      show ownEnds _ _ _ _ (T78.setTop (mkF m 61 #[.val (.ref oa), .val (.ref ob), .val (.int xf), .val (.ref oc), .val (.int (kk + (1 : Int32))), .val (.int (2 : Int32)), .val (.int w2), .val (.long (LM w2)), .second, .val (.long bu54), .second, .val (.int (2 : Int32))] [(.long (((GW (LI2 w0 w1 w2) s0 s1 s2 s3).toUInt64 >>> ((LS2 w0 w1 w2) &&& 0x3f).toInt64.toUInt64).toInt64))]))
      obtain ⟨bt81, e_bt81⟩ : ∃ z : Int64, z = (((GW (LI2 w0 w1 w2) s0 s1 s2 s3).toUInt64 >>> ((LS2 w0 w1 w2) &&& 0x3f).toInt64.toUInt64).toInt64) := ⟨_, rfl⟩
      rw [← e_bt81]
      show ownEnds _ _ _ _ (T78.setTop (mkF m 61 #[.val (.ref oa), .val (.ref ob), .val (.int xf), .val (.ref oc), .val (.int (kk + (1 : Int32))), .val (.int (2 : Int32)), .val (.int w2), .val (.long (LM w2)), .second, .val (.long bu54), .second, .val (.int (2 : Int32))] [(.long bt81)]))
      refine ownEnds.law (fun t k => XS.lstore X78.here hx rfl (hb hby d5_61) rfl (l' := #[.val (.ref oa), .val (.ref ob), .val (.int xf), .val (.ref oc), .val (.int (kk + (1 : Int32))), .val (.int (2 : Int32)), .val (.int w2), .val (.long (LM w2)), .second, .val (.long bt81), .second, .val (.int (2 : Int32))]) rfl (XS.iload X78.here hx rfl (hb hby d5_63) rfl (XS.istore X78.here hx rfl (hb hby d5_65) rfl (l' := #[.val (.ref oa), .val (.ref ob), .val (.int xf), .val (.ref oc), .val (.int (kk + (1 : Int32))), .val (.int (2 : Int32)), .val (.int w2), .val (.long (LM w2)), .second, .val (.long bt81), .second, .val (.int (2 : Int32))]) rfl k))) ?_
      show ownEnds _ _ _ _ (T78.setTop (mkF m 67 #[.val (.ref oa), .val (.ref ob), .val (.int xf), .val (.ref oc), .val (.int (kk + (1 : Int32))), .val (.int (2 : Int32)), .val (.int w2), .val (.long (LM w2)), .second, .val (.long bt81), .second, .val (.int (2 : Int32))] []))
      exact J2 _ _ _ X78 N53 e78 (KK53) _ _ _ _ _ hkn rfl rfl (by rw [e_bt81]; rfl) VV2
  have J0 : ∀ (T82 : State) (lc82 : List Loc) (hp : Heap) (X82 : Stand p l e ({ frames := 0, cells := 0, slots := 0, locals := 0 } : Room) s m #[(.ref oa), (.ref ob), (.int xf), (.ref oc)] below meth c T82 lc82 0 0) (N82 : Fr n0 lc82) (e82 : T82.heap = hp) (Kp : Keep h0 hp [oc]) (kk fst ww : Int32) (mm bt : Int64) (hk : kk = (0 : Int32)) (hww : ww = w0) (hmm : mm = (LM w0)) (hbt : bt = (SR (GW (0 : Int32) s0 s1 s2 s3) (0 : Int32))) (Vp : Arv Z hp oc kc .long (5 : Int32) [(.long (-7 : Int64)), (.long (-7 : Int64)), (.long (-7 : Int64)), (.long (-7 : Int64)), (.long (-7 : Int64))] (.long (0 : Int64))), ownEnds p.tables e below (ownPost s (fun v h L => v = none ∧ Fr n0 L ∧ Keep h0 h [oc] ∧ Arv Z h oc kc .long (5 : Int32) [(.long (XV (GW (0 : Int32) s0 s1 s2 s3) (0 : Int32) w0)), (.long (XV (GW (LI1 w0 w1) s0 s1 s2 s3) (LS1 w0 w1) w1)), (.long (XV (GW (LI2 w0 w1 w2) s0 s1 s2 s3) (LS2 w0 w1 w2) w2)), (.long (XV (GW (LI3 w0 w1 w2 w3) s0 s1 s2 s3) (LS3 w0 w1 w2 w3) w3)), (.long (-7 : Int64))] (.long (0 : Int64))) ({ frames := 0, cells := 0, slots := 0, locals := 0 } : Room).cells ({ frames := 0, cells := 0, slots := 0, locals := 0 } : Room).slots) (T82.setTop (mkF m 67 #[.val (.ref oa), .val (.ref ob), .val (.int xf), .val (.ref oc), .val (.int kk), .val (.int fst), .val (.int ww), .val (.long mm), .second, .val (.long bt), .second, .val (.int (0 : Int32))] [])) := by
    intro T82 lc82 hp X82 N82 e82 Kp kk fst ww mm bt hk hww hmm hbt Vp
    show ownEnds _ _ _ _ (T82.setTop (mkF m 67 #[.val (.ref oa), .val (.ref ob), .val (.int xf), .val (.ref oc), .val (.int kk), .val (.int fst), .val (.int ww), .val (.long mm), .second, .val (.long bt), .second, .val (.int (0 : Int32))] []))
    refine ownEnds.law (fun t k => XS.iload X82.here hx rfl (hb hby d5_67) rfl (XS.aloadN X82.here hx rfl (hb hby d5_69) rfl rfl k)) ?_
    show ownEnds _ _ _ _ (T82.setTop (mkF m 70 #[.val (.ref oa), .val (.ref ob), .val (.int xf), .val (.ref oc), .val (.int kk), .val (.int fst), .val (.int ww), .val (.long mm), .second, .val (.long bt), .second, .val (.int (0 : Int32))] [(.ref oa), (.int (0 : Int32))]))
    have f83 := (Fld.keep F4 Kp (ninS ne_oa_oc nin0))
    obtain ⟨T84, X84, e84, st84⟩ := getF X82 hx hZ hown (host := "") (Or.inl (wd_41 hw)) Via.refl e82 f83 (g := (mkF m 70 #[.val (.ref oa), .val (.ref ob), .val (.int xf), .val (.ref oc), .val (.int kk), .val (.int fst), .val (.int ww), .val (.long mm), .second, .val (.long bt), .second, .val (.int (0 : Int32))] [(.ref oa), (.int (0 : Int32))])) rfl rfl (hb hby d5_70)
    refine ownEnds.law st84 ?_
    show ownEnds _ _ _ _ (T84.setTop (mkF m 73 #[.val (.ref oa), .val (.ref ob), .val (.int xf), .val (.ref oc), .val (.int kk), .val (.int fst), .val (.int ww), .val (.long mm), .second, .val (.long bt), .second, .val (.int (0 : Int32))] [(.ref c4), (.int (0 : Int32))]))
    refine ownEnds.law (fun t k => XS.iload X84.here hx rfl (hb hby d5_73) rfl (XS.iconst X84.here hx rfl (hb hby d5_75) (XS.iadd X84.here hx rfl (hb hby d5_76) rfl k))) ?_
    show ownEnds _ _ _ _ (T84.setTop (mkF m 77 #[.val (.ref oa), .val (.ref ob), .val (.int xf), .val (.ref oc), .val (.int kk), .val (.int fst), .val (.int ww), .val (.long mm), .second, .val (.long bt), .second, .val (.int (0 : Int32))] [(.int (kk + (1 : Int32))), (.ref c4), (.int (0 : Int32))]))
    have f86 := (Arv.keep V4 Kp (ninS ne_c4_oc nin0))
    obtain ⟨cl85, Ar85, q85, S85, N85, H85, G85⟩ := id f86
    have hi85 := inb_of (j := (kk + (1 : Int32))) S85 (by rw [hk]; exact ⟨B0.2.2.1, B0.2.2.2.1⟩)
    have hv85 : cl85.slots[((kk + (1 : Int32))).toNatClampNeg]? = some (.int (GE0 w0 w1 w2 w3)) := H85.at hi85 (by rw [hk]; exact Q0)
    refine ownEnds.law (X84.iaload hx (j := (kk + (1 : Int32))) (v := (.int (GE0 w0 w1 w2 w3))) (by rw [e84]; exact Ar85.1) (State.isArrayOf_alike hZ.alike Ar85.2.1) Ar85.2.2 hi85 hv85 (g := (mkF m 77 #[.val (.ref oa), .val (.ref ob), .val (.int xf), .val (.ref oc), .val (.int kk), .val (.int fst), .val (.int ww), .val (.long mm), .second, .val (.long bt), .second, .val (.int (0 : Int32))] [(.int (kk + (1 : Int32))), (.ref c4), (.int (0 : Int32))])) rfl rfl (hb hby d5_77)) ?_
    show ownEnds _ _ _ _ (T84.setTop (mkF m 78 #[.val (.ref oa), .val (.ref ob), .val (.int xf), .val (.ref oc), .val (.int kk), .val (.int fst), .val (.int ww), .val (.long mm), .second, .val (.long bt), .second, .val (.int (0 : Int32))] [(.int (GE0 w0 w1 w2 w3)), (.int (0 : Int32))]))
    have hc78 : (0 : Int32) < (GE0 w0 w1 w2 w3) := own_e0 _ _ _ _
    refine ownEnds.law (fun t => XS.icmpNo X84.here hx rfl (hb hby d5_78) rfl (tlt hc78).2.1) ?_
    show ownEnds _ _ _ _ (T84.setTop (mkF m 81 #[.val (.ref oa), .val (.ref ob), .val (.int xf), .val (.ref oc), .val (.int kk), .val (.int fst), .val (.int ww), .val (.long mm), .second, .val (.long bt), .second, .val (.int (0 : Int32))] []))
    refine ownEnds.law (fun t k => XS.aloadN X84.here hx rfl (hb hby d5_81) rfl rfl (XS.iload X84.here hx rfl (hb hby d5_82) rfl (XS.lload X84.here hx rfl (hb hby d5_84) rfl (XS.lload X84.here hx rfl (hb hby d5_86) rfl (XS.land X84.here hx rfl (hb hby d5_88) rfl k))))) ?_
    show ownEnds _ _ _ _ (T84.setTop (mkF m 89 #[.val (.ref oa), .val (.ref ob), .val (.int xf), .val (.ref oc), .val (.int kk), .val (.int fst), .val (.int ww), .val (.long mm), .second, .val (.long bt), .second, .val (.int (0 : Int32))] [(.long (bt &&& mm)), (.int (0 : Int32)), (.ref oc)]))
    obtain ⟨cl87, Ar87, q87, S87, N87, H87, G87⟩ := id Vp
    obtain ⟨T87, h87, X87, e87, W87, st87⟩ := stJ X84 hx hZ e84 Ar87 (j := (0 : Int32)) (inb_of S87 ⟨by decide, by decide⟩) (g := (mkF m 89 #[.val (.ref oa), .val (.ref ob), .val (.int xf), .val (.ref oc), .val (.int kk), .val (.int fst), .val (.int ww), .val (.long mm), .second, .val (.long bt), .second, .val (.int (0 : Int32))] [(.long (bt &&& mm)), (.int (0 : Int32)), (.ref oc)])) rfl rfl (hb hby d5_89)
    refine ownEnds.law st87 ?_
    have V87 : Arv Z h87 oc kc .long (5 : Int32) [(.long (bt &&& mm)), (.long (-7 : Int64)), (.long (-7 : Int64)), (.long (-7 : Int64)), (.long (-7 : Int64))] (.long (0 : Int64)) := Arv.set Ar87 q87 S87 N87 H87 G87 rfl W87 0 rfl (Nat.le_of_ble_eq_true rfl)
    have N87 := Fr.snoc X87 N82 g_oc
    have KK87 : Keep h0 h87 [oc] := (Kp).wr W87 (Or.inl (List.mem_of_getElem? (i := 0) rfl))
    have Z87 : n0 ≤ h87.size := by rw [W87.size]; exact (Nat.le_trans Z0 Kp.1)
    show ownEnds _ _ _ _ (T87.setTop (mkF m 90 #[.val (.ref oa), .val (.ref ob), .val (.int xf), .val (.ref oc), .val (.int kk), .val (.int fst), .val (.int ww), .val (.long mm), .second, .val (.long bt), .second, .val (.int (0 : Int32))] []))
    refine ownEnds.law (fun t k => XS.lload X87.here hx rfl (hb hby d5_90) rfl (XS.iload X87.here hx rfl (hb hby d5_92) rfl (XS.lushr X87.here hx rfl (hb hby d5_94) rfl k))) ?_
    show ownEnds _ _ _ _ (T87.setTop (mkF m 95 #[.val (.ref oa), .val (.ref ob), .val (.int xf), .val (.ref oc), .val (.int kk), .val (.int fst), .val (.int ww), .val (.long mm), .second, .val (.long bt), .second, .val (.int (0 : Int32))] [(.long ((bt.toUInt64 >>> (ww &&& 0x3f).toInt64.toUInt64).toInt64))]))
    obtain ⟨bu88, e_bu88⟩ : ∃ z : Int64, z = ((bt.toUInt64 >>> (ww &&& 0x3f).toInt64.toUInt64).toInt64) := ⟨_, rfl⟩
    rw [← e_bu88]
    show ownEnds _ _ _ _ (T87.setTop (mkF m 95 #[.val (.ref oa), .val (.ref ob), .val (.int xf), .val (.ref oc), .val (.int kk), .val (.int fst), .val (.int ww), .val (.long mm), .second, .val (.long bt), .second, .val (.int (0 : Int32))] [(.long bu88)]))
    refine ownEnds.law (fun t k => XS.lstore X87.here hx rfl (hb hby d5_95) rfl (l' := #[.val (.ref oa), .val (.ref ob), .val (.int xf), .val (.ref oc), .val (.int kk), .val (.int fst), .val (.int ww), .val (.long mm), .second, .val (.long bu88), .second, .val (.int (0 : Int32))]) rfl (XS.iinc X87.here hx rfl (hb hby d5_97) rfl (l' := #[.val (.ref oa), .val (.ref ob), .val (.int xf), .val (.ref oc), .val (.int kk), .val (.int fst), .val (.int ww), .val (.long mm), .second, .val (.long bu88), .second, .val (.int (1 : Int32))]) rfl (XS.goto X87.here hx rfl (pc0 := 100) (pc' := 67) rfl (hb hby d5_100) (by decide) (by decide) k))) ?_
    show ownEnds _ _ _ _ (T87.setTop (mkF m 67 #[.val (.ref oa), .val (.ref ob), .val (.int xf), .val (.ref oc), .val (.int kk), .val (.int fst), .val (.int ww), .val (.long mm), .second, .val (.long bu88), .second, .val (.int (1 : Int32))] []))
    have ex0 : (bt &&& mm) = (XV (GW (0 : Int32) s0 s1 s2 s3) (0 : Int32) w0) := by rw [hbt, hmm]; rfl
    have VV1 : Arv Z h87 oc kc .long (5 : Int32) [(.long (XV (GW (0 : Int32) s0 s1 s2 s3) (0 : Int32) w0)), (.long (-7 : Int64)), (.long (-7 : Int64)), (.long (-7 : Int64)), (.long (-7 : Int64))] (.long (0 : Int64)) := by have q := V87; rw [ex0] at q; exact q
    by_cases hN1 : N1 w0 w1
    · exact J1 _ _ _ X87 N87 e87 (KK87) _ _ _ _ _ (by rw [hk, GK1, if_pos hN1]) (by rw [hww, hN1.2]) (by rw [hmm, hN1.2]) (by rw [e_bu88, hbt, hww]; exact own_sh1 hN1 hr0 hr1 hr2 hr3) VV1
    · have hkn : kk + 1 = (GK1 w0 w1) := by rw [hk, GK1, if_neg hN1]
      show ownEnds _ _ _ _ (T87.setTop (mkF m 67 #[.val (.ref oa), .val (.ref ob), .val (.int xf), .val (.ref oc), .val (.int kk), .val (.int fst), .val (.int ww), .val (.long mm), .second, .val (.long bu88), .second, .val (.int (1 : Int32))] []))
      refine ownEnds.law (fun t k => XS.iload X87.here hx rfl (hb hby d5_67) rfl (XS.aloadN X87.here hx rfl (hb hby d5_69) rfl rfl k)) ?_
      show ownEnds _ _ _ _ (T87.setTop (mkF m 70 #[.val (.ref oa), .val (.ref ob), .val (.int xf), .val (.ref oc), .val (.int kk), .val (.int fst), .val (.int ww), .val (.long mm), .second, .val (.long bu88), .second, .val (.int (1 : Int32))] [(.ref oa), (.int (1 : Int32))]))
      have f89 := (Fld.other W87 f83 (Or.inl ne_oa_oc))
      obtain ⟨T90, X90, e90, st90⟩ := getF X87 hx hZ hown (host := "") (Or.inl (wd_41 hw)) Via.refl e87 f89 (g := (mkF m 70 #[.val (.ref oa), .val (.ref ob), .val (.int xf), .val (.ref oc), .val (.int kk), .val (.int fst), .val (.int ww), .val (.long mm), .second, .val (.long bu88), .second, .val (.int (1 : Int32))] [(.ref oa), (.int (1 : Int32))])) rfl rfl (hb hby d5_70)
      refine ownEnds.law st90 ?_
      show ownEnds _ _ _ _ (T90.setTop (mkF m 73 #[.val (.ref oa), .val (.ref ob), .val (.int xf), .val (.ref oc), .val (.int kk), .val (.int fst), .val (.int ww), .val (.long mm), .second, .val (.long bu88), .second, .val (.int (1 : Int32))] [(.ref c4), (.int (1 : Int32))]))
      refine ownEnds.law (fun t k => XS.iload X90.here hx rfl (hb hby d5_73) rfl (XS.iconst X90.here hx rfl (hb hby d5_75) (XS.iadd X90.here hx rfl (hb hby d5_76) rfl k))) ?_
      show ownEnds _ _ _ _ (T90.setTop (mkF m 77 #[.val (.ref oa), .val (.ref ob), .val (.int xf), .val (.ref oc), .val (.int kk), .val (.int fst), .val (.int ww), .val (.long mm), .second, .val (.long bu88), .second, .val (.int (1 : Int32))] [(.int (kk + (1 : Int32))), (.ref c4), (.int (1 : Int32))]))
      have f92 := (Arv.other f86 W87 ne_c4_oc)
      obtain ⟨cl91, Ar91, q91, S91, N91, H91, G91⟩ := id f92
      have hi91 := inb_of (j := (kk + (1 : Int32))) S91 (by rw [hk]; exact ⟨B0.2.2.1, B0.2.2.2.1⟩)
      have hv91 : cl91.slots[((kk + (1 : Int32))).toNatClampNeg]? = some (.int (GE0 w0 w1 w2 w3)) := H91.at hi91 (by rw [hk]; exact Q0)
      refine ownEnds.law (X90.iaload hx (j := (kk + (1 : Int32))) (v := (.int (GE0 w0 w1 w2 w3))) (by rw [e90]; exact Ar91.1) (State.isArrayOf_alike hZ.alike Ar91.2.1) Ar91.2.2 hi91 hv91 (g := (mkF m 77 #[.val (.ref oa), .val (.ref ob), .val (.int xf), .val (.ref oc), .val (.int kk), .val (.int fst), .val (.int ww), .val (.long mm), .second, .val (.long bu88), .second, .val (.int (1 : Int32))] [(.int (kk + (1 : Int32))), (.ref c4), (.int (1 : Int32))])) rfl rfl (hb hby d5_77)) ?_
      show ownEnds _ _ _ _ (T90.setTop (mkF m 78 #[.val (.ref oa), .val (.ref ob), .val (.int xf), .val (.ref oc), .val (.int kk), .val (.int fst), .val (.int ww), .val (.long mm), .second, .val (.long bu88), .second, .val (.int (1 : Int32))] [(.int (GE0 w0 w1 w2 w3)), (.int (1 : Int32))]))
      have hc78 : ¬ ((1 : Int32) < (GE0 w0 w1 w2 w3)) := by rw [GE0, if_neg hN1]; decide
      refine ownEnds.law (fun t => XS.icmpYes X90.here hx rfl (pc0 := 78) (pc' := 103) rfl (hb hby d5_78) rfl (flt hc78).2.1 (by decide) (by decide)) ?_
      show ownEnds _ _ _ _ (T90.setTop (mkF m 103 #[.val (.ref oa), .val (.ref ob), .val (.int xf), .val (.ref oc), .val (.int kk), .val (.int fst), .val (.int ww), .val (.long mm), .second, .val (.long bu88), .second, .val (.int (1 : Int32))] []))
      refine ownEnds.law (fun t k => XS.iinc X90.here hx rfl (hb hby d5_103) rfl (l' := #[.val (.ref oa), .val (.ref ob), .val (.int xf), .val (.ref oc), .val (.int (kk + (1 : Int32))), .val (.int fst), .val (.int ww), .val (.long mm), .second, .val (.long bu88), .second, .val (.int (1 : Int32))]) rfl (XS.goto X90.here hx rfl (pc0 := 106) (pc' := 3) rfl (hb hby d5_106) (by decide) (by decide) (XS.iload X90.here hx rfl (hb hby d5_3) rfl (XS.aloadN X90.here hx rfl (hb hby d5_5) rfl rfl k)))) ?_
      show ownEnds _ _ _ _ (T90.setTop (mkF m 6 #[.val (.ref oa), .val (.ref ob), .val (.int xf), .val (.ref oc), .val (.int (kk + (1 : Int32))), .val (.int fst), .val (.int ww), .val (.long mm), .second, .val (.long bu88), .second, .val (.int (1 : Int32))] [(.ref oa), (.int (kk + (1 : Int32)))]))
      obtain ⟨T93, X93, e93, st93⟩ := getF X90 hx hZ hown (host := "") (Or.inl (wd_41 hw)) Via.refl e90 f89 (g := (mkF m 6 #[.val (.ref oa), .val (.ref ob), .val (.int xf), .val (.ref oc), .val (.int (kk + (1 : Int32))), .val (.int fst), .val (.int ww), .val (.long mm), .second, .val (.long bu88), .second, .val (.int (1 : Int32))] [(.ref oa), (.int (kk + (1 : Int32)))])) rfl rfl (hb hby d5_6)
      refine ownEnds.law st93 ?_
      show ownEnds _ _ _ _ (T93.setTop (mkF m 9 #[.val (.ref oa), .val (.ref ob), .val (.int xf), .val (.ref oc), .val (.int (kk + (1 : Int32))), .val (.int fst), .val (.int ww), .val (.long mm), .second, .val (.long bu88), .second, .val (.int (1 : Int32))] [(.ref c4), (.int (kk + (1 : Int32)))]))
      obtain ⟨cl94, Ar94, -, S94, N94, -, -⟩ := id f92
      refine ownEnds.law (X93.arraylength hx (by rw [e93]; exact Ar94.1) (State.isArrayOf_alike hZ.alike Ar94.2.1) (g := (mkF m 9 #[.val (.ref oa), .val (.ref ob), .val (.int xf), .val (.ref oc), .val (.int (kk + (1 : Int32))), .val (.int fst), .val (.int ww), .val (.long mm), .second, .val (.long bu88), .second, .val (.int (1 : Int32))] [(.ref c4), (.int (kk + (1 : Int32)))])) rfl rfl (hb hby d5_9)) ?_
      rw [len_of S94 N94]
      show ownEnds _ _ _ _ (T93.setTop (mkF m 10 #[.val (.ref oa), .val (.ref ob), .val (.int xf), .val (.ref oc), .val (.int (kk + (1 : Int32))), .val (.int fst), .val (.int ww), .val (.long mm), .second, .val (.long bu88), .second, .val (.int (1 : Int32))] [(.int len), (.int (kk + (1 : Int32)))]))
      refine ownEnds.law (fun t k => XS.iconst X93.here hx rfl (hb hby d5_10) (XS.isub X93.here hx rfl (hb hby d5_11) rfl k)) ?_
      show ownEnds _ _ _ _ (T93.setTop (mkF m 12 #[.val (.ref oa), .val (.ref ob), .val (.int xf), .val (.ref oc), .val (.int (kk + (1 : Int32))), .val (.int fst), .val (.int ww), .val (.long mm), .second, .val (.long bu88), .second, .val (.int (1 : Int32))] [(.int (len - (1 : Int32))), (.int (kk + (1 : Int32)))]))
      have hc12 : (kk + (1 : Int32)) < (len - (1 : Int32)) := by rw [hkn]; exact B1.2.2.2.2
      refine ownEnds.law (fun t => XS.icmpNo X93.here hx rfl (hb hby d5_12) rfl (tlt hc12).2.1) ?_
      show ownEnds _ _ _ _ (T93.setTop (mkF m 15 #[.val (.ref oa), .val (.ref ob), .val (.int xf), .val (.ref oc), .val (.int (kk + (1 : Int32))), .val (.int fst), .val (.int ww), .val (.long mm), .second, .val (.long bu88), .second, .val (.int (1 : Int32))] []))
      refine ownEnds.law (fun t k => XS.aloadN X93.here hx rfl (hb hby d5_15) rfl rfl k) ?_
      show ownEnds _ _ _ _ (T93.setTop (mkF m 16 #[.val (.ref oa), .val (.ref ob), .val (.int xf), .val (.ref oc), .val (.int (kk + (1 : Int32))), .val (.int fst), .val (.int ww), .val (.long mm), .second, .val (.long bu88), .second, .val (.int (1 : Int32))] [(.ref oa)]))
      obtain ⟨T95, X95, e95, st95⟩ := getF X93 hx hZ hown (host := "") (Or.inl (wd_41 hw)) Via.refl e93 f89 (g := (mkF m 16 #[.val (.ref oa), .val (.ref ob), .val (.int xf), .val (.ref oc), .val (.int (kk + (1 : Int32))), .val (.int fst), .val (.int ww), .val (.long mm), .second, .val (.long bu88), .second, .val (.int (1 : Int32))] [(.ref oa)])) rfl rfl (hb hby d5_16)
      refine ownEnds.law st95 ?_
      show ownEnds _ _ _ _ (T95.setTop (mkF m 19 #[.val (.ref oa), .val (.ref ob), .val (.int xf), .val (.ref oc), .val (.int (kk + (1 : Int32))), .val (.int fst), .val (.int ww), .val (.long mm), .second, .val (.long bu88), .second, .val (.int (1 : Int32))] [(.ref c4)]))
      refine ownEnds.law (fun t k => XS.iload X95.here hx rfl (hb hby d5_19) rfl k) ?_
      show ownEnds _ _ _ _ (T95.setTop (mkF m 21 #[.val (.ref oa), .val (.ref ob), .val (.int xf), .val (.ref oc), .val (.int (kk + (1 : Int32))), .val (.int fst), .val (.int ww), .val (.long mm), .second, .val (.long bu88), .second, .val (.int (1 : Int32))] [(.int (kk + (1 : Int32))), (.ref c4)]))
      obtain ⟨cl96, Ar96, q96, S96, N96, H96, G96⟩ := id f92
      have hi96 := inb_of (j := (kk + (1 : Int32))) S96 (by rw [hkn]; exact ⟨B1.1, B1.2.1⟩)
      have hv96 : cl96.slots[((kk + (1 : Int32))).toNatClampNeg]? = some (.int (1 : Int32)) := H96.at hi96 (by rw [hkn]; exact R1 hN1)
      refine ownEnds.law (X95.iaload hx (j := (kk + (1 : Int32))) (v := (.int (1 : Int32))) (by rw [e95]; exact Ar96.1) (State.isArrayOf_alike hZ.alike Ar96.2.1) Ar96.2.2 hi96 hv96 (g := (mkF m 21 #[.val (.ref oa), .val (.ref ob), .val (.int xf), .val (.ref oc), .val (.int (kk + (1 : Int32))), .val (.int fst), .val (.int ww), .val (.long mm), .second, .val (.long bu88), .second, .val (.int (1 : Int32))] [(.int (kk + (1 : Int32))), (.ref c4)])) rfl rfl (hb hby d5_21)) ?_
      show ownEnds _ _ _ _ (T95.setTop (mkF m 22 #[.val (.ref oa), .val (.ref ob), .val (.int xf), .val (.ref oc), .val (.int (kk + (1 : Int32))), .val (.int fst), .val (.int ww), .val (.long mm), .second, .val (.long bu88), .second, .val (.int (1 : Int32))] [(.int (1 : Int32))]))
      refine ownEnds.law (fun t k => XS.istore X95.here hx rfl (hb hby d5_22) rfl (l' := #[.val (.ref oa), .val (.ref ob), .val (.int xf), .val (.ref oc), .val (.int (kk + (1 : Int32))), .val (.int (1 : Int32)), .val (.int ww), .val (.long mm), .second, .val (.long bu88), .second, .val (.int (1 : Int32))]) rfl (XS.aloadN X95.here hx rfl (hb hby d5_24) rfl rfl k)) ?_
      show ownEnds _ _ _ _ (T95.setTop (mkF m 25 #[.val (.ref oa), .val (.ref ob), .val (.int xf), .val (.ref oc), .val (.int (kk + (1 : Int32))), .val (.int (1 : Int32)), .val (.int ww), .val (.long mm), .second, .val (.long bu88), .second, .val (.int (1 : Int32))] [(.ref oa)]))
      have f97 := (Fld.other W87 (Fld.keep F0 Kp (ninS ne_oa_oc nin0)) (Or.inl ne_oa_oc))
      obtain ⟨T98, X98, e98, st98⟩ := getF X95 hx hZ hown (host := "") (Or.inl (wd_23 hw)) Via.refl e95 f97 (g := (mkF m 25 #[.val (.ref oa), .val (.ref ob), .val (.int xf), .val (.ref oc), .val (.int (kk + (1 : Int32))), .val (.int (1 : Int32)), .val (.int ww), .val (.long mm), .second, .val (.long bu88), .second, .val (.int (1 : Int32))] [(.ref oa)])) rfl rfl (hb hby d5_25)
      refine ownEnds.law st98 ?_
      show ownEnds _ _ _ _ (T98.setTop (mkF m 28 #[.val (.ref oa), .val (.ref ob), .val (.int xf), .val (.ref oc), .val (.int (kk + (1 : Int32))), .val (.int (1 : Int32)), .val (.int ww), .val (.long mm), .second, .val (.long bu88), .second, .val (.int (1 : Int32))] [(.ref c0)]))
      refine ownEnds.law (fun t k => XS.iload X98.here hx rfl (hb hby d5_28) rfl k) ?_
      show ownEnds _ _ _ _ (T98.setTop (mkF m 30 #[.val (.ref oa), .val (.ref ob), .val (.int xf), .val (.ref oc), .val (.int (kk + (1 : Int32))), .val (.int (1 : Int32)), .val (.int ww), .val (.long mm), .second, .val (.long bu88), .second, .val (.int (1 : Int32))] [(.int (1 : Int32)), (.ref c0)]))
      have f100 := (Arv.other (Arv.keep V0 Kp (ninS ne_c0_oc nin0)) W87 ne_c0_oc)
      obtain ⟨cl99, Ar99, q99, S99, N99, H99, G99⟩ := id f100
      have hi99 := inb_of (j := (1 : Int32)) S99 ⟨by decide, by decide⟩
      have hv99 : cl99.slots[((1 : Int32)).toNatClampNeg]? = some (.int w1) := H99.at hi99 rfl
      refine ownEnds.law (fun t k => X98.iaload hx (j := (1 : Int32)) (v := (.int w1)) (by rw [e98]; exact Ar99.1) (State.isArrayOf_alike hZ.alike Ar99.2.1) Ar99.2.2 hi99 hv99 (g := (mkF m 30 #[.val (.ref oa), .val (.ref ob), .val (.int xf), .val (.ref oc), .val (.int (kk + (1 : Int32))), .val (.int (1 : Int32)), .val (.int ww), .val (.long mm), .second, .val (.long bu88), .second, .val (.int (1 : Int32))] [(.int (1 : Int32)), (.ref c0)])) rfl rfl (hb hby d5_30) _ (XS.istore X98.here hx rfl (hb hby d5_31) rfl (l' := #[.val (.ref oa), .val (.ref ob), .val (.int xf), .val (.ref oc), .val (.int (kk + (1 : Int32))), .val (.int (1 : Int32)), .val (.int w1), .val (.long mm), .second, .val (.long bu88), .second, .val (.int (1 : Int32))]) rfl (XS.aloadN X98.here hx rfl (hb hby d5_33) rfl rfl k))) ?_
      show ownEnds _ _ _ _ (T98.setTop (mkF m 34 #[.val (.ref oa), .val (.ref ob), .val (.int xf), .val (.ref oc), .val (.int (kk + (1 : Int32))), .val (.int (1 : Int32)), .val (.int w1), .val (.long mm), .second, .val (.long bu88), .second, .val (.int (1 : Int32))] [(.ref oa)]))
      have f101 := (Fld.other W87 (Fld.keep F3 Kp (ninS ne_oa_oc nin0)) (Or.inl ne_oa_oc))
      obtain ⟨T102, X102, e102, st102⟩ := getF X98 hx hZ hown (host := "") (Or.inl (wd_30 hw)) Via.refl e98 f101 (g := (mkF m 34 #[.val (.ref oa), .val (.ref ob), .val (.int xf), .val (.ref oc), .val (.int (kk + (1 : Int32))), .val (.int (1 : Int32)), .val (.int w1), .val (.long mm), .second, .val (.long bu88), .second, .val (.int (1 : Int32))] [(.ref oa)])) rfl rfl (hb hby d5_34)
      refine ownEnds.law st102 ?_
      show ownEnds _ _ _ _ (T102.setTop (mkF m 37 #[.val (.ref oa), .val (.ref ob), .val (.int xf), .val (.ref oc), .val (.int (kk + (1 : Int32))), .val (.int (1 : Int32)), .val (.int w1), .val (.long mm), .second, .val (.long bu88), .second, .val (.int (1 : Int32))] [(.ref c3)]))
      refine ownEnds.law (fun t k => XS.iload X102.here hx rfl (hb hby d5_37) rfl k) ?_
      show ownEnds _ _ _ _ (T102.setTop (mkF m 39 #[.val (.ref oa), .val (.ref ob), .val (.int xf), .val (.ref oc), .val (.int (kk + (1 : Int32))), .val (.int (1 : Int32)), .val (.int w1), .val (.long mm), .second, .val (.long bu88), .second, .val (.int (1 : Int32))] [(.int (1 : Int32)), (.ref c3)]))
      have f104 := (Arv.other (Arv.keep V3 Kp (ninS ne_c3_oc nin0)) W87 ne_c3_oc)
      obtain ⟨cl103, Ar103, q103, S103, N103, H103, G103⟩ := id f104
      have hi103 := inb_of (j := (1 : Int32)) S103 ⟨by decide, by decide⟩
      have hv103 : cl103.slots[((1 : Int32)).toNatClampNeg]? = some (.long (LM w1)) := H103.at hi103 rfl
      refine ownEnds.law (fun t k => X102.laload hx (j := (1 : Int32)) (v := (.long (LM w1))) (by rw [e102]; exact Ar103.1) (State.isArrayOf_alike hZ.alike Ar103.2.1) Ar103.2.2 hi103 hv103 (g := (mkF m 39 #[.val (.ref oa), .val (.ref ob), .val (.int xf), .val (.ref oc), .val (.int (kk + (1 : Int32))), .val (.int (1 : Int32)), .val (.int w1), .val (.long mm), .second, .val (.long bu88), .second, .val (.int (1 : Int32))] [(.int (1 : Int32)), (.ref c3)])) rfl rfl (hb hby d5_39) _ (XS.lstore X102.here hx rfl (hb hby d5_40) rfl (l' := #[.val (.ref oa), .val (.ref ob), .val (.int xf), .val (.ref oc), .val (.int (kk + (1 : Int32))), .val (.int (1 : Int32)), .val (.int w1), .val (.long (LM w1)), .second, .val (.long bu88), .second, .val (.int (1 : Int32))]) rfl (XS.aloadN X102.here hx rfl (hb hby d5_42) rfl rfl (XS.iloadN X102.here hx rfl (hb hby d5_43) rfl (XS.aloadN X102.here hx rfl (hb hby d5_44) rfl rfl k))))) ?_
      show ownEnds _ _ _ _ (T102.setTop (mkF m 45 #[.val (.ref oa), .val (.ref ob), .val (.int xf), .val (.ref oc), .val (.int (kk + (1 : Int32))), .val (.int (1 : Int32)), .val (.int w1), .val (.long (LM w1)), .second, .val (.long bu88), .second, .val (.int (1 : Int32))] [(.ref oa), (.int xf), (.ref ob)]))
      have f105 := (Fld.other W87 (Fld.keep F1 Kp (ninS ne_oa_oc nin0)) (Or.inl ne_oa_oc))
      obtain ⟨T106, X106, e106, st106⟩ := getF X102 hx hZ hown (host := "") (Or.inl (wd_25 hw)) Via.refl e102 f105 (g := (mkF m 45 #[.val (.ref oa), .val (.ref ob), .val (.int xf), .val (.ref oc), .val (.int (kk + (1 : Int32))), .val (.int (1 : Int32)), .val (.int w1), .val (.long (LM w1)), .second, .val (.long bu88), .second, .val (.int (1 : Int32))] [(.ref oa), (.int xf), (.ref ob)])) rfl rfl (hb hby d5_45)
      refine ownEnds.law st106 ?_
      show ownEnds _ _ _ _ (T106.setTop (mkF m 48 #[.val (.ref oa), .val (.ref ob), .val (.int xf), .val (.ref oc), .val (.int (kk + (1 : Int32))), .val (.int (1 : Int32)), .val (.int w1), .val (.long (LM w1)), .second, .val (.long bu88), .second, .val (.int (1 : Int32))] [(.ref c1), (.int xf), (.ref ob)]))
      refine ownEnds.law (fun t k => XS.iload X106.here hx rfl (hb hby d5_48) rfl k) ?_
      show ownEnds _ _ _ _ (T106.setTop (mkF m 50 #[.val (.ref oa), .val (.ref ob), .val (.int xf), .val (.ref oc), .val (.int (kk + (1 : Int32))), .val (.int (1 : Int32)), .val (.int w1), .val (.long (LM w1)), .second, .val (.long bu88), .second, .val (.int (1 : Int32))] [(.int (1 : Int32)), (.ref c1), (.int xf), (.ref ob)]))
      have f108 := (Arv.other (Arv.keep V1 Kp (ninS ne_c1_oc nin0)) W87 ne_c1_oc)
      obtain ⟨cl107, Ar107, q107, S107, N107, H107, G107⟩ := id f108
      have hi107 := inb_of (j := (1 : Int32)) S107 ⟨by decide, by decide⟩
      have hv107 : cl107.slots[((1 : Int32)).toNatClampNeg]? = some (.int (LI1 w0 w1)) := H107.at hi107 rfl
      refine ownEnds.law (fun t k => X106.iaload hx (j := (1 : Int32)) (v := (.int (LI1 w0 w1))) (by rw [e106]; exact Ar107.1) (State.isArrayOf_alike hZ.alike Ar107.2.1) Ar107.2.2 hi107 hv107 (g := (mkF m 50 #[.val (.ref oa), .val (.ref ob), .val (.int xf), .val (.ref oc), .val (.int (kk + (1 : Int32))), .val (.int (1 : Int32)), .val (.int w1), .val (.long (LM w1)), .second, .val (.long bu88), .second, .val (.int (1 : Int32))] [(.int (1 : Int32)), (.ref c1), (.int xf), (.ref ob)])) rfl rfl (hb hby d5_50) _ (XS.iadd X106.here hx rfl (hb hby d5_51) rfl k)) ?_
      show ownEnds _ _ _ _ (T106.setTop (mkF m 52 #[.val (.ref oa), .val (.ref ob), .val (.int xf), .val (.ref oc), .val (.int (kk + (1 : Int32))), .val (.int (1 : Int32)), .val (.int w1), .val (.long (LM w1)), .second, .val (.long bu88), .second, .val (.int (1 : Int32))] [(.int (xf + (LI1 w0 w1))), (.ref ob)]))
      have f110 := (Arv.other (Arv.keep Vb Kp (ninS ne_ob_oc nin0)) W87 ne_ob_oc)
      obtain ⟨cl109, Ar109, q109, S109, N109, H109, G109⟩ := id f110
      have hi109 := inb_of (j := (xf + (LI1 w0 w1))) S109 ((hS _ (own_r1 _ _)).1)
      have hv109 : cl109.slots[((xf + (LI1 w0 w1))).toNatClampNeg]? = some (.long (GW (LI1 w0 w1) s0 s1 s2 s3)) := H109.at hi109 ((hS _ (own_r1 _ _)).2)
      refine ownEnds.law (X106.laload hx (j := (xf + (LI1 w0 w1))) (v := (.long (GW (LI1 w0 w1) s0 s1 s2 s3))) (by rw [e106]; exact Ar109.1) (State.isArrayOf_alike hZ.alike Ar109.2.1) Ar109.2.2 hi109 hv109 (g := (mkF m 52 #[.val (.ref oa), .val (.ref ob), .val (.int xf), .val (.ref oc), .val (.int (kk + (1 : Int32))), .val (.int (1 : Int32)), .val (.int w1), .val (.long (LM w1)), .second, .val (.long bu88), .second, .val (.int (1 : Int32))] [(.int (xf + (LI1 w0 w1))), (.ref ob)])) rfl rfl (hb hby d5_52)) ?_
      show ownEnds _ _ _ _ (T106.setTop (mkF m 53 #[.val (.ref oa), .val (.ref ob), .val (.int xf), .val (.ref oc), .val (.int (kk + (1 : Int32))), .val (.int (1 : Int32)), .val (.int w1), .val (.long (LM w1)), .second, .val (.long bu88), .second, .val (.int (1 : Int32))] [(.long (GW (LI1 w0 w1) s0 s1 s2 s3))]))
      refine ownEnds.law (fun t k => XS.aloadN X106.here hx rfl (hb hby d5_53) rfl rfl k) ?_
      show ownEnds _ _ _ _ (T106.setTop (mkF m 54 #[.val (.ref oa), .val (.ref ob), .val (.int xf), .val (.ref oc), .val (.int (kk + (1 : Int32))), .val (.int (1 : Int32)), .val (.int w1), .val (.long (LM w1)), .second, .val (.long bu88), .second, .val (.int (1 : Int32))] [(.ref oa), (.long (GW (LI1 w0 w1) s0 s1 s2 s3))]))
      have f111 := (Fld.other W87 (Fld.keep F2 Kp (ninS ne_oa_oc nin0)) (Or.inl ne_oa_oc))
      obtain ⟨T112, X112, e112, st112⟩ := getF X106 hx hZ hown (host := "") (Or.inl (wd_27 hw)) Via.refl e106 f111 (g := (mkF m 54 #[.val (.ref oa), .val (.ref ob), .val (.int xf), .val (.ref oc), .val (.int (kk + (1 : Int32))), .val (.int (1 : Int32)), .val (.int w1), .val (.long (LM w1)), .second, .val (.long bu88), .second, .val (.int (1 : Int32))] [(.ref oa), (.long (GW (LI1 w0 w1) s0 s1 s2 s3))])) rfl rfl (hb hby d5_54)
      refine ownEnds.law st112 ?_
      show ownEnds _ _ _ _ (T112.setTop (mkF m 57 #[.val (.ref oa), .val (.ref ob), .val (.int xf), .val (.ref oc), .val (.int (kk + (1 : Int32))), .val (.int (1 : Int32)), .val (.int w1), .val (.long (LM w1)), .second, .val (.long bu88), .second, .val (.int (1 : Int32))] [(.ref c2), (.long (GW (LI1 w0 w1) s0 s1 s2 s3))]))
      refine ownEnds.law (fun t k => XS.iload X112.here hx rfl (hb hby d5_57) rfl k) ?_
      show ownEnds _ _ _ _ (T112.setTop (mkF m 59 #[.val (.ref oa), .val (.ref ob), .val (.int xf), .val (.ref oc), .val (.int (kk + (1 : Int32))), .val (.int (1 : Int32)), .val (.int w1), .val (.long (LM w1)), .second, .val (.long bu88), .second, .val (.int (1 : Int32))] [(.int (1 : Int32)), (.ref c2), (.long (GW (LI1 w0 w1) s0 s1 s2 s3))]))
      have f114 := (Arv.other (Arv.keep V2 Kp (ninS ne_c2_oc nin0)) W87 ne_c2_oc)
      obtain ⟨cl113, Ar113, q113, S113, N113, H113, G113⟩ := id f114
      have hi113 := inb_of (j := (1 : Int32)) S113 ⟨by decide, by decide⟩
      have hv113 : cl113.slots[((1 : Int32)).toNatClampNeg]? = some (.int (LS1 w0 w1)) := H113.at hi113 rfl
      refine ownEnds.law (fun t k => X112.iaload hx (j := (1 : Int32)) (v := (.int (LS1 w0 w1))) (by rw [e112]; exact Ar113.1) (State.isArrayOf_alike hZ.alike Ar113.2.1) Ar113.2.2 hi113 hv113 (g := (mkF m 59 #[.val (.ref oa), .val (.ref ob), .val (.int xf), .val (.ref oc), .val (.int (kk + (1 : Int32))), .val (.int (1 : Int32)), .val (.int w1), .val (.long (LM w1)), .second, .val (.long bu88), .second, .val (.int (1 : Int32))] [(.int (1 : Int32)), (.ref c2), (.long (GW (LI1 w0 w1) s0 s1 s2 s3))])) rfl rfl (hb hby d5_59) _ (XS.lushr X112.here hx rfl (hb hby d5_60) rfl k)) ?_
      show ownEnds _ _ _ _ (T112.setTop (mkF m 61 #[.val (.ref oa), .val (.ref ob), .val (.int xf), .val (.ref oc), .val (.int (kk + (1 : Int32))), .val (.int (1 : Int32)), .val (.int w1), .val (.long (LM w1)), .second, .val (.long bu88), .second, .val (.int (1 : Int32))] [(.long (((GW (LI1 w0 w1) s0 s1 s2 s3).toUInt64 >>> ((LS1 w0 w1) &&& 0x3f).toInt64.toUInt64).toInt64))]))
      obtain ⟨bt115, e_bt115⟩ : ∃ z : Int64, z = (((GW (LI1 w0 w1) s0 s1 s2 s3).toUInt64 >>> ((LS1 w0 w1) &&& 0x3f).toInt64.toUInt64).toInt64) := ⟨_, rfl⟩
      rw [← e_bt115]
      show ownEnds _ _ _ _ (T112.setTop (mkF m 61 #[.val (.ref oa), .val (.ref ob), .val (.int xf), .val (.ref oc), .val (.int (kk + (1 : Int32))), .val (.int (1 : Int32)), .val (.int w1), .val (.long (LM w1)), .second, .val (.long bu88), .second, .val (.int (1 : Int32))] [(.long bt115)]))
      refine ownEnds.law (fun t k => XS.lstore X112.here hx rfl (hb hby d5_61) rfl (l' := #[.val (.ref oa), .val (.ref ob), .val (.int xf), .val (.ref oc), .val (.int (kk + (1 : Int32))), .val (.int (1 : Int32)), .val (.int w1), .val (.long (LM w1)), .second, .val (.long bt115), .second, .val (.int (1 : Int32))]) rfl (XS.iload X112.here hx rfl (hb hby d5_63) rfl (XS.istore X112.here hx rfl (hb hby d5_65) rfl (l' := #[.val (.ref oa), .val (.ref ob), .val (.int xf), .val (.ref oc), .val (.int (kk + (1 : Int32))), .val (.int (1 : Int32)), .val (.int w1), .val (.long (LM w1)), .second, .val (.long bt115), .second, .val (.int (1 : Int32))]) rfl k))) ?_
      show ownEnds _ _ _ _ (T112.setTop (mkF m 67 #[.val (.ref oa), .val (.ref ob), .val (.int xf), .val (.ref oc), .val (.int (kk + (1 : Int32))), .val (.int (1 : Int32)), .val (.int w1), .val (.long (LM w1)), .second, .val (.long bt115), .second, .val (.int (1 : Int32))] []))
      exact J1 _ _ _ X112 N87 e112 (KK87) _ _ _ _ _ hkn rfl rfl (by rw [e_bt115]; rfl) VV1
  show ownEnds _ _ _ _ (T0.setTop (mkF m 0 #[.val (.ref oa), .val (.ref ob), .val (.int xf), .val (.ref oc), .unset, .unset, .unset, .unset, .unset, .unset, .unset, .unset] []))
  refine ownEnds.law (fun t k => XS.iconst X0.here hx rfl (hb hby d5_0) (XS.istore X0.here hx rfl (hb hby d5_1) rfl (l' := #[.val (.ref oa), .val (.ref ob), .val (.int xf), .val (.ref oc), .val (.int (0 : Int32)), .unset, .unset, .unset, .unset, .unset, .unset, .unset]) rfl (XS.iload X0.here hx rfl (hb hby d5_3) rfl (XS.aloadN X0.here hx rfl (hb hby d5_5) rfl rfl k)))) ?_
  show ownEnds _ _ _ _ (T0.setTop (mkF m 6 #[.val (.ref oa), .val (.ref ob), .val (.int xf), .val (.ref oc), .val (.int (0 : Int32)), .unset, .unset, .unset, .unset, .unset, .unset, .unset] [(.ref oa), (.int (0 : Int32))]))
  obtain ⟨T116, X116, e116, st116⟩ := getF X0 hx hZ hown (host := "") (Or.inl (wd_41 hw)) Via.refl e0 F4 (g := (mkF m 6 #[.val (.ref oa), .val (.ref ob), .val (.int xf), .val (.ref oc), .val (.int (0 : Int32)), .unset, .unset, .unset, .unset, .unset, .unset, .unset] [(.ref oa), (.int (0 : Int32))])) rfl rfl (hb hby d5_6)
  refine ownEnds.law st116 ?_
  show ownEnds _ _ _ _ (T116.setTop (mkF m 9 #[.val (.ref oa), .val (.ref ob), .val (.int xf), .val (.ref oc), .val (.int (0 : Int32)), .unset, .unset, .unset, .unset, .unset, .unset, .unset] [(.ref c4), (.int (0 : Int32))]))
  obtain ⟨cl117, Ar117, -, S117, N117, -, -⟩ := id V4
  refine ownEnds.law (X116.arraylength hx (by rw [e116]; exact Ar117.1) (State.isArrayOf_alike hZ.alike Ar117.2.1) (g := (mkF m 9 #[.val (.ref oa), .val (.ref ob), .val (.int xf), .val (.ref oc), .val (.int (0 : Int32)), .unset, .unset, .unset, .unset, .unset, .unset, .unset] [(.ref c4), (.int (0 : Int32))])) rfl rfl (hb hby d5_9)) ?_
  rw [len_of S117 N117]
  show ownEnds _ _ _ _ (T116.setTop (mkF m 10 #[.val (.ref oa), .val (.ref ob), .val (.int xf), .val (.ref oc), .val (.int (0 : Int32)), .unset, .unset, .unset, .unset, .unset, .unset, .unset] [(.int len), (.int (0 : Int32))]))
  refine ownEnds.law (fun t k => XS.iconst X116.here hx rfl (hb hby d5_10) (XS.isub X116.here hx rfl (hb hby d5_11) rfl k)) ?_
  show ownEnds _ _ _ _ (T116.setTop (mkF m 12 #[.val (.ref oa), .val (.ref ob), .val (.int xf), .val (.ref oc), .val (.int (0 : Int32)), .unset, .unset, .unset, .unset, .unset, .unset, .unset] [(.int (len - (1 : Int32))), (.int (0 : Int32))]))
  have hc12 : (0 : Int32) < (len - (1 : Int32)) := B0.2.2.2.2
  refine ownEnds.law (fun t => XS.icmpNo X116.here hx rfl (hb hby d5_12) rfl (tlt hc12).2.1) ?_
  show ownEnds _ _ _ _ (T116.setTop (mkF m 15 #[.val (.ref oa), .val (.ref ob), .val (.int xf), .val (.ref oc), .val (.int (0 : Int32)), .unset, .unset, .unset, .unset, .unset, .unset, .unset] []))
  refine ownEnds.law (fun t k => XS.aloadN X116.here hx rfl (hb hby d5_15) rfl rfl k) ?_
  show ownEnds _ _ _ _ (T116.setTop (mkF m 16 #[.val (.ref oa), .val (.ref ob), .val (.int xf), .val (.ref oc), .val (.int (0 : Int32)), .unset, .unset, .unset, .unset, .unset, .unset, .unset] [(.ref oa)]))
  obtain ⟨T118, X118, e118, st118⟩ := getF X116 hx hZ hown (host := "") (Or.inl (wd_41 hw)) Via.refl e116 F4 (g := (mkF m 16 #[.val (.ref oa), .val (.ref ob), .val (.int xf), .val (.ref oc), .val (.int (0 : Int32)), .unset, .unset, .unset, .unset, .unset, .unset, .unset] [(.ref oa)])) rfl rfl (hb hby d5_16)
  refine ownEnds.law st118 ?_
  show ownEnds _ _ _ _ (T118.setTop (mkF m 19 #[.val (.ref oa), .val (.ref ob), .val (.int xf), .val (.ref oc), .val (.int (0 : Int32)), .unset, .unset, .unset, .unset, .unset, .unset, .unset] [(.ref c4)]))
  refine ownEnds.law (fun t k => XS.iload X118.here hx rfl (hb hby d5_19) rfl k) ?_
  show ownEnds _ _ _ _ (T118.setTop (mkF m 21 #[.val (.ref oa), .val (.ref ob), .val (.int xf), .val (.ref oc), .val (.int (0 : Int32)), .unset, .unset, .unset, .unset, .unset, .unset, .unset] [(.int (0 : Int32)), (.ref c4)]))
  obtain ⟨cl119, Ar119, q119, S119, N119, H119, G119⟩ := id V4
  have hi119 := inb_of (j := (0 : Int32)) S119 (⟨B0.1, B0.2.1⟩)
  have hv119 : cl119.slots[((0 : Int32)).toNatClampNeg]? = some (.int (0 : Int32)) := H119.at hi119 (R0)
  refine ownEnds.law (X118.iaload hx (j := (0 : Int32)) (v := (.int (0 : Int32))) (by rw [e118]; exact Ar119.1) (State.isArrayOf_alike hZ.alike Ar119.2.1) Ar119.2.2 hi119 hv119 (g := (mkF m 21 #[.val (.ref oa), .val (.ref ob), .val (.int xf), .val (.ref oc), .val (.int (0 : Int32)), .unset, .unset, .unset, .unset, .unset, .unset, .unset] [(.int (0 : Int32)), (.ref c4)])) rfl rfl (hb hby d5_21)) ?_
  show ownEnds _ _ _ _ (T118.setTop (mkF m 22 #[.val (.ref oa), .val (.ref ob), .val (.int xf), .val (.ref oc), .val (.int (0 : Int32)), .unset, .unset, .unset, .unset, .unset, .unset, .unset] [(.int (0 : Int32))]))
  refine ownEnds.law (fun t k => XS.istore X118.here hx rfl (hb hby d5_22) rfl (l' := #[.val (.ref oa), .val (.ref ob), .val (.int xf), .val (.ref oc), .val (.int (0 : Int32)), .val (.int (0 : Int32)), .unset, .unset, .unset, .unset, .unset, .unset]) rfl (XS.aloadN X118.here hx rfl (hb hby d5_24) rfl rfl k)) ?_
  show ownEnds _ _ _ _ (T118.setTop (mkF m 25 #[.val (.ref oa), .val (.ref ob), .val (.int xf), .val (.ref oc), .val (.int (0 : Int32)), .val (.int (0 : Int32)), .unset, .unset, .unset, .unset, .unset, .unset] [(.ref oa)]))
  obtain ⟨T120, X120, e120, st120⟩ := getF X118 hx hZ hown (host := "") (Or.inl (wd_23 hw)) Via.refl e118 F0 (g := (mkF m 25 #[.val (.ref oa), .val (.ref ob), .val (.int xf), .val (.ref oc), .val (.int (0 : Int32)), .val (.int (0 : Int32)), .unset, .unset, .unset, .unset, .unset, .unset] [(.ref oa)])) rfl rfl (hb hby d5_25)
  refine ownEnds.law st120 ?_
  show ownEnds _ _ _ _ (T120.setTop (mkF m 28 #[.val (.ref oa), .val (.ref ob), .val (.int xf), .val (.ref oc), .val (.int (0 : Int32)), .val (.int (0 : Int32)), .unset, .unset, .unset, .unset, .unset, .unset] [(.ref c0)]))
  refine ownEnds.law (fun t k => XS.iload X120.here hx rfl (hb hby d5_28) rfl k) ?_
  show ownEnds _ _ _ _ (T120.setTop (mkF m 30 #[.val (.ref oa), .val (.ref ob), .val (.int xf), .val (.ref oc), .val (.int (0 : Int32)), .val (.int (0 : Int32)), .unset, .unset, .unset, .unset, .unset, .unset] [(.int (0 : Int32)), (.ref c0)]))
  obtain ⟨cl121, Ar121, q121, S121, N121, H121, G121⟩ := id V0
  have hi121 := inb_of (j := (0 : Int32)) S121 ⟨by decide, by decide⟩
  have hv121 : cl121.slots[((0 : Int32)).toNatClampNeg]? = some (.int w0) := H121.at hi121 rfl
  refine ownEnds.law (fun t k => X120.iaload hx (j := (0 : Int32)) (v := (.int w0)) (by rw [e120]; exact Ar121.1) (State.isArrayOf_alike hZ.alike Ar121.2.1) Ar121.2.2 hi121 hv121 (g := (mkF m 30 #[.val (.ref oa), .val (.ref ob), .val (.int xf), .val (.ref oc), .val (.int (0 : Int32)), .val (.int (0 : Int32)), .unset, .unset, .unset, .unset, .unset, .unset] [(.int (0 : Int32)), (.ref c0)])) rfl rfl (hb hby d5_30) _ (XS.istore X120.here hx rfl (hb hby d5_31) rfl (l' := #[.val (.ref oa), .val (.ref ob), .val (.int xf), .val (.ref oc), .val (.int (0 : Int32)), .val (.int (0 : Int32)), .val (.int w0), .unset, .unset, .unset, .unset, .unset]) rfl (XS.aloadN X120.here hx rfl (hb hby d5_33) rfl rfl k))) ?_
  show ownEnds _ _ _ _ (T120.setTop (mkF m 34 #[.val (.ref oa), .val (.ref ob), .val (.int xf), .val (.ref oc), .val (.int (0 : Int32)), .val (.int (0 : Int32)), .val (.int w0), .unset, .unset, .unset, .unset, .unset] [(.ref oa)]))
  obtain ⟨T122, X122, e122, st122⟩ := getF X120 hx hZ hown (host := "") (Or.inl (wd_30 hw)) Via.refl e120 F3 (g := (mkF m 34 #[.val (.ref oa), .val (.ref ob), .val (.int xf), .val (.ref oc), .val (.int (0 : Int32)), .val (.int (0 : Int32)), .val (.int w0), .unset, .unset, .unset, .unset, .unset] [(.ref oa)])) rfl rfl (hb hby d5_34)
  refine ownEnds.law st122 ?_
  show ownEnds _ _ _ _ (T122.setTop (mkF m 37 #[.val (.ref oa), .val (.ref ob), .val (.int xf), .val (.ref oc), .val (.int (0 : Int32)), .val (.int (0 : Int32)), .val (.int w0), .unset, .unset, .unset, .unset, .unset] [(.ref c3)]))
  refine ownEnds.law (fun t k => XS.iload X122.here hx rfl (hb hby d5_37) rfl k) ?_
  show ownEnds _ _ _ _ (T122.setTop (mkF m 39 #[.val (.ref oa), .val (.ref ob), .val (.int xf), .val (.ref oc), .val (.int (0 : Int32)), .val (.int (0 : Int32)), .val (.int w0), .unset, .unset, .unset, .unset, .unset] [(.int (0 : Int32)), (.ref c3)]))
  obtain ⟨cl123, Ar123, q123, S123, N123, H123, G123⟩ := id V3
  have hi123 := inb_of (j := (0 : Int32)) S123 ⟨by decide, by decide⟩
  have hv123 : cl123.slots[((0 : Int32)).toNatClampNeg]? = some (.long (LM w0)) := H123.at hi123 rfl
  refine ownEnds.law (fun t k => X122.laload hx (j := (0 : Int32)) (v := (.long (LM w0))) (by rw [e122]; exact Ar123.1) (State.isArrayOf_alike hZ.alike Ar123.2.1) Ar123.2.2 hi123 hv123 (g := (mkF m 39 #[.val (.ref oa), .val (.ref ob), .val (.int xf), .val (.ref oc), .val (.int (0 : Int32)), .val (.int (0 : Int32)), .val (.int w0), .unset, .unset, .unset, .unset, .unset] [(.int (0 : Int32)), (.ref c3)])) rfl rfl (hb hby d5_39) _ (XS.lstore X122.here hx rfl (hb hby d5_40) rfl (l' := #[.val (.ref oa), .val (.ref ob), .val (.int xf), .val (.ref oc), .val (.int (0 : Int32)), .val (.int (0 : Int32)), .val (.int w0), .val (.long (LM w0)), .second, .unset, .unset, .unset]) rfl (XS.aloadN X122.here hx rfl (hb hby d5_42) rfl rfl (XS.iloadN X122.here hx rfl (hb hby d5_43) rfl (XS.aloadN X122.here hx rfl (hb hby d5_44) rfl rfl k))))) ?_
  show ownEnds _ _ _ _ (T122.setTop (mkF m 45 #[.val (.ref oa), .val (.ref ob), .val (.int xf), .val (.ref oc), .val (.int (0 : Int32)), .val (.int (0 : Int32)), .val (.int w0), .val (.long (LM w0)), .second, .unset, .unset, .unset] [(.ref oa), (.int xf), (.ref ob)]))
  obtain ⟨T124, X124, e124, st124⟩ := getF X122 hx hZ hown (host := "") (Or.inl (wd_25 hw)) Via.refl e122 F1 (g := (mkF m 45 #[.val (.ref oa), .val (.ref ob), .val (.int xf), .val (.ref oc), .val (.int (0 : Int32)), .val (.int (0 : Int32)), .val (.int w0), .val (.long (LM w0)), .second, .unset, .unset, .unset] [(.ref oa), (.int xf), (.ref ob)])) rfl rfl (hb hby d5_45)
  refine ownEnds.law st124 ?_
  show ownEnds _ _ _ _ (T124.setTop (mkF m 48 #[.val (.ref oa), .val (.ref ob), .val (.int xf), .val (.ref oc), .val (.int (0 : Int32)), .val (.int (0 : Int32)), .val (.int w0), .val (.long (LM w0)), .second, .unset, .unset, .unset] [(.ref c1), (.int xf), (.ref ob)]))
  refine ownEnds.law (fun t k => XS.iload X124.here hx rfl (hb hby d5_48) rfl k) ?_
  show ownEnds _ _ _ _ (T124.setTop (mkF m 50 #[.val (.ref oa), .val (.ref ob), .val (.int xf), .val (.ref oc), .val (.int (0 : Int32)), .val (.int (0 : Int32)), .val (.int w0), .val (.long (LM w0)), .second, .unset, .unset, .unset] [(.int (0 : Int32)), (.ref c1), (.int xf), (.ref ob)]))
  obtain ⟨cl125, Ar125, q125, S125, N125, H125, G125⟩ := id V1
  have hi125 := inb_of (j := (0 : Int32)) S125 ⟨by decide, by decide⟩
  have hv125 : cl125.slots[((0 : Int32)).toNatClampNeg]? = some (.int (0 : Int32)) := H125.at hi125 rfl
  refine ownEnds.law (fun t k => X124.iaload hx (j := (0 : Int32)) (v := (.int (0 : Int32))) (by rw [e124]; exact Ar125.1) (State.isArrayOf_alike hZ.alike Ar125.2.1) Ar125.2.2 hi125 hv125 (g := (mkF m 50 #[.val (.ref oa), .val (.ref ob), .val (.int xf), .val (.ref oc), .val (.int (0 : Int32)), .val (.int (0 : Int32)), .val (.int w0), .val (.long (LM w0)), .second, .unset, .unset, .unset] [(.int (0 : Int32)), (.ref c1), (.int xf), (.ref ob)])) rfl rfl (hb hby d5_50) _ (XS.iadd X124.here hx rfl (hb hby d5_51) rfl k)) ?_
  show ownEnds _ _ _ _ (T124.setTop (mkF m 52 #[.val (.ref oa), .val (.ref ob), .val (.int xf), .val (.ref oc), .val (.int (0 : Int32)), .val (.int (0 : Int32)), .val (.int w0), .val (.long (LM w0)), .second, .unset, .unset, .unset] [(.int (xf + (0 : Int32))), (.ref ob)]))
  obtain ⟨cl126, Ar126, q126, S126, N126, H126, G126⟩ := id Vb
  have hi126 := inb_of (j := (xf + (0 : Int32))) S126 ((hS _ (own_r0)).1)
  have hv126 : cl126.slots[((xf + (0 : Int32))).toNatClampNeg]? = some (.long (GW (0 : Int32) s0 s1 s2 s3)) := H126.at hi126 ((hS _ (own_r0)).2)
  refine ownEnds.law (X124.laload hx (j := (xf + (0 : Int32))) (v := (.long (GW (0 : Int32) s0 s1 s2 s3))) (by rw [e124]; exact Ar126.1) (State.isArrayOf_alike hZ.alike Ar126.2.1) Ar126.2.2 hi126 hv126 (g := (mkF m 52 #[.val (.ref oa), .val (.ref ob), .val (.int xf), .val (.ref oc), .val (.int (0 : Int32)), .val (.int (0 : Int32)), .val (.int w0), .val (.long (LM w0)), .second, .unset, .unset, .unset] [(.int (xf + (0 : Int32))), (.ref ob)])) rfl rfl (hb hby d5_52)) ?_
  show ownEnds _ _ _ _ (T124.setTop (mkF m 53 #[.val (.ref oa), .val (.ref ob), .val (.int xf), .val (.ref oc), .val (.int (0 : Int32)), .val (.int (0 : Int32)), .val (.int w0), .val (.long (LM w0)), .second, .unset, .unset, .unset] [(.long (GW (0 : Int32) s0 s1 s2 s3))]))
  refine ownEnds.law (fun t k => XS.aloadN X124.here hx rfl (hb hby d5_53) rfl rfl k) ?_
  show ownEnds _ _ _ _ (T124.setTop (mkF m 54 #[.val (.ref oa), .val (.ref ob), .val (.int xf), .val (.ref oc), .val (.int (0 : Int32)), .val (.int (0 : Int32)), .val (.int w0), .val (.long (LM w0)), .second, .unset, .unset, .unset] [(.ref oa), (.long (GW (0 : Int32) s0 s1 s2 s3))]))
  obtain ⟨T127, X127, e127, st127⟩ := getF X124 hx hZ hown (host := "") (Or.inl (wd_27 hw)) Via.refl e124 F2 (g := (mkF m 54 #[.val (.ref oa), .val (.ref ob), .val (.int xf), .val (.ref oc), .val (.int (0 : Int32)), .val (.int (0 : Int32)), .val (.int w0), .val (.long (LM w0)), .second, .unset, .unset, .unset] [(.ref oa), (.long (GW (0 : Int32) s0 s1 s2 s3))])) rfl rfl (hb hby d5_54)
  refine ownEnds.law st127 ?_
  show ownEnds _ _ _ _ (T127.setTop (mkF m 57 #[.val (.ref oa), .val (.ref ob), .val (.int xf), .val (.ref oc), .val (.int (0 : Int32)), .val (.int (0 : Int32)), .val (.int w0), .val (.long (LM w0)), .second, .unset, .unset, .unset] [(.ref c2), (.long (GW (0 : Int32) s0 s1 s2 s3))]))
  refine ownEnds.law (fun t k => XS.iload X127.here hx rfl (hb hby d5_57) rfl k) ?_
  show ownEnds _ _ _ _ (T127.setTop (mkF m 59 #[.val (.ref oa), .val (.ref ob), .val (.int xf), .val (.ref oc), .val (.int (0 : Int32)), .val (.int (0 : Int32)), .val (.int w0), .val (.long (LM w0)), .second, .unset, .unset, .unset] [(.int (0 : Int32)), (.ref c2), (.long (GW (0 : Int32) s0 s1 s2 s3))]))
  obtain ⟨cl128, Ar128, q128, S128, N128, H128, G128⟩ := id V2
  have hi128 := inb_of (j := (0 : Int32)) S128 ⟨by decide, by decide⟩
  have hv128 : cl128.slots[((0 : Int32)).toNatClampNeg]? = some (.int (0 : Int32)) := H128.at hi128 rfl
  refine ownEnds.law (fun t k => X127.iaload hx (j := (0 : Int32)) (v := (.int (0 : Int32))) (by rw [e127]; exact Ar128.1) (State.isArrayOf_alike hZ.alike Ar128.2.1) Ar128.2.2 hi128 hv128 (g := (mkF m 59 #[.val (.ref oa), .val (.ref ob), .val (.int xf), .val (.ref oc), .val (.int (0 : Int32)), .val (.int (0 : Int32)), .val (.int w0), .val (.long (LM w0)), .second, .unset, .unset, .unset] [(.int (0 : Int32)), (.ref c2), (.long (GW (0 : Int32) s0 s1 s2 s3))])) rfl rfl (hb hby d5_59) _ (XS.lushr X127.here hx rfl (hb hby d5_60) rfl k)) ?_
  show ownEnds _ _ _ _ (T127.setTop (mkF m 61 #[.val (.ref oa), .val (.ref ob), .val (.int xf), .val (.ref oc), .val (.int (0 : Int32)), .val (.int (0 : Int32)), .val (.int w0), .val (.long (LM w0)), .second, .unset, .unset, .unset] [(.long (((GW (0 : Int32) s0 s1 s2 s3).toUInt64 >>> ((0 : Int32) &&& 0x3f).toInt64.toUInt64).toInt64))]))
  obtain ⟨bt129, e_bt129⟩ : ∃ z : Int64, z = (((GW (0 : Int32) s0 s1 s2 s3).toUInt64 >>> ((0 : Int32) &&& 0x3f).toInt64.toUInt64).toInt64) := ⟨_, rfl⟩
  rw [← e_bt129]
  show ownEnds _ _ _ _ (T127.setTop (mkF m 61 #[.val (.ref oa), .val (.ref ob), .val (.int xf), .val (.ref oc), .val (.int (0 : Int32)), .val (.int (0 : Int32)), .val (.int w0), .val (.long (LM w0)), .second, .unset, .unset, .unset] [(.long bt129)]))
  refine ownEnds.law (fun t k => XS.lstore X127.here hx rfl (hb hby d5_61) rfl (l' := #[.val (.ref oa), .val (.ref ob), .val (.int xf), .val (.ref oc), .val (.int (0 : Int32)), .val (.int (0 : Int32)), .val (.int w0), .val (.long (LM w0)), .second, .val (.long bt129), .second, .unset]) rfl (XS.iload X127.here hx rfl (hb hby d5_63) rfl (XS.istore X127.here hx rfl (hb hby d5_65) rfl (l' := #[.val (.ref oa), .val (.ref ob), .val (.int xf), .val (.ref oc), .val (.int (0 : Int32)), .val (.int (0 : Int32)), .val (.int w0), .val (.long (LM w0)), .second, .val (.long bt129), .second, .val (.int (0 : Int32))]) rfl k))) ?_
  show ownEnds _ _ _ _ (T127.setTop (mkF m 67 #[.val (.ref oa), .val (.ref ob), .val (.int xf), .val (.ref oc), .val (.int (0 : Int32)), .val (.int (0 : Int32)), .val (.int w0), .val (.long (LM w0)), .second, .val (.long bt129), .second, .val (.int (0 : Int32))] []))
  exact J0 _ _ _ X127 (Fr.nil n0) e127 (Keep.refl h0 [oc]) _ _ _ _ _ rfl rfl rfl (by rw [e_bt129]; rfl) Vc0
theorem own_sx0 {f : Int32} (h : f = 0 ∨ f = 1 ∨ f = 2 ∨ f = 3) : ¬ f < 0 ∧ f < 8 := by rcases h with rfl | rfl | rfl | rfl <;> decide
theorem own_sy0 {f : Int32} (h : f = 0 ∨ f = 1 ∨ f = 2 ∨ f = 3) : (f).toNatClampNeg < 8 := by rcases h with rfl | rfl | rfl | rfl <;> decide
theorem own_sx1 {f : Int32} (h : f = 0 ∨ f = 1 ∨ f = 2 ∨ f = 3) : ¬ f + 1 < 0 ∧ f + 1 < 8 := by rcases h with rfl | rfl | rfl | rfl <;> decide
theorem own_sy1 {f : Int32} (h : f = 0 ∨ f = 1 ∨ f = 2 ∨ f = 3) : (f + 1).toNatClampNeg < 8 := by rcases h with rfl | rfl | rfl | rfl <;> decide
theorem own_sx2 {f : Int32} (h : f = 0 ∨ f = 1 ∨ f = 2 ∨ f = 3) : ¬ f + 2 < 0 ∧ f + 2 < 8 := by rcases h with rfl | rfl | rfl | rfl <;> decide
theorem own_sy2 {f : Int32} (h : f = 0 ∨ f = 1 ∨ f = 2 ∨ f = 3) : (f + 2).toNatClampNeg < 8 := by rcases h with rfl | rfl | rfl | rfl <;> decide
theorem own_sx3 {f : Int32} (h : f = 0 ∨ f = 1 ∨ f = 2 ∨ f = 3) : ¬ f + 3 < 0 ∧ f + 3 < 8 := by rcases h with rfl | rfl | rfl | rfl <;> decide
theorem own_sy3 {f : Int32} (h : f = 0 ∨ f = 1 ∨ f = 2 ∨ f = 3) : (f + 3).toNatClampNeg < 8 := by rcases h with rfl | rfl | rfl | rfl <;> decide
set_option maxRecDepth 65536 in
set_option maxHeartbeats 40000000 in
theorem rm0 (l : Launch) (Z : State) (a0 : Array Value) (hw : ∀ d ∈ tables_1, d.before a0 Z = true) (xa : Int32) (xb : Int32) (s0 : Int64) (s1 : Int64) (s2 : Int64) (s3 : Int64)  (h0 : Heap) (n0 : Nat) (Z0 : n0 ≤ h0.size)  :
    ownMet l Z x code maxLocals ret tables_1 room_1 #[(.int xa), (.int xb), (.long s0), (.long s1), (.long s2), (.long s3)] h0 (fun v h L => v = some (.int 1) ∧ Fr n0 L) := by
  refine ownMet.of (plainFor_of_name pn_0) ?_
  intro p e s m below meth c T0 hx hby hml hZ hown hnm hret hlk X0 e0
  have hown : s.vm.findClass "com/example/libreach/libreach/engine/StateLayoutUnpackPinLaw" = some m.cls := hown
  have hml : c.maxLocals = 28 := hml
  have hret : meth.sig.returnType = some .boolean := hret
  refine ownEnds.cast (ef_rm0 m xa xb s0 s1 s2 s3) ?_
  obtain ⟨w0, e_w0⟩ : ∃ z : Int32, z = FWd xa := ⟨_, rfl⟩
  have hr0 : 0 < w0.toInt ∧ w0.toInt < 64 := by rw [e_w0]; exact own_fw _
  have JW1 : ∀ (T1 : State) (lc1 : List Loc) (X1 : Stand p l e room_1 s m #[(.int xa), (.int xb), (.long s0), (.long s1), (.long s2), (.long s3)] below meth c T1 lc1 0 0) (N1 : Fr n0 lc1) (e1 : T1.heap = h0) (w1 : Int32) (hr1 : 0 < w1.toInt ∧ w1.toInt < 64), ownEnds p.tables e below (ownPost s (fun v h L => v = some (.int 1) ∧ Fr n0 L) room_1.cells room_1.slots) (T1.setTop (mkF m 24 #[.val (.int xa), .val (.int xb), .val (.long s0), .second, .val (.long s1), .second, .val (.long s2), .second, .val (.long s3), .second, .val (.int w0), .unset, .unset, .unset, .unset, .unset, .unset, .unset, .unset, .unset, .unset, .unset, .unset, .unset, .unset, .unset, .unset, .unset] [(.int w1)])) := by
    intro T1 lc1 X1 N1 e1 w1 hr1
    have JW2 : ∀ (T2 : State) (lc2 : List Loc) (X2 : Stand p l e room_1 s m #[(.int xa), (.int xb), (.long s0), (.long s1), (.long s2), (.long s3)] below meth c T2 lc2 0 0) (N2 : Fr n0 lc2) (e2 : T2.heap = h0) (w2 : Int32) (hr2 : 0 < w2.toInt ∧ w2.toInt < 64), ownEnds p.tables e below (ownPost s (fun v h L => v = some (.int 1) ∧ Fr n0 L) room_1.cells room_1.slots) (T2.setTop (mkF m 44 #[.val (.int xa), .val (.int xb), .val (.long s0), .second, .val (.long s1), .second, .val (.long s2), .second, .val (.long s3), .second, .val (.int w0), .val (.int w1), .unset, .unset, .unset, .unset, .unset, .unset, .unset, .unset, .unset, .unset, .unset, .unset, .unset, .unset, .unset, .unset] [(.int w2)])) := by
      intro T2 lc2 X2 N2 e2 w2 hr2
      have JW3 : ∀ (T3 : State) (lc3 : List Loc) (X3 : Stand p l e room_1 s m #[(.int xa), (.int xb), (.long s0), (.long s1), (.long s2), (.long s3)] below meth c T3 lc3 0 0) (N3 : Fr n0 lc3) (e3 : T3.heap = h0) (w3 : Int32) (hr3 : 0 < w3.toInt ∧ w3.toInt < 64), ownEnds p.tables e below (ownPost s (fun v h L => v = some (.int 1) ∧ Fr n0 L) room_1.cells room_1.slots) (T3.setTop (mkF m 64 #[.val (.int xa), .val (.int xb), .val (.long s0), .second, .val (.long s1), .second, .val (.long s2), .second, .val (.long s3), .second, .val (.int w0), .val (.int w1), .val (.int w2), .unset, .unset, .unset, .unset, .unset, .unset, .unset, .unset, .unset, .unset, .unset, .unset, .unset, .unset, .unset] [(.int w3)])) := by
        intro T3 lc3 X3 N3 e3 w3 hr3
        show ownEnds _ _ _ _ (T3.setTop (mkF m 64 #[.val (.int xa), .val (.int xb), .val (.long s0), .second, .val (.long s1), .second, .val (.long s2), .second, .val (.long s3), .second, .val (.int w0), .val (.int w1), .val (.int w2), .unset, .unset, .unset, .unset, .unset, .unset, .unset, .unset, .unset, .unset, .unset, .unset, .unset, .unset, .unset] [(.int w3)]))
        refine ownEnds.law (fun t k => XS.istore X3.here hx rfl (hb hby at_64) rfl (l' := #[.val (.int xa), .val (.int xb), .val (.long s0), .second, .val (.long s1), .second, .val (.long s2), .second, .val (.long s3), .second, .val (.int w0), .val (.int w1), .val (.int w2), .val (.int w3), .unset, .unset, .unset, .unset, .unset, .unset, .unset, .unset, .unset, .unset, .unset, .unset, .unset, .unset]) rfl (XS.iloadN X3.here hx rfl (hb hby at_66) rfl (XS.iconst X3.here hx rfl (hb hby at_67) (XS.iushr X3.here hx rfl (hb hby at_68) rfl (XS.iconst X3.here hx rfl (hb hby at_69) (XS.iand X3.here hx rfl (hb hby at_70) rfl k)))))) ?_
        show ownEnds _ _ _ _ (T3.setTop (mkF m 71 #[.val (.int xa), .val (.int xb), .val (.long s0), .second, .val (.long s1), .second, .val (.long s2), .second, .val (.long s3), .second, .val (.int w0), .val (.int w1), .val (.int w2), .val (.int w3), .unset, .unset, .unset, .unset, .unset, .unset, .unset, .unset, .unset, .unset, .unset, .unset, .unset, .unset] [(.int (((xb.toUInt32 >>> ((3 : Int32) &&& 31).toUInt32).toInt32) &&& (3 : Int32)))]))
        obtain ⟨f0, e_f0⟩ : ∃ z : Int32, z = (((xb.toUInt32 >>> ((3 : Int32) &&& 31).toUInt32).toInt32) &&& (3 : Int32)) := ⟨_, rfl⟩
        rw [← e_f0]
        show ownEnds _ _ _ _ (T3.setTop (mkF m 71 #[.val (.int xa), .val (.int xb), .val (.long s0), .second, .val (.long s1), .second, .val (.long s2), .second, .val (.long s3), .second, .val (.int w0), .val (.int w1), .val (.int w2), .val (.int w3), .unset, .unset, .unset, .unset, .unset, .unset, .unset, .unset, .unset, .unset, .unset, .unset, .unset, .unset] [(.int f0)]))
        refine ownEnds.law (fun t k => XS.istore X3.here hx rfl (hb hby at_71) rfl (l' := #[.val (.int xa), .val (.int xb), .val (.long s0), .second, .val (.long s1), .second, .val (.long s2), .second, .val (.long s3), .second, .val (.int w0), .val (.int w1), .val (.int w2), .val (.int w3), .val (.int f0), .unset, .unset, .unset, .unset, .unset, .unset, .unset, .unset, .unset, .unset, .unset, .unset, .unset]) rfl k) ?_
        show ownEnds _ _ _ _ (T3.setTop (mkF m 73 #[.val (.int xa), .val (.int xb), .val (.long s0), .second, .val (.long s1), .second, .val (.long s2), .second, .val (.long s3), .second, .val (.int w0), .val (.int w1), .val (.int w2), .val (.int w3), .val (.int f0), .unset, .unset, .unset, .unset, .unset, .unset, .unset, .unset, .unset, .unset, .unset, .unset, .unset] []))
        have hf0 : f0 = 0 ∨ f0 = 1 ∨ f0 = 2 ∨ f0 = 3 := by rw [e_f0]; exact own_f _
        show ownEnds _ _ _ _ (T3.setTop (mkF m 73 #[.val (.int xa), .val (.int xb), .val (.long s0), .second, .val (.long s1), .second, .val (.long s2), .second, .val (.long s3), .second, .val (.int w0), .val (.int w1), .val (.int w2), .val (.int w3), .val (.int f0), .unset, .unset, .unset, .unset, .unset, .unset, .unset, .unset, .unset, .unset, .unset, .unset, .unset] []))
        obtain ⟨T4, h4, X4, e4, E4, A4, D4, -, st4⟩ := newO X3 hx hZ hown (wd_4 hw) (wd_5 hw) (wd_6 hw) e3 (g := (mkF m 73 #[.val (.int xa), .val (.int xb), .val (.long s0), .second, .val (.long s1), .second, .val (.long s2), .second, .val (.long s3), .second, .val (.int w0), .val (.int w1), .val (.int w2), .val (.int w3), .val (.int f0), .unset, .unset, .unset, .unset, .unset, .unset, .unset, .unset, .unset, .unset, .unset, .unset, .unset] [])) rfl (hb hby at_73) (by decide) (by decide)
        obtain ⟨b4, g4⟩ : ∃ z, z = h0.size := ⟨_, rfl⟩
        rw [← g4] at A4 D4 st4
        refine ownEnds.law st4 ?_
        have g_b4 : n0 ≤ b4 := Nat.le_trans Z0 (Nat.le_of_eq g4.symm)
        have Z4 : n0 ≤ h4.size := Nat.le_trans Z0 E4.1
        have F5 : Fld Z h4 b4 "com/example/libreach/libreach/engine/StateLayout" "widths" "[I" .null := D4 (Or.inr (wd_24 hw)) (ty := (.array .int)) (by decide)
        have F6 : Fld Z h4 b4 "com/example/libreach/libreach/engine/StateLayout" "word" "[I" .null := D4 (Or.inr (wd_26 hw)) (ty := (.array .int)) (by decide)
        have F7 : Fld Z h4 b4 "com/example/libreach/libreach/engine/StateLayout" "shift" "[I" .null := D4 (Or.inr (wd_28 hw)) (ty := (.array .int)) (by decide)
        have F8 : Fld Z h4 b4 "com/example/libreach/libreach/engine/StateLayout" "largest" "[J" .null := D4 (Or.inr (wd_31 hw)) (ty := (.array .long)) (by decide)
        have F9 : Fld Z h4 b4 "com/example/libreach/libreach/engine/StateLayout" "words" "I" (.int (0 : Int32)) := D4 (Or.inr (wd_34 hw)) (ty := .int) (by decide)
        have F10 : Fld Z h4 b4 "com/example/libreach/libreach/engine/StateLayout" "runs" "[I" .null := D4 (Or.inr (wd_42 hw)) (ty := (.array .int)) (by decide)
        show ownEnds _ _ _ _ (T4.setTop (mkF m 76 #[.val (.int xa), .val (.int xb), .val (.long s0), .second, .val (.long s1), .second, .val (.long s2), .second, .val (.long s3), .second, .val (.int w0), .val (.int w1), .val (.int w2), .val (.int w3), .val (.int f0), .unset, .unset, .unset, .unset, .unset, .unset, .unset, .unset, .unset, .unset, .unset, .unset, .unset] [(.ref b4)]))
        refine ownEnds.law (fun t k => XS.dup X4.here hx rfl (hb hby at_76) rfl rfl (XS.iconst X4.here hx rfl (hb hby at_77) k)) ?_
        show ownEnds _ _ _ _ (T4.setTop (mkF m 78 #[.val (.int xa), .val (.int xb), .val (.long s0), .second, .val (.long s1), .second, .val (.long s2), .second, .val (.long s3), .second, .val (.int w0), .val (.int w1), .val (.int w2), .val (.int w3), .val (.int f0), .unset, .unset, .unset, .unset, .unset, .unset, .unset, .unset, .unset, .unset, .unset, .unset, .unset] [(.int (4 : Int32)), (.ref b4), (.ref b4)]))
        obtain ⟨T11, h11, k11, X11, e11, E11, A11, Ax11, st11⟩ := newPE X4 hx hZ (aty := .int) (wd_7 hw) e4 (g := (mkF m 78 #[.val (.int xa), .val (.int xb), .val (.long s0), .second, .val (.long s1), .second, .val (.long s2), .second, .val (.long s3), .second, .val (.int w0), .val (.int w1), .val (.int w2), .val (.int w3), .val (.int f0), .unset, .unset, .unset, .unset, .unset, .unset, .unset, .unset, .unset, .unset, .unset, .unset, .unset] [(.int (4 : Int32)), (.ref b4), (.ref b4)])) rfl (hb hby at_78) rfl (by decide) (cap := 4) (by decide) (by decide) (by decide) (by decide) (ad := "[I") (by decide)
        obtain ⟨b11, g11⟩ : ∃ z, z = h4.size := ⟨_, rfl⟩
        rw [← g11] at A11 st11 Ax11
        refine ownEnds.law st11 ?_
        have V_b11 : Arv Z h11 b11 k11 .int (4 : Int32) [(.int (0 : Int32)), (.int (0 : Int32)), (.int (0 : Int32)), (.int (0 : Int32))] (.int (0 : Int32)) := (Arv.new A11 (by decide)).pad (pad_rep [] (.int (0 : Int32)) 4)
        have ne_b4_b11 : b4 ≠ b11 := Nat.ne_of_lt (Nat.lt_of_lt_of_eq A4.lt g11.symm)
        have g_b11 : n0 ≤ b11 := Nat.le_trans Z4 (Nat.le_of_eq g11.symm)
        have Z11 : n0 ≤ h11.size := Nat.le_trans Z4 E11.1
        show ownEnds _ _ _ _ (T11.setTop (mkF m 80 #[.val (.int xa), .val (.int xb), .val (.long s0), .second, .val (.long s1), .second, .val (.long s2), .second, .val (.long s3), .second, .val (.int w0), .val (.int w1), .val (.int w2), .val (.int w3), .val (.int f0), .unset, .unset, .unset, .unset, .unset, .unset, .unset, .unset, .unset, .unset, .unset, .unset, .unset] [(.ref b11), (.ref b4), (.ref b4)]))
        refine ownEnds.law (fun t k => XS.dup X11.here hx rfl (hb hby at_80) rfl rfl (XS.iconst X11.here hx rfl (hb hby at_81) (XS.iload X11.here hx rfl (hb hby at_82) rfl k))) ?_
        show ownEnds _ _ _ _ (T11.setTop (mkF m 84 #[.val (.int xa), .val (.int xb), .val (.long s0), .second, .val (.long s1), .second, .val (.long s2), .second, .val (.long s3), .second, .val (.int w0), .val (.int w1), .val (.int w2), .val (.int w3), .val (.int f0), .unset, .unset, .unset, .unset, .unset, .unset, .unset, .unset, .unset, .unset, .unset, .unset, .unset] [(.int w0), (.int (0 : Int32)), (.ref b11), (.ref b11), (.ref b4), (.ref b4)]))
        obtain ⟨cl12, Ar12, q12, S12, N12, H12, G12⟩ := id V_b11
        obtain ⟨T12, h12, X12, e12, W12, st12⟩ := stI X11 hx hZ e11 Ar12 (j := (0 : Int32)) (inb_of S12 ⟨by decide, by decide⟩) (g := (mkF m 84 #[.val (.int xa), .val (.int xb), .val (.long s0), .second, .val (.long s1), .second, .val (.long s2), .second, .val (.long s3), .second, .val (.int w0), .val (.int w1), .val (.int w2), .val (.int w3), .val (.int f0), .unset, .unset, .unset, .unset, .unset, .unset, .unset, .unset, .unset, .unset, .unset, .unset, .unset] [(.int w0), (.int (0 : Int32)), (.ref b11), (.ref b11), (.ref b4), (.ref b4)])) rfl rfl (hb hby at_84)
        refine ownEnds.law st12 ?_
        have V12 : Arv Z h12 b11 k11 .int (4 : Int32) [(.int w0), (.int (0 : Int32)), (.int (0 : Int32)), (.int (0 : Int32))] (.int (0 : Int32)) := Arv.set Ar12 q12 S12 N12 H12 G12 rfl W12 0 rfl (Nat.le_of_ble_eq_true rfl)
        have N12 := Fr.snoc X12 N3 g_b11
        have Z12 : n0 ≤ h12.size := by rw [W12.size]; exact Z11
        show ownEnds _ _ _ _ (T12.setTop (mkF m 85 #[.val (.int xa), .val (.int xb), .val (.long s0), .second, .val (.long s1), .second, .val (.long s2), .second, .val (.long s3), .second, .val (.int w0), .val (.int w1), .val (.int w2), .val (.int w3), .val (.int f0), .unset, .unset, .unset, .unset, .unset, .unset, .unset, .unset, .unset, .unset, .unset, .unset, .unset] [(.ref b11), (.ref b4), (.ref b4)]))
        refine ownEnds.law (fun t k => XS.dup X12.here hx rfl (hb hby at_85) rfl rfl (XS.iconst X12.here hx rfl (hb hby at_86) (XS.iload X12.here hx rfl (hb hby at_87) rfl k))) ?_
        show ownEnds _ _ _ _ (T12.setTop (mkF m 89 #[.val (.int xa), .val (.int xb), .val (.long s0), .second, .val (.long s1), .second, .val (.long s2), .second, .val (.long s3), .second, .val (.int w0), .val (.int w1), .val (.int w2), .val (.int w3), .val (.int f0), .unset, .unset, .unset, .unset, .unset, .unset, .unset, .unset, .unset, .unset, .unset, .unset, .unset] [(.int w1), (.int (1 : Int32)), (.ref b11), (.ref b11), (.ref b4), (.ref b4)]))
        obtain ⟨cl13, Ar13, q13, S13, N13, H13, G13⟩ := id V12
        obtain ⟨T13, h13, X13, e13, W13, st13⟩ := stI X12 hx hZ e12 Ar13 (j := (1 : Int32)) (inb_of S13 ⟨by decide, by decide⟩) (g := (mkF m 89 #[.val (.int xa), .val (.int xb), .val (.long s0), .second, .val (.long s1), .second, .val (.long s2), .second, .val (.long s3), .second, .val (.int w0), .val (.int w1), .val (.int w2), .val (.int w3), .val (.int f0), .unset, .unset, .unset, .unset, .unset, .unset, .unset, .unset, .unset, .unset, .unset, .unset, .unset] [(.int w1), (.int (1 : Int32)), (.ref b11), (.ref b11), (.ref b4), (.ref b4)])) rfl rfl (hb hby at_89)
        refine ownEnds.law st13 ?_
        have V13 : Arv Z h13 b11 k11 .int (4 : Int32) [(.int w0), (.int w1), (.int (0 : Int32)), (.int (0 : Int32))] (.int (0 : Int32)) := Arv.set Ar13 q13 S13 N13 H13 G13 rfl W13 1 rfl (Nat.le_of_ble_eq_true rfl)
        have N13 := Fr.snoc X13 N12 g_b11
        have Z13 : n0 ≤ h13.size := by rw [W13.size]; exact Z12
        show ownEnds _ _ _ _ (T13.setTop (mkF m 90 #[.val (.int xa), .val (.int xb), .val (.long s0), .second, .val (.long s1), .second, .val (.long s2), .second, .val (.long s3), .second, .val (.int w0), .val (.int w1), .val (.int w2), .val (.int w3), .val (.int f0), .unset, .unset, .unset, .unset, .unset, .unset, .unset, .unset, .unset, .unset, .unset, .unset, .unset] [(.ref b11), (.ref b4), (.ref b4)]))
        refine ownEnds.law (fun t k => XS.dup X13.here hx rfl (hb hby at_90) rfl rfl (XS.iconst X13.here hx rfl (hb hby at_91) (XS.iload X13.here hx rfl (hb hby at_92) rfl k))) ?_
        show ownEnds _ _ _ _ (T13.setTop (mkF m 94 #[.val (.int xa), .val (.int xb), .val (.long s0), .second, .val (.long s1), .second, .val (.long s2), .second, .val (.long s3), .second, .val (.int w0), .val (.int w1), .val (.int w2), .val (.int w3), .val (.int f0), .unset, .unset, .unset, .unset, .unset, .unset, .unset, .unset, .unset, .unset, .unset, .unset, .unset] [(.int w2), (.int (2 : Int32)), (.ref b11), (.ref b11), (.ref b4), (.ref b4)]))
        obtain ⟨cl14, Ar14, q14, S14, N14, H14, G14⟩ := id V13
        obtain ⟨T14, h14, X14, e14, W14, st14⟩ := stI X13 hx hZ e13 Ar14 (j := (2 : Int32)) (inb_of S14 ⟨by decide, by decide⟩) (g := (mkF m 94 #[.val (.int xa), .val (.int xb), .val (.long s0), .second, .val (.long s1), .second, .val (.long s2), .second, .val (.long s3), .second, .val (.int w0), .val (.int w1), .val (.int w2), .val (.int w3), .val (.int f0), .unset, .unset, .unset, .unset, .unset, .unset, .unset, .unset, .unset, .unset, .unset, .unset, .unset] [(.int w2), (.int (2 : Int32)), (.ref b11), (.ref b11), (.ref b4), (.ref b4)])) rfl rfl (hb hby at_94)
        refine ownEnds.law st14 ?_
        have V14 : Arv Z h14 b11 k11 .int (4 : Int32) [(.int w0), (.int w1), (.int w2), (.int (0 : Int32))] (.int (0 : Int32)) := Arv.set Ar14 q14 S14 N14 H14 G14 rfl W14 2 rfl (Nat.le_of_ble_eq_true rfl)
        have N14 := Fr.snoc X14 N13 g_b11
        have Z14 : n0 ≤ h14.size := by rw [W14.size]; exact Z13
        show ownEnds _ _ _ _ (T14.setTop (mkF m 95 #[.val (.int xa), .val (.int xb), .val (.long s0), .second, .val (.long s1), .second, .val (.long s2), .second, .val (.long s3), .second, .val (.int w0), .val (.int w1), .val (.int w2), .val (.int w3), .val (.int f0), .unset, .unset, .unset, .unset, .unset, .unset, .unset, .unset, .unset, .unset, .unset, .unset, .unset] [(.ref b11), (.ref b4), (.ref b4)]))
        refine ownEnds.law (fun t k => XS.dup X14.here hx rfl (hb hby at_95) rfl rfl (XS.iconst X14.here hx rfl (hb hby at_96) (XS.iload X14.here hx rfl (hb hby at_97) rfl k))) ?_
        show ownEnds _ _ _ _ (T14.setTop (mkF m 99 #[.val (.int xa), .val (.int xb), .val (.long s0), .second, .val (.long s1), .second, .val (.long s2), .second, .val (.long s3), .second, .val (.int w0), .val (.int w1), .val (.int w2), .val (.int w3), .val (.int f0), .unset, .unset, .unset, .unset, .unset, .unset, .unset, .unset, .unset, .unset, .unset, .unset, .unset] [(.int w3), (.int (3 : Int32)), (.ref b11), (.ref b11), (.ref b4), (.ref b4)]))
        obtain ⟨cl15, Ar15, q15, S15, N15, H15, G15⟩ := id V14
        obtain ⟨T15, h15, X15, e15, W15, st15⟩ := stI X14 hx hZ e14 Ar15 (j := (3 : Int32)) (inb_of S15 ⟨by decide, by decide⟩) (g := (mkF m 99 #[.val (.int xa), .val (.int xb), .val (.long s0), .second, .val (.long s1), .second, .val (.long s2), .second, .val (.long s3), .second, .val (.int w0), .val (.int w1), .val (.int w2), .val (.int w3), .val (.int f0), .unset, .unset, .unset, .unset, .unset, .unset, .unset, .unset, .unset, .unset, .unset, .unset, .unset] [(.int w3), (.int (3 : Int32)), (.ref b11), (.ref b11), (.ref b4), (.ref b4)])) rfl rfl (hb hby at_99)
        refine ownEnds.law st15 ?_
        have V15 : Arv Z h15 b11 k11 .int (4 : Int32) [(.int w0), (.int w1), (.int w2), (.int w3)] (.int (0 : Int32)) := Arv.set Ar15 q15 S15 N15 H15 G15 rfl W15 3 rfl (Nat.le_of_ble_eq_true rfl)
        have N15 := Fr.snoc X15 N14 g_b11
        have Z15 : n0 ≤ h15.size := by rw [W15.size]; exact Z14
        show ownEnds _ _ _ _ (T15.setTop (mkF m 100 #[.val (.int xa), .val (.int xb), .val (.long s0), .second, .val (.long s1), .second, .val (.long s2), .second, .val (.long s3), .second, .val (.int w0), .val (.int w1), .val (.int w2), .val (.int w3), .val (.int f0), .unset, .unset, .unset, .unset, .unset, .unset, .unset, .unset, .unset, .unset, .unset, .unset, .unset] [(.ref b11), (.ref b4), (.ref b4)]))
        have f17 := (Exa.wr W15 (Exa.wr W14 (Exa.wr W13 (Exa.wr W12 (Exa.ext E11 A4)))))
        have f18 := (Fld.other W15 (Fld.other W14 (Fld.other W13 (Fld.other W12 (Fld.ext E11 F5) (Or.inl ne_b4_b11)) (Or.inl ne_b4_b11)) (Or.inl ne_b4_b11)) (Or.inl ne_b4_b11))
        have f19 := (Fld.other W15 (Fld.other W14 (Fld.other W13 (Fld.other W12 (Fld.ext E11 F6) (Or.inl ne_b4_b11)) (Or.inl ne_b4_b11)) (Or.inl ne_b4_b11)) (Or.inl ne_b4_b11))
        have f20 := (Fld.other W15 (Fld.other W14 (Fld.other W13 (Fld.other W12 (Fld.ext E11 F7) (Or.inl ne_b4_b11)) (Or.inl ne_b4_b11)) (Or.inl ne_b4_b11)) (Or.inl ne_b4_b11))
        have f21 := (Fld.other W15 (Fld.other W14 (Fld.other W13 (Fld.other W12 (Fld.ext E11 F8) (Or.inl ne_b4_b11)) (Or.inl ne_b4_b11)) (Or.inl ne_b4_b11)) (Or.inl ne_b4_b11))
        have f22 := (Fld.other W15 (Fld.other W14 (Fld.other W13 (Fld.other W12 (Fld.ext E11 F9) (Or.inl ne_b4_b11)) (Or.inl ne_b4_b11)) (Or.inl ne_b4_b11)) (Or.inl ne_b4_b11))
        have f23 := (Fld.other W15 (Fld.other W14 (Fld.other W13 (Fld.other W12 (Fld.ext E11 F10) (Or.inl ne_b4_b11)) (Or.inl ne_b4_b11)) (Or.inl ne_b4_b11)) (Or.inl ne_b4_b11))
        have f24 := (Exa.wr W15 (Exa.wr W14 (Exa.wr W13 (Exa.wr W12 Ax11))))
        obtain ⟨v16, T16, L16, X16, hQ16, st16⟩ := ownCallC X15 hx hZ hown (y := (⟨"com/example/libreach/libreach/engine/StateLayout", "<init>", "([I)V"⟩ : MethodName)) rfl (a := b4) (as := [(.ref b11)]) (wd_8 hw) (wd_9 hw) (wd_6 hw) (wd_10 hw) (by decide) (rm2 l Z a0 hw b4 b11 w0 w1 w2 w3 k11 h15 n0 Z15 f17 g_b4 f18 f19 f20 f21 f22 f23 f24 V15 hr0) e15 1 (by decide) (by decide) (by decide) (by decide) (g := (mkF m 100 #[.val (.int xa), .val (.int xb), .val (.long s0), .second, .val (.long s1), .second, .val (.long s2), .second, .val (.long s3), .second, .val (.int w0), .val (.int w1), .val (.int w2), .val (.int w3), .val (.int f0), .unset, .unset, .unset, .unset, .unset, .unset, .unset, .unset, .unset, .unset, .unset, .unset, .unset] [(.ref b11), (.ref b4), (.ref b4)])) rfl (by rw [hml]; rfl) (rest := [(.ref b4)]) pd_2 rfl rfl (by show 2 * 0 + _ ≤ _; exact Nat.le_of_eq rfl) (hb hby at_100)
        obtain ⟨rfl, Nq16, Kq16, c0, c1, c2, c3, c4, k0, k1, k2, k3, k4, rs, len, Ex, Fx0, Vx0, Fx1, Vx1, Fx2, Vx2, Fx3, Vx3, Fx4, Vx4, RO⟩ := hQ16
        have N16 := Fr.app N15 Nq16
        have Z16 : n0 ≤ T16.heap.size := Nat.le_trans Z15 Kq16.1
        refine ownEnds.law st16 ?_
        show ownEnds _ _ _ _ (T16.setTop (mkF m 103 #[.val (.int xa), .val (.int xb), .val (.long s0), .second, .val (.long s1), .second, .val (.long s2), .second, .val (.long s3), .second, .val (.int w0), .val (.int w1), .val (.int w2), .val (.int w3), .val (.int f0), .unset, .unset, .unset, .unset, .unset, .unset, .unset, .unset, .unset, .unset, .unset, .unset, .unset] [(.ref b4)]))
        refine ownEnds.law (fun t k => XS.astore X16.here hx rfl (hb hby at_103) rfl rfl (l' := #[.val (.int xa), .val (.int xb), .val (.long s0), .second, .val (.long s1), .second, .val (.long s2), .second, .val (.long s3), .second, .val (.int w0), .val (.int w1), .val (.int w2), .val (.int w3), .val (.int f0), .val (.ref b4), .unset, .unset, .unset, .unset, .unset, .unset, .unset, .unset, .unset, .unset, .unset, .unset]) rfl (XS.bipush X16.here hx rfl (hb hby at_105) k)) ?_
        show ownEnds _ _ _ _ (T16.setTop (mkF m 107 #[.val (.int xa), .val (.int xb), .val (.long s0), .second, .val (.long s1), .second, .val (.long s2), .second, .val (.long s3), .second, .val (.int w0), .val (.int w1), .val (.int w2), .val (.int w3), .val (.int f0), .val (.ref b4), .unset, .unset, .unset, .unset, .unset, .unset, .unset, .unset, .unset, .unset, .unset, .unset] [(.int (8 : Int32))]))
        obtain ⟨T25, h25, k25, X25, e25, E25, A25, st25⟩ := newP X16 hx hZ (aty := .long) (wd_29 hw) rfl (g := (mkF m 107 #[.val (.int xa), .val (.int xb), .val (.long s0), .second, .val (.long s1), .second, .val (.long s2), .second, .val (.long s3), .second, .val (.int w0), .val (.int w1), .val (.int w2), .val (.int w3), .val (.int f0), .val (.ref b4), .unset, .unset, .unset, .unset, .unset, .unset, .unset, .unset, .unset, .unset, .unset, .unset] [(.int (8 : Int32))])) rfl (hb hby at_107) rfl (by decide) (cap := 8) (by decide) (by decide) (by decide) (by decide)
        obtain ⟨b25, g25⟩ : ∃ z, z = T16.heap.size := ⟨_, rfl⟩
        rw [← g25] at A25 st25
        refine ownEnds.law st25 ?_
        have V_b25 : Arv Z h25 b25 k25 .long (8 : Int32) [(.long (0 : Int64)), (.long (0 : Int64)), (.long (0 : Int64)), (.long (0 : Int64)), (.long (0 : Int64)), (.long (0 : Int64)), (.long (0 : Int64)), (.long (0 : Int64))] (.long (0 : Int64)) := (Arv.new A25 (by decide)).pad (pad_rep [] (.long (0 : Int64)) 8)
        have ne_b4_b25 : b4 ≠ b25 := Nat.ne_of_lt (Nat.lt_of_lt_of_eq Ex.lt g25.symm)
        have f26 := (Arv.keep V15 Kq16 (ninS (Ne.symm ne_b4_b11) nin0))
        have ne_b11_b25 : b11 ≠ b25 := Nat.ne_of_lt (Nat.lt_of_lt_of_eq f26.lt g25.symm)
        have ne_c0_b25 : c0 ≠ b25 := Nat.ne_of_lt (Nat.lt_of_lt_of_eq Vx0.lt g25.symm)
        have ne_c1_b25 : c1 ≠ b25 := Nat.ne_of_lt (Nat.lt_of_lt_of_eq Vx1.lt g25.symm)
        have ne_c2_b25 : c2 ≠ b25 := Nat.ne_of_lt (Nat.lt_of_lt_of_eq Vx2.lt g25.symm)
        have ne_c3_b25 : c3 ≠ b25 := Nat.ne_of_lt (Nat.lt_of_lt_of_eq Vx3.lt g25.symm)
        have ne_c4_b25 : c4 ≠ b25 := Nat.ne_of_lt (Nat.lt_of_lt_of_eq Vx4.lt g25.symm)
        have g_b25 : n0 ≤ b25 := Nat.le_trans Z16 (Nat.le_of_eq g25.symm)
        have Z25 : n0 ≤ h25.size := Nat.le_trans Z16 E25.1
        show ownEnds _ _ _ _ (T25.setTop (mkF m 109 #[.val (.int xa), .val (.int xb), .val (.long s0), .second, .val (.long s1), .second, .val (.long s2), .second, .val (.long s3), .second, .val (.int w0), .val (.int w1), .val (.int w2), .val (.int w3), .val (.int f0), .val (.ref b4), .unset, .unset, .unset, .unset, .unset, .unset, .unset, .unset, .unset, .unset, .unset, .unset] [(.ref b25)]))
        refine ownEnds.law (fun t k => XS.dup X25.here hx rfl (hb hby at_109) rfl rfl (XS.iconst X25.here hx rfl (hb hby at_110) (X25.ldc2Long hx hown (mvT hZ (wd_43 hw)) (g := (mkF m 111 #[.val (.int xa), .val (.int xb), .val (.long s0), .second, .val (.long s1), .second, .val (.long s2), .second, .val (.long s3), .second, .val (.int w0), .val (.int w1), .val (.int w2), .val (.int w3), .val (.int f0), .val (.ref b4), .unset, .unset, .unset, .unset, .unset, .unset, .unset, .unset, .unset, .unset, .unset, .unset] [(.int (0 : Int32)), (.ref b25), (.ref b25)])) rfl (hb hby at_111) _ k))) ?_
        show ownEnds _ _ _ _ (T25.setTop (mkF m 114 #[.val (.int xa), .val (.int xb), .val (.long s0), .second, .val (.long s1), .second, .val (.long s2), .second, .val (.long s3), .second, .val (.int w0), .val (.int w1), .val (.int w2), .val (.int w3), .val (.int f0), .val (.ref b4), .unset, .unset, .unset, .unset, .unset, .unset, .unset, .unset, .unset, .unset, .unset, .unset] [(.long (-1 : Int64)), (.int (0 : Int32)), (.ref b25), (.ref b25)]))
        obtain ⟨cl27, Ar27, q27, S27, N27, H27, G27⟩ := id V_b25
        obtain ⟨T27, h27, X27, e27, W27, st27⟩ := stJ X25 hx hZ e25 Ar27 (j := (0 : Int32)) (inb_of S27 ⟨by decide, by decide⟩) (g := (mkF m 114 #[.val (.int xa), .val (.int xb), .val (.long s0), .second, .val (.long s1), .second, .val (.long s2), .second, .val (.long s3), .second, .val (.int w0), .val (.int w1), .val (.int w2), .val (.int w3), .val (.int f0), .val (.ref b4), .unset, .unset, .unset, .unset, .unset, .unset, .unset, .unset, .unset, .unset, .unset, .unset] [(.long (-1 : Int64)), (.int (0 : Int32)), (.ref b25), (.ref b25)])) rfl rfl (hb hby at_114)
        refine ownEnds.law st27 ?_
        have V27 : Arv Z h27 b25 k25 .long (8 : Int32) [(.long (-1 : Int64)), (.long (0 : Int64)), (.long (0 : Int64)), (.long (0 : Int64)), (.long (0 : Int64)), (.long (0 : Int64)), (.long (0 : Int64)), (.long (0 : Int64))] (.long (0 : Int64)) := Arv.set Ar27 q27 S27 N27 H27 G27 rfl W27 0 rfl (Nat.le_of_ble_eq_true rfl)
        have N27 := Fr.snoc X27 N16 g_b25
        have Z27 : n0 ≤ h27.size := by rw [W27.size]; exact Z25
        show ownEnds _ _ _ _ (T27.setTop (mkF m 115 #[.val (.int xa), .val (.int xb), .val (.long s0), .second, .val (.long s1), .second, .val (.long s2), .second, .val (.long s3), .second, .val (.int w0), .val (.int w1), .val (.int w2), .val (.int w3), .val (.int f0), .val (.ref b4), .unset, .unset, .unset, .unset, .unset, .unset, .unset, .unset, .unset, .unset, .unset, .unset] [(.ref b25)]))
        refine ownEnds.law (fun t k => XS.dup X27.here hx rfl (hb hby at_115) rfl rfl (XS.iconst X27.here hx rfl (hb hby at_116) (X27.ldc2Long hx hown (mvT hZ (wd_43 hw)) (g := (mkF m 117 #[.val (.int xa), .val (.int xb), .val (.long s0), .second, .val (.long s1), .second, .val (.long s2), .second, .val (.long s3), .second, .val (.int w0), .val (.int w1), .val (.int w2), .val (.int w3), .val (.int f0), .val (.ref b4), .unset, .unset, .unset, .unset, .unset, .unset, .unset, .unset, .unset, .unset, .unset, .unset] [(.int (1 : Int32)), (.ref b25), (.ref b25)])) rfl (hb hby at_117) _ k))) ?_
        show ownEnds _ _ _ _ (T27.setTop (mkF m 120 #[.val (.int xa), .val (.int xb), .val (.long s0), .second, .val (.long s1), .second, .val (.long s2), .second, .val (.long s3), .second, .val (.int w0), .val (.int w1), .val (.int w2), .val (.int w3), .val (.int f0), .val (.ref b4), .unset, .unset, .unset, .unset, .unset, .unset, .unset, .unset, .unset, .unset, .unset, .unset] [(.long (-1 : Int64)), (.int (1 : Int32)), (.ref b25), (.ref b25)]))
        obtain ⟨cl28, Ar28, q28, S28, N28, H28, G28⟩ := id V27
        obtain ⟨T28, h28, X28, e28, W28, st28⟩ := stJ X27 hx hZ e27 Ar28 (j := (1 : Int32)) (inb_of S28 ⟨by decide, by decide⟩) (g := (mkF m 120 #[.val (.int xa), .val (.int xb), .val (.long s0), .second, .val (.long s1), .second, .val (.long s2), .second, .val (.long s3), .second, .val (.int w0), .val (.int w1), .val (.int w2), .val (.int w3), .val (.int f0), .val (.ref b4), .unset, .unset, .unset, .unset, .unset, .unset, .unset, .unset, .unset, .unset, .unset, .unset] [(.long (-1 : Int64)), (.int (1 : Int32)), (.ref b25), (.ref b25)])) rfl rfl (hb hby at_120)
        refine ownEnds.law st28 ?_
        have V28 : Arv Z h28 b25 k25 .long (8 : Int32) [(.long (-1 : Int64)), (.long (-1 : Int64)), (.long (0 : Int64)), (.long (0 : Int64)), (.long (0 : Int64)), (.long (0 : Int64)), (.long (0 : Int64)), (.long (0 : Int64))] (.long (0 : Int64)) := Arv.set Ar28 q28 S28 N28 H28 G28 rfl W28 1 rfl (Nat.le_of_ble_eq_true rfl)
        have N28 := Fr.snoc X28 N27 g_b25
        have Z28 : n0 ≤ h28.size := by rw [W28.size]; exact Z27
        show ownEnds _ _ _ _ (T28.setTop (mkF m 121 #[.val (.int xa), .val (.int xb), .val (.long s0), .second, .val (.long s1), .second, .val (.long s2), .second, .val (.long s3), .second, .val (.int w0), .val (.int w1), .val (.int w2), .val (.int w3), .val (.int f0), .val (.ref b4), .unset, .unset, .unset, .unset, .unset, .unset, .unset, .unset, .unset, .unset, .unset, .unset] [(.ref b25)]))
        refine ownEnds.law (fun t k => XS.dup X28.here hx rfl (hb hby at_121) rfl rfl (XS.iconst X28.here hx rfl (hb hby at_122) (X28.ldc2Long hx hown (mvT hZ (wd_43 hw)) (g := (mkF m 123 #[.val (.int xa), .val (.int xb), .val (.long s0), .second, .val (.long s1), .second, .val (.long s2), .second, .val (.long s3), .second, .val (.int w0), .val (.int w1), .val (.int w2), .val (.int w3), .val (.int f0), .val (.ref b4), .unset, .unset, .unset, .unset, .unset, .unset, .unset, .unset, .unset, .unset, .unset, .unset] [(.int (2 : Int32)), (.ref b25), (.ref b25)])) rfl (hb hby at_123) _ k))) ?_
        show ownEnds _ _ _ _ (T28.setTop (mkF m 126 #[.val (.int xa), .val (.int xb), .val (.long s0), .second, .val (.long s1), .second, .val (.long s2), .second, .val (.long s3), .second, .val (.int w0), .val (.int w1), .val (.int w2), .val (.int w3), .val (.int f0), .val (.ref b4), .unset, .unset, .unset, .unset, .unset, .unset, .unset, .unset, .unset, .unset, .unset, .unset] [(.long (-1 : Int64)), (.int (2 : Int32)), (.ref b25), (.ref b25)]))
        obtain ⟨cl29, Ar29, q29, S29, N29, H29, G29⟩ := id V28
        obtain ⟨T29, h29, X29, e29, W29, st29⟩ := stJ X28 hx hZ e28 Ar29 (j := (2 : Int32)) (inb_of S29 ⟨by decide, by decide⟩) (g := (mkF m 126 #[.val (.int xa), .val (.int xb), .val (.long s0), .second, .val (.long s1), .second, .val (.long s2), .second, .val (.long s3), .second, .val (.int w0), .val (.int w1), .val (.int w2), .val (.int w3), .val (.int f0), .val (.ref b4), .unset, .unset, .unset, .unset, .unset, .unset, .unset, .unset, .unset, .unset, .unset, .unset] [(.long (-1 : Int64)), (.int (2 : Int32)), (.ref b25), (.ref b25)])) rfl rfl (hb hby at_126)
        refine ownEnds.law st29 ?_
        have V29 : Arv Z h29 b25 k25 .long (8 : Int32) [(.long (-1 : Int64)), (.long (-1 : Int64)), (.long (-1 : Int64)), (.long (0 : Int64)), (.long (0 : Int64)), (.long (0 : Int64)), (.long (0 : Int64)), (.long (0 : Int64))] (.long (0 : Int64)) := Arv.set Ar29 q29 S29 N29 H29 G29 rfl W29 2 rfl (Nat.le_of_ble_eq_true rfl)
        have N29 := Fr.snoc X29 N28 g_b25
        have Z29 : n0 ≤ h29.size := by rw [W29.size]; exact Z28
        show ownEnds _ _ _ _ (T29.setTop (mkF m 127 #[.val (.int xa), .val (.int xb), .val (.long s0), .second, .val (.long s1), .second, .val (.long s2), .second, .val (.long s3), .second, .val (.int w0), .val (.int w1), .val (.int w2), .val (.int w3), .val (.int f0), .val (.ref b4), .unset, .unset, .unset, .unset, .unset, .unset, .unset, .unset, .unset, .unset, .unset, .unset] [(.ref b25)]))
        refine ownEnds.law (fun t k => XS.dup X29.here hx rfl (hb hby at_127) rfl rfl (XS.iconst X29.here hx rfl (hb hby at_128) (X29.ldc2Long hx hown (mvT hZ (wd_43 hw)) (g := (mkF m 129 #[.val (.int xa), .val (.int xb), .val (.long s0), .second, .val (.long s1), .second, .val (.long s2), .second, .val (.long s3), .second, .val (.int w0), .val (.int w1), .val (.int w2), .val (.int w3), .val (.int f0), .val (.ref b4), .unset, .unset, .unset, .unset, .unset, .unset, .unset, .unset, .unset, .unset, .unset, .unset] [(.int (3 : Int32)), (.ref b25), (.ref b25)])) rfl (hb hby at_129) _ k))) ?_
        show ownEnds _ _ _ _ (T29.setTop (mkF m 132 #[.val (.int xa), .val (.int xb), .val (.long s0), .second, .val (.long s1), .second, .val (.long s2), .second, .val (.long s3), .second, .val (.int w0), .val (.int w1), .val (.int w2), .val (.int w3), .val (.int f0), .val (.ref b4), .unset, .unset, .unset, .unset, .unset, .unset, .unset, .unset, .unset, .unset, .unset, .unset] [(.long (-1 : Int64)), (.int (3 : Int32)), (.ref b25), (.ref b25)]))
        obtain ⟨cl30, Ar30, q30, S30, N30, H30, G30⟩ := id V29
        obtain ⟨T30, h30, X30, e30, W30, st30⟩ := stJ X29 hx hZ e29 Ar30 (j := (3 : Int32)) (inb_of S30 ⟨by decide, by decide⟩) (g := (mkF m 132 #[.val (.int xa), .val (.int xb), .val (.long s0), .second, .val (.long s1), .second, .val (.long s2), .second, .val (.long s3), .second, .val (.int w0), .val (.int w1), .val (.int w2), .val (.int w3), .val (.int f0), .val (.ref b4), .unset, .unset, .unset, .unset, .unset, .unset, .unset, .unset, .unset, .unset, .unset, .unset] [(.long (-1 : Int64)), (.int (3 : Int32)), (.ref b25), (.ref b25)])) rfl rfl (hb hby at_132)
        refine ownEnds.law st30 ?_
        have V30 : Arv Z h30 b25 k25 .long (8 : Int32) [(.long (-1 : Int64)), (.long (-1 : Int64)), (.long (-1 : Int64)), (.long (-1 : Int64)), (.long (0 : Int64)), (.long (0 : Int64)), (.long (0 : Int64)), (.long (0 : Int64))] (.long (0 : Int64)) := Arv.set Ar30 q30 S30 N30 H30 G30 rfl W30 3 rfl (Nat.le_of_ble_eq_true rfl)
        have N30 := Fr.snoc X30 N29 g_b25
        have Z30 : n0 ≤ h30.size := by rw [W30.size]; exact Z29
        show ownEnds _ _ _ _ (T30.setTop (mkF m 133 #[.val (.int xa), .val (.int xb), .val (.long s0), .second, .val (.long s1), .second, .val (.long s2), .second, .val (.long s3), .second, .val (.int w0), .val (.int w1), .val (.int w2), .val (.int w3), .val (.int f0), .val (.ref b4), .unset, .unset, .unset, .unset, .unset, .unset, .unset, .unset, .unset, .unset, .unset, .unset] [(.ref b25)]))
        refine ownEnds.law (fun t k => XS.dup X30.here hx rfl (hb hby at_133) rfl rfl (XS.iconst X30.here hx rfl (hb hby at_134) (X30.ldc2Long hx hown (mvT hZ (wd_43 hw)) (g := (mkF m 135 #[.val (.int xa), .val (.int xb), .val (.long s0), .second, .val (.long s1), .second, .val (.long s2), .second, .val (.long s3), .second, .val (.int w0), .val (.int w1), .val (.int w2), .val (.int w3), .val (.int f0), .val (.ref b4), .unset, .unset, .unset, .unset, .unset, .unset, .unset, .unset, .unset, .unset, .unset, .unset] [(.int (4 : Int32)), (.ref b25), (.ref b25)])) rfl (hb hby at_135) _ k))) ?_
        show ownEnds _ _ _ _ (T30.setTop (mkF m 138 #[.val (.int xa), .val (.int xb), .val (.long s0), .second, .val (.long s1), .second, .val (.long s2), .second, .val (.long s3), .second, .val (.int w0), .val (.int w1), .val (.int w2), .val (.int w3), .val (.int f0), .val (.ref b4), .unset, .unset, .unset, .unset, .unset, .unset, .unset, .unset, .unset, .unset, .unset, .unset] [(.long (-1 : Int64)), (.int (4 : Int32)), (.ref b25), (.ref b25)]))
        obtain ⟨cl31, Ar31, q31, S31, N31, H31, G31⟩ := id V30
        obtain ⟨T31, h31, X31, e31, W31, st31⟩ := stJ X30 hx hZ e30 Ar31 (j := (4 : Int32)) (inb_of S31 ⟨by decide, by decide⟩) (g := (mkF m 138 #[.val (.int xa), .val (.int xb), .val (.long s0), .second, .val (.long s1), .second, .val (.long s2), .second, .val (.long s3), .second, .val (.int w0), .val (.int w1), .val (.int w2), .val (.int w3), .val (.int f0), .val (.ref b4), .unset, .unset, .unset, .unset, .unset, .unset, .unset, .unset, .unset, .unset, .unset, .unset] [(.long (-1 : Int64)), (.int (4 : Int32)), (.ref b25), (.ref b25)])) rfl rfl (hb hby at_138)
        refine ownEnds.law st31 ?_
        have V31 : Arv Z h31 b25 k25 .long (8 : Int32) [(.long (-1 : Int64)), (.long (-1 : Int64)), (.long (-1 : Int64)), (.long (-1 : Int64)), (.long (-1 : Int64)), (.long (0 : Int64)), (.long (0 : Int64)), (.long (0 : Int64))] (.long (0 : Int64)) := Arv.set Ar31 q31 S31 N31 H31 G31 rfl W31 4 rfl (Nat.le_of_ble_eq_true rfl)
        have N31 := Fr.snoc X31 N30 g_b25
        have Z31 : n0 ≤ h31.size := by rw [W31.size]; exact Z30
        show ownEnds _ _ _ _ (T31.setTop (mkF m 139 #[.val (.int xa), .val (.int xb), .val (.long s0), .second, .val (.long s1), .second, .val (.long s2), .second, .val (.long s3), .second, .val (.int w0), .val (.int w1), .val (.int w2), .val (.int w3), .val (.int f0), .val (.ref b4), .unset, .unset, .unset, .unset, .unset, .unset, .unset, .unset, .unset, .unset, .unset, .unset] [(.ref b25)]))
        refine ownEnds.law (fun t k => XS.dup X31.here hx rfl (hb hby at_139) rfl rfl (XS.iconst X31.here hx rfl (hb hby at_140) (X31.ldc2Long hx hown (mvT hZ (wd_43 hw)) (g := (mkF m 141 #[.val (.int xa), .val (.int xb), .val (.long s0), .second, .val (.long s1), .second, .val (.long s2), .second, .val (.long s3), .second, .val (.int w0), .val (.int w1), .val (.int w2), .val (.int w3), .val (.int f0), .val (.ref b4), .unset, .unset, .unset, .unset, .unset, .unset, .unset, .unset, .unset, .unset, .unset, .unset] [(.int (5 : Int32)), (.ref b25), (.ref b25)])) rfl (hb hby at_141) _ k))) ?_
        show ownEnds _ _ _ _ (T31.setTop (mkF m 144 #[.val (.int xa), .val (.int xb), .val (.long s0), .second, .val (.long s1), .second, .val (.long s2), .second, .val (.long s3), .second, .val (.int w0), .val (.int w1), .val (.int w2), .val (.int w3), .val (.int f0), .val (.ref b4), .unset, .unset, .unset, .unset, .unset, .unset, .unset, .unset, .unset, .unset, .unset, .unset] [(.long (-1 : Int64)), (.int (5 : Int32)), (.ref b25), (.ref b25)]))
        obtain ⟨cl32, Ar32, q32, S32, N32, H32, G32⟩ := id V31
        obtain ⟨T32, h32, X32, e32, W32, st32⟩ := stJ X31 hx hZ e31 Ar32 (j := (5 : Int32)) (inb_of S32 ⟨by decide, by decide⟩) (g := (mkF m 144 #[.val (.int xa), .val (.int xb), .val (.long s0), .second, .val (.long s1), .second, .val (.long s2), .second, .val (.long s3), .second, .val (.int w0), .val (.int w1), .val (.int w2), .val (.int w3), .val (.int f0), .val (.ref b4), .unset, .unset, .unset, .unset, .unset, .unset, .unset, .unset, .unset, .unset, .unset, .unset] [(.long (-1 : Int64)), (.int (5 : Int32)), (.ref b25), (.ref b25)])) rfl rfl (hb hby at_144)
        refine ownEnds.law st32 ?_
        have V32 : Arv Z h32 b25 k25 .long (8 : Int32) [(.long (-1 : Int64)), (.long (-1 : Int64)), (.long (-1 : Int64)), (.long (-1 : Int64)), (.long (-1 : Int64)), (.long (-1 : Int64)), (.long (0 : Int64)), (.long (0 : Int64))] (.long (0 : Int64)) := Arv.set Ar32 q32 S32 N32 H32 G32 rfl W32 5 rfl (Nat.le_of_ble_eq_true rfl)
        have N32 := Fr.snoc X32 N31 g_b25
        have Z32 : n0 ≤ h32.size := by rw [W32.size]; exact Z31
        show ownEnds _ _ _ _ (T32.setTop (mkF m 145 #[.val (.int xa), .val (.int xb), .val (.long s0), .second, .val (.long s1), .second, .val (.long s2), .second, .val (.long s3), .second, .val (.int w0), .val (.int w1), .val (.int w2), .val (.int w3), .val (.int f0), .val (.ref b4), .unset, .unset, .unset, .unset, .unset, .unset, .unset, .unset, .unset, .unset, .unset, .unset] [(.ref b25)]))
        refine ownEnds.law (fun t k => XS.dup X32.here hx rfl (hb hby at_145) rfl rfl (XS.bipush X32.here hx rfl (hb hby at_146) (X32.ldc2Long hx hown (mvT hZ (wd_43 hw)) (g := (mkF m 148 #[.val (.int xa), .val (.int xb), .val (.long s0), .second, .val (.long s1), .second, .val (.long s2), .second, .val (.long s3), .second, .val (.int w0), .val (.int w1), .val (.int w2), .val (.int w3), .val (.int f0), .val (.ref b4), .unset, .unset, .unset, .unset, .unset, .unset, .unset, .unset, .unset, .unset, .unset, .unset] [(.int (6 : Int32)), (.ref b25), (.ref b25)])) rfl (hb hby at_148) _ k))) ?_
        show ownEnds _ _ _ _ (T32.setTop (mkF m 151 #[.val (.int xa), .val (.int xb), .val (.long s0), .second, .val (.long s1), .second, .val (.long s2), .second, .val (.long s3), .second, .val (.int w0), .val (.int w1), .val (.int w2), .val (.int w3), .val (.int f0), .val (.ref b4), .unset, .unset, .unset, .unset, .unset, .unset, .unset, .unset, .unset, .unset, .unset, .unset] [(.long (-1 : Int64)), (.int (6 : Int32)), (.ref b25), (.ref b25)]))
        obtain ⟨cl33, Ar33, q33, S33, N33, H33, G33⟩ := id V32
        obtain ⟨T33, h33, X33, e33, W33, st33⟩ := stJ X32 hx hZ e32 Ar33 (j := (6 : Int32)) (inb_of S33 ⟨by decide, by decide⟩) (g := (mkF m 151 #[.val (.int xa), .val (.int xb), .val (.long s0), .second, .val (.long s1), .second, .val (.long s2), .second, .val (.long s3), .second, .val (.int w0), .val (.int w1), .val (.int w2), .val (.int w3), .val (.int f0), .val (.ref b4), .unset, .unset, .unset, .unset, .unset, .unset, .unset, .unset, .unset, .unset, .unset, .unset] [(.long (-1 : Int64)), (.int (6 : Int32)), (.ref b25), (.ref b25)])) rfl rfl (hb hby at_151)
        refine ownEnds.law st33 ?_
        have V33 : Arv Z h33 b25 k25 .long (8 : Int32) [(.long (-1 : Int64)), (.long (-1 : Int64)), (.long (-1 : Int64)), (.long (-1 : Int64)), (.long (-1 : Int64)), (.long (-1 : Int64)), (.long (-1 : Int64)), (.long (0 : Int64))] (.long (0 : Int64)) := Arv.set Ar33 q33 S33 N33 H33 G33 rfl W33 6 rfl (Nat.le_of_ble_eq_true rfl)
        have N33 := Fr.snoc X33 N32 g_b25
        have Z33 : n0 ≤ h33.size := by rw [W33.size]; exact Z32
        show ownEnds _ _ _ _ (T33.setTop (mkF m 152 #[.val (.int xa), .val (.int xb), .val (.long s0), .second, .val (.long s1), .second, .val (.long s2), .second, .val (.long s3), .second, .val (.int w0), .val (.int w1), .val (.int w2), .val (.int w3), .val (.int f0), .val (.ref b4), .unset, .unset, .unset, .unset, .unset, .unset, .unset, .unset, .unset, .unset, .unset, .unset] [(.ref b25)]))
        refine ownEnds.law (fun t k => XS.dup X33.here hx rfl (hb hby at_152) rfl rfl (XS.bipush X33.here hx rfl (hb hby at_153) (X33.ldc2Long hx hown (mvT hZ (wd_43 hw)) (g := (mkF m 155 #[.val (.int xa), .val (.int xb), .val (.long s0), .second, .val (.long s1), .second, .val (.long s2), .second, .val (.long s3), .second, .val (.int w0), .val (.int w1), .val (.int w2), .val (.int w3), .val (.int f0), .val (.ref b4), .unset, .unset, .unset, .unset, .unset, .unset, .unset, .unset, .unset, .unset, .unset, .unset] [(.int (7 : Int32)), (.ref b25), (.ref b25)])) rfl (hb hby at_155) _ k))) ?_
        show ownEnds _ _ _ _ (T33.setTop (mkF m 158 #[.val (.int xa), .val (.int xb), .val (.long s0), .second, .val (.long s1), .second, .val (.long s2), .second, .val (.long s3), .second, .val (.int w0), .val (.int w1), .val (.int w2), .val (.int w3), .val (.int f0), .val (.ref b4), .unset, .unset, .unset, .unset, .unset, .unset, .unset, .unset, .unset, .unset, .unset, .unset] [(.long (-1 : Int64)), (.int (7 : Int32)), (.ref b25), (.ref b25)]))
        obtain ⟨cl34, Ar34, q34, S34, N34, H34, G34⟩ := id V33
        obtain ⟨T34, h34, X34, e34, W34, st34⟩ := stJ X33 hx hZ e33 Ar34 (j := (7 : Int32)) (inb_of S34 ⟨by decide, by decide⟩) (g := (mkF m 158 #[.val (.int xa), .val (.int xb), .val (.long s0), .second, .val (.long s1), .second, .val (.long s2), .second, .val (.long s3), .second, .val (.int w0), .val (.int w1), .val (.int w2), .val (.int w3), .val (.int f0), .val (.ref b4), .unset, .unset, .unset, .unset, .unset, .unset, .unset, .unset, .unset, .unset, .unset, .unset] [(.long (-1 : Int64)), (.int (7 : Int32)), (.ref b25), (.ref b25)])) rfl rfl (hb hby at_158)
        refine ownEnds.law st34 ?_
        have V34 : Arv Z h34 b25 k25 .long (8 : Int32) [(.long (-1 : Int64)), (.long (-1 : Int64)), (.long (-1 : Int64)), (.long (-1 : Int64)), (.long (-1 : Int64)), (.long (-1 : Int64)), (.long (-1 : Int64)), (.long (-1 : Int64))] (.long (0 : Int64)) := Arv.set Ar34 q34 S34 N34 H34 G34 rfl W34 7 rfl (Nat.le_of_ble_eq_true rfl)
        have N34 := Fr.snoc X34 N33 g_b25
        have Z34 : n0 ≤ h34.size := by rw [W34.size]; exact Z33
        show ownEnds _ _ _ _ (T34.setTop (mkF m 159 #[.val (.int xa), .val (.int xb), .val (.long s0), .second, .val (.long s1), .second, .val (.long s2), .second, .val (.long s3), .second, .val (.int w0), .val (.int w1), .val (.int w2), .val (.int w3), .val (.int f0), .val (.ref b4), .unset, .unset, .unset, .unset, .unset, .unset, .unset, .unset, .unset, .unset, .unset, .unset] [(.ref b25)]))
        refine ownEnds.law (fun t k => XS.astore X34.here hx rfl (hb hby at_159) rfl rfl (l' := #[.val (.int xa), .val (.int xb), .val (.long s0), .second, .val (.long s1), .second, .val (.long s2), .second, .val (.long s3), .second, .val (.int w0), .val (.int w1), .val (.int w2), .val (.int w3), .val (.int f0), .val (.ref b4), .val (.ref b25), .unset, .unset, .unset, .unset, .unset, .unset, .unset, .unset, .unset, .unset, .unset]) rfl (XS.aload X34.here hx rfl (hb hby at_161) rfl rfl (XS.iload X34.here hx rfl (hb hby at_163) rfl (XS.lloadN X34.here hx rfl (hb hby at_165) rfl k)))) ?_
        show ownEnds _ _ _ _ (T34.setTop (mkF m 166 #[.val (.int xa), .val (.int xb), .val (.long s0), .second, .val (.long s1), .second, .val (.long s2), .second, .val (.long s3), .second, .val (.int w0), .val (.int w1), .val (.int w2), .val (.int w3), .val (.int f0), .val (.ref b4), .val (.ref b25), .unset, .unset, .unset, .unset, .unset, .unset, .unset, .unset, .unset, .unset, .unset] [(.long s0), (.int f0), (.ref b25)]))
        obtain ⟨cl35, Ar35, q35, S35, N35, H35, G35⟩ := id V34
        obtain ⟨T35, h35, X35, e35, W35, st35⟩ := stJ X34 hx hZ e34 Ar35 (j := f0) (inb_of S35 (own_sx0 hf0)) (g := (mkF m 166 #[.val (.int xa), .val (.int xb), .val (.long s0), .second, .val (.long s1), .second, .val (.long s2), .second, .val (.long s3), .second, .val (.int w0), .val (.int w1), .val (.int w2), .val (.int w3), .val (.int f0), .val (.ref b4), .val (.ref b25), .unset, .unset, .unset, .unset, .unset, .unset, .unset, .unset, .unset, .unset, .unset] [(.long s0), (.int f0), (.ref b25)])) rfl rfl (hb hby at_166)
        refine ownEnds.law st35 ?_
        have V35 : Arv Z h35 b25 k25 .long (8 : Int32) (([(.long (-1 : Int64)), (.long (-1 : Int64)), (.long (-1 : Int64)), (.long (-1 : Int64)), (.long (-1 : Int64)), (.long (-1 : Int64)), (.long (-1 : Int64)), (.long (-1 : Int64))] : List Value).set (f0).toNatClampNeg (.long s0)) (.long (0 : Int64)) := Arv.set Ar35 q35 S35 N35 H35 G35 rfl W35 _ rfl (own_sy0 hf0)
        have N35 := Fr.snoc X35 N34 g_b25
        have Z35 : n0 ≤ h35.size := by rw [W35.size]; exact Z34
        show ownEnds _ _ _ _ (T35.setTop (mkF m 167 #[.val (.int xa), .val (.int xb), .val (.long s0), .second, .val (.long s1), .second, .val (.long s2), .second, .val (.long s3), .second, .val (.int w0), .val (.int w1), .val (.int w2), .val (.int w3), .val (.int f0), .val (.ref b4), .val (.ref b25), .unset, .unset, .unset, .unset, .unset, .unset, .unset, .unset, .unset, .unset, .unset] []))
        refine ownEnds.law (fun t k => XS.aload X35.here hx rfl (hb hby at_167) rfl rfl (XS.iload X35.here hx rfl (hb hby at_169) rfl (XS.iconst X35.here hx rfl (hb hby at_171) (XS.iadd X35.here hx rfl (hb hby at_172) rfl (XS.lload X35.here hx rfl (hb hby at_173) rfl k))))) ?_
        show ownEnds _ _ _ _ (T35.setTop (mkF m 175 #[.val (.int xa), .val (.int xb), .val (.long s0), .second, .val (.long s1), .second, .val (.long s2), .second, .val (.long s3), .second, .val (.int w0), .val (.int w1), .val (.int w2), .val (.int w3), .val (.int f0), .val (.ref b4), .val (.ref b25), .unset, .unset, .unset, .unset, .unset, .unset, .unset, .unset, .unset, .unset, .unset] [(.long s1), (.int (f0 + (1 : Int32))), (.ref b25)]))
        obtain ⟨cl36, Ar36, q36, S36, N36, H36, G36⟩ := id V35
        obtain ⟨T36, h36, X36, e36, W36, st36⟩ := stJ X35 hx hZ e35 Ar36 (j := (f0 + (1 : Int32))) (inb_of S36 (own_sx1 hf0)) (g := (mkF m 175 #[.val (.int xa), .val (.int xb), .val (.long s0), .second, .val (.long s1), .second, .val (.long s2), .second, .val (.long s3), .second, .val (.int w0), .val (.int w1), .val (.int w2), .val (.int w3), .val (.int f0), .val (.ref b4), .val (.ref b25), .unset, .unset, .unset, .unset, .unset, .unset, .unset, .unset, .unset, .unset, .unset] [(.long s1), (.int (f0 + (1 : Int32))), (.ref b25)])) rfl rfl (hb hby at_175)
        refine ownEnds.law st36 ?_
        have V36 : Arv Z h36 b25 k25 .long (8 : Int32) ((([(.long (-1 : Int64)), (.long (-1 : Int64)), (.long (-1 : Int64)), (.long (-1 : Int64)), (.long (-1 : Int64)), (.long (-1 : Int64)), (.long (-1 : Int64)), (.long (-1 : Int64))] : List Value).set (f0).toNatClampNeg (.long s0)).set ((f0 + (1 : Int32))).toNatClampNeg (.long s1)) (.long (0 : Int64)) := Arv.set Ar36 q36 S36 N36 H36 G36 rfl W36 _ rfl (by simp only [List.length_set]; exact own_sy1 hf0)
        have N36 := Fr.snoc X36 N35 g_b25
        have Z36 : n0 ≤ h36.size := by rw [W36.size]; exact Z35
        show ownEnds _ _ _ _ (T36.setTop (mkF m 176 #[.val (.int xa), .val (.int xb), .val (.long s0), .second, .val (.long s1), .second, .val (.long s2), .second, .val (.long s3), .second, .val (.int w0), .val (.int w1), .val (.int w2), .val (.int w3), .val (.int f0), .val (.ref b4), .val (.ref b25), .unset, .unset, .unset, .unset, .unset, .unset, .unset, .unset, .unset, .unset, .unset] []))
        refine ownEnds.law (fun t k => XS.aload X36.here hx rfl (hb hby at_176) rfl rfl (XS.iload X36.here hx rfl (hb hby at_178) rfl (XS.iconst X36.here hx rfl (hb hby at_180) (XS.iadd X36.here hx rfl (hb hby at_181) rfl (XS.lload X36.here hx rfl (hb hby at_182) rfl k))))) ?_
        show ownEnds _ _ _ _ (T36.setTop (mkF m 184 #[.val (.int xa), .val (.int xb), .val (.long s0), .second, .val (.long s1), .second, .val (.long s2), .second, .val (.long s3), .second, .val (.int w0), .val (.int w1), .val (.int w2), .val (.int w3), .val (.int f0), .val (.ref b4), .val (.ref b25), .unset, .unset, .unset, .unset, .unset, .unset, .unset, .unset, .unset, .unset, .unset] [(.long s2), (.int (f0 + (2 : Int32))), (.ref b25)]))
        obtain ⟨cl37, Ar37, q37, S37, N37, H37, G37⟩ := id V36
        obtain ⟨T37, h37, X37, e37, W37, st37⟩ := stJ X36 hx hZ e36 Ar37 (j := (f0 + (2 : Int32))) (inb_of S37 (own_sx2 hf0)) (g := (mkF m 184 #[.val (.int xa), .val (.int xb), .val (.long s0), .second, .val (.long s1), .second, .val (.long s2), .second, .val (.long s3), .second, .val (.int w0), .val (.int w1), .val (.int w2), .val (.int w3), .val (.int f0), .val (.ref b4), .val (.ref b25), .unset, .unset, .unset, .unset, .unset, .unset, .unset, .unset, .unset, .unset, .unset] [(.long s2), (.int (f0 + (2 : Int32))), (.ref b25)])) rfl rfl (hb hby at_184)
        refine ownEnds.law st37 ?_
        have V37 : Arv Z h37 b25 k25 .long (8 : Int32) (((([(.long (-1 : Int64)), (.long (-1 : Int64)), (.long (-1 : Int64)), (.long (-1 : Int64)), (.long (-1 : Int64)), (.long (-1 : Int64)), (.long (-1 : Int64)), (.long (-1 : Int64))] : List Value).set (f0).toNatClampNeg (.long s0)).set ((f0 + (1 : Int32))).toNatClampNeg (.long s1)).set ((f0 + (2 : Int32))).toNatClampNeg (.long s2)) (.long (0 : Int64)) := Arv.set Ar37 q37 S37 N37 H37 G37 rfl W37 _ rfl (by simp only [List.length_set]; exact own_sy2 hf0)
        have N37 := Fr.snoc X37 N36 g_b25
        have Z37 : n0 ≤ h37.size := by rw [W37.size]; exact Z36
        show ownEnds _ _ _ _ (T37.setTop (mkF m 185 #[.val (.int xa), .val (.int xb), .val (.long s0), .second, .val (.long s1), .second, .val (.long s2), .second, .val (.long s3), .second, .val (.int w0), .val (.int w1), .val (.int w2), .val (.int w3), .val (.int f0), .val (.ref b4), .val (.ref b25), .unset, .unset, .unset, .unset, .unset, .unset, .unset, .unset, .unset, .unset, .unset] []))
        refine ownEnds.law (fun t k => XS.aload X37.here hx rfl (hb hby at_185) rfl rfl (XS.iload X37.here hx rfl (hb hby at_187) rfl (XS.iconst X37.here hx rfl (hb hby at_189) (XS.iadd X37.here hx rfl (hb hby at_190) rfl (XS.lload X37.here hx rfl (hb hby at_191) rfl k))))) ?_
        show ownEnds _ _ _ _ (T37.setTop (mkF m 193 #[.val (.int xa), .val (.int xb), .val (.long s0), .second, .val (.long s1), .second, .val (.long s2), .second, .val (.long s3), .second, .val (.int w0), .val (.int w1), .val (.int w2), .val (.int w3), .val (.int f0), .val (.ref b4), .val (.ref b25), .unset, .unset, .unset, .unset, .unset, .unset, .unset, .unset, .unset, .unset, .unset] [(.long s3), (.int (f0 + (3 : Int32))), (.ref b25)]))
        obtain ⟨cl38, Ar38, q38, S38, N38, H38, G38⟩ := id V37
        obtain ⟨T38, h38, X38, e38, W38, st38⟩ := stJ X37 hx hZ e37 Ar38 (j := (f0 + (3 : Int32))) (inb_of S38 (own_sx3 hf0)) (g := (mkF m 193 #[.val (.int xa), .val (.int xb), .val (.long s0), .second, .val (.long s1), .second, .val (.long s2), .second, .val (.long s3), .second, .val (.int w0), .val (.int w1), .val (.int w2), .val (.int w3), .val (.int f0), .val (.ref b4), .val (.ref b25), .unset, .unset, .unset, .unset, .unset, .unset, .unset, .unset, .unset, .unset, .unset] [(.long s3), (.int (f0 + (3 : Int32))), (.ref b25)])) rfl rfl (hb hby at_193)
        refine ownEnds.law st38 ?_
        have V38 : Arv Z h38 b25 k25 .long (8 : Int32) ((((([(.long (-1 : Int64)), (.long (-1 : Int64)), (.long (-1 : Int64)), (.long (-1 : Int64)), (.long (-1 : Int64)), (.long (-1 : Int64)), (.long (-1 : Int64)), (.long (-1 : Int64))] : List Value).set (f0).toNatClampNeg (.long s0)).set ((f0 + (1 : Int32))).toNatClampNeg (.long s1)).set ((f0 + (2 : Int32))).toNatClampNeg (.long s2)).set ((f0 + (3 : Int32))).toNatClampNeg (.long s3)) (.long (0 : Int64)) := Arv.set Ar38 q38 S38 N38 H38 G38 rfl W38 _ rfl (by simp only [List.length_set]; exact own_sy3 hf0)
        have N38 := Fr.snoc X38 N37 g_b25
        have Z38 : n0 ≤ h38.size := by rw [W38.size]; exact Z37
        have hSt : StOK f0 ((((([(.long (-1 : Int64)), (.long (-1 : Int64)), (.long (-1 : Int64)), (.long (-1 : Int64)), (.long (-1 : Int64)), (.long (-1 : Int64)), (.long (-1 : Int64)), (.long (-1 : Int64))] : List Value).set (f0).toNatClampNeg (.long s0)).set ((f0 + (1 : Int32))).toNatClampNeg (.long s1)).set ((f0 + (2 : Int32))).toNatClampNeg (.long s2)).set ((f0 + (3 : Int32))).toNatClampNeg (.long s3)) s0 s1 s2 s3 := own_st hf0 _ _ _ _ _
        have hSu : (¬ f0 < 0 ∧ f0 < 8) ∧ ((((([(.long (-1 : Int64)), (.long (-1 : Int64)), (.long (-1 : Int64)), (.long (-1 : Int64)), (.long (-1 : Int64)), (.long (-1 : Int64)), (.long (-1 : Int64)), (.long (-1 : Int64))] : List Value).set (f0).toNatClampNeg (.long s0)).set ((f0 + (1 : Int32))).toNatClampNeg (.long s1)).set ((f0 + (2 : Int32))).toNatClampNeg (.long s2)).set ((f0 + (3 : Int32))).toNatClampNeg (.long s3)).getD f0.toNatClampNeg (.long (0 : Int64)) = .long s0 := by have q := hSt 0 own_r0; rw [Int32.add_zero] at q; exact q
        show ownEnds _ _ _ _ (T38.setTop (mkF m 194 #[.val (.int xa), .val (.int xb), .val (.long s0), .second, .val (.long s1), .second, .val (.long s2), .second, .val (.long s3), .second, .val (.int w0), .val (.int w1), .val (.int w2), .val (.int w3), .val (.int f0), .val (.ref b4), .val (.ref b25), .unset, .unset, .unset, .unset, .unset, .unset, .unset, .unset, .unset, .unset, .unset] []))
        refine ownEnds.law (fun t k => XS.iconst X38.here hx rfl (hb hby at_194) k) ?_
        show ownEnds _ _ _ _ (T38.setTop (mkF m 195 #[.val (.int xa), .val (.int xb), .val (.long s0), .second, .val (.long s1), .second, .val (.long s2), .second, .val (.long s3), .second, .val (.int w0), .val (.int w1), .val (.int w2), .val (.int w3), .val (.int f0), .val (.ref b4), .val (.ref b25), .unset, .unset, .unset, .unset, .unset, .unset, .unset, .unset, .unset, .unset, .unset] [(.int (5 : Int32))]))
        obtain ⟨T39, h39, k39, X39, e39, E39, A39, st39⟩ := newP X38 hx hZ (aty := .long) (wd_29 hw) e38 (g := (mkF m 195 #[.val (.int xa), .val (.int xb), .val (.long s0), .second, .val (.long s1), .second, .val (.long s2), .second, .val (.long s3), .second, .val (.int w0), .val (.int w1), .val (.int w2), .val (.int w3), .val (.int f0), .val (.ref b4), .val (.ref b25), .unset, .unset, .unset, .unset, .unset, .unset, .unset, .unset, .unset, .unset, .unset] [(.int (5 : Int32))])) rfl (hb hby at_195) rfl (by decide) (cap := 5) (by decide) (by decide) (by decide) (by decide)
        obtain ⟨b39, g39⟩ : ∃ z, z = h38.size := ⟨_, rfl⟩
        rw [← g39] at A39 st39
        refine ownEnds.law st39 ?_
        have V_b39 : Arv Z h39 b39 k39 .long (5 : Int32) [(.long (0 : Int64)), (.long (0 : Int64)), (.long (0 : Int64)), (.long (0 : Int64)), (.long (0 : Int64))] (.long (0 : Int64)) := (Arv.new A39 (by decide)).pad (pad_rep [] (.long (0 : Int64)) 5)
        have f40 := (Exa.wr W38 (Exa.wr W37 (Exa.wr W36 (Exa.wr W35 (Exa.wr W34 (Exa.wr W33 (Exa.wr W32 (Exa.wr W31 (Exa.wr W30 (Exa.wr W29 (Exa.wr W28 (Exa.wr W27 (Exa.ext E25 Ex)))))))))))))
        have ne_b4_b39 : b4 ≠ b39 := Nat.ne_of_lt (Nat.lt_of_lt_of_eq f40.lt g39.symm)
        have f41 := (Arv.other (Arv.other (Arv.other (Arv.other (Arv.other (Arv.other (Arv.other (Arv.other (Arv.other (Arv.other (Arv.other (Arv.other (Arv.ext f26 E25) W27 ne_b11_b25) W28 ne_b11_b25) W29 ne_b11_b25) W30 ne_b11_b25) W31 ne_b11_b25) W32 ne_b11_b25) W33 ne_b11_b25) W34 ne_b11_b25) W35 ne_b11_b25) W36 ne_b11_b25) W37 ne_b11_b25) W38 ne_b11_b25)
        have ne_b11_b39 : b11 ≠ b39 := Nat.ne_of_lt (Nat.lt_of_lt_of_eq f41.lt g39.symm)
        have f42 := (Arv.other (Arv.other (Arv.other (Arv.other (Arv.other (Arv.other (Arv.other (Arv.other (Arv.other (Arv.other (Arv.other (Arv.other (Arv.ext Vx0 E25) W27 ne_c0_b25) W28 ne_c0_b25) W29 ne_c0_b25) W30 ne_c0_b25) W31 ne_c0_b25) W32 ne_c0_b25) W33 ne_c0_b25) W34 ne_c0_b25) W35 ne_c0_b25) W36 ne_c0_b25) W37 ne_c0_b25) W38 ne_c0_b25)
        have ne_c0_b39 : c0 ≠ b39 := Nat.ne_of_lt (Nat.lt_of_lt_of_eq f42.lt g39.symm)
        have f43 := (Arv.other (Arv.other (Arv.other (Arv.other (Arv.other (Arv.other (Arv.other (Arv.other (Arv.other (Arv.other (Arv.other (Arv.other (Arv.ext Vx1 E25) W27 ne_c1_b25) W28 ne_c1_b25) W29 ne_c1_b25) W30 ne_c1_b25) W31 ne_c1_b25) W32 ne_c1_b25) W33 ne_c1_b25) W34 ne_c1_b25) W35 ne_c1_b25) W36 ne_c1_b25) W37 ne_c1_b25) W38 ne_c1_b25)
        have ne_c1_b39 : c1 ≠ b39 := Nat.ne_of_lt (Nat.lt_of_lt_of_eq f43.lt g39.symm)
        have f44 := (Arv.other (Arv.other (Arv.other (Arv.other (Arv.other (Arv.other (Arv.other (Arv.other (Arv.other (Arv.other (Arv.other (Arv.other (Arv.ext Vx2 E25) W27 ne_c2_b25) W28 ne_c2_b25) W29 ne_c2_b25) W30 ne_c2_b25) W31 ne_c2_b25) W32 ne_c2_b25) W33 ne_c2_b25) W34 ne_c2_b25) W35 ne_c2_b25) W36 ne_c2_b25) W37 ne_c2_b25) W38 ne_c2_b25)
        have ne_c2_b39 : c2 ≠ b39 := Nat.ne_of_lt (Nat.lt_of_lt_of_eq f44.lt g39.symm)
        have f45 := (Arv.other (Arv.other (Arv.other (Arv.other (Arv.other (Arv.other (Arv.other (Arv.other (Arv.other (Arv.other (Arv.other (Arv.other (Arv.ext Vx3 E25) W27 ne_c3_b25) W28 ne_c3_b25) W29 ne_c3_b25) W30 ne_c3_b25) W31 ne_c3_b25) W32 ne_c3_b25) W33 ne_c3_b25) W34 ne_c3_b25) W35 ne_c3_b25) W36 ne_c3_b25) W37 ne_c3_b25) W38 ne_c3_b25)
        have ne_c3_b39 : c3 ≠ b39 := Nat.ne_of_lt (Nat.lt_of_lt_of_eq f45.lt g39.symm)
        have f46 := (Arv.other (Arv.other (Arv.other (Arv.other (Arv.other (Arv.other (Arv.other (Arv.other (Arv.other (Arv.other (Arv.other (Arv.other (Arv.ext Vx4 E25) W27 ne_c4_b25) W28 ne_c4_b25) W29 ne_c4_b25) W30 ne_c4_b25) W31 ne_c4_b25) W32 ne_c4_b25) W33 ne_c4_b25) W34 ne_c4_b25) W35 ne_c4_b25) W36 ne_c4_b25) W37 ne_c4_b25) W38 ne_c4_b25)
        have ne_c4_b39 : c4 ≠ b39 := Nat.ne_of_lt (Nat.lt_of_lt_of_eq f46.lt g39.symm)
        have ne_b25_b39 : b25 ≠ b39 := Nat.ne_of_lt (Nat.lt_of_lt_of_eq V38.lt g39.symm)
        have g_b39 : n0 ≤ b39 := Nat.le_trans Z38 (Nat.le_of_eq g39.symm)
        have Z39 : n0 ≤ h39.size := Nat.le_trans Z38 E39.1
        show ownEnds _ _ _ _ (T39.setTop (mkF m 197 #[.val (.int xa), .val (.int xb), .val (.long s0), .second, .val (.long s1), .second, .val (.long s2), .second, .val (.long s3), .second, .val (.int w0), .val (.int w1), .val (.int w2), .val (.int w3), .val (.int f0), .val (.ref b4), .val (.ref b25), .unset, .unset, .unset, .unset, .unset, .unset, .unset, .unset, .unset, .unset, .unset] [(.ref b39)]))
        refine ownEnds.law (fun t k => XS.dup X39.here hx rfl (hb hby at_197) rfl rfl (XS.iconst X39.here hx rfl (hb hby at_198) (X39.ldc2Long hx hown (mvT hZ (wd_44 hw)) (g := (mkF m 199 #[.val (.int xa), .val (.int xb), .val (.long s0), .second, .val (.long s1), .second, .val (.long s2), .second, .val (.long s3), .second, .val (.int w0), .val (.int w1), .val (.int w2), .val (.int w3), .val (.int f0), .val (.ref b4), .val (.ref b25), .unset, .unset, .unset, .unset, .unset, .unset, .unset, .unset, .unset, .unset, .unset] [(.int (0 : Int32)), (.ref b39), (.ref b39)])) rfl (hb hby at_199) _ k))) ?_
        show ownEnds _ _ _ _ (T39.setTop (mkF m 202 #[.val (.int xa), .val (.int xb), .val (.long s0), .second, .val (.long s1), .second, .val (.long s2), .second, .val (.long s3), .second, .val (.int w0), .val (.int w1), .val (.int w2), .val (.int w3), .val (.int f0), .val (.ref b4), .val (.ref b25), .unset, .unset, .unset, .unset, .unset, .unset, .unset, .unset, .unset, .unset, .unset] [(.long (-7 : Int64)), (.int (0 : Int32)), (.ref b39), (.ref b39)]))
        obtain ⟨cl47, Ar47, q47, S47, N47, H47, G47⟩ := id V_b39
        obtain ⟨T47, h47, X47, e47, W47, st47⟩ := stJ X39 hx hZ e39 Ar47 (j := (0 : Int32)) (inb_of S47 ⟨by decide, by decide⟩) (g := (mkF m 202 #[.val (.int xa), .val (.int xb), .val (.long s0), .second, .val (.long s1), .second, .val (.long s2), .second, .val (.long s3), .second, .val (.int w0), .val (.int w1), .val (.int w2), .val (.int w3), .val (.int f0), .val (.ref b4), .val (.ref b25), .unset, .unset, .unset, .unset, .unset, .unset, .unset, .unset, .unset, .unset, .unset] [(.long (-7 : Int64)), (.int (0 : Int32)), (.ref b39), (.ref b39)])) rfl rfl (hb hby at_202)
        refine ownEnds.law st47 ?_
        have V47 : Arv Z h47 b39 k39 .long (5 : Int32) [(.long (-7 : Int64)), (.long (0 : Int64)), (.long (0 : Int64)), (.long (0 : Int64)), (.long (0 : Int64))] (.long (0 : Int64)) := Arv.set Ar47 q47 S47 N47 H47 G47 rfl W47 0 rfl (Nat.le_of_ble_eq_true rfl)
        have N47 := Fr.snoc X47 N38 g_b39
        have Z47 : n0 ≤ h47.size := by rw [W47.size]; exact Z39
        show ownEnds _ _ _ _ (T47.setTop (mkF m 203 #[.val (.int xa), .val (.int xb), .val (.long s0), .second, .val (.long s1), .second, .val (.long s2), .second, .val (.long s3), .second, .val (.int w0), .val (.int w1), .val (.int w2), .val (.int w3), .val (.int f0), .val (.ref b4), .val (.ref b25), .unset, .unset, .unset, .unset, .unset, .unset, .unset, .unset, .unset, .unset, .unset] [(.ref b39)]))
        refine ownEnds.law (fun t k => XS.dup X47.here hx rfl (hb hby at_203) rfl rfl (XS.iconst X47.here hx rfl (hb hby at_204) (X47.ldc2Long hx hown (mvT hZ (wd_44 hw)) (g := (mkF m 205 #[.val (.int xa), .val (.int xb), .val (.long s0), .second, .val (.long s1), .second, .val (.long s2), .second, .val (.long s3), .second, .val (.int w0), .val (.int w1), .val (.int w2), .val (.int w3), .val (.int f0), .val (.ref b4), .val (.ref b25), .unset, .unset, .unset, .unset, .unset, .unset, .unset, .unset, .unset, .unset, .unset] [(.int (1 : Int32)), (.ref b39), (.ref b39)])) rfl (hb hby at_205) _ k))) ?_
        show ownEnds _ _ _ _ (T47.setTop (mkF m 208 #[.val (.int xa), .val (.int xb), .val (.long s0), .second, .val (.long s1), .second, .val (.long s2), .second, .val (.long s3), .second, .val (.int w0), .val (.int w1), .val (.int w2), .val (.int w3), .val (.int f0), .val (.ref b4), .val (.ref b25), .unset, .unset, .unset, .unset, .unset, .unset, .unset, .unset, .unset, .unset, .unset] [(.long (-7 : Int64)), (.int (1 : Int32)), (.ref b39), (.ref b39)]))
        obtain ⟨cl48, Ar48, q48, S48, N48, H48, G48⟩ := id V47
        obtain ⟨T48, h48, X48, e48, W48, st48⟩ := stJ X47 hx hZ e47 Ar48 (j := (1 : Int32)) (inb_of S48 ⟨by decide, by decide⟩) (g := (mkF m 208 #[.val (.int xa), .val (.int xb), .val (.long s0), .second, .val (.long s1), .second, .val (.long s2), .second, .val (.long s3), .second, .val (.int w0), .val (.int w1), .val (.int w2), .val (.int w3), .val (.int f0), .val (.ref b4), .val (.ref b25), .unset, .unset, .unset, .unset, .unset, .unset, .unset, .unset, .unset, .unset, .unset] [(.long (-7 : Int64)), (.int (1 : Int32)), (.ref b39), (.ref b39)])) rfl rfl (hb hby at_208)
        refine ownEnds.law st48 ?_
        have V48 : Arv Z h48 b39 k39 .long (5 : Int32) [(.long (-7 : Int64)), (.long (-7 : Int64)), (.long (0 : Int64)), (.long (0 : Int64)), (.long (0 : Int64))] (.long (0 : Int64)) := Arv.set Ar48 q48 S48 N48 H48 G48 rfl W48 1 rfl (Nat.le_of_ble_eq_true rfl)
        have N48 := Fr.snoc X48 N47 g_b39
        have Z48 : n0 ≤ h48.size := by rw [W48.size]; exact Z47
        show ownEnds _ _ _ _ (T48.setTop (mkF m 209 #[.val (.int xa), .val (.int xb), .val (.long s0), .second, .val (.long s1), .second, .val (.long s2), .second, .val (.long s3), .second, .val (.int w0), .val (.int w1), .val (.int w2), .val (.int w3), .val (.int f0), .val (.ref b4), .val (.ref b25), .unset, .unset, .unset, .unset, .unset, .unset, .unset, .unset, .unset, .unset, .unset] [(.ref b39)]))
        refine ownEnds.law (fun t k => XS.dup X48.here hx rfl (hb hby at_209) rfl rfl (XS.iconst X48.here hx rfl (hb hby at_210) (X48.ldc2Long hx hown (mvT hZ (wd_44 hw)) (g := (mkF m 211 #[.val (.int xa), .val (.int xb), .val (.long s0), .second, .val (.long s1), .second, .val (.long s2), .second, .val (.long s3), .second, .val (.int w0), .val (.int w1), .val (.int w2), .val (.int w3), .val (.int f0), .val (.ref b4), .val (.ref b25), .unset, .unset, .unset, .unset, .unset, .unset, .unset, .unset, .unset, .unset, .unset] [(.int (2 : Int32)), (.ref b39), (.ref b39)])) rfl (hb hby at_211) _ k))) ?_
        show ownEnds _ _ _ _ (T48.setTop (mkF m 214 #[.val (.int xa), .val (.int xb), .val (.long s0), .second, .val (.long s1), .second, .val (.long s2), .second, .val (.long s3), .second, .val (.int w0), .val (.int w1), .val (.int w2), .val (.int w3), .val (.int f0), .val (.ref b4), .val (.ref b25), .unset, .unset, .unset, .unset, .unset, .unset, .unset, .unset, .unset, .unset, .unset] [(.long (-7 : Int64)), (.int (2 : Int32)), (.ref b39), (.ref b39)]))
        obtain ⟨cl49, Ar49, q49, S49, N49, H49, G49⟩ := id V48
        obtain ⟨T49, h49, X49, e49, W49, st49⟩ := stJ X48 hx hZ e48 Ar49 (j := (2 : Int32)) (inb_of S49 ⟨by decide, by decide⟩) (g := (mkF m 214 #[.val (.int xa), .val (.int xb), .val (.long s0), .second, .val (.long s1), .second, .val (.long s2), .second, .val (.long s3), .second, .val (.int w0), .val (.int w1), .val (.int w2), .val (.int w3), .val (.int f0), .val (.ref b4), .val (.ref b25), .unset, .unset, .unset, .unset, .unset, .unset, .unset, .unset, .unset, .unset, .unset] [(.long (-7 : Int64)), (.int (2 : Int32)), (.ref b39), (.ref b39)])) rfl rfl (hb hby at_214)
        refine ownEnds.law st49 ?_
        have V49 : Arv Z h49 b39 k39 .long (5 : Int32) [(.long (-7 : Int64)), (.long (-7 : Int64)), (.long (-7 : Int64)), (.long (0 : Int64)), (.long (0 : Int64))] (.long (0 : Int64)) := Arv.set Ar49 q49 S49 N49 H49 G49 rfl W49 2 rfl (Nat.le_of_ble_eq_true rfl)
        have N49 := Fr.snoc X49 N48 g_b39
        have Z49 : n0 ≤ h49.size := by rw [W49.size]; exact Z48
        show ownEnds _ _ _ _ (T49.setTop (mkF m 215 #[.val (.int xa), .val (.int xb), .val (.long s0), .second, .val (.long s1), .second, .val (.long s2), .second, .val (.long s3), .second, .val (.int w0), .val (.int w1), .val (.int w2), .val (.int w3), .val (.int f0), .val (.ref b4), .val (.ref b25), .unset, .unset, .unset, .unset, .unset, .unset, .unset, .unset, .unset, .unset, .unset] [(.ref b39)]))
        refine ownEnds.law (fun t k => XS.dup X49.here hx rfl (hb hby at_215) rfl rfl (XS.iconst X49.here hx rfl (hb hby at_216) (X49.ldc2Long hx hown (mvT hZ (wd_44 hw)) (g := (mkF m 217 #[.val (.int xa), .val (.int xb), .val (.long s0), .second, .val (.long s1), .second, .val (.long s2), .second, .val (.long s3), .second, .val (.int w0), .val (.int w1), .val (.int w2), .val (.int w3), .val (.int f0), .val (.ref b4), .val (.ref b25), .unset, .unset, .unset, .unset, .unset, .unset, .unset, .unset, .unset, .unset, .unset] [(.int (3 : Int32)), (.ref b39), (.ref b39)])) rfl (hb hby at_217) _ k))) ?_
        show ownEnds _ _ _ _ (T49.setTop (mkF m 220 #[.val (.int xa), .val (.int xb), .val (.long s0), .second, .val (.long s1), .second, .val (.long s2), .second, .val (.long s3), .second, .val (.int w0), .val (.int w1), .val (.int w2), .val (.int w3), .val (.int f0), .val (.ref b4), .val (.ref b25), .unset, .unset, .unset, .unset, .unset, .unset, .unset, .unset, .unset, .unset, .unset] [(.long (-7 : Int64)), (.int (3 : Int32)), (.ref b39), (.ref b39)]))
        obtain ⟨cl50, Ar50, q50, S50, N50, H50, G50⟩ := id V49
        obtain ⟨T50, h50, X50, e50, W50, st50⟩ := stJ X49 hx hZ e49 Ar50 (j := (3 : Int32)) (inb_of S50 ⟨by decide, by decide⟩) (g := (mkF m 220 #[.val (.int xa), .val (.int xb), .val (.long s0), .second, .val (.long s1), .second, .val (.long s2), .second, .val (.long s3), .second, .val (.int w0), .val (.int w1), .val (.int w2), .val (.int w3), .val (.int f0), .val (.ref b4), .val (.ref b25), .unset, .unset, .unset, .unset, .unset, .unset, .unset, .unset, .unset, .unset, .unset] [(.long (-7 : Int64)), (.int (3 : Int32)), (.ref b39), (.ref b39)])) rfl rfl (hb hby at_220)
        refine ownEnds.law st50 ?_
        have V50 : Arv Z h50 b39 k39 .long (5 : Int32) [(.long (-7 : Int64)), (.long (-7 : Int64)), (.long (-7 : Int64)), (.long (-7 : Int64)), (.long (0 : Int64))] (.long (0 : Int64)) := Arv.set Ar50 q50 S50 N50 H50 G50 rfl W50 3 rfl (Nat.le_of_ble_eq_true rfl)
        have N50 := Fr.snoc X50 N49 g_b39
        have Z50 : n0 ≤ h50.size := by rw [W50.size]; exact Z49
        show ownEnds _ _ _ _ (T50.setTop (mkF m 221 #[.val (.int xa), .val (.int xb), .val (.long s0), .second, .val (.long s1), .second, .val (.long s2), .second, .val (.long s3), .second, .val (.int w0), .val (.int w1), .val (.int w2), .val (.int w3), .val (.int f0), .val (.ref b4), .val (.ref b25), .unset, .unset, .unset, .unset, .unset, .unset, .unset, .unset, .unset, .unset, .unset] [(.ref b39)]))
        refine ownEnds.law (fun t k => XS.dup X50.here hx rfl (hb hby at_221) rfl rfl (XS.iconst X50.here hx rfl (hb hby at_222) (X50.ldc2Long hx hown (mvT hZ (wd_44 hw)) (g := (mkF m 223 #[.val (.int xa), .val (.int xb), .val (.long s0), .second, .val (.long s1), .second, .val (.long s2), .second, .val (.long s3), .second, .val (.int w0), .val (.int w1), .val (.int w2), .val (.int w3), .val (.int f0), .val (.ref b4), .val (.ref b25), .unset, .unset, .unset, .unset, .unset, .unset, .unset, .unset, .unset, .unset, .unset] [(.int (4 : Int32)), (.ref b39), (.ref b39)])) rfl (hb hby at_223) _ k))) ?_
        show ownEnds _ _ _ _ (T50.setTop (mkF m 226 #[.val (.int xa), .val (.int xb), .val (.long s0), .second, .val (.long s1), .second, .val (.long s2), .second, .val (.long s3), .second, .val (.int w0), .val (.int w1), .val (.int w2), .val (.int w3), .val (.int f0), .val (.ref b4), .val (.ref b25), .unset, .unset, .unset, .unset, .unset, .unset, .unset, .unset, .unset, .unset, .unset] [(.long (-7 : Int64)), (.int (4 : Int32)), (.ref b39), (.ref b39)]))
        obtain ⟨cl51, Ar51, q51, S51, N51, H51, G51⟩ := id V50
        obtain ⟨T51, h51, X51, e51, W51, st51⟩ := stJ X50 hx hZ e50 Ar51 (j := (4 : Int32)) (inb_of S51 ⟨by decide, by decide⟩) (g := (mkF m 226 #[.val (.int xa), .val (.int xb), .val (.long s0), .second, .val (.long s1), .second, .val (.long s2), .second, .val (.long s3), .second, .val (.int w0), .val (.int w1), .val (.int w2), .val (.int w3), .val (.int f0), .val (.ref b4), .val (.ref b25), .unset, .unset, .unset, .unset, .unset, .unset, .unset, .unset, .unset, .unset, .unset] [(.long (-7 : Int64)), (.int (4 : Int32)), (.ref b39), (.ref b39)])) rfl rfl (hb hby at_226)
        refine ownEnds.law st51 ?_
        have V51 : Arv Z h51 b39 k39 .long (5 : Int32) [(.long (-7 : Int64)), (.long (-7 : Int64)), (.long (-7 : Int64)), (.long (-7 : Int64)), (.long (-7 : Int64))] (.long (0 : Int64)) := Arv.set Ar51 q51 S51 N51 H51 G51 rfl W51 4 rfl (Nat.le_of_ble_eq_true rfl)
        have N51 := Fr.snoc X51 N50 g_b39
        have Z51 : n0 ≤ h51.size := by rw [W51.size]; exact Z50
        show ownEnds _ _ _ _ (T51.setTop (mkF m 227 #[.val (.int xa), .val (.int xb), .val (.long s0), .second, .val (.long s1), .second, .val (.long s2), .second, .val (.long s3), .second, .val (.int w0), .val (.int w1), .val (.int w2), .val (.int w3), .val (.int f0), .val (.ref b4), .val (.ref b25), .unset, .unset, .unset, .unset, .unset, .unset, .unset, .unset, .unset, .unset, .unset] [(.ref b39)]))
        refine ownEnds.law (fun t k => XS.astore X51.here hx rfl (hb hby at_227) rfl rfl (l' := #[.val (.int xa), .val (.int xb), .val (.long s0), .second, .val (.long s1), .second, .val (.long s2), .second, .val (.long s3), .second, .val (.int w0), .val (.int w1), .val (.int w2), .val (.int w3), .val (.int f0), .val (.ref b4), .val (.ref b25), .val (.ref b39), .unset, .unset, .unset, .unset, .unset, .unset, .unset, .unset, .unset, .unset]) rfl (XS.aload X51.here hx rfl (hb hby at_229) rfl rfl (XS.aload X51.here hx rfl (hb hby at_231) rfl rfl (XS.iload X51.here hx rfl (hb hby at_233) rfl (XS.aload X51.here hx rfl (hb hby at_235) rfl rfl k))))) ?_
        show ownEnds _ _ _ _ (T51.setTop (mkF m 237 #[.val (.int xa), .val (.int xb), .val (.long s0), .second, .val (.long s1), .second, .val (.long s2), .second, .val (.long s3), .second, .val (.int w0), .val (.int w1), .val (.int w2), .val (.int w3), .val (.int f0), .val (.ref b4), .val (.ref b25), .val (.ref b39), .unset, .unset, .unset, .unset, .unset, .unset, .unset, .unset, .unset, .unset] [(.ref b39), (.int f0), (.ref b25), (.ref b4)]))
        have f53 := (Exa.wr W51 (Exa.wr W50 (Exa.wr W49 (Exa.wr W48 (Exa.wr W47 (Exa.ext E39 f40))))))
        have f54 := (Fld.other W51 (Fld.other W50 (Fld.other W49 (Fld.other W48 (Fld.other W47 (Fld.ext E39 (Fld.other W38 (Fld.other W37 (Fld.other W36 (Fld.other W35 (Fld.other W34 (Fld.other W33 (Fld.other W32 (Fld.other W31 (Fld.other W30 (Fld.other W29 (Fld.other W28 (Fld.other W27 (Fld.ext E25 Fx0) (Or.inl ne_b4_b25)) (Or.inl ne_b4_b25)) (Or.inl ne_b4_b25)) (Or.inl ne_b4_b25)) (Or.inl ne_b4_b25)) (Or.inl ne_b4_b25)) (Or.inl ne_b4_b25)) (Or.inl ne_b4_b25)) (Or.inl ne_b4_b25)) (Or.inl ne_b4_b25)) (Or.inl ne_b4_b25)) (Or.inl ne_b4_b25))) (Or.inl ne_b4_b39)) (Or.inl ne_b4_b39)) (Or.inl ne_b4_b39)) (Or.inl ne_b4_b39)) (Or.inl ne_b4_b39))
        have f55 := (Arv.other (Arv.other (Arv.other (Arv.other (Arv.other (Arv.ext f42 E39) W47 ne_c0_b39) W48 ne_c0_b39) W49 ne_c0_b39) W50 ne_c0_b39) W51 ne_c0_b39)
        have f56 := (Fld.other W51 (Fld.other W50 (Fld.other W49 (Fld.other W48 (Fld.other W47 (Fld.ext E39 (Fld.other W38 (Fld.other W37 (Fld.other W36 (Fld.other W35 (Fld.other W34 (Fld.other W33 (Fld.other W32 (Fld.other W31 (Fld.other W30 (Fld.other W29 (Fld.other W28 (Fld.other W27 (Fld.ext E25 Fx1) (Or.inl ne_b4_b25)) (Or.inl ne_b4_b25)) (Or.inl ne_b4_b25)) (Or.inl ne_b4_b25)) (Or.inl ne_b4_b25)) (Or.inl ne_b4_b25)) (Or.inl ne_b4_b25)) (Or.inl ne_b4_b25)) (Or.inl ne_b4_b25)) (Or.inl ne_b4_b25)) (Or.inl ne_b4_b25)) (Or.inl ne_b4_b25))) (Or.inl ne_b4_b39)) (Or.inl ne_b4_b39)) (Or.inl ne_b4_b39)) (Or.inl ne_b4_b39)) (Or.inl ne_b4_b39))
        have f57 := (Arv.other (Arv.other (Arv.other (Arv.other (Arv.other (Arv.ext f43 E39) W47 ne_c1_b39) W48 ne_c1_b39) W49 ne_c1_b39) W50 ne_c1_b39) W51 ne_c1_b39)
        have f58 := (Fld.other W51 (Fld.other W50 (Fld.other W49 (Fld.other W48 (Fld.other W47 (Fld.ext E39 (Fld.other W38 (Fld.other W37 (Fld.other W36 (Fld.other W35 (Fld.other W34 (Fld.other W33 (Fld.other W32 (Fld.other W31 (Fld.other W30 (Fld.other W29 (Fld.other W28 (Fld.other W27 (Fld.ext E25 Fx2) (Or.inl ne_b4_b25)) (Or.inl ne_b4_b25)) (Or.inl ne_b4_b25)) (Or.inl ne_b4_b25)) (Or.inl ne_b4_b25)) (Or.inl ne_b4_b25)) (Or.inl ne_b4_b25)) (Or.inl ne_b4_b25)) (Or.inl ne_b4_b25)) (Or.inl ne_b4_b25)) (Or.inl ne_b4_b25)) (Or.inl ne_b4_b25))) (Or.inl ne_b4_b39)) (Or.inl ne_b4_b39)) (Or.inl ne_b4_b39)) (Or.inl ne_b4_b39)) (Or.inl ne_b4_b39))
        have f59 := (Arv.other (Arv.other (Arv.other (Arv.other (Arv.other (Arv.ext f44 E39) W47 ne_c2_b39) W48 ne_c2_b39) W49 ne_c2_b39) W50 ne_c2_b39) W51 ne_c2_b39)
        have f60 := (Fld.other W51 (Fld.other W50 (Fld.other W49 (Fld.other W48 (Fld.other W47 (Fld.ext E39 (Fld.other W38 (Fld.other W37 (Fld.other W36 (Fld.other W35 (Fld.other W34 (Fld.other W33 (Fld.other W32 (Fld.other W31 (Fld.other W30 (Fld.other W29 (Fld.other W28 (Fld.other W27 (Fld.ext E25 Fx3) (Or.inl ne_b4_b25)) (Or.inl ne_b4_b25)) (Or.inl ne_b4_b25)) (Or.inl ne_b4_b25)) (Or.inl ne_b4_b25)) (Or.inl ne_b4_b25)) (Or.inl ne_b4_b25)) (Or.inl ne_b4_b25)) (Or.inl ne_b4_b25)) (Or.inl ne_b4_b25)) (Or.inl ne_b4_b25)) (Or.inl ne_b4_b25))) (Or.inl ne_b4_b39)) (Or.inl ne_b4_b39)) (Or.inl ne_b4_b39)) (Or.inl ne_b4_b39)) (Or.inl ne_b4_b39))
        have f61 := (Arv.other (Arv.other (Arv.other (Arv.other (Arv.other (Arv.ext f45 E39) W47 ne_c3_b39) W48 ne_c3_b39) W49 ne_c3_b39) W50 ne_c3_b39) W51 ne_c3_b39)
        have f62 := (Fld.other W51 (Fld.other W50 (Fld.other W49 (Fld.other W48 (Fld.other W47 (Fld.ext E39 (Fld.other W38 (Fld.other W37 (Fld.other W36 (Fld.other W35 (Fld.other W34 (Fld.other W33 (Fld.other W32 (Fld.other W31 (Fld.other W30 (Fld.other W29 (Fld.other W28 (Fld.other W27 (Fld.ext E25 Fx4) (Or.inl ne_b4_b25)) (Or.inl ne_b4_b25)) (Or.inl ne_b4_b25)) (Or.inl ne_b4_b25)) (Or.inl ne_b4_b25)) (Or.inl ne_b4_b25)) (Or.inl ne_b4_b25)) (Or.inl ne_b4_b25)) (Or.inl ne_b4_b25)) (Or.inl ne_b4_b25)) (Or.inl ne_b4_b25)) (Or.inl ne_b4_b25))) (Or.inl ne_b4_b39)) (Or.inl ne_b4_b39)) (Or.inl ne_b4_b39)) (Or.inl ne_b4_b39)) (Or.inl ne_b4_b39))
        have f63 := (Arv.other (Arv.other (Arv.other (Arv.other (Arv.other (Arv.ext f46 E39) W47 ne_c4_b39) W48 ne_c4_b39) W49 ne_c4_b39) W50 ne_c4_b39) W51 ne_c4_b39)
        have f64 := (Arv.other (Arv.other (Arv.other (Arv.other (Arv.other (Arv.ext V38 E39) W47 ne_b25_b39) W48 ne_b25_b39) W49 ne_b25_b39) W50 ne_b25_b39) W51 ne_b25_b39)
        obtain ⟨v52, T52, L52, X52, hQ52, st52⟩ := ownCallV X51 hx hZ hown (y := (⟨"com/example/libreach/libreach/engine/StateLayout", "unpack", "([JI[J)V"⟩ : MethodName)) (z := (⟨"com/example/libreach/libreach/engine/StateLayout", "unpack", "([JI[J)V"⟩ : MethodName)) (a := b4) (as := [(.ref b25), (.int f0), (.ref b39)]) (wd_45 hw) (wd_46 hw) (notFace_of_selects (args := #[]) (mvT hZ (wd_48 hw))) (wd_48 hw) (wd_47 hw) (wd_6 hw) (wd_49 hw) (by decide) (rm5 l Z a0 hw b4 b25 f0 b39 w0 w1 w2 w3 s0 s1 s2 s3 c0 c1 c2 c3 c4 k0 k1 k2 k3 k4 k25 k39 rs _ len h51 n0 Z51 f53 f54 f55 f56 f57 f58 f59 f60 f61 f62 f63 RO f64 hSt V51 g_b39 ne_b4_b39 ne_c0_b39 ne_c1_b39 ne_c2_b39 ne_c3_b39 ne_c4_b39 ne_b25_b39 hr0 hr1 hr2 hr3) e51 f53 0 (by decide) (by decide) (by decide) (by decide) (g := (mkF m 237 #[.val (.int xa), .val (.int xb), .val (.long s0), .second, .val (.long s1), .second, .val (.long s2), .second, .val (.long s3), .second, .val (.int w0), .val (.int w1), .val (.int w2), .val (.int w3), .val (.int f0), .val (.ref b4), .val (.ref b25), .val (.ref b39), .unset, .unset, .unset, .unset, .unset, .unset, .unset, .unset, .unset, .unset] [(.ref b39), (.int f0), (.ref b25), (.ref b4)])) rfl (by rw [hml]; rfl) (rest := []) pd_3 rfl rfl (by show 2 * 0 + _ ≤ _; exact Nat.le_of_eq rfl) (hb hby at_237)
        obtain ⟨rfl, Nq52, Kq52, Vq52⟩ := hQ52
        have N52 := Fr.app N51 Nq52
        have Z52 : n0 ≤ T52.heap.size := Nat.le_trans Z51 Kq52.1
        refine ownEnds.law st52 ?_
        show ownEnds _ _ _ _ (T52.setTop (mkF m 240 #[.val (.int xa), .val (.int xb), .val (.long s0), .second, .val (.long s1), .second, .val (.long s2), .second, .val (.long s3), .second, .val (.int w0), .val (.int w1), .val (.int w2), .val (.int w3), .val (.int f0), .val (.ref b4), .val (.ref b25), .val (.ref b39), .unset, .unset, .unset, .unset, .unset, .unset, .unset, .unset, .unset, .unset] []))
        refine ownEnds.law (fun t k => XS.iload X52.here hx rfl (hb hby at_240) rfl (XS.istore X52.here hx rfl (hb hby at_242) rfl (l' := #[.val (.int xa), .val (.int xb), .val (.long s0), .second, .val (.long s1), .second, .val (.long s2), .second, .val (.long s3), .second, .val (.int w0), .val (.int w1), .val (.int w2), .val (.int w3), .val (.int f0), .val (.ref b4), .val (.ref b25), .val (.ref b39), .val (.int w0), .unset, .unset, .unset, .unset, .unset, .unset, .unset, .unset, .unset]) rfl (XS.iconst X52.here hx rfl (hb hby at_244) (XS.istore X52.here hx rfl (hb hby at_245) rfl (l' := #[.val (.int xa), .val (.int xb), .val (.long s0), .second, .val (.long s1), .second, .val (.long s2), .second, .val (.long s3), .second, .val (.int w0), .val (.int w1), .val (.int w2), .val (.int w3), .val (.int f0), .val (.ref b4), .val (.ref b25), .val (.ref b39), .val (.int w0), .val (.int (0 : Int32)), .unset, .unset, .unset, .unset, .unset, .unset, .unset, .unset]) rfl (XS.iload X52.here hx rfl (hb hby at_247) rfl (XS.istore X52.here hx rfl (hb hby at_249) rfl (l' := #[.val (.int xa), .val (.int xb), .val (.long s0), .second, .val (.long s1), .second, .val (.long s2), .second, .val (.long s3), .second, .val (.int w0), .val (.int w1), .val (.int w2), .val (.int w3), .val (.int f0), .val (.ref b4), .val (.ref b25), .val (.ref b39), .val (.int w0), .val (.int (0 : Int32)), .val (.int w0), .unset, .unset, .unset, .unset, .unset, .unset, .unset]) rfl (XS.iload X52.here hx rfl (hb hby at_251) rfl (XS.iload X52.here hx rfl (hb hby at_253) rfl (XS.iadd X52.here hx rfl (hb hby at_255) rfl (XS.bipush X52.here hx rfl (hb hby at_256) k)))))))))) ?_
        show ownEnds _ _ _ _ (T52.setTop (mkF m 258 #[.val (.int xa), .val (.int xb), .val (.long s0), .second, .val (.long s1), .second, .val (.long s2), .second, .val (.long s3), .second, .val (.int w0), .val (.int w1), .val (.int w2), .val (.int w3), .val (.int f0), .val (.ref b4), .val (.ref b25), .val (.ref b39), .val (.int w0), .val (.int (0 : Int32)), .val (.int w0), .unset, .unset, .unset, .unset, .unset, .unset, .unset] [(.int (64 : Int32)), (.int (w0 + w1))]))
        have JL1 : ∀ (ix us : Int32) (hix : ix = (LI1 w0 w1)) (hus : us = (LS1 w0 w1)), ownEnds p.tables e below (ownPost s (fun v h L => v = some (.int 1) ∧ Fr n0 L) room_1.cells room_1.slots) (T52.setTop (mkF m 267 #[.val (.int xa), .val (.int xb), .val (.long s0), .second, .val (.long s1), .second, .val (.long s2), .second, .val (.long s3), .second, .val (.int w0), .val (.int w1), .val (.int w2), .val (.int w3), .val (.int f0), .val (.ref b4), .val (.ref b25), .val (.ref b39), .val (.int w0), .val (.int ix), .val (.int us), .unset, .unset, .unset, .unset, .unset, .unset, .unset] [])) := by
          intro ix us hix hus
          subst hix hus
          show ownEnds _ _ _ _ (T52.setTop (mkF m 267 #[.val (.int xa), .val (.int xb), .val (.long s0), .second, .val (.long s1), .second, .val (.long s2), .second, .val (.long s3), .second, .val (.int w0), .val (.int w1), .val (.int w2), .val (.int w3), .val (.int f0), .val (.ref b4), .val (.ref b25), .val (.ref b39), .val (.int w0), .val (.int (LI1 w0 w1)), .val (.int (LS1 w0 w1)), .unset, .unset, .unset, .unset, .unset, .unset, .unset] []))
          refine ownEnds.law (fun t k => XS.iload X52.here hx rfl (hb hby at_267) rfl (XS.iload X52.here hx rfl (hb hby at_269) rfl (XS.iadd X52.here hx rfl (hb hby at_271) rfl (XS.istore X52.here hx rfl (hb hby at_272) rfl (l' := #[.val (.int xa), .val (.int xb), .val (.long s0), .second, .val (.long s1), .second, .val (.long s2), .second, .val (.long s3), .second, .val (.int w0), .val (.int w1), .val (.int w2), .val (.int w3), .val (.int f0), .val (.ref b4), .val (.ref b25), .val (.ref b39), .val (.int ((LS1 w0 w1) + w1)), .val (.int (LI1 w0 w1)), .val (.int (LS1 w0 w1)), .unset, .unset, .unset, .unset, .unset, .unset, .unset]) rfl (XS.iload X52.here hx rfl (hb hby at_274) rfl (XS.istore X52.here hx rfl (hb hby at_276) rfl (l' := #[.val (.int xa), .val (.int xb), .val (.long s0), .second, .val (.long s1), .second, .val (.long s2), .second, .val (.long s3), .second, .val (.int w0), .val (.int w1), .val (.int w2), .val (.int w3), .val (.int f0), .val (.ref b4), .val (.ref b25), .val (.ref b39), .val (.int ((LS1 w0 w1) + w1)), .val (.int (LI1 w0 w1)), .val (.int (LS1 w0 w1)), .val (.int (LI1 w0 w1)), .unset, .unset, .unset, .unset, .unset, .unset]) rfl (XS.iload X52.here hx rfl (hb hby at_278) rfl (XS.istore X52.here hx rfl (hb hby at_280) rfl (l' := #[.val (.int xa), .val (.int xb), .val (.long s0), .second, .val (.long s1), .second, .val (.long s2), .second, .val (.long s3), .second, .val (.int w0), .val (.int w1), .val (.int w2), .val (.int w3), .val (.int f0), .val (.ref b4), .val (.ref b25), .val (.ref b39), .val (.int ((LS1 w0 w1) + w1)), .val (.int (LI1 w0 w1)), .val (.int (LS1 w0 w1)), .val (.int (LI1 w0 w1)), .val (.int ((LS1 w0 w1) + w1)), .unset, .unset, .unset, .unset, .unset]) rfl (XS.iload X52.here hx rfl (hb hby at_282) rfl (XS.iload X52.here hx rfl (hb hby at_284) rfl k)))))))))) ?_
          show ownEnds _ _ _ _ (T52.setTop (mkF m 286 #[.val (.int xa), .val (.int xb), .val (.long s0), .second, .val (.long s1), .second, .val (.long s2), .second, .val (.long s3), .second, .val (.int w0), .val (.int w1), .val (.int w2), .val (.int w3), .val (.int f0), .val (.ref b4), .val (.ref b25), .val (.ref b39), .val (.int ((LS1 w0 w1) + w1)), .val (.int (LI1 w0 w1)), .val (.int (LS1 w0 w1)), .val (.int (LI1 w0 w1)), .val (.int ((LS1 w0 w1) + w1)), .unset, .unset, .unset, .unset, .unset] [(.int w2), (.int ((LS1 w0 w1) + w1))]))
          refine ownEnds.law (fun t k => XS.iadd X52.here hx rfl (hb hby at_286) rfl (XS.bipush X52.here hx rfl (hb hby at_287) k)) ?_
          show ownEnds _ _ _ _ (T52.setTop (mkF m 289 #[.val (.int xa), .val (.int xb), .val (.long s0), .second, .val (.long s1), .second, .val (.long s2), .second, .val (.long s3), .second, .val (.int w0), .val (.int w1), .val (.int w2), .val (.int w3), .val (.int f0), .val (.ref b4), .val (.ref b25), .val (.ref b39), .val (.int ((LS1 w0 w1) + w1)), .val (.int (LI1 w0 w1)), .val (.int (LS1 w0 w1)), .val (.int (LI1 w0 w1)), .val (.int ((LS1 w0 w1) + w1)), .unset, .unset, .unset, .unset, .unset] [(.int (64 : Int32)), (.int (((LS1 w0 w1) + w1) + w2))]))
          have JL2 : ∀ (ix us : Int32) (hix : ix = (LI2 w0 w1 w2)) (hus : us = (LS2 w0 w1 w2)), ownEnds p.tables e below (ownPost s (fun v h L => v = some (.int 1) ∧ Fr n0 L) room_1.cells room_1.slots) (T52.setTop (mkF m 301 #[.val (.int xa), .val (.int xb), .val (.long s0), .second, .val (.long s1), .second, .val (.long s2), .second, .val (.long s3), .second, .val (.int w0), .val (.int w1), .val (.int w2), .val (.int w3), .val (.int f0), .val (.ref b4), .val (.ref b25), .val (.ref b39), .val (.int ((LS1 w0 w1) + w1)), .val (.int (LI1 w0 w1)), .val (.int (LS1 w0 w1)), .val (.int ix), .val (.int us), .unset, .unset, .unset, .unset, .unset] [])) := by
            intro ix us hix hus
            subst hix hus
            show ownEnds _ _ _ _ (T52.setTop (mkF m 301 #[.val (.int xa), .val (.int xb), .val (.long s0), .second, .val (.long s1), .second, .val (.long s2), .second, .val (.long s3), .second, .val (.int w0), .val (.int w1), .val (.int w2), .val (.int w3), .val (.int f0), .val (.ref b4), .val (.ref b25), .val (.ref b39), .val (.int ((LS1 w0 w1) + w1)), .val (.int (LI1 w0 w1)), .val (.int (LS1 w0 w1)), .val (.int (LI2 w0 w1 w2)), .val (.int (LS2 w0 w1 w2)), .unset, .unset, .unset, .unset, .unset] []))
            refine ownEnds.law (fun t k => XS.iload X52.here hx rfl (hb hby at_301) rfl (XS.iload X52.here hx rfl (hb hby at_303) rfl (XS.iadd X52.here hx rfl (hb hby at_305) rfl (XS.istore X52.here hx rfl (hb hby at_306) rfl (l' := #[.val (.int xa), .val (.int xb), .val (.long s0), .second, .val (.long s1), .second, .val (.long s2), .second, .val (.long s3), .second, .val (.int w0), .val (.int w1), .val (.int w2), .val (.int w3), .val (.int f0), .val (.ref b4), .val (.ref b25), .val (.ref b39), .val (.int ((LS2 w0 w1 w2) + w2)), .val (.int (LI1 w0 w1)), .val (.int (LS1 w0 w1)), .val (.int (LI2 w0 w1 w2)), .val (.int (LS2 w0 w1 w2)), .unset, .unset, .unset, .unset, .unset]) rfl (XS.iload X52.here hx rfl (hb hby at_308) rfl (XS.istore X52.here hx rfl (hb hby at_310) rfl (l' := #[.val (.int xa), .val (.int xb), .val (.long s0), .second, .val (.long s1), .second, .val (.long s2), .second, .val (.long s3), .second, .val (.int w0), .val (.int w1), .val (.int w2), .val (.int w3), .val (.int f0), .val (.ref b4), .val (.ref b25), .val (.ref b39), .val (.int ((LS2 w0 w1 w2) + w2)), .val (.int (LI1 w0 w1)), .val (.int (LS1 w0 w1)), .val (.int (LI2 w0 w1 w2)), .val (.int (LS2 w0 w1 w2)), .val (.int (LI2 w0 w1 w2)), .unset, .unset, .unset, .unset]) rfl (XS.iload X52.here hx rfl (hb hby at_312) rfl (XS.istore X52.here hx rfl (hb hby at_314) rfl (l' := #[.val (.int xa), .val (.int xb), .val (.long s0), .second, .val (.long s1), .second, .val (.long s2), .second, .val (.long s3), .second, .val (.int w0), .val (.int w1), .val (.int w2), .val (.int w3), .val (.int f0), .val (.ref b4), .val (.ref b25), .val (.ref b39), .val (.int ((LS2 w0 w1 w2) + w2)), .val (.int (LI1 w0 w1)), .val (.int (LS1 w0 w1)), .val (.int (LI2 w0 w1 w2)), .val (.int (LS2 w0 w1 w2)), .val (.int (LI2 w0 w1 w2)), .val (.int ((LS2 w0 w1 w2) + w2)), .unset, .unset, .unset]) rfl (XS.iload X52.here hx rfl (hb hby at_316) rfl (XS.iload X52.here hx rfl (hb hby at_318) rfl k)))))))))) ?_
            show ownEnds _ _ _ _ (T52.setTop (mkF m 320 #[.val (.int xa), .val (.int xb), .val (.long s0), .second, .val (.long s1), .second, .val (.long s2), .second, .val (.long s3), .second, .val (.int w0), .val (.int w1), .val (.int w2), .val (.int w3), .val (.int f0), .val (.ref b4), .val (.ref b25), .val (.ref b39), .val (.int ((LS2 w0 w1 w2) + w2)), .val (.int (LI1 w0 w1)), .val (.int (LS1 w0 w1)), .val (.int (LI2 w0 w1 w2)), .val (.int (LS2 w0 w1 w2)), .val (.int (LI2 w0 w1 w2)), .val (.int ((LS2 w0 w1 w2) + w2)), .unset, .unset, .unset] [(.int w3), (.int ((LS2 w0 w1 w2) + w2))]))
            refine ownEnds.law (fun t k => XS.iadd X52.here hx rfl (hb hby at_320) rfl (XS.bipush X52.here hx rfl (hb hby at_321) k)) ?_
            show ownEnds _ _ _ _ (T52.setTop (mkF m 323 #[.val (.int xa), .val (.int xb), .val (.long s0), .second, .val (.long s1), .second, .val (.long s2), .second, .val (.long s3), .second, .val (.int w0), .val (.int w1), .val (.int w2), .val (.int w3), .val (.int f0), .val (.ref b4), .val (.ref b25), .val (.ref b39), .val (.int ((LS2 w0 w1 w2) + w2)), .val (.int (LI1 w0 w1)), .val (.int (LS1 w0 w1)), .val (.int (LI2 w0 w1 w2)), .val (.int (LS2 w0 w1 w2)), .val (.int (LI2 w0 w1 w2)), .val (.int ((LS2 w0 w1 w2) + w2)), .unset, .unset, .unset] [(.int (64 : Int32)), (.int (((LS2 w0 w1 w2) + w2) + w3))]))
            have JL3 : ∀ (ix us : Int32) (hix : ix = (LI3 w0 w1 w2 w3)) (hus : us = (LS3 w0 w1 w2 w3)), ownEnds p.tables e below (ownPost s (fun v h L => v = some (.int 1) ∧ Fr n0 L) room_1.cells room_1.slots) (T52.setTop (mkF m 335 #[.val (.int xa), .val (.int xb), .val (.long s0), .second, .val (.long s1), .second, .val (.long s2), .second, .val (.long s3), .second, .val (.int w0), .val (.int w1), .val (.int w2), .val (.int w3), .val (.int f0), .val (.ref b4), .val (.ref b25), .val (.ref b39), .val (.int ((LS2 w0 w1 w2) + w2)), .val (.int (LI1 w0 w1)), .val (.int (LS1 w0 w1)), .val (.int (LI2 w0 w1 w2)), .val (.int (LS2 w0 w1 w2)), .val (.int ix), .val (.int us), .unset, .unset, .unset] [])) := by
              intro ix us hix hus
              subst hix hus
              show ownEnds _ _ _ _ (T52.setTop (mkF m 335 #[.val (.int xa), .val (.int xb), .val (.long s0), .second, .val (.long s1), .second, .val (.long s2), .second, .val (.long s3), .second, .val (.int w0), .val (.int w1), .val (.int w2), .val (.int w3), .val (.int f0), .val (.ref b4), .val (.ref b25), .val (.ref b39), .val (.int ((LS2 w0 w1 w2) + w2)), .val (.int (LI1 w0 w1)), .val (.int (LS1 w0 w1)), .val (.int (LI2 w0 w1 w2)), .val (.int (LS2 w0 w1 w2)), .val (.int (LI3 w0 w1 w2 w3)), .val (.int (LS3 w0 w1 w2 w3)), .unset, .unset, .unset] []))
              refine ownEnds.law (fun t k => XS.iconst X52.here hx rfl (hb hby at_335) k) ?_
              show ownEnds _ _ _ _ (T52.setTop (mkF m 336 #[.val (.int xa), .val (.int xb), .val (.long s0), .second, .val (.long s1), .second, .val (.long s2), .second, .val (.long s3), .second, .val (.int w0), .val (.int w1), .val (.int w2), .val (.int w3), .val (.int f0), .val (.ref b4), .val (.ref b25), .val (.ref b39), .val (.int ((LS2 w0 w1 w2) + w2)), .val (.int (LI1 w0 w1)), .val (.int (LS1 w0 w1)), .val (.int (LI2 w0 w1 w2)), .val (.int (LS2 w0 w1 w2)), .val (.int (LI3 w0 w1 w2 w3)), .val (.int (LS3 w0 w1 w2 w3)), .unset, .unset, .unset] [(.int (4 : Int32))]))
              obtain ⟨T65, h65, k65, X65, e65, E65, A65, st65⟩ := newP X52 hx hZ (aty := .long) (wd_29 hw) rfl (g := (mkF m 336 #[.val (.int xa), .val (.int xb), .val (.long s0), .second, .val (.long s1), .second, .val (.long s2), .second, .val (.long s3), .second, .val (.int w0), .val (.int w1), .val (.int w2), .val (.int w3), .val (.int f0), .val (.ref b4), .val (.ref b25), .val (.ref b39), .val (.int ((LS2 w0 w1 w2) + w2)), .val (.int (LI1 w0 w1)), .val (.int (LS1 w0 w1)), .val (.int (LI2 w0 w1 w2)), .val (.int (LS2 w0 w1 w2)), .val (.int (LI3 w0 w1 w2 w3)), .val (.int (LS3 w0 w1 w2 w3)), .unset, .unset, .unset] [(.int (4 : Int32))])) rfl (hb hby at_336) rfl (by decide) (cap := 4) (by decide) (by decide) (by decide) (by decide)
              obtain ⟨b65, g65⟩ : ∃ z, z = T52.heap.size := ⟨_, rfl⟩
              rw [← g65] at A65 st65
              refine ownEnds.law st65 ?_
              have V_b65 : Arv Z h65 b65 k65 .long (4 : Int32) [(.long (0 : Int64)), (.long (0 : Int64)), (.long (0 : Int64)), (.long (0 : Int64))] (.long (0 : Int64)) := (Arv.new A65 (by decide)).pad (pad_rep [] (.long (0 : Int64)) 4)
              have f66 := (Exa.keep f53 Kq52)
              have ne_b4_b65 : b4 ≠ b65 := Nat.ne_of_lt (Nat.lt_of_lt_of_eq f66.lt g65.symm)
              have f67 := (Arv.keep (Arv.other (Arv.other (Arv.other (Arv.other (Arv.other (Arv.ext f41 E39) W47 ne_b11_b39) W48 ne_b11_b39) W49 ne_b11_b39) W50 ne_b11_b39) W51 ne_b11_b39) Kq52 (ninS ne_b11_b39 nin0))
              have ne_b11_b65 : b11 ≠ b65 := Nat.ne_of_lt (Nat.lt_of_lt_of_eq f67.lt g65.symm)
              have f68 := (Arv.keep f55 Kq52 (ninS ne_c0_b39 nin0))
              have ne_c0_b65 : c0 ≠ b65 := Nat.ne_of_lt (Nat.lt_of_lt_of_eq f68.lt g65.symm)
              have f69 := (Arv.keep f57 Kq52 (ninS ne_c1_b39 nin0))
              have ne_c1_b65 : c1 ≠ b65 := Nat.ne_of_lt (Nat.lt_of_lt_of_eq f69.lt g65.symm)
              have f70 := (Arv.keep f59 Kq52 (ninS ne_c2_b39 nin0))
              have ne_c2_b65 : c2 ≠ b65 := Nat.ne_of_lt (Nat.lt_of_lt_of_eq f70.lt g65.symm)
              have f71 := (Arv.keep f61 Kq52 (ninS ne_c3_b39 nin0))
              have ne_c3_b65 : c3 ≠ b65 := Nat.ne_of_lt (Nat.lt_of_lt_of_eq f71.lt g65.symm)
              have f72 := (Arv.keep f63 Kq52 (ninS ne_c4_b39 nin0))
              have ne_c4_b65 : c4 ≠ b65 := Nat.ne_of_lt (Nat.lt_of_lt_of_eq f72.lt g65.symm)
              have f73 := (Arv.keep f64 Kq52 (ninS ne_b25_b39 nin0))
              have ne_b25_b65 : b25 ≠ b65 := Nat.ne_of_lt (Nat.lt_of_lt_of_eq f73.lt g65.symm)
              have ne_b39_b65 : b39 ≠ b65 := Nat.ne_of_lt (Nat.lt_of_lt_of_eq Vq52.lt g65.symm)
              have g_b65 : n0 ≤ b65 := Nat.le_trans Z52 (Nat.le_of_eq g65.symm)
              have Z65 : n0 ≤ h65.size := Nat.le_trans Z52 E65.1
              show ownEnds _ _ _ _ (T65.setTop (mkF m 338 #[.val (.int xa), .val (.int xb), .val (.long s0), .second, .val (.long s1), .second, .val (.long s2), .second, .val (.long s3), .second, .val (.int w0), .val (.int w1), .val (.int w2), .val (.int w3), .val (.int f0), .val (.ref b4), .val (.ref b25), .val (.ref b39), .val (.int ((LS2 w0 w1 w2) + w2)), .val (.int (LI1 w0 w1)), .val (.int (LS1 w0 w1)), .val (.int (LI2 w0 w1 w2)), .val (.int (LS2 w0 w1 w2)), .val (.int (LI3 w0 w1 w2 w3)), .val (.int (LS3 w0 w1 w2 w3)), .unset, .unset, .unset] [(.ref b65)]))
              refine ownEnds.law (fun t k => XS.dup X65.here hx rfl (hb hby at_338) rfl rfl (XS.iconst X65.here hx rfl (hb hby at_339) (XS.lloadN X65.here hx rfl (hb hby at_340) rfl k))) ?_
              show ownEnds _ _ _ _ (T65.setTop (mkF m 341 #[.val (.int xa), .val (.int xb), .val (.long s0), .second, .val (.long s1), .second, .val (.long s2), .second, .val (.long s3), .second, .val (.int w0), .val (.int w1), .val (.int w2), .val (.int w3), .val (.int f0), .val (.ref b4), .val (.ref b25), .val (.ref b39), .val (.int ((LS2 w0 w1 w2) + w2)), .val (.int (LI1 w0 w1)), .val (.int (LS1 w0 w1)), .val (.int (LI2 w0 w1 w2)), .val (.int (LS2 w0 w1 w2)), .val (.int (LI3 w0 w1 w2 w3)), .val (.int (LS3 w0 w1 w2 w3)), .unset, .unset, .unset] [(.long s0), (.int (0 : Int32)), (.ref b65), (.ref b65)]))
              obtain ⟨cl74, Ar74, q74, S74, N74, H74, G74⟩ := id V_b65
              obtain ⟨T74, h74, X74, e74, W74, st74⟩ := stJ X65 hx hZ e65 Ar74 (j := (0 : Int32)) (inb_of S74 ⟨by decide, by decide⟩) (g := (mkF m 341 #[.val (.int xa), .val (.int xb), .val (.long s0), .second, .val (.long s1), .second, .val (.long s2), .second, .val (.long s3), .second, .val (.int w0), .val (.int w1), .val (.int w2), .val (.int w3), .val (.int f0), .val (.ref b4), .val (.ref b25), .val (.ref b39), .val (.int ((LS2 w0 w1 w2) + w2)), .val (.int (LI1 w0 w1)), .val (.int (LS1 w0 w1)), .val (.int (LI2 w0 w1 w2)), .val (.int (LS2 w0 w1 w2)), .val (.int (LI3 w0 w1 w2 w3)), .val (.int (LS3 w0 w1 w2 w3)), .unset, .unset, .unset] [(.long s0), (.int (0 : Int32)), (.ref b65), (.ref b65)])) rfl rfl (hb hby at_341)
              refine ownEnds.law st74 ?_
              have V74 : Arv Z h74 b65 k65 .long (4 : Int32) [(.long s0), (.long (0 : Int64)), (.long (0 : Int64)), (.long (0 : Int64))] (.long (0 : Int64)) := Arv.set Ar74 q74 S74 N74 H74 G74 rfl W74 0 rfl (Nat.le_of_ble_eq_true rfl)
              have N74 := Fr.snoc X74 N52 g_b65
              have Z74 : n0 ≤ h74.size := by rw [W74.size]; exact Z65
              show ownEnds _ _ _ _ (T74.setTop (mkF m 342 #[.val (.int xa), .val (.int xb), .val (.long s0), .second, .val (.long s1), .second, .val (.long s2), .second, .val (.long s3), .second, .val (.int w0), .val (.int w1), .val (.int w2), .val (.int w3), .val (.int f0), .val (.ref b4), .val (.ref b25), .val (.ref b39), .val (.int ((LS2 w0 w1 w2) + w2)), .val (.int (LI1 w0 w1)), .val (.int (LS1 w0 w1)), .val (.int (LI2 w0 w1 w2)), .val (.int (LS2 w0 w1 w2)), .val (.int (LI3 w0 w1 w2 w3)), .val (.int (LS3 w0 w1 w2 w3)), .unset, .unset, .unset] [(.ref b65)]))
              refine ownEnds.law (fun t k => XS.dup X74.here hx rfl (hb hby at_342) rfl rfl (XS.iconst X74.here hx rfl (hb hby at_343) (XS.lload X74.here hx rfl (hb hby at_344) rfl k))) ?_
              show ownEnds _ _ _ _ (T74.setTop (mkF m 346 #[.val (.int xa), .val (.int xb), .val (.long s0), .second, .val (.long s1), .second, .val (.long s2), .second, .val (.long s3), .second, .val (.int w0), .val (.int w1), .val (.int w2), .val (.int w3), .val (.int f0), .val (.ref b4), .val (.ref b25), .val (.ref b39), .val (.int ((LS2 w0 w1 w2) + w2)), .val (.int (LI1 w0 w1)), .val (.int (LS1 w0 w1)), .val (.int (LI2 w0 w1 w2)), .val (.int (LS2 w0 w1 w2)), .val (.int (LI3 w0 w1 w2 w3)), .val (.int (LS3 w0 w1 w2 w3)), .unset, .unset, .unset] [(.long s1), (.int (1 : Int32)), (.ref b65), (.ref b65)]))
              obtain ⟨cl75, Ar75, q75, S75, N75, H75, G75⟩ := id V74
              obtain ⟨T75, h75, X75, e75, W75, st75⟩ := stJ X74 hx hZ e74 Ar75 (j := (1 : Int32)) (inb_of S75 ⟨by decide, by decide⟩) (g := (mkF m 346 #[.val (.int xa), .val (.int xb), .val (.long s0), .second, .val (.long s1), .second, .val (.long s2), .second, .val (.long s3), .second, .val (.int w0), .val (.int w1), .val (.int w2), .val (.int w3), .val (.int f0), .val (.ref b4), .val (.ref b25), .val (.ref b39), .val (.int ((LS2 w0 w1 w2) + w2)), .val (.int (LI1 w0 w1)), .val (.int (LS1 w0 w1)), .val (.int (LI2 w0 w1 w2)), .val (.int (LS2 w0 w1 w2)), .val (.int (LI3 w0 w1 w2 w3)), .val (.int (LS3 w0 w1 w2 w3)), .unset, .unset, .unset] [(.long s1), (.int (1 : Int32)), (.ref b65), (.ref b65)])) rfl rfl (hb hby at_346)
              refine ownEnds.law st75 ?_
              have V75 : Arv Z h75 b65 k65 .long (4 : Int32) [(.long s0), (.long s1), (.long (0 : Int64)), (.long (0 : Int64))] (.long (0 : Int64)) := Arv.set Ar75 q75 S75 N75 H75 G75 rfl W75 1 rfl (Nat.le_of_ble_eq_true rfl)
              have N75 := Fr.snoc X75 N74 g_b65
              have Z75 : n0 ≤ h75.size := by rw [W75.size]; exact Z74
              show ownEnds _ _ _ _ (T75.setTop (mkF m 347 #[.val (.int xa), .val (.int xb), .val (.long s0), .second, .val (.long s1), .second, .val (.long s2), .second, .val (.long s3), .second, .val (.int w0), .val (.int w1), .val (.int w2), .val (.int w3), .val (.int f0), .val (.ref b4), .val (.ref b25), .val (.ref b39), .val (.int ((LS2 w0 w1 w2) + w2)), .val (.int (LI1 w0 w1)), .val (.int (LS1 w0 w1)), .val (.int (LI2 w0 w1 w2)), .val (.int (LS2 w0 w1 w2)), .val (.int (LI3 w0 w1 w2 w3)), .val (.int (LS3 w0 w1 w2 w3)), .unset, .unset, .unset] [(.ref b65)]))
              refine ownEnds.law (fun t k => XS.dup X75.here hx rfl (hb hby at_347) rfl rfl (XS.iconst X75.here hx rfl (hb hby at_348) (XS.lload X75.here hx rfl (hb hby at_349) rfl k))) ?_
              show ownEnds _ _ _ _ (T75.setTop (mkF m 351 #[.val (.int xa), .val (.int xb), .val (.long s0), .second, .val (.long s1), .second, .val (.long s2), .second, .val (.long s3), .second, .val (.int w0), .val (.int w1), .val (.int w2), .val (.int w3), .val (.int f0), .val (.ref b4), .val (.ref b25), .val (.ref b39), .val (.int ((LS2 w0 w1 w2) + w2)), .val (.int (LI1 w0 w1)), .val (.int (LS1 w0 w1)), .val (.int (LI2 w0 w1 w2)), .val (.int (LS2 w0 w1 w2)), .val (.int (LI3 w0 w1 w2 w3)), .val (.int (LS3 w0 w1 w2 w3)), .unset, .unset, .unset] [(.long s2), (.int (2 : Int32)), (.ref b65), (.ref b65)]))
              obtain ⟨cl76, Ar76, q76, S76, N76, H76, G76⟩ := id V75
              obtain ⟨T76, h76, X76, e76, W76, st76⟩ := stJ X75 hx hZ e75 Ar76 (j := (2 : Int32)) (inb_of S76 ⟨by decide, by decide⟩) (g := (mkF m 351 #[.val (.int xa), .val (.int xb), .val (.long s0), .second, .val (.long s1), .second, .val (.long s2), .second, .val (.long s3), .second, .val (.int w0), .val (.int w1), .val (.int w2), .val (.int w3), .val (.int f0), .val (.ref b4), .val (.ref b25), .val (.ref b39), .val (.int ((LS2 w0 w1 w2) + w2)), .val (.int (LI1 w0 w1)), .val (.int (LS1 w0 w1)), .val (.int (LI2 w0 w1 w2)), .val (.int (LS2 w0 w1 w2)), .val (.int (LI3 w0 w1 w2 w3)), .val (.int (LS3 w0 w1 w2 w3)), .unset, .unset, .unset] [(.long s2), (.int (2 : Int32)), (.ref b65), (.ref b65)])) rfl rfl (hb hby at_351)
              refine ownEnds.law st76 ?_
              have V76 : Arv Z h76 b65 k65 .long (4 : Int32) [(.long s0), (.long s1), (.long s2), (.long (0 : Int64))] (.long (0 : Int64)) := Arv.set Ar76 q76 S76 N76 H76 G76 rfl W76 2 rfl (Nat.le_of_ble_eq_true rfl)
              have N76 := Fr.snoc X76 N75 g_b65
              have Z76 : n0 ≤ h76.size := by rw [W76.size]; exact Z75
              show ownEnds _ _ _ _ (T76.setTop (mkF m 352 #[.val (.int xa), .val (.int xb), .val (.long s0), .second, .val (.long s1), .second, .val (.long s2), .second, .val (.long s3), .second, .val (.int w0), .val (.int w1), .val (.int w2), .val (.int w3), .val (.int f0), .val (.ref b4), .val (.ref b25), .val (.ref b39), .val (.int ((LS2 w0 w1 w2) + w2)), .val (.int (LI1 w0 w1)), .val (.int (LS1 w0 w1)), .val (.int (LI2 w0 w1 w2)), .val (.int (LS2 w0 w1 w2)), .val (.int (LI3 w0 w1 w2 w3)), .val (.int (LS3 w0 w1 w2 w3)), .unset, .unset, .unset] [(.ref b65)]))
              refine ownEnds.law (fun t k => XS.dup X76.here hx rfl (hb hby at_352) rfl rfl (XS.iconst X76.here hx rfl (hb hby at_353) (XS.lload X76.here hx rfl (hb hby at_354) rfl k))) ?_
              show ownEnds _ _ _ _ (T76.setTop (mkF m 356 #[.val (.int xa), .val (.int xb), .val (.long s0), .second, .val (.long s1), .second, .val (.long s2), .second, .val (.long s3), .second, .val (.int w0), .val (.int w1), .val (.int w2), .val (.int w3), .val (.int f0), .val (.ref b4), .val (.ref b25), .val (.ref b39), .val (.int ((LS2 w0 w1 w2) + w2)), .val (.int (LI1 w0 w1)), .val (.int (LS1 w0 w1)), .val (.int (LI2 w0 w1 w2)), .val (.int (LS2 w0 w1 w2)), .val (.int (LI3 w0 w1 w2 w3)), .val (.int (LS3 w0 w1 w2 w3)), .unset, .unset, .unset] [(.long s3), (.int (3 : Int32)), (.ref b65), (.ref b65)]))
              obtain ⟨cl77, Ar77, q77, S77, N77, H77, G77⟩ := id V76
              obtain ⟨T77, h77, X77, e77, W77, st77⟩ := stJ X76 hx hZ e76 Ar77 (j := (3 : Int32)) (inb_of S77 ⟨by decide, by decide⟩) (g := (mkF m 356 #[.val (.int xa), .val (.int xb), .val (.long s0), .second, .val (.long s1), .second, .val (.long s2), .second, .val (.long s3), .second, .val (.int w0), .val (.int w1), .val (.int w2), .val (.int w3), .val (.int f0), .val (.ref b4), .val (.ref b25), .val (.ref b39), .val (.int ((LS2 w0 w1 w2) + w2)), .val (.int (LI1 w0 w1)), .val (.int (LS1 w0 w1)), .val (.int (LI2 w0 w1 w2)), .val (.int (LS2 w0 w1 w2)), .val (.int (LI3 w0 w1 w2 w3)), .val (.int (LS3 w0 w1 w2 w3)), .unset, .unset, .unset] [(.long s3), (.int (3 : Int32)), (.ref b65), (.ref b65)])) rfl rfl (hb hby at_356)
              refine ownEnds.law st77 ?_
              have V77 : Arv Z h77 b65 k65 .long (4 : Int32) [(.long s0), (.long s1), (.long s2), (.long s3)] (.long (0 : Int64)) := Arv.set Ar77 q77 S77 N77 H77 G77 rfl W77 3 rfl (Nat.le_of_ble_eq_true rfl)
              have N77 := Fr.snoc X77 N76 g_b65
              have Z77 : n0 ≤ h77.size := by rw [W77.size]; exact Z76
              show ownEnds _ _ _ _ (T77.setTop (mkF m 357 #[.val (.int xa), .val (.int xb), .val (.long s0), .second, .val (.long s1), .second, .val (.long s2), .second, .val (.long s3), .second, .val (.int w0), .val (.int w1), .val (.int w2), .val (.int w3), .val (.int f0), .val (.ref b4), .val (.ref b25), .val (.ref b39), .val (.int ((LS2 w0 w1 w2) + w2)), .val (.int (LI1 w0 w1)), .val (.int (LS1 w0 w1)), .val (.int (LI2 w0 w1 w2)), .val (.int (LS2 w0 w1 w2)), .val (.int (LI3 w0 w1 w2 w3)), .val (.int (LS3 w0 w1 w2 w3)), .unset, .unset, .unset] [(.ref b65)]))
              refine ownEnds.law (fun t k => XS.astore X77.here hx rfl (hb hby at_357) rfl rfl (l' := #[.val (.int xa), .val (.int xb), .val (.long s0), .second, .val (.long s1), .second, .val (.long s2), .second, .val (.long s3), .second, .val (.int w0), .val (.int w1), .val (.int w2), .val (.int w3), .val (.int f0), .val (.ref b4), .val (.ref b25), .val (.ref b39), .val (.int ((LS2 w0 w1 w2) + w2)), .val (.int (LI1 w0 w1)), .val (.int (LS1 w0 w1)), .val (.int (LI2 w0 w1 w2)), .val (.int (LS2 w0 w1 w2)), .val (.int (LI3 w0 w1 w2 w3)), .val (.int (LS3 w0 w1 w2 w3)), .val (.ref b65), .unset, .unset]) rfl (XS.aload X77.here hx rfl (hb hby at_359) rfl rfl (XS.iconst X77.here hx rfl (hb hby at_361) k))) ?_
              show ownEnds _ _ _ _ (T77.setTop (mkF m 362 #[.val (.int xa), .val (.int xb), .val (.long s0), .second, .val (.long s1), .second, .val (.long s2), .second, .val (.long s3), .second, .val (.int w0), .val (.int w1), .val (.int w2), .val (.int w3), .val (.int f0), .val (.ref b4), .val (.ref b25), .val (.ref b39), .val (.int ((LS2 w0 w1 w2) + w2)), .val (.int (LI1 w0 w1)), .val (.int (LS1 w0 w1)), .val (.int (LI2 w0 w1 w2)), .val (.int (LS2 w0 w1 w2)), .val (.int (LI3 w0 w1 w2 w3)), .val (.int (LS3 w0 w1 w2 w3)), .val (.ref b65), .unset, .unset] [(.int (0 : Int32)), (.ref b39)]))
              have f79 := (Arv.other (Arv.other (Arv.other (Arv.other (Arv.ext Vq52 E65) W74 ne_b39_b65) W75 ne_b39_b65) W76 ne_b39_b65) W77 ne_b39_b65)
              obtain ⟨cl78, Ar78, q78, S78, N78, H78, G78⟩ := id f79
              have hi78 := inb_of (j := (0 : Int32)) S78 ⟨by decide, by decide⟩
              have hv78 : cl78.slots[((0 : Int32)).toNatClampNeg]? = some (.long (XV (GW (0 : Int32) s0 s1 s2 s3) (0 : Int32) w0)) := H78.at hi78 rfl
              refine ownEnds.law (fun t k => X77.laload hx (j := (0 : Int32)) (v := (.long (XV (GW (0 : Int32) s0 s1 s2 s3) (0 : Int32) w0))) (by rw [e77]; exact Ar78.1) (State.isArrayOf_alike hZ.alike Ar78.2.1) Ar78.2.2 hi78 hv78 (g := (mkF m 362 #[.val (.int xa), .val (.int xb), .val (.long s0), .second, .val (.long s1), .second, .val (.long s2), .second, .val (.long s3), .second, .val (.int w0), .val (.int w1), .val (.int w2), .val (.int w3), .val (.int f0), .val (.ref b4), .val (.ref b25), .val (.ref b39), .val (.int ((LS2 w0 w1 w2) + w2)), .val (.int (LI1 w0 w1)), .val (.int (LS1 w0 w1)), .val (.int (LI2 w0 w1 w2)), .val (.int (LS2 w0 w1 w2)), .val (.int (LI3 w0 w1 w2 w3)), .val (.int (LS3 w0 w1 w2 w3)), .val (.ref b65), .unset, .unset] [(.int (0 : Int32)), (.ref b39)])) rfl rfl (hb hby at_362) _ (XS.aload X77.here hx rfl (hb hby at_363) rfl rfl (XS.iconst X77.here hx rfl (hb hby at_365) k))) ?_
              show ownEnds _ _ _ _ (T77.setTop (mkF m 366 #[.val (.int xa), .val (.int xb), .val (.long s0), .second, .val (.long s1), .second, .val (.long s2), .second, .val (.long s3), .second, .val (.int w0), .val (.int w1), .val (.int w2), .val (.int w3), .val (.int f0), .val (.ref b4), .val (.ref b25), .val (.ref b39), .val (.int ((LS2 w0 w1 w2) + w2)), .val (.int (LI1 w0 w1)), .val (.int (LS1 w0 w1)), .val (.int (LI2 w0 w1 w2)), .val (.int (LS2 w0 w1 w2)), .val (.int (LI3 w0 w1 w2 w3)), .val (.int (LS3 w0 w1 w2 w3)), .val (.ref b65), .unset, .unset] [(.int (0 : Int32)), (.ref b65), (.long (XV (GW (0 : Int32) s0 s1 s2 s3) (0 : Int32) w0))]))
              obtain ⟨cl80, Ar80, q80, S80, N80, H80, G80⟩ := id V77
              have hi80 := inb_of (j := (0 : Int32)) S80 ⟨by decide, by decide⟩
              have hv80 : cl80.slots[((0 : Int32)).toNatClampNeg]? = some (.long s0) := H80.at hi80 rfl
              refine ownEnds.law (fun t k => X77.laload hx (j := (0 : Int32)) (v := (.long s0)) (by rw [e77]; exact Ar80.1) (State.isArrayOf_alike hZ.alike Ar80.2.1) Ar80.2.2 hi80 hv80 (g := (mkF m 366 #[.val (.int xa), .val (.int xb), .val (.long s0), .second, .val (.long s1), .second, .val (.long s2), .second, .val (.long s3), .second, .val (.int w0), .val (.int w1), .val (.int w2), .val (.int w3), .val (.int f0), .val (.ref b4), .val (.ref b25), .val (.ref b39), .val (.int ((LS2 w0 w1 w2) + w2)), .val (.int (LI1 w0 w1)), .val (.int (LS1 w0 w1)), .val (.int (LI2 w0 w1 w2)), .val (.int (LS2 w0 w1 w2)), .val (.int (LI3 w0 w1 w2 w3)), .val (.int (LS3 w0 w1 w2 w3)), .val (.ref b65), .unset, .unset] [(.int (0 : Int32)), (.ref b65), (.long (XV (GW (0 : Int32) s0 s1 s2 s3) (0 : Int32) w0))])) rfl rfl (hb hby at_366) _ (XS.iconst X77.here hx rfl (hb hby at_367) (XS.iload X77.here hx rfl (hb hby at_368) rfl k))) ?_
              show ownEnds _ _ _ _ (T77.setTop (mkF m 370 #[.val (.int xa), .val (.int xb), .val (.long s0), .second, .val (.long s1), .second, .val (.long s2), .second, .val (.long s3), .second, .val (.int w0), .val (.int w1), .val (.int w2), .val (.int w3), .val (.int f0), .val (.ref b4), .val (.ref b25), .val (.ref b39), .val (.int ((LS2 w0 w1 w2) + w2)), .val (.int (LI1 w0 w1)), .val (.int (LS1 w0 w1)), .val (.int (LI2 w0 w1 w2)), .val (.int (LS2 w0 w1 w2)), .val (.int (LI3 w0 w1 w2 w3)), .val (.int (LS3 w0 w1 w2 w3)), .val (.ref b65), .unset, .unset] [(.int w0), (.int (0 : Int32)), (.long s0), (.long (XV (GW (0 : Int32) s0 s1 s2 s3) (0 : Int32) w0))]))
              obtain ⟨v81, T81, L81, X81, hQ81, st81⟩ := ownCallS X77 hx hZ hown (y := (⟨"com/example/libreach/libreach/engine/StateLayoutUnpackPinLaw", "field", "(JII)J"⟩ : MethodName)) (as := [(.long s0), (.int (0 : Int32)), (.int w0)]) (wd_50 hw) (wd_51 hw) (wd_2 hw) (wd_52 hw) (by decide) (rm6 l Z a0 hw s0 (0 : Int32) w0  h77 n0 Z77 ) e77 2 (by decide) (by decide) (by decide) (by decide) (g := (mkF m 370 #[.val (.int xa), .val (.int xb), .val (.long s0), .second, .val (.long s1), .second, .val (.long s2), .second, .val (.long s3), .second, .val (.int w0), .val (.int w1), .val (.int w2), .val (.int w3), .val (.int f0), .val (.ref b4), .val (.ref b25), .val (.ref b39), .val (.int ((LS2 w0 w1 w2) + w2)), .val (.int (LI1 w0 w1)), .val (.int (LS1 w0 w1)), .val (.int (LI2 w0 w1 w2)), .val (.int (LS2 w0 w1 w2)), .val (.int (LI3 w0 w1 w2 w3)), .val (.int (LS3 w0 w1 w2 w3)), .val (.ref b65), .unset, .unset] [(.int w0), (.int (0 : Int32)), (.long s0), (.long (XV (GW (0 : Int32) s0 s1 s2 s3) (0 : Int32) w0))])) rfl (by rw [hml]; rfl) (rest := [(.long (XV (GW (0 : Int32) s0 s1 s2 s3) (0 : Int32) w0))]) pd_4 rfl rfl (by show 2 * 0 + _ ≤ _; exact Nat.le_of_eq rfl) (hb hby at_370)
              obtain ⟨rfl, rfl, e81⟩ := hQ81
              rw [List.append_nil] at X81
              refine ownEnds.law st81 ?_
              show ownEnds _ _ _ _ (T81.setTop (mkF m 373 #[.val (.int xa), .val (.int xb), .val (.long s0), .second, .val (.long s1), .second, .val (.long s2), .second, .val (.long s3), .second, .val (.int w0), .val (.int w1), .val (.int w2), .val (.int w3), .val (.int f0), .val (.ref b4), .val (.ref b25), .val (.ref b39), .val (.int ((LS2 w0 w1 w2) + w2)), .val (.int (LI1 w0 w1)), .val (.int (LS1 w0 w1)), .val (.int (LI2 w0 w1 w2)), .val (.int (LS2 w0 w1 w2)), .val (.int (LI3 w0 w1 w2 w3)), .val (.int (LS3 w0 w1 w2 w3)), .val (.ref b65), .unset, .unset] [(.long (FF s0 (0 : Int32) w0)), (.long (XV (GW (0 : Int32) s0 s1 s2 s3) (0 : Int32) w0))]))
              refine ownEnds.law (fun t k => XS.lcmp X81.here hx rfl (hb hby at_373) rfl k) ?_
              show ownEnds _ _ _ _ (T81.setTop (mkF m 374 #[.val (.int xa), .val (.int xb), .val (.long s0), .second, .val (.long s1), .second, .val (.long s2), .second, .val (.long s3), .second, .val (.int w0), .val (.int w1), .val (.int w2), .val (.int w3), .val (.int f0), .val (.ref b4), .val (.ref b25), .val (.ref b39), .val (.int ((LS2 w0 w1 w2) + w2)), .val (.int (LI1 w0 w1)), .val (.int (LS1 w0 w1)), .val (.int (LI2 w0 w1 w2)), .val (.int (LS2 w0 w1 w2)), .val (.int (LI3 w0 w1 w2 w3)), .val (.int (LS3 w0 w1 w2 w3)), .val (.ref b65), .unset, .unset] [(.int (lcmpW (XV (GW (0 : Int32) s0 s1 s2 s3) (0 : Int32) w0) (FF s0 (0 : Int32) w0)))]))
              have hc374 : (XV (GW (0 : Int32) s0 s1 s2 s3) (0 : Int32) w0) = (FF s0 (0 : Int32) w0) := own_ff hr0
              refine ownEnds.law (fun t => XS.ifNo X81.here hx rfl (hb hby at_374) rfl ((if0 _ _).trans (teq ((lw_eq _ _).mpr hc374)).2)) ?_
              show ownEnds _ _ _ _ (T81.setTop (mkF m 377 #[.val (.int xa), .val (.int xb), .val (.long s0), .second, .val (.long s1), .second, .val (.long s2), .second, .val (.long s3), .second, .val (.int w0), .val (.int w1), .val (.int w2), .val (.int w3), .val (.int f0), .val (.ref b4), .val (.ref b25), .val (.ref b39), .val (.int ((LS2 w0 w1 w2) + w2)), .val (.int (LI1 w0 w1)), .val (.int (LS1 w0 w1)), .val (.int (LI2 w0 w1 w2)), .val (.int (LS2 w0 w1 w2)), .val (.int (LI3 w0 w1 w2 w3)), .val (.int (LS3 w0 w1 w2 w3)), .val (.ref b65), .unset, .unset] []))
              refine ownEnds.law (fun t k => XS.aload X81.here hx rfl (hb hby at_377) rfl rfl (XS.iconst X81.here hx rfl (hb hby at_379) k)) ?_
              show ownEnds _ _ _ _ (T81.setTop (mkF m 380 #[.val (.int xa), .val (.int xb), .val (.long s0), .second, .val (.long s1), .second, .val (.long s2), .second, .val (.long s3), .second, .val (.int w0), .val (.int w1), .val (.int w2), .val (.int w3), .val (.int f0), .val (.ref b4), .val (.ref b25), .val (.ref b39), .val (.int ((LS2 w0 w1 w2) + w2)), .val (.int (LI1 w0 w1)), .val (.int (LS1 w0 w1)), .val (.int (LI2 w0 w1 w2)), .val (.int (LS2 w0 w1 w2)), .val (.int (LI3 w0 w1 w2 w3)), .val (.int (LS3 w0 w1 w2 w3)), .val (.ref b65), .unset, .unset] [(.int (1 : Int32)), (.ref b39)]))
              obtain ⟨cl82, Ar82, q82, S82, N82, H82, G82⟩ := id f79
              have hi82 := inb_of (j := (1 : Int32)) S82 ⟨by decide, by decide⟩
              have hv82 : cl82.slots[((1 : Int32)).toNatClampNeg]? = some (.long (XV (GW (LI1 w0 w1) s0 s1 s2 s3) (LS1 w0 w1) w1)) := H82.at hi82 rfl
              refine ownEnds.law (fun t k => X81.laload hx (j := (1 : Int32)) (v := (.long (XV (GW (LI1 w0 w1) s0 s1 s2 s3) (LS1 w0 w1) w1))) (by rw [e81]; exact Ar82.1) (State.isArrayOf_alike hZ.alike Ar82.2.1) Ar82.2.2 hi82 hv82 (g := (mkF m 380 #[.val (.int xa), .val (.int xb), .val (.long s0), .second, .val (.long s1), .second, .val (.long s2), .second, .val (.long s3), .second, .val (.int w0), .val (.int w1), .val (.int w2), .val (.int w3), .val (.int f0), .val (.ref b4), .val (.ref b25), .val (.ref b39), .val (.int ((LS2 w0 w1 w2) + w2)), .val (.int (LI1 w0 w1)), .val (.int (LS1 w0 w1)), .val (.int (LI2 w0 w1 w2)), .val (.int (LS2 w0 w1 w2)), .val (.int (LI3 w0 w1 w2 w3)), .val (.int (LS3 w0 w1 w2 w3)), .val (.ref b65), .unset, .unset] [(.int (1 : Int32)), (.ref b39)])) rfl rfl (hb hby at_380) _ (XS.aload X81.here hx rfl (hb hby at_381) rfl rfl (XS.iload X81.here hx rfl (hb hby at_383) rfl k))) ?_
              show ownEnds _ _ _ _ (T81.setTop (mkF m 385 #[.val (.int xa), .val (.int xb), .val (.long s0), .second, .val (.long s1), .second, .val (.long s2), .second, .val (.long s3), .second, .val (.int w0), .val (.int w1), .val (.int w2), .val (.int w3), .val (.int f0), .val (.ref b4), .val (.ref b25), .val (.ref b39), .val (.int ((LS2 w0 w1 w2) + w2)), .val (.int (LI1 w0 w1)), .val (.int (LS1 w0 w1)), .val (.int (LI2 w0 w1 w2)), .val (.int (LS2 w0 w1 w2)), .val (.int (LI3 w0 w1 w2 w3)), .val (.int (LS3 w0 w1 w2 w3)), .val (.ref b65), .unset, .unset] [(.int (LI1 w0 w1)), (.ref b65), (.long (XV (GW (LI1 w0 w1) s0 s1 s2 s3) (LS1 w0 w1) w1))]))
              obtain ⟨cl83, Ar83, q83, S83, N83, H83, G83⟩ := id V77
              have hi83 := inb_of (j := (LI1 w0 w1)) S83 ((own_gv (own_r1 _ _) s0 s1 s2 s3).1)
              have hv83 : cl83.slots[((LI1 w0 w1)).toNatClampNeg]? = some (.long (GW (LI1 w0 w1) s0 s1 s2 s3)) := H83.at hi83 ((own_gv (own_r1 _ _) s0 s1 s2 s3).2)
              refine ownEnds.law (X81.laload hx (j := (LI1 w0 w1)) (v := (.long (GW (LI1 w0 w1) s0 s1 s2 s3))) (by rw [e81]; exact Ar83.1) (State.isArrayOf_alike hZ.alike Ar83.2.1) Ar83.2.2 hi83 hv83 (g := (mkF m 385 #[.val (.int xa), .val (.int xb), .val (.long s0), .second, .val (.long s1), .second, .val (.long s2), .second, .val (.long s3), .second, .val (.int w0), .val (.int w1), .val (.int w2), .val (.int w3), .val (.int f0), .val (.ref b4), .val (.ref b25), .val (.ref b39), .val (.int ((LS2 w0 w1 w2) + w2)), .val (.int (LI1 w0 w1)), .val (.int (LS1 w0 w1)), .val (.int (LI2 w0 w1 w2)), .val (.int (LS2 w0 w1 w2)), .val (.int (LI3 w0 w1 w2 w3)), .val (.int (LS3 w0 w1 w2 w3)), .val (.ref b65), .unset, .unset] [(.int (LI1 w0 w1)), (.ref b65), (.long (XV (GW (LI1 w0 w1) s0 s1 s2 s3) (LS1 w0 w1) w1))])) rfl rfl (hb hby at_385)) ?_
              show ownEnds _ _ _ _ (T81.setTop (mkF m 386 #[.val (.int xa), .val (.int xb), .val (.long s0), .second, .val (.long s1), .second, .val (.long s2), .second, .val (.long s3), .second, .val (.int w0), .val (.int w1), .val (.int w2), .val (.int w3), .val (.int f0), .val (.ref b4), .val (.ref b25), .val (.ref b39), .val (.int ((LS2 w0 w1 w2) + w2)), .val (.int (LI1 w0 w1)), .val (.int (LS1 w0 w1)), .val (.int (LI2 w0 w1 w2)), .val (.int (LS2 w0 w1 w2)), .val (.int (LI3 w0 w1 w2 w3)), .val (.int (LS3 w0 w1 w2 w3)), .val (.ref b65), .unset, .unset] [(.long (GW (LI1 w0 w1) s0 s1 s2 s3)), (.long (XV (GW (LI1 w0 w1) s0 s1 s2 s3) (LS1 w0 w1) w1))]))
              refine ownEnds.law (fun t k => XS.iload X81.here hx rfl (hb hby at_386) rfl (XS.iload X81.here hx rfl (hb hby at_388) rfl k)) ?_
              show ownEnds _ _ _ _ (T81.setTop (mkF m 390 #[.val (.int xa), .val (.int xb), .val (.long s0), .second, .val (.long s1), .second, .val (.long s2), .second, .val (.long s3), .second, .val (.int w0), .val (.int w1), .val (.int w2), .val (.int w3), .val (.int f0), .val (.ref b4), .val (.ref b25), .val (.ref b39), .val (.int ((LS2 w0 w1 w2) + w2)), .val (.int (LI1 w0 w1)), .val (.int (LS1 w0 w1)), .val (.int (LI2 w0 w1 w2)), .val (.int (LS2 w0 w1 w2)), .val (.int (LI3 w0 w1 w2 w3)), .val (.int (LS3 w0 w1 w2 w3)), .val (.ref b65), .unset, .unset] [(.int w1), (.int (LS1 w0 w1)), (.long (GW (LI1 w0 w1) s0 s1 s2 s3)), (.long (XV (GW (LI1 w0 w1) s0 s1 s2 s3) (LS1 w0 w1) w1))]))
              obtain ⟨v84, T84, L84, X84, hQ84, st84⟩ := ownCallS X81 hx hZ hown (y := (⟨"com/example/libreach/libreach/engine/StateLayoutUnpackPinLaw", "field", "(JII)J"⟩ : MethodName)) (as := [(.long (GW (LI1 w0 w1) s0 s1 s2 s3)), (.int (LS1 w0 w1)), (.int w1)]) (wd_50 hw) (wd_51 hw) (wd_2 hw) (wd_52 hw) (by decide) (rm6 l Z a0 hw (GW (LI1 w0 w1) s0 s1 s2 s3) (LS1 w0 w1) w1  h77 n0 Z77 ) e81 2 (by decide) (by decide) (by decide) (by decide) (g := (mkF m 390 #[.val (.int xa), .val (.int xb), .val (.long s0), .second, .val (.long s1), .second, .val (.long s2), .second, .val (.long s3), .second, .val (.int w0), .val (.int w1), .val (.int w2), .val (.int w3), .val (.int f0), .val (.ref b4), .val (.ref b25), .val (.ref b39), .val (.int ((LS2 w0 w1 w2) + w2)), .val (.int (LI1 w0 w1)), .val (.int (LS1 w0 w1)), .val (.int (LI2 w0 w1 w2)), .val (.int (LS2 w0 w1 w2)), .val (.int (LI3 w0 w1 w2 w3)), .val (.int (LS3 w0 w1 w2 w3)), .val (.ref b65), .unset, .unset] [(.int w1), (.int (LS1 w0 w1)), (.long (GW (LI1 w0 w1) s0 s1 s2 s3)), (.long (XV (GW (LI1 w0 w1) s0 s1 s2 s3) (LS1 w0 w1) w1))])) rfl (by rw [hml]; rfl) (rest := [(.long (XV (GW (LI1 w0 w1) s0 s1 s2 s3) (LS1 w0 w1) w1))]) pd_4 rfl rfl (by show 2 * 0 + _ ≤ _; exact Nat.le_of_eq rfl) (hb hby at_390)
              obtain ⟨rfl, rfl, e84⟩ := hQ84
              rw [List.append_nil] at X84
              refine ownEnds.law st84 ?_
              show ownEnds _ _ _ _ (T84.setTop (mkF m 393 #[.val (.int xa), .val (.int xb), .val (.long s0), .second, .val (.long s1), .second, .val (.long s2), .second, .val (.long s3), .second, .val (.int w0), .val (.int w1), .val (.int w2), .val (.int w3), .val (.int f0), .val (.ref b4), .val (.ref b25), .val (.ref b39), .val (.int ((LS2 w0 w1 w2) + w2)), .val (.int (LI1 w0 w1)), .val (.int (LS1 w0 w1)), .val (.int (LI2 w0 w1 w2)), .val (.int (LS2 w0 w1 w2)), .val (.int (LI3 w0 w1 w2 w3)), .val (.int (LS3 w0 w1 w2 w3)), .val (.ref b65), .unset, .unset] [(.long (FF (GW (LI1 w0 w1) s0 s1 s2 s3) (LS1 w0 w1) w1)), (.long (XV (GW (LI1 w0 w1) s0 s1 s2 s3) (LS1 w0 w1) w1))]))
              refine ownEnds.law (fun t k => XS.lcmp X84.here hx rfl (hb hby at_393) rfl k) ?_
              show ownEnds _ _ _ _ (T84.setTop (mkF m 394 #[.val (.int xa), .val (.int xb), .val (.long s0), .second, .val (.long s1), .second, .val (.long s2), .second, .val (.long s3), .second, .val (.int w0), .val (.int w1), .val (.int w2), .val (.int w3), .val (.int f0), .val (.ref b4), .val (.ref b25), .val (.ref b39), .val (.int ((LS2 w0 w1 w2) + w2)), .val (.int (LI1 w0 w1)), .val (.int (LS1 w0 w1)), .val (.int (LI2 w0 w1 w2)), .val (.int (LS2 w0 w1 w2)), .val (.int (LI3 w0 w1 w2 w3)), .val (.int (LS3 w0 w1 w2 w3)), .val (.ref b65), .unset, .unset] [(.int (lcmpW (XV (GW (LI1 w0 w1) s0 s1 s2 s3) (LS1 w0 w1) w1) (FF (GW (LI1 w0 w1) s0 s1 s2 s3) (LS1 w0 w1) w1)))]))
              have hc394 : (XV (GW (LI1 w0 w1) s0 s1 s2 s3) (LS1 w0 w1) w1) = (FF (GW (LI1 w0 w1) s0 s1 s2 s3) (LS1 w0 w1) w1) := own_ff hr1
              refine ownEnds.law (fun t => XS.ifNo X84.here hx rfl (hb hby at_394) rfl ((if0 _ _).trans (teq ((lw_eq _ _).mpr hc394)).2)) ?_
              show ownEnds _ _ _ _ (T84.setTop (mkF m 397 #[.val (.int xa), .val (.int xb), .val (.long s0), .second, .val (.long s1), .second, .val (.long s2), .second, .val (.long s3), .second, .val (.int w0), .val (.int w1), .val (.int w2), .val (.int w3), .val (.int f0), .val (.ref b4), .val (.ref b25), .val (.ref b39), .val (.int ((LS2 w0 w1 w2) + w2)), .val (.int (LI1 w0 w1)), .val (.int (LS1 w0 w1)), .val (.int (LI2 w0 w1 w2)), .val (.int (LS2 w0 w1 w2)), .val (.int (LI3 w0 w1 w2 w3)), .val (.int (LS3 w0 w1 w2 w3)), .val (.ref b65), .unset, .unset] []))
              refine ownEnds.law (fun t k => XS.aload X84.here hx rfl (hb hby at_397) rfl rfl (XS.iconst X84.here hx rfl (hb hby at_399) k)) ?_
              show ownEnds _ _ _ _ (T84.setTop (mkF m 400 #[.val (.int xa), .val (.int xb), .val (.long s0), .second, .val (.long s1), .second, .val (.long s2), .second, .val (.long s3), .second, .val (.int w0), .val (.int w1), .val (.int w2), .val (.int w3), .val (.int f0), .val (.ref b4), .val (.ref b25), .val (.ref b39), .val (.int ((LS2 w0 w1 w2) + w2)), .val (.int (LI1 w0 w1)), .val (.int (LS1 w0 w1)), .val (.int (LI2 w0 w1 w2)), .val (.int (LS2 w0 w1 w2)), .val (.int (LI3 w0 w1 w2 w3)), .val (.int (LS3 w0 w1 w2 w3)), .val (.ref b65), .unset, .unset] [(.int (2 : Int32)), (.ref b39)]))
              obtain ⟨cl85, Ar85, q85, S85, N85, H85, G85⟩ := id f79
              have hi85 := inb_of (j := (2 : Int32)) S85 ⟨by decide, by decide⟩
              have hv85 : cl85.slots[((2 : Int32)).toNatClampNeg]? = some (.long (XV (GW (LI2 w0 w1 w2) s0 s1 s2 s3) (LS2 w0 w1 w2) w2)) := H85.at hi85 rfl
              refine ownEnds.law (fun t k => X84.laload hx (j := (2 : Int32)) (v := (.long (XV (GW (LI2 w0 w1 w2) s0 s1 s2 s3) (LS2 w0 w1 w2) w2))) (by rw [e84]; exact Ar85.1) (State.isArrayOf_alike hZ.alike Ar85.2.1) Ar85.2.2 hi85 hv85 (g := (mkF m 400 #[.val (.int xa), .val (.int xb), .val (.long s0), .second, .val (.long s1), .second, .val (.long s2), .second, .val (.long s3), .second, .val (.int w0), .val (.int w1), .val (.int w2), .val (.int w3), .val (.int f0), .val (.ref b4), .val (.ref b25), .val (.ref b39), .val (.int ((LS2 w0 w1 w2) + w2)), .val (.int (LI1 w0 w1)), .val (.int (LS1 w0 w1)), .val (.int (LI2 w0 w1 w2)), .val (.int (LS2 w0 w1 w2)), .val (.int (LI3 w0 w1 w2 w3)), .val (.int (LS3 w0 w1 w2 w3)), .val (.ref b65), .unset, .unset] [(.int (2 : Int32)), (.ref b39)])) rfl rfl (hb hby at_400) _ (XS.aload X84.here hx rfl (hb hby at_401) rfl rfl (XS.iload X84.here hx rfl (hb hby at_403) rfl k))) ?_
              show ownEnds _ _ _ _ (T84.setTop (mkF m 405 #[.val (.int xa), .val (.int xb), .val (.long s0), .second, .val (.long s1), .second, .val (.long s2), .second, .val (.long s3), .second, .val (.int w0), .val (.int w1), .val (.int w2), .val (.int w3), .val (.int f0), .val (.ref b4), .val (.ref b25), .val (.ref b39), .val (.int ((LS2 w0 w1 w2) + w2)), .val (.int (LI1 w0 w1)), .val (.int (LS1 w0 w1)), .val (.int (LI2 w0 w1 w2)), .val (.int (LS2 w0 w1 w2)), .val (.int (LI3 w0 w1 w2 w3)), .val (.int (LS3 w0 w1 w2 w3)), .val (.ref b65), .unset, .unset] [(.int (LI2 w0 w1 w2)), (.ref b65), (.long (XV (GW (LI2 w0 w1 w2) s0 s1 s2 s3) (LS2 w0 w1 w2) w2))]))
              obtain ⟨cl86, Ar86, q86, S86, N86, H86, G86⟩ := id V77
              have hi86 := inb_of (j := (LI2 w0 w1 w2)) S86 ((own_gv (own_r2 _ _ _) s0 s1 s2 s3).1)
              have hv86 : cl86.slots[((LI2 w0 w1 w2)).toNatClampNeg]? = some (.long (GW (LI2 w0 w1 w2) s0 s1 s2 s3)) := H86.at hi86 ((own_gv (own_r2 _ _ _) s0 s1 s2 s3).2)
              refine ownEnds.law (X84.laload hx (j := (LI2 w0 w1 w2)) (v := (.long (GW (LI2 w0 w1 w2) s0 s1 s2 s3))) (by rw [e84]; exact Ar86.1) (State.isArrayOf_alike hZ.alike Ar86.2.1) Ar86.2.2 hi86 hv86 (g := (mkF m 405 #[.val (.int xa), .val (.int xb), .val (.long s0), .second, .val (.long s1), .second, .val (.long s2), .second, .val (.long s3), .second, .val (.int w0), .val (.int w1), .val (.int w2), .val (.int w3), .val (.int f0), .val (.ref b4), .val (.ref b25), .val (.ref b39), .val (.int ((LS2 w0 w1 w2) + w2)), .val (.int (LI1 w0 w1)), .val (.int (LS1 w0 w1)), .val (.int (LI2 w0 w1 w2)), .val (.int (LS2 w0 w1 w2)), .val (.int (LI3 w0 w1 w2 w3)), .val (.int (LS3 w0 w1 w2 w3)), .val (.ref b65), .unset, .unset] [(.int (LI2 w0 w1 w2)), (.ref b65), (.long (XV (GW (LI2 w0 w1 w2) s0 s1 s2 s3) (LS2 w0 w1 w2) w2))])) rfl rfl (hb hby at_405)) ?_
              show ownEnds _ _ _ _ (T84.setTop (mkF m 406 #[.val (.int xa), .val (.int xb), .val (.long s0), .second, .val (.long s1), .second, .val (.long s2), .second, .val (.long s3), .second, .val (.int w0), .val (.int w1), .val (.int w2), .val (.int w3), .val (.int f0), .val (.ref b4), .val (.ref b25), .val (.ref b39), .val (.int ((LS2 w0 w1 w2) + w2)), .val (.int (LI1 w0 w1)), .val (.int (LS1 w0 w1)), .val (.int (LI2 w0 w1 w2)), .val (.int (LS2 w0 w1 w2)), .val (.int (LI3 w0 w1 w2 w3)), .val (.int (LS3 w0 w1 w2 w3)), .val (.ref b65), .unset, .unset] [(.long (GW (LI2 w0 w1 w2) s0 s1 s2 s3)), (.long (XV (GW (LI2 w0 w1 w2) s0 s1 s2 s3) (LS2 w0 w1 w2) w2))]))
              refine ownEnds.law (fun t k => XS.iload X84.here hx rfl (hb hby at_406) rfl (XS.iload X84.here hx rfl (hb hby at_408) rfl k)) ?_
              show ownEnds _ _ _ _ (T84.setTop (mkF m 410 #[.val (.int xa), .val (.int xb), .val (.long s0), .second, .val (.long s1), .second, .val (.long s2), .second, .val (.long s3), .second, .val (.int w0), .val (.int w1), .val (.int w2), .val (.int w3), .val (.int f0), .val (.ref b4), .val (.ref b25), .val (.ref b39), .val (.int ((LS2 w0 w1 w2) + w2)), .val (.int (LI1 w0 w1)), .val (.int (LS1 w0 w1)), .val (.int (LI2 w0 w1 w2)), .val (.int (LS2 w0 w1 w2)), .val (.int (LI3 w0 w1 w2 w3)), .val (.int (LS3 w0 w1 w2 w3)), .val (.ref b65), .unset, .unset] [(.int w2), (.int (LS2 w0 w1 w2)), (.long (GW (LI2 w0 w1 w2) s0 s1 s2 s3)), (.long (XV (GW (LI2 w0 w1 w2) s0 s1 s2 s3) (LS2 w0 w1 w2) w2))]))
              obtain ⟨v87, T87, L87, X87, hQ87, st87⟩ := ownCallS X84 hx hZ hown (y := (⟨"com/example/libreach/libreach/engine/StateLayoutUnpackPinLaw", "field", "(JII)J"⟩ : MethodName)) (as := [(.long (GW (LI2 w0 w1 w2) s0 s1 s2 s3)), (.int (LS2 w0 w1 w2)), (.int w2)]) (wd_50 hw) (wd_51 hw) (wd_2 hw) (wd_52 hw) (by decide) (rm6 l Z a0 hw (GW (LI2 w0 w1 w2) s0 s1 s2 s3) (LS2 w0 w1 w2) w2  h77 n0 Z77 ) e84 2 (by decide) (by decide) (by decide) (by decide) (g := (mkF m 410 #[.val (.int xa), .val (.int xb), .val (.long s0), .second, .val (.long s1), .second, .val (.long s2), .second, .val (.long s3), .second, .val (.int w0), .val (.int w1), .val (.int w2), .val (.int w3), .val (.int f0), .val (.ref b4), .val (.ref b25), .val (.ref b39), .val (.int ((LS2 w0 w1 w2) + w2)), .val (.int (LI1 w0 w1)), .val (.int (LS1 w0 w1)), .val (.int (LI2 w0 w1 w2)), .val (.int (LS2 w0 w1 w2)), .val (.int (LI3 w0 w1 w2 w3)), .val (.int (LS3 w0 w1 w2 w3)), .val (.ref b65), .unset, .unset] [(.int w2), (.int (LS2 w0 w1 w2)), (.long (GW (LI2 w0 w1 w2) s0 s1 s2 s3)), (.long (XV (GW (LI2 w0 w1 w2) s0 s1 s2 s3) (LS2 w0 w1 w2) w2))])) rfl (by rw [hml]; rfl) (rest := [(.long (XV (GW (LI2 w0 w1 w2) s0 s1 s2 s3) (LS2 w0 w1 w2) w2))]) pd_4 rfl rfl (by show 2 * 0 + _ ≤ _; exact Nat.le_of_eq rfl) (hb hby at_410)
              obtain ⟨rfl, rfl, e87⟩ := hQ87
              rw [List.append_nil] at X87
              refine ownEnds.law st87 ?_
              show ownEnds _ _ _ _ (T87.setTop (mkF m 413 #[.val (.int xa), .val (.int xb), .val (.long s0), .second, .val (.long s1), .second, .val (.long s2), .second, .val (.long s3), .second, .val (.int w0), .val (.int w1), .val (.int w2), .val (.int w3), .val (.int f0), .val (.ref b4), .val (.ref b25), .val (.ref b39), .val (.int ((LS2 w0 w1 w2) + w2)), .val (.int (LI1 w0 w1)), .val (.int (LS1 w0 w1)), .val (.int (LI2 w0 w1 w2)), .val (.int (LS2 w0 w1 w2)), .val (.int (LI3 w0 w1 w2 w3)), .val (.int (LS3 w0 w1 w2 w3)), .val (.ref b65), .unset, .unset] [(.long (FF (GW (LI2 w0 w1 w2) s0 s1 s2 s3) (LS2 w0 w1 w2) w2)), (.long (XV (GW (LI2 w0 w1 w2) s0 s1 s2 s3) (LS2 w0 w1 w2) w2))]))
              refine ownEnds.law (fun t k => XS.lcmp X87.here hx rfl (hb hby at_413) rfl k) ?_
              show ownEnds _ _ _ _ (T87.setTop (mkF m 414 #[.val (.int xa), .val (.int xb), .val (.long s0), .second, .val (.long s1), .second, .val (.long s2), .second, .val (.long s3), .second, .val (.int w0), .val (.int w1), .val (.int w2), .val (.int w3), .val (.int f0), .val (.ref b4), .val (.ref b25), .val (.ref b39), .val (.int ((LS2 w0 w1 w2) + w2)), .val (.int (LI1 w0 w1)), .val (.int (LS1 w0 w1)), .val (.int (LI2 w0 w1 w2)), .val (.int (LS2 w0 w1 w2)), .val (.int (LI3 w0 w1 w2 w3)), .val (.int (LS3 w0 w1 w2 w3)), .val (.ref b65), .unset, .unset] [(.int (lcmpW (XV (GW (LI2 w0 w1 w2) s0 s1 s2 s3) (LS2 w0 w1 w2) w2) (FF (GW (LI2 w0 w1 w2) s0 s1 s2 s3) (LS2 w0 w1 w2) w2)))]))
              have hc414 : (XV (GW (LI2 w0 w1 w2) s0 s1 s2 s3) (LS2 w0 w1 w2) w2) = (FF (GW (LI2 w0 w1 w2) s0 s1 s2 s3) (LS2 w0 w1 w2) w2) := own_ff hr2
              refine ownEnds.law (fun t => XS.ifNo X87.here hx rfl (hb hby at_414) rfl ((if0 _ _).trans (teq ((lw_eq _ _).mpr hc414)).2)) ?_
              show ownEnds _ _ _ _ (T87.setTop (mkF m 417 #[.val (.int xa), .val (.int xb), .val (.long s0), .second, .val (.long s1), .second, .val (.long s2), .second, .val (.long s3), .second, .val (.int w0), .val (.int w1), .val (.int w2), .val (.int w3), .val (.int f0), .val (.ref b4), .val (.ref b25), .val (.ref b39), .val (.int ((LS2 w0 w1 w2) + w2)), .val (.int (LI1 w0 w1)), .val (.int (LS1 w0 w1)), .val (.int (LI2 w0 w1 w2)), .val (.int (LS2 w0 w1 w2)), .val (.int (LI3 w0 w1 w2 w3)), .val (.int (LS3 w0 w1 w2 w3)), .val (.ref b65), .unset, .unset] []))
              refine ownEnds.law (fun t k => XS.aload X87.here hx rfl (hb hby at_417) rfl rfl (XS.iconst X87.here hx rfl (hb hby at_419) k)) ?_
              show ownEnds _ _ _ _ (T87.setTop (mkF m 420 #[.val (.int xa), .val (.int xb), .val (.long s0), .second, .val (.long s1), .second, .val (.long s2), .second, .val (.long s3), .second, .val (.int w0), .val (.int w1), .val (.int w2), .val (.int w3), .val (.int f0), .val (.ref b4), .val (.ref b25), .val (.ref b39), .val (.int ((LS2 w0 w1 w2) + w2)), .val (.int (LI1 w0 w1)), .val (.int (LS1 w0 w1)), .val (.int (LI2 w0 w1 w2)), .val (.int (LS2 w0 w1 w2)), .val (.int (LI3 w0 w1 w2 w3)), .val (.int (LS3 w0 w1 w2 w3)), .val (.ref b65), .unset, .unset] [(.int (3 : Int32)), (.ref b39)]))
              obtain ⟨cl88, Ar88, q88, S88, N88, H88, G88⟩ := id f79
              have hi88 := inb_of (j := (3 : Int32)) S88 ⟨by decide, by decide⟩
              have hv88 : cl88.slots[((3 : Int32)).toNatClampNeg]? = some (.long (XV (GW (LI3 w0 w1 w2 w3) s0 s1 s2 s3) (LS3 w0 w1 w2 w3) w3)) := H88.at hi88 rfl
              refine ownEnds.law (fun t k => X87.laload hx (j := (3 : Int32)) (v := (.long (XV (GW (LI3 w0 w1 w2 w3) s0 s1 s2 s3) (LS3 w0 w1 w2 w3) w3))) (by rw [e87]; exact Ar88.1) (State.isArrayOf_alike hZ.alike Ar88.2.1) Ar88.2.2 hi88 hv88 (g := (mkF m 420 #[.val (.int xa), .val (.int xb), .val (.long s0), .second, .val (.long s1), .second, .val (.long s2), .second, .val (.long s3), .second, .val (.int w0), .val (.int w1), .val (.int w2), .val (.int w3), .val (.int f0), .val (.ref b4), .val (.ref b25), .val (.ref b39), .val (.int ((LS2 w0 w1 w2) + w2)), .val (.int (LI1 w0 w1)), .val (.int (LS1 w0 w1)), .val (.int (LI2 w0 w1 w2)), .val (.int (LS2 w0 w1 w2)), .val (.int (LI3 w0 w1 w2 w3)), .val (.int (LS3 w0 w1 w2 w3)), .val (.ref b65), .unset, .unset] [(.int (3 : Int32)), (.ref b39)])) rfl rfl (hb hby at_420) _ (XS.aload X87.here hx rfl (hb hby at_421) rfl rfl (XS.iload X87.here hx rfl (hb hby at_423) rfl k))) ?_
              show ownEnds _ _ _ _ (T87.setTop (mkF m 425 #[.val (.int xa), .val (.int xb), .val (.long s0), .second, .val (.long s1), .second, .val (.long s2), .second, .val (.long s3), .second, .val (.int w0), .val (.int w1), .val (.int w2), .val (.int w3), .val (.int f0), .val (.ref b4), .val (.ref b25), .val (.ref b39), .val (.int ((LS2 w0 w1 w2) + w2)), .val (.int (LI1 w0 w1)), .val (.int (LS1 w0 w1)), .val (.int (LI2 w0 w1 w2)), .val (.int (LS2 w0 w1 w2)), .val (.int (LI3 w0 w1 w2 w3)), .val (.int (LS3 w0 w1 w2 w3)), .val (.ref b65), .unset, .unset] [(.int (LI3 w0 w1 w2 w3)), (.ref b65), (.long (XV (GW (LI3 w0 w1 w2 w3) s0 s1 s2 s3) (LS3 w0 w1 w2 w3) w3))]))
              obtain ⟨cl89, Ar89, q89, S89, N89, H89, G89⟩ := id V77
              have hi89 := inb_of (j := (LI3 w0 w1 w2 w3)) S89 ((own_gv (own_r3 _ _ _ _) s0 s1 s2 s3).1)
              have hv89 : cl89.slots[((LI3 w0 w1 w2 w3)).toNatClampNeg]? = some (.long (GW (LI3 w0 w1 w2 w3) s0 s1 s2 s3)) := H89.at hi89 ((own_gv (own_r3 _ _ _ _) s0 s1 s2 s3).2)
              refine ownEnds.law (X87.laload hx (j := (LI3 w0 w1 w2 w3)) (v := (.long (GW (LI3 w0 w1 w2 w3) s0 s1 s2 s3))) (by rw [e87]; exact Ar89.1) (State.isArrayOf_alike hZ.alike Ar89.2.1) Ar89.2.2 hi89 hv89 (g := (mkF m 425 #[.val (.int xa), .val (.int xb), .val (.long s0), .second, .val (.long s1), .second, .val (.long s2), .second, .val (.long s3), .second, .val (.int w0), .val (.int w1), .val (.int w2), .val (.int w3), .val (.int f0), .val (.ref b4), .val (.ref b25), .val (.ref b39), .val (.int ((LS2 w0 w1 w2) + w2)), .val (.int (LI1 w0 w1)), .val (.int (LS1 w0 w1)), .val (.int (LI2 w0 w1 w2)), .val (.int (LS2 w0 w1 w2)), .val (.int (LI3 w0 w1 w2 w3)), .val (.int (LS3 w0 w1 w2 w3)), .val (.ref b65), .unset, .unset] [(.int (LI3 w0 w1 w2 w3)), (.ref b65), (.long (XV (GW (LI3 w0 w1 w2 w3) s0 s1 s2 s3) (LS3 w0 w1 w2 w3) w3))])) rfl rfl (hb hby at_425)) ?_
              show ownEnds _ _ _ _ (T87.setTop (mkF m 426 #[.val (.int xa), .val (.int xb), .val (.long s0), .second, .val (.long s1), .second, .val (.long s2), .second, .val (.long s3), .second, .val (.int w0), .val (.int w1), .val (.int w2), .val (.int w3), .val (.int f0), .val (.ref b4), .val (.ref b25), .val (.ref b39), .val (.int ((LS2 w0 w1 w2) + w2)), .val (.int (LI1 w0 w1)), .val (.int (LS1 w0 w1)), .val (.int (LI2 w0 w1 w2)), .val (.int (LS2 w0 w1 w2)), .val (.int (LI3 w0 w1 w2 w3)), .val (.int (LS3 w0 w1 w2 w3)), .val (.ref b65), .unset, .unset] [(.long (GW (LI3 w0 w1 w2 w3) s0 s1 s2 s3)), (.long (XV (GW (LI3 w0 w1 w2 w3) s0 s1 s2 s3) (LS3 w0 w1 w2 w3) w3))]))
              refine ownEnds.law (fun t k => XS.iload X87.here hx rfl (hb hby at_426) rfl (XS.iload X87.here hx rfl (hb hby at_428) rfl k)) ?_
              show ownEnds _ _ _ _ (T87.setTop (mkF m 430 #[.val (.int xa), .val (.int xb), .val (.long s0), .second, .val (.long s1), .second, .val (.long s2), .second, .val (.long s3), .second, .val (.int w0), .val (.int w1), .val (.int w2), .val (.int w3), .val (.int f0), .val (.ref b4), .val (.ref b25), .val (.ref b39), .val (.int ((LS2 w0 w1 w2) + w2)), .val (.int (LI1 w0 w1)), .val (.int (LS1 w0 w1)), .val (.int (LI2 w0 w1 w2)), .val (.int (LS2 w0 w1 w2)), .val (.int (LI3 w0 w1 w2 w3)), .val (.int (LS3 w0 w1 w2 w3)), .val (.ref b65), .unset, .unset] [(.int w3), (.int (LS3 w0 w1 w2 w3)), (.long (GW (LI3 w0 w1 w2 w3) s0 s1 s2 s3)), (.long (XV (GW (LI3 w0 w1 w2 w3) s0 s1 s2 s3) (LS3 w0 w1 w2 w3) w3))]))
              obtain ⟨v90, T90, L90, X90, hQ90, st90⟩ := ownCallS X87 hx hZ hown (y := (⟨"com/example/libreach/libreach/engine/StateLayoutUnpackPinLaw", "field", "(JII)J"⟩ : MethodName)) (as := [(.long (GW (LI3 w0 w1 w2 w3) s0 s1 s2 s3)), (.int (LS3 w0 w1 w2 w3)), (.int w3)]) (wd_50 hw) (wd_51 hw) (wd_2 hw) (wd_52 hw) (by decide) (rm6 l Z a0 hw (GW (LI3 w0 w1 w2 w3) s0 s1 s2 s3) (LS3 w0 w1 w2 w3) w3  h77 n0 Z77 ) e87 2 (by decide) (by decide) (by decide) (by decide) (g := (mkF m 430 #[.val (.int xa), .val (.int xb), .val (.long s0), .second, .val (.long s1), .second, .val (.long s2), .second, .val (.long s3), .second, .val (.int w0), .val (.int w1), .val (.int w2), .val (.int w3), .val (.int f0), .val (.ref b4), .val (.ref b25), .val (.ref b39), .val (.int ((LS2 w0 w1 w2) + w2)), .val (.int (LI1 w0 w1)), .val (.int (LS1 w0 w1)), .val (.int (LI2 w0 w1 w2)), .val (.int (LS2 w0 w1 w2)), .val (.int (LI3 w0 w1 w2 w3)), .val (.int (LS3 w0 w1 w2 w3)), .val (.ref b65), .unset, .unset] [(.int w3), (.int (LS3 w0 w1 w2 w3)), (.long (GW (LI3 w0 w1 w2 w3) s0 s1 s2 s3)), (.long (XV (GW (LI3 w0 w1 w2 w3) s0 s1 s2 s3) (LS3 w0 w1 w2 w3) w3))])) rfl (by rw [hml]; rfl) (rest := [(.long (XV (GW (LI3 w0 w1 w2 w3) s0 s1 s2 s3) (LS3 w0 w1 w2 w3) w3))]) pd_4 rfl rfl (by show 2 * 0 + _ ≤ _; exact Nat.le_of_eq rfl) (hb hby at_430)
              obtain ⟨rfl, rfl, e90⟩ := hQ90
              rw [List.append_nil] at X90
              refine ownEnds.law st90 ?_
              show ownEnds _ _ _ _ (T90.setTop (mkF m 433 #[.val (.int xa), .val (.int xb), .val (.long s0), .second, .val (.long s1), .second, .val (.long s2), .second, .val (.long s3), .second, .val (.int w0), .val (.int w1), .val (.int w2), .val (.int w3), .val (.int f0), .val (.ref b4), .val (.ref b25), .val (.ref b39), .val (.int ((LS2 w0 w1 w2) + w2)), .val (.int (LI1 w0 w1)), .val (.int (LS1 w0 w1)), .val (.int (LI2 w0 w1 w2)), .val (.int (LS2 w0 w1 w2)), .val (.int (LI3 w0 w1 w2 w3)), .val (.int (LS3 w0 w1 w2 w3)), .val (.ref b65), .unset, .unset] [(.long (FF (GW (LI3 w0 w1 w2 w3) s0 s1 s2 s3) (LS3 w0 w1 w2 w3) w3)), (.long (XV (GW (LI3 w0 w1 w2 w3) s0 s1 s2 s3) (LS3 w0 w1 w2 w3) w3))]))
              refine ownEnds.law (fun t k => XS.lcmp X90.here hx rfl (hb hby at_433) rfl k) ?_
              show ownEnds _ _ _ _ (T90.setTop (mkF m 434 #[.val (.int xa), .val (.int xb), .val (.long s0), .second, .val (.long s1), .second, .val (.long s2), .second, .val (.long s3), .second, .val (.int w0), .val (.int w1), .val (.int w2), .val (.int w3), .val (.int f0), .val (.ref b4), .val (.ref b25), .val (.ref b39), .val (.int ((LS2 w0 w1 w2) + w2)), .val (.int (LI1 w0 w1)), .val (.int (LS1 w0 w1)), .val (.int (LI2 w0 w1 w2)), .val (.int (LS2 w0 w1 w2)), .val (.int (LI3 w0 w1 w2 w3)), .val (.int (LS3 w0 w1 w2 w3)), .val (.ref b65), .unset, .unset] [(.int (lcmpW (XV (GW (LI3 w0 w1 w2 w3) s0 s1 s2 s3) (LS3 w0 w1 w2 w3) w3) (FF (GW (LI3 w0 w1 w2 w3) s0 s1 s2 s3) (LS3 w0 w1 w2 w3) w3)))]))
              have hc434 : (XV (GW (LI3 w0 w1 w2 w3) s0 s1 s2 s3) (LS3 w0 w1 w2 w3) w3) = (FF (GW (LI3 w0 w1 w2 w3) s0 s1 s2 s3) (LS3 w0 w1 w2 w3) w3) := own_ff hr3
              refine ownEnds.law (fun t => XS.ifNo X90.here hx rfl (hb hby at_434) rfl ((if0 _ _).trans (teq ((lw_eq _ _).mpr hc434)).2)) ?_
              show ownEnds _ _ _ _ (T90.setTop (mkF m 437 #[.val (.int xa), .val (.int xb), .val (.long s0), .second, .val (.long s1), .second, .val (.long s2), .second, .val (.long s3), .second, .val (.int w0), .val (.int w1), .val (.int w2), .val (.int w3), .val (.int f0), .val (.ref b4), .val (.ref b25), .val (.ref b39), .val (.int ((LS2 w0 w1 w2) + w2)), .val (.int (LI1 w0 w1)), .val (.int (LS1 w0 w1)), .val (.int (LI2 w0 w1 w2)), .val (.int (LS2 w0 w1 w2)), .val (.int (LI3 w0 w1 w2 w3)), .val (.int (LS3 w0 w1 w2 w3)), .val (.ref b65), .unset, .unset] []))
              refine ownEnds.law (fun t k => XS.iconst X90.here hx rfl (hb hby at_437) (XS.goto X90.here hx rfl (pc0 := 438) (pc' := 442) rfl (hb hby at_438) (by decide) (by decide) (XS.istore X90.here hx rfl (hb hby at_442) rfl (l' := #[.val (.int xa), .val (.int xb), .val (.long s0), .second, .val (.long s1), .second, .val (.long s2), .second, .val (.long s3), .second, .val (.int w0), .val (.int w1), .val (.int w2), .val (.int w3), .val (.int f0), .val (.ref b4), .val (.ref b25), .val (.ref b39), .val (.int ((LS2 w0 w1 w2) + w2)), .val (.int (LI1 w0 w1)), .val (.int (LS1 w0 w1)), .val (.int (LI2 w0 w1 w2)), .val (.int (LS2 w0 w1 w2)), .val (.int (LI3 w0 w1 w2 w3)), .val (.int (LS3 w0 w1 w2 w3)), .val (.ref b65), .val (.int (1 : Int32)), .unset]) rfl (XS.aload X90.here hx rfl (hb hby at_444) rfl rfl (XS.iconst X90.here hx rfl (hb hby at_446) k))))) ?_
              show ownEnds _ _ _ _ (T90.setTop (mkF m 447 #[.val (.int xa), .val (.int xb), .val (.long s0), .second, .val (.long s1), .second, .val (.long s2), .second, .val (.long s3), .second, .val (.int w0), .val (.int w1), .val (.int w2), .val (.int w3), .val (.int f0), .val (.ref b4), .val (.ref b25), .val (.ref b39), .val (.int ((LS2 w0 w1 w2) + w2)), .val (.int (LI1 w0 w1)), .val (.int (LS1 w0 w1)), .val (.int (LI2 w0 w1 w2)), .val (.int (LS2 w0 w1 w2)), .val (.int (LI3 w0 w1 w2 w3)), .val (.int (LS3 w0 w1 w2 w3)), .val (.ref b65), .val (.int (1 : Int32)), .unset] [(.int (4 : Int32)), (.ref b39)]))
              obtain ⟨cl91, Ar91, q91, S91, N91, H91, G91⟩ := id f79
              have hi91 := inb_of (j := (4 : Int32)) S91 ⟨by decide, by decide⟩
              have hv91 : cl91.slots[((4 : Int32)).toNatClampNeg]? = some (.long (-7 : Int64)) := H91.at hi91 rfl
              refine ownEnds.law (fun t k => X90.laload hx (j := (4 : Int32)) (v := (.long (-7 : Int64))) (by rw [e90]; exact Ar91.1) (State.isArrayOf_alike hZ.alike Ar91.2.1) Ar91.2.2 hi91 hv91 (g := (mkF m 447 #[.val (.int xa), .val (.int xb), .val (.long s0), .second, .val (.long s1), .second, .val (.long s2), .second, .val (.long s3), .second, .val (.int w0), .val (.int w1), .val (.int w2), .val (.int w3), .val (.int f0), .val (.ref b4), .val (.ref b25), .val (.ref b39), .val (.int ((LS2 w0 w1 w2) + w2)), .val (.int (LI1 w0 w1)), .val (.int (LS1 w0 w1)), .val (.int (LI2 w0 w1 w2)), .val (.int (LS2 w0 w1 w2)), .val (.int (LI3 w0 w1 w2 w3)), .val (.int (LS3 w0 w1 w2 w3)), .val (.ref b65), .val (.int (1 : Int32)), .unset] [(.int (4 : Int32)), (.ref b39)])) rfl rfl (hb hby at_447) _ (X90.ldc2Long hx hown (mvT hZ (wd_44 hw)) (g := (mkF m 448 #[.val (.int xa), .val (.int xb), .val (.long s0), .second, .val (.long s1), .second, .val (.long s2), .second, .val (.long s3), .second, .val (.int w0), .val (.int w1), .val (.int w2), .val (.int w3), .val (.int f0), .val (.ref b4), .val (.ref b25), .val (.ref b39), .val (.int ((LS2 w0 w1 w2) + w2)), .val (.int (LI1 w0 w1)), .val (.int (LS1 w0 w1)), .val (.int (LI2 w0 w1 w2)), .val (.int (LS2 w0 w1 w2)), .val (.int (LI3 w0 w1 w2 w3)), .val (.int (LS3 w0 w1 w2 w3)), .val (.ref b65), .val (.int (1 : Int32)), .unset] [(.long (-7 : Int64))])) rfl (hb hby at_448) _ (XS.lcmp X90.here hx rfl (hb hby at_451) rfl k))) ?_
              show ownEnds _ _ _ _ (T90.setTop (mkF m 452 #[.val (.int xa), .val (.int xb), .val (.long s0), .second, .val (.long s1), .second, .val (.long s2), .second, .val (.long s3), .second, .val (.int w0), .val (.int w1), .val (.int w2), .val (.int w3), .val (.int f0), .val (.ref b4), .val (.ref b25), .val (.ref b39), .val (.int ((LS2 w0 w1 w2) + w2)), .val (.int (LI1 w0 w1)), .val (.int (LS1 w0 w1)), .val (.int (LI2 w0 w1 w2)), .val (.int (LS2 w0 w1 w2)), .val (.int (LI3 w0 w1 w2 w3)), .val (.int (LS3 w0 w1 w2 w3)), .val (.ref b65), .val (.int (1 : Int32)), .unset] [(.int (lcmpW (-7 : Int64) (-7 : Int64)))]))
              refine ownEnds.law (fun t => XS.ifNo X90.here hx rfl (hb hby at_452) rfl ((if0 _ _).trans (teq ((lw_eq _ _).mpr (rfl : (-7 : Int64) = (-7 : Int64)))).2)) ?_
              show ownEnds _ _ _ _ (T90.setTop (mkF m 455 #[.val (.int xa), .val (.int xb), .val (.long s0), .second, .val (.long s1), .second, .val (.long s2), .second, .val (.long s3), .second, .val (.int w0), .val (.int w1), .val (.int w2), .val (.int w3), .val (.int f0), .val (.ref b4), .val (.ref b25), .val (.ref b39), .val (.int ((LS2 w0 w1 w2) + w2)), .val (.int (LI1 w0 w1)), .val (.int (LS1 w0 w1)), .val (.int (LI2 w0 w1 w2)), .val (.int (LS2 w0 w1 w2)), .val (.int (LI3 w0 w1 w2 w3)), .val (.int (LS3 w0 w1 w2 w3)), .val (.ref b65), .val (.int (1 : Int32)), .unset] []))
              refine ownEnds.law (fun t k => XS.aload X90.here hx rfl (hb hby at_455) rfl rfl (XS.iload X90.here hx rfl (hb hby at_457) rfl k)) ?_
              show ownEnds _ _ _ _ (T90.setTop (mkF m 459 #[.val (.int xa), .val (.int xb), .val (.long s0), .second, .val (.long s1), .second, .val (.long s2), .second, .val (.long s3), .second, .val (.int w0), .val (.int w1), .val (.int w2), .val (.int w3), .val (.int f0), .val (.ref b4), .val (.ref b25), .val (.ref b39), .val (.int ((LS2 w0 w1 w2) + w2)), .val (.int (LI1 w0 w1)), .val (.int (LS1 w0 w1)), .val (.int (LI2 w0 w1 w2)), .val (.int (LS2 w0 w1 w2)), .val (.int (LI3 w0 w1 w2 w3)), .val (.int (LS3 w0 w1 w2 w3)), .val (.ref b65), .val (.int (1 : Int32)), .unset] [(.int f0), (.ref b25)]))
              have f93 := (Arv.other (Arv.other (Arv.other (Arv.other (Arv.ext f73 E65) W74 ne_b25_b65) W75 ne_b25_b65) W76 ne_b25_b65) W77 ne_b25_b65)
              obtain ⟨cl92, Ar92, q92, S92, N92, H92, G92⟩ := id f93
              have hi92 := inb_of (j := f0) S92 (hSu.1)
              have hv92 : cl92.slots[(f0).toNatClampNeg]? = some (.long s0) := H92.at hi92 (hSu.2)
              refine ownEnds.law (X90.laload hx (j := f0) (v := (.long s0)) (by rw [e90]; exact Ar92.1) (State.isArrayOf_alike hZ.alike Ar92.2.1) Ar92.2.2 hi92 hv92 (g := (mkF m 459 #[.val (.int xa), .val (.int xb), .val (.long s0), .second, .val (.long s1), .second, .val (.long s2), .second, .val (.long s3), .second, .val (.int w0), .val (.int w1), .val (.int w2), .val (.int w3), .val (.int f0), .val (.ref b4), .val (.ref b25), .val (.ref b39), .val (.int ((LS2 w0 w1 w2) + w2)), .val (.int (LI1 w0 w1)), .val (.int (LS1 w0 w1)), .val (.int (LI2 w0 w1 w2)), .val (.int (LS2 w0 w1 w2)), .val (.int (LI3 w0 w1 w2 w3)), .val (.int (LS3 w0 w1 w2 w3)), .val (.ref b65), .val (.int (1 : Int32)), .unset] [(.int f0), (.ref b25)])) rfl rfl (hb hby at_459)) ?_
              show ownEnds _ _ _ _ (T90.setTop (mkF m 460 #[.val (.int xa), .val (.int xb), .val (.long s0), .second, .val (.long s1), .second, .val (.long s2), .second, .val (.long s3), .second, .val (.int w0), .val (.int w1), .val (.int w2), .val (.int w3), .val (.int f0), .val (.ref b4), .val (.ref b25), .val (.ref b39), .val (.int ((LS2 w0 w1 w2) + w2)), .val (.int (LI1 w0 w1)), .val (.int (LS1 w0 w1)), .val (.int (LI2 w0 w1 w2)), .val (.int (LS2 w0 w1 w2)), .val (.int (LI3 w0 w1 w2 w3)), .val (.int (LS3 w0 w1 w2 w3)), .val (.ref b65), .val (.int (1 : Int32)), .unset] [(.long s0)]))
              refine ownEnds.law (fun t k => XS.lloadN X90.here hx rfl (hb hby at_460) rfl (XS.lcmp X90.here hx rfl (hb hby at_461) rfl k)) ?_
              show ownEnds _ _ _ _ (T90.setTop (mkF m 462 #[.val (.int xa), .val (.int xb), .val (.long s0), .second, .val (.long s1), .second, .val (.long s2), .second, .val (.long s3), .second, .val (.int w0), .val (.int w1), .val (.int w2), .val (.int w3), .val (.int f0), .val (.ref b4), .val (.ref b25), .val (.ref b39), .val (.int ((LS2 w0 w1 w2) + w2)), .val (.int (LI1 w0 w1)), .val (.int (LS1 w0 w1)), .val (.int (LI2 w0 w1 w2)), .val (.int (LS2 w0 w1 w2)), .val (.int (LI3 w0 w1 w2 w3)), .val (.int (LS3 w0 w1 w2 w3)), .val (.ref b65), .val (.int (1 : Int32)), .unset] [(.int (lcmpW s0 s0))]))
              refine ownEnds.law (fun t => XS.ifNo X90.here hx rfl (hb hby at_462) rfl ((if0 _ _).trans (teq ((lw_eq _ _).mpr (rfl : s0 = s0))).2)) ?_
              show ownEnds _ _ _ _ (T90.setTop (mkF m 465 #[.val (.int xa), .val (.int xb), .val (.long s0), .second, .val (.long s1), .second, .val (.long s2), .second, .val (.long s3), .second, .val (.int w0), .val (.int w1), .val (.int w2), .val (.int w3), .val (.int f0), .val (.ref b4), .val (.ref b25), .val (.ref b39), .val (.int ((LS2 w0 w1 w2) + w2)), .val (.int (LI1 w0 w1)), .val (.int (LS1 w0 w1)), .val (.int (LI2 w0 w1 w2)), .val (.int (LS2 w0 w1 w2)), .val (.int (LI3 w0 w1 w2 w3)), .val (.int (LS3 w0 w1 w2 w3)), .val (.ref b65), .val (.int (1 : Int32)), .unset] []))
              refine ownEnds.law (fun t k => XS.aload X90.here hx rfl (hb hby at_465) rfl rfl (XS.iload X90.here hx rfl (hb hby at_467) rfl (XS.iconst X90.here hx rfl (hb hby at_469) (XS.iadd X90.here hx rfl (hb hby at_470) rfl k)))) ?_
              show ownEnds _ _ _ _ (T90.setTop (mkF m 471 #[.val (.int xa), .val (.int xb), .val (.long s0), .second, .val (.long s1), .second, .val (.long s2), .second, .val (.long s3), .second, .val (.int w0), .val (.int w1), .val (.int w2), .val (.int w3), .val (.int f0), .val (.ref b4), .val (.ref b25), .val (.ref b39), .val (.int ((LS2 w0 w1 w2) + w2)), .val (.int (LI1 w0 w1)), .val (.int (LS1 w0 w1)), .val (.int (LI2 w0 w1 w2)), .val (.int (LS2 w0 w1 w2)), .val (.int (LI3 w0 w1 w2 w3)), .val (.int (LS3 w0 w1 w2 w3)), .val (.ref b65), .val (.int (1 : Int32)), .unset] [(.int (f0 + (1 : Int32))), (.ref b25)]))
              obtain ⟨cl94, Ar94, q94, S94, N94, H94, G94⟩ := id f93
              have hi94 := inb_of (j := (f0 + (1 : Int32))) S94 ((hSt 1 (by simp [IR])).1)
              have hv94 : cl94.slots[((f0 + (1 : Int32))).toNatClampNeg]? = some (.long s1) := H94.at hi94 ((hSt 1 (by simp [IR])).2)
              refine ownEnds.law (X90.laload hx (j := (f0 + (1 : Int32))) (v := (.long s1)) (by rw [e90]; exact Ar94.1) (State.isArrayOf_alike hZ.alike Ar94.2.1) Ar94.2.2 hi94 hv94 (g := (mkF m 471 #[.val (.int xa), .val (.int xb), .val (.long s0), .second, .val (.long s1), .second, .val (.long s2), .second, .val (.long s3), .second, .val (.int w0), .val (.int w1), .val (.int w2), .val (.int w3), .val (.int f0), .val (.ref b4), .val (.ref b25), .val (.ref b39), .val (.int ((LS2 w0 w1 w2) + w2)), .val (.int (LI1 w0 w1)), .val (.int (LS1 w0 w1)), .val (.int (LI2 w0 w1 w2)), .val (.int (LS2 w0 w1 w2)), .val (.int (LI3 w0 w1 w2 w3)), .val (.int (LS3 w0 w1 w2 w3)), .val (.ref b65), .val (.int (1 : Int32)), .unset] [(.int (f0 + (1 : Int32))), (.ref b25)])) rfl rfl (hb hby at_471)) ?_
              show ownEnds _ _ _ _ (T90.setTop (mkF m 472 #[.val (.int xa), .val (.int xb), .val (.long s0), .second, .val (.long s1), .second, .val (.long s2), .second, .val (.long s3), .second, .val (.int w0), .val (.int w1), .val (.int w2), .val (.int w3), .val (.int f0), .val (.ref b4), .val (.ref b25), .val (.ref b39), .val (.int ((LS2 w0 w1 w2) + w2)), .val (.int (LI1 w0 w1)), .val (.int (LS1 w0 w1)), .val (.int (LI2 w0 w1 w2)), .val (.int (LS2 w0 w1 w2)), .val (.int (LI3 w0 w1 w2 w3)), .val (.int (LS3 w0 w1 w2 w3)), .val (.ref b65), .val (.int (1 : Int32)), .unset] [(.long s1)]))
              refine ownEnds.law (fun t k => XS.lload X90.here hx rfl (hb hby at_472) rfl (XS.lcmp X90.here hx rfl (hb hby at_474) rfl k)) ?_
              show ownEnds _ _ _ _ (T90.setTop (mkF m 475 #[.val (.int xa), .val (.int xb), .val (.long s0), .second, .val (.long s1), .second, .val (.long s2), .second, .val (.long s3), .second, .val (.int w0), .val (.int w1), .val (.int w2), .val (.int w3), .val (.int f0), .val (.ref b4), .val (.ref b25), .val (.ref b39), .val (.int ((LS2 w0 w1 w2) + w2)), .val (.int (LI1 w0 w1)), .val (.int (LS1 w0 w1)), .val (.int (LI2 w0 w1 w2)), .val (.int (LS2 w0 w1 w2)), .val (.int (LI3 w0 w1 w2 w3)), .val (.int (LS3 w0 w1 w2 w3)), .val (.ref b65), .val (.int (1 : Int32)), .unset] [(.int (lcmpW s1 s1))]))
              refine ownEnds.law (fun t => XS.ifNo X90.here hx rfl (hb hby at_475) rfl ((if0 _ _).trans (teq ((lw_eq _ _).mpr (rfl : s1 = s1))).2)) ?_
              show ownEnds _ _ _ _ (T90.setTop (mkF m 478 #[.val (.int xa), .val (.int xb), .val (.long s0), .second, .val (.long s1), .second, .val (.long s2), .second, .val (.long s3), .second, .val (.int w0), .val (.int w1), .val (.int w2), .val (.int w3), .val (.int f0), .val (.ref b4), .val (.ref b25), .val (.ref b39), .val (.int ((LS2 w0 w1 w2) + w2)), .val (.int (LI1 w0 w1)), .val (.int (LS1 w0 w1)), .val (.int (LI2 w0 w1 w2)), .val (.int (LS2 w0 w1 w2)), .val (.int (LI3 w0 w1 w2 w3)), .val (.int (LS3 w0 w1 w2 w3)), .val (.ref b65), .val (.int (1 : Int32)), .unset] []))
              refine ownEnds.law (fun t k => XS.aload X90.here hx rfl (hb hby at_478) rfl rfl (XS.iload X90.here hx rfl (hb hby at_480) rfl (XS.iconst X90.here hx rfl (hb hby at_482) (XS.iadd X90.here hx rfl (hb hby at_483) rfl k)))) ?_
              show ownEnds _ _ _ _ (T90.setTop (mkF m 484 #[.val (.int xa), .val (.int xb), .val (.long s0), .second, .val (.long s1), .second, .val (.long s2), .second, .val (.long s3), .second, .val (.int w0), .val (.int w1), .val (.int w2), .val (.int w3), .val (.int f0), .val (.ref b4), .val (.ref b25), .val (.ref b39), .val (.int ((LS2 w0 w1 w2) + w2)), .val (.int (LI1 w0 w1)), .val (.int (LS1 w0 w1)), .val (.int (LI2 w0 w1 w2)), .val (.int (LS2 w0 w1 w2)), .val (.int (LI3 w0 w1 w2 w3)), .val (.int (LS3 w0 w1 w2 w3)), .val (.ref b65), .val (.int (1 : Int32)), .unset] [(.int (f0 + (2 : Int32))), (.ref b25)]))
              obtain ⟨cl95, Ar95, q95, S95, N95, H95, G95⟩ := id f93
              have hi95 := inb_of (j := (f0 + (2 : Int32))) S95 ((hSt 2 (by simp [IR])).1)
              have hv95 : cl95.slots[((f0 + (2 : Int32))).toNatClampNeg]? = some (.long s2) := H95.at hi95 ((hSt 2 (by simp [IR])).2)
              refine ownEnds.law (X90.laload hx (j := (f0 + (2 : Int32))) (v := (.long s2)) (by rw [e90]; exact Ar95.1) (State.isArrayOf_alike hZ.alike Ar95.2.1) Ar95.2.2 hi95 hv95 (g := (mkF m 484 #[.val (.int xa), .val (.int xb), .val (.long s0), .second, .val (.long s1), .second, .val (.long s2), .second, .val (.long s3), .second, .val (.int w0), .val (.int w1), .val (.int w2), .val (.int w3), .val (.int f0), .val (.ref b4), .val (.ref b25), .val (.ref b39), .val (.int ((LS2 w0 w1 w2) + w2)), .val (.int (LI1 w0 w1)), .val (.int (LS1 w0 w1)), .val (.int (LI2 w0 w1 w2)), .val (.int (LS2 w0 w1 w2)), .val (.int (LI3 w0 w1 w2 w3)), .val (.int (LS3 w0 w1 w2 w3)), .val (.ref b65), .val (.int (1 : Int32)), .unset] [(.int (f0 + (2 : Int32))), (.ref b25)])) rfl rfl (hb hby at_484)) ?_
              show ownEnds _ _ _ _ (T90.setTop (mkF m 485 #[.val (.int xa), .val (.int xb), .val (.long s0), .second, .val (.long s1), .second, .val (.long s2), .second, .val (.long s3), .second, .val (.int w0), .val (.int w1), .val (.int w2), .val (.int w3), .val (.int f0), .val (.ref b4), .val (.ref b25), .val (.ref b39), .val (.int ((LS2 w0 w1 w2) + w2)), .val (.int (LI1 w0 w1)), .val (.int (LS1 w0 w1)), .val (.int (LI2 w0 w1 w2)), .val (.int (LS2 w0 w1 w2)), .val (.int (LI3 w0 w1 w2 w3)), .val (.int (LS3 w0 w1 w2 w3)), .val (.ref b65), .val (.int (1 : Int32)), .unset] [(.long s2)]))
              refine ownEnds.law (fun t k => XS.lload X90.here hx rfl (hb hby at_485) rfl (XS.lcmp X90.here hx rfl (hb hby at_487) rfl k)) ?_
              show ownEnds _ _ _ _ (T90.setTop (mkF m 488 #[.val (.int xa), .val (.int xb), .val (.long s0), .second, .val (.long s1), .second, .val (.long s2), .second, .val (.long s3), .second, .val (.int w0), .val (.int w1), .val (.int w2), .val (.int w3), .val (.int f0), .val (.ref b4), .val (.ref b25), .val (.ref b39), .val (.int ((LS2 w0 w1 w2) + w2)), .val (.int (LI1 w0 w1)), .val (.int (LS1 w0 w1)), .val (.int (LI2 w0 w1 w2)), .val (.int (LS2 w0 w1 w2)), .val (.int (LI3 w0 w1 w2 w3)), .val (.int (LS3 w0 w1 w2 w3)), .val (.ref b65), .val (.int (1 : Int32)), .unset] [(.int (lcmpW s2 s2))]))
              refine ownEnds.law (fun t => XS.ifNo X90.here hx rfl (hb hby at_488) rfl ((if0 _ _).trans (teq ((lw_eq _ _).mpr (rfl : s2 = s2))).2)) ?_
              show ownEnds _ _ _ _ (T90.setTop (mkF m 491 #[.val (.int xa), .val (.int xb), .val (.long s0), .second, .val (.long s1), .second, .val (.long s2), .second, .val (.long s3), .second, .val (.int w0), .val (.int w1), .val (.int w2), .val (.int w3), .val (.int f0), .val (.ref b4), .val (.ref b25), .val (.ref b39), .val (.int ((LS2 w0 w1 w2) + w2)), .val (.int (LI1 w0 w1)), .val (.int (LS1 w0 w1)), .val (.int (LI2 w0 w1 w2)), .val (.int (LS2 w0 w1 w2)), .val (.int (LI3 w0 w1 w2 w3)), .val (.int (LS3 w0 w1 w2 w3)), .val (.ref b65), .val (.int (1 : Int32)), .unset] []))
              refine ownEnds.law (fun t k => XS.aload X90.here hx rfl (hb hby at_491) rfl rfl (XS.iload X90.here hx rfl (hb hby at_493) rfl (XS.iconst X90.here hx rfl (hb hby at_495) (XS.iadd X90.here hx rfl (hb hby at_496) rfl k)))) ?_
              show ownEnds _ _ _ _ (T90.setTop (mkF m 497 #[.val (.int xa), .val (.int xb), .val (.long s0), .second, .val (.long s1), .second, .val (.long s2), .second, .val (.long s3), .second, .val (.int w0), .val (.int w1), .val (.int w2), .val (.int w3), .val (.int f0), .val (.ref b4), .val (.ref b25), .val (.ref b39), .val (.int ((LS2 w0 w1 w2) + w2)), .val (.int (LI1 w0 w1)), .val (.int (LS1 w0 w1)), .val (.int (LI2 w0 w1 w2)), .val (.int (LS2 w0 w1 w2)), .val (.int (LI3 w0 w1 w2 w3)), .val (.int (LS3 w0 w1 w2 w3)), .val (.ref b65), .val (.int (1 : Int32)), .unset] [(.int (f0 + (3 : Int32))), (.ref b25)]))
              obtain ⟨cl96, Ar96, q96, S96, N96, H96, G96⟩ := id f93
              have hi96 := inb_of (j := (f0 + (3 : Int32))) S96 ((hSt 3 (by simp [IR])).1)
              have hv96 : cl96.slots[((f0 + (3 : Int32))).toNatClampNeg]? = some (.long s3) := H96.at hi96 ((hSt 3 (by simp [IR])).2)
              refine ownEnds.law (X90.laload hx (j := (f0 + (3 : Int32))) (v := (.long s3)) (by rw [e90]; exact Ar96.1) (State.isArrayOf_alike hZ.alike Ar96.2.1) Ar96.2.2 hi96 hv96 (g := (mkF m 497 #[.val (.int xa), .val (.int xb), .val (.long s0), .second, .val (.long s1), .second, .val (.long s2), .second, .val (.long s3), .second, .val (.int w0), .val (.int w1), .val (.int w2), .val (.int w3), .val (.int f0), .val (.ref b4), .val (.ref b25), .val (.ref b39), .val (.int ((LS2 w0 w1 w2) + w2)), .val (.int (LI1 w0 w1)), .val (.int (LS1 w0 w1)), .val (.int (LI2 w0 w1 w2)), .val (.int (LS2 w0 w1 w2)), .val (.int (LI3 w0 w1 w2 w3)), .val (.int (LS3 w0 w1 w2 w3)), .val (.ref b65), .val (.int (1 : Int32)), .unset] [(.int (f0 + (3 : Int32))), (.ref b25)])) rfl rfl (hb hby at_497)) ?_
              show ownEnds _ _ _ _ (T90.setTop (mkF m 498 #[.val (.int xa), .val (.int xb), .val (.long s0), .second, .val (.long s1), .second, .val (.long s2), .second, .val (.long s3), .second, .val (.int w0), .val (.int w1), .val (.int w2), .val (.int w3), .val (.int f0), .val (.ref b4), .val (.ref b25), .val (.ref b39), .val (.int ((LS2 w0 w1 w2) + w2)), .val (.int (LI1 w0 w1)), .val (.int (LS1 w0 w1)), .val (.int (LI2 w0 w1 w2)), .val (.int (LS2 w0 w1 w2)), .val (.int (LI3 w0 w1 w2 w3)), .val (.int (LS3 w0 w1 w2 w3)), .val (.ref b65), .val (.int (1 : Int32)), .unset] [(.long s3)]))
              refine ownEnds.law (fun t k => XS.lload X90.here hx rfl (hb hby at_498) rfl (XS.lcmp X90.here hx rfl (hb hby at_500) rfl k)) ?_
              show ownEnds _ _ _ _ (T90.setTop (mkF m 501 #[.val (.int xa), .val (.int xb), .val (.long s0), .second, .val (.long s1), .second, .val (.long s2), .second, .val (.long s3), .second, .val (.int w0), .val (.int w1), .val (.int w2), .val (.int w3), .val (.int f0), .val (.ref b4), .val (.ref b25), .val (.ref b39), .val (.int ((LS2 w0 w1 w2) + w2)), .val (.int (LI1 w0 w1)), .val (.int (LS1 w0 w1)), .val (.int (LI2 w0 w1 w2)), .val (.int (LS2 w0 w1 w2)), .val (.int (LI3 w0 w1 w2 w3)), .val (.int (LS3 w0 w1 w2 w3)), .val (.ref b65), .val (.int (1 : Int32)), .unset] [(.int (lcmpW s3 s3))]))
              refine ownEnds.law (fun t => XS.ifNo X90.here hx rfl (hb hby at_501) rfl ((if0 _ _).trans (teq ((lw_eq _ _).mpr (rfl : s3 = s3))).2)) ?_
              show ownEnds _ _ _ _ (T90.setTop (mkF m 504 #[.val (.int xa), .val (.int xb), .val (.long s0), .second, .val (.long s1), .second, .val (.long s2), .second, .val (.long s3), .second, .val (.int w0), .val (.int w1), .val (.int w2), .val (.int w3), .val (.int f0), .val (.ref b4), .val (.ref b25), .val (.ref b39), .val (.int ((LS2 w0 w1 w2) + w2)), .val (.int (LI1 w0 w1)), .val (.int (LS1 w0 w1)), .val (.int (LI2 w0 w1 w2)), .val (.int (LS2 w0 w1 w2)), .val (.int (LI3 w0 w1 w2 w3)), .val (.int (LS3 w0 w1 w2 w3)), .val (.ref b65), .val (.int (1 : Int32)), .unset] []))
              refine ownEnds.law (fun t k => XS.iconst X90.here hx rfl (hb hby at_504) (XS.goto X90.here hx rfl (pc0 := 505) (pc' := 509) rfl (hb hby at_505) (by decide) (by decide) (XS.istore X90.here hx rfl (hb hby at_509) rfl (l' := #[.val (.int xa), .val (.int xb), .val (.long s0), .second, .val (.long s1), .second, .val (.long s2), .second, .val (.long s3), .second, .val (.int w0), .val (.int w1), .val (.int w2), .val (.int w3), .val (.int f0), .val (.ref b4), .val (.ref b25), .val (.ref b39), .val (.int ((LS2 w0 w1 w2) + w2)), .val (.int (LI1 w0 w1)), .val (.int (LS1 w0 w1)), .val (.int (LI2 w0 w1 w2)), .val (.int (LS2 w0 w1 w2)), .val (.int (LI3 w0 w1 w2 w3)), .val (.int (LS3 w0 w1 w2 w3)), .val (.ref b65), .val (.int (1 : Int32)), .val (.int (1 : Int32))]) rfl (XS.iload X90.here hx rfl (hb hby at_511) rfl k)))) ?_
              show ownEnds _ _ _ _ (T90.setTop (mkF m 513 #[.val (.int xa), .val (.int xb), .val (.long s0), .second, .val (.long s1), .second, .val (.long s2), .second, .val (.long s3), .second, .val (.int w0), .val (.int w1), .val (.int w2), .val (.int w3), .val (.int f0), .val (.ref b4), .val (.ref b25), .val (.ref b39), .val (.int ((LS2 w0 w1 w2) + w2)), .val (.int (LI1 w0 w1)), .val (.int (LS1 w0 w1)), .val (.int (LI2 w0 w1 w2)), .val (.int (LS2 w0 w1 w2)), .val (.int (LI3 w0 w1 w2 w3)), .val (.int (LS3 w0 w1 w2 w3)), .val (.ref b65), .val (.int (1 : Int32)), .val (.int (1 : Int32))] [(.int (1 : Int32))]))
              refine ownEnds.law (fun t => XS.ifNo X90.here hx rfl (hb hby at_513) rfl ((if0 _ _).trans (feq (by decide : ¬ ((1 : Int32) = (0 : Int32)))).1)) ?_
              show ownEnds _ _ _ _ (T90.setTop (mkF m 516 #[.val (.int xa), .val (.int xb), .val (.long s0), .second, .val (.long s1), .second, .val (.long s2), .second, .val (.long s3), .second, .val (.int w0), .val (.int w1), .val (.int w2), .val (.int w3), .val (.int f0), .val (.ref b4), .val (.ref b25), .val (.ref b39), .val (.int ((LS2 w0 w1 w2) + w2)), .val (.int (LI1 w0 w1)), .val (.int (LS1 w0 w1)), .val (.int (LI2 w0 w1 w2)), .val (.int (LS2 w0 w1 w2)), .val (.int (LI3 w0 w1 w2 w3)), .val (.int (LS3 w0 w1 w2 w3)), .val (.ref b65), .val (.int (1 : Int32)), .val (.int (1 : Int32))] []))
              refine ownEnds.law (fun t k => XS.iload X90.here hx rfl (hb hby at_516) rfl k) ?_
              show ownEnds _ _ _ _ (T90.setTop (mkF m 518 #[.val (.int xa), .val (.int xb), .val (.long s0), .second, .val (.long s1), .second, .val (.long s2), .second, .val (.long s3), .second, .val (.int w0), .val (.int w1), .val (.int w2), .val (.int w3), .val (.int f0), .val (.ref b4), .val (.ref b25), .val (.ref b39), .val (.int ((LS2 w0 w1 w2) + w2)), .val (.int (LI1 w0 w1)), .val (.int (LS1 w0 w1)), .val (.int (LI2 w0 w1 w2)), .val (.int (LS2 w0 w1 w2)), .val (.int (LI3 w0 w1 w2 w3)), .val (.int (LS3 w0 w1 w2 w3)), .val (.ref b65), .val (.int (1 : Int32)), .val (.int (1 : Int32))] [(.int (1 : Int32))]))
              refine ownEnds.law (fun t => XS.ifNo X90.here hx rfl (hb hby at_518) rfl ((if0 _ _).trans (feq (by decide : ¬ ((1 : Int32) = (0 : Int32)))).1)) ?_
              show ownEnds _ _ _ _ (T90.setTop (mkF m 521 #[.val (.int xa), .val (.int xb), .val (.long s0), .second, .val (.long s1), .second, .val (.long s2), .second, .val (.long s3), .second, .val (.int w0), .val (.int w1), .val (.int w2), .val (.int w3), .val (.int f0), .val (.ref b4), .val (.ref b25), .val (.ref b39), .val (.int ((LS2 w0 w1 w2) + w2)), .val (.int (LI1 w0 w1)), .val (.int (LS1 w0 w1)), .val (.int (LI2 w0 w1 w2)), .val (.int (LS2 w0 w1 w2)), .val (.int (LI3 w0 w1 w2 w3)), .val (.int (LS3 w0 w1 w2 w3)), .val (.ref b65), .val (.int (1 : Int32)), .val (.int (1 : Int32))] []))
              refine ownEnds.law (fun t k => XS.iconst X90.here hx rfl (hb hby at_521) (XS.goto X90.here hx rfl (pc0 := 522) (pc' := 526) rfl (hb hby at_522) (by decide) (by decide) k)) ?_
              show ownEnds _ _ _ _ (T90.setTop (mkF m 526 #[.val (.int xa), .val (.int xb), .val (.long s0), .second, .val (.long s1), .second, .val (.long s2), .second, .val (.long s3), .second, .val (.int w0), .val (.int w1), .val (.int w2), .val (.int w3), .val (.int f0), .val (.ref b4), .val (.ref b25), .val (.ref b39), .val (.int ((LS2 w0 w1 w2) + w2)), .val (.int (LI1 w0 w1)), .val (.int (LS1 w0 w1)), .val (.int (LI2 w0 w1 w2)), .val (.int (LS2 w0 w1 w2)), .val (.int (LI3 w0 w1 w2 w3)), .val (.int (LS3 w0 w1 w2 w3)), .val (.ref b65), .val (.int (1 : Int32)), .val (.int (1 : Int32))] [(.int (1 : Int32))]))
              refine ownRetN X90 hlk hx (t := .boolean) hret (by simp) (hb hby at_526) (by decide) (by decide) ?_
              exact ⟨rfl, N77⟩
            show ownEnds _ _ _ _ (T52.setTop (mkF m 323 #[.val (.int xa), .val (.int xb), .val (.long s0), .second, .val (.long s1), .second, .val (.long s2), .second, .val (.long s3), .second, .val (.int w0), .val (.int w1), .val (.int w2), .val (.int w3), .val (.int f0), .val (.ref b4), .val (.ref b25), .val (.ref b39), .val (.int ((LS2 w0 w1 w2) + w2)), .val (.int (LI1 w0 w1)), .val (.int (LS1 w0 w1)), .val (.int (LI2 w0 w1 w2)), .val (.int (LS2 w0 w1 w2)), .val (.int (LI2 w0 w1 w2)), .val (.int ((LS2 w0 w1 w2) + w2)), .unset, .unset, .unset] [(.int (64 : Int32)), (.int (((LS2 w0 w1 w2) + w2) + w3))]))
            by_cases hc323 : (64 : Int32) < (((LS2 w0 w1 w2) + w2) + w3)
            · refine ownEnds.law (fun t => XS.icmpNo X52.here hx rfl (hb hby at_323) rfl (tlt hc323).2.2.2) ?_
              show ownEnds _ _ _ _ (T52.setTop (mkF m 326 #[.val (.int xa), .val (.int xb), .val (.long s0), .second, .val (.long s1), .second, .val (.long s2), .second, .val (.long s3), .second, .val (.int w0), .val (.int w1), .val (.int w2), .val (.int w3), .val (.int f0), .val (.ref b4), .val (.ref b25), .val (.ref b39), .val (.int ((LS2 w0 w1 w2) + w2)), .val (.int (LI1 w0 w1)), .val (.int (LS1 w0 w1)), .val (.int (LI2 w0 w1 w2)), .val (.int (LS2 w0 w1 w2)), .val (.int (LI2 w0 w1 w2)), .val (.int ((LS2 w0 w1 w2) + w2)), .unset, .unset, .unset] []))
              refine ownEnds.law (fun t k => XS.iload X52.here hx rfl (hb hby at_326) rfl (XS.iconst X52.here hx rfl (hb hby at_328) (XS.iadd X52.here hx rfl (hb hby at_329) rfl (XS.istore X52.here hx rfl (hb hby at_330) rfl (l' := #[.val (.int xa), .val (.int xb), .val (.long s0), .second, .val (.long s1), .second, .val (.long s2), .second, .val (.long s3), .second, .val (.int w0), .val (.int w1), .val (.int w2), .val (.int w3), .val (.int f0), .val (.ref b4), .val (.ref b25), .val (.ref b39), .val (.int ((LS2 w0 w1 w2) + w2)), .val (.int (LI1 w0 w1)), .val (.int (LS1 w0 w1)), .val (.int (LI2 w0 w1 w2)), .val (.int (LS2 w0 w1 w2)), .val (.int ((LI2 w0 w1 w2) + (1 : Int32))), .val (.int ((LS2 w0 w1 w2) + w2)), .unset, .unset, .unset]) rfl (XS.iconst X52.here hx rfl (hb hby at_332) (XS.istore X52.here hx rfl (hb hby at_333) rfl (l' := #[.val (.int xa), .val (.int xb), .val (.long s0), .second, .val (.long s1), .second, .val (.long s2), .second, .val (.long s3), .second, .val (.int w0), .val (.int w1), .val (.int w2), .val (.int w3), .val (.int f0), .val (.ref b4), .val (.ref b25), .val (.ref b39), .val (.int ((LS2 w0 w1 w2) + w2)), .val (.int (LI1 w0 w1)), .val (.int (LS1 w0 w1)), .val (.int (LI2 w0 w1 w2)), .val (.int (LS2 w0 w1 w2)), .val (.int ((LI2 w0 w1 w2) + (1 : Int32))), .val (.int (0 : Int32)), .unset, .unset, .unset]) rfl k)))))) ?_
              show ownEnds _ _ _ _ (T52.setTop (mkF m 335 #[.val (.int xa), .val (.int xb), .val (.long s0), .second, .val (.long s1), .second, .val (.long s2), .second, .val (.long s3), .second, .val (.int w0), .val (.int w1), .val (.int w2), .val (.int w3), .val (.int f0), .val (.ref b4), .val (.ref b25), .val (.ref b39), .val (.int ((LS2 w0 w1 w2) + w2)), .val (.int (LI1 w0 w1)), .val (.int (LS1 w0 w1)), .val (.int (LI2 w0 w1 w2)), .val (.int (LS2 w0 w1 w2)), .val (.int ((LI2 w0 w1 w2) + (1 : Int32))), .val (.int (0 : Int32)), .unset, .unset, .unset] []))
              exact JL3 _ _ (by rw [LI3, if_pos hc323]) (by rw [LS3, if_pos hc323])
            · refine ownEnds.law (fun t => XS.icmpYes X52.here hx rfl (pc0 := 323) (pc' := 335) rfl (hb hby at_323) rfl (flt hc323).2.2.2 (by decide) (by decide)) ?_
              exact JL3 _ _ (by rw [LI3, if_neg hc323]) (by rw [LS3, if_neg hc323])
          show ownEnds _ _ _ _ (T52.setTop (mkF m 289 #[.val (.int xa), .val (.int xb), .val (.long s0), .second, .val (.long s1), .second, .val (.long s2), .second, .val (.long s3), .second, .val (.int w0), .val (.int w1), .val (.int w2), .val (.int w3), .val (.int f0), .val (.ref b4), .val (.ref b25), .val (.ref b39), .val (.int ((LS1 w0 w1) + w1)), .val (.int (LI1 w0 w1)), .val (.int (LS1 w0 w1)), .val (.int (LI1 w0 w1)), .val (.int ((LS1 w0 w1) + w1)), .unset, .unset, .unset, .unset, .unset] [(.int (64 : Int32)), (.int (((LS1 w0 w1) + w1) + w2))]))
          by_cases hc289 : (64 : Int32) < (((LS1 w0 w1) + w1) + w2)
          · refine ownEnds.law (fun t => XS.icmpNo X52.here hx rfl (hb hby at_289) rfl (tlt hc289).2.2.2) ?_
            show ownEnds _ _ _ _ (T52.setTop (mkF m 292 #[.val (.int xa), .val (.int xb), .val (.long s0), .second, .val (.long s1), .second, .val (.long s2), .second, .val (.long s3), .second, .val (.int w0), .val (.int w1), .val (.int w2), .val (.int w3), .val (.int f0), .val (.ref b4), .val (.ref b25), .val (.ref b39), .val (.int ((LS1 w0 w1) + w1)), .val (.int (LI1 w0 w1)), .val (.int (LS1 w0 w1)), .val (.int (LI1 w0 w1)), .val (.int ((LS1 w0 w1) + w1)), .unset, .unset, .unset, .unset, .unset] []))
            refine ownEnds.law (fun t k => XS.iload X52.here hx rfl (hb hby at_292) rfl (XS.iconst X52.here hx rfl (hb hby at_294) (XS.iadd X52.here hx rfl (hb hby at_295) rfl (XS.istore X52.here hx rfl (hb hby at_296) rfl (l' := #[.val (.int xa), .val (.int xb), .val (.long s0), .second, .val (.long s1), .second, .val (.long s2), .second, .val (.long s3), .second, .val (.int w0), .val (.int w1), .val (.int w2), .val (.int w3), .val (.int f0), .val (.ref b4), .val (.ref b25), .val (.ref b39), .val (.int ((LS1 w0 w1) + w1)), .val (.int (LI1 w0 w1)), .val (.int (LS1 w0 w1)), .val (.int ((LI1 w0 w1) + (1 : Int32))), .val (.int ((LS1 w0 w1) + w1)), .unset, .unset, .unset, .unset, .unset]) rfl (XS.iconst X52.here hx rfl (hb hby at_298) (XS.istore X52.here hx rfl (hb hby at_299) rfl (l' := #[.val (.int xa), .val (.int xb), .val (.long s0), .second, .val (.long s1), .second, .val (.long s2), .second, .val (.long s3), .second, .val (.int w0), .val (.int w1), .val (.int w2), .val (.int w3), .val (.int f0), .val (.ref b4), .val (.ref b25), .val (.ref b39), .val (.int ((LS1 w0 w1) + w1)), .val (.int (LI1 w0 w1)), .val (.int (LS1 w0 w1)), .val (.int ((LI1 w0 w1) + (1 : Int32))), .val (.int (0 : Int32)), .unset, .unset, .unset, .unset, .unset]) rfl k)))))) ?_
            show ownEnds _ _ _ _ (T52.setTop (mkF m 301 #[.val (.int xa), .val (.int xb), .val (.long s0), .second, .val (.long s1), .second, .val (.long s2), .second, .val (.long s3), .second, .val (.int w0), .val (.int w1), .val (.int w2), .val (.int w3), .val (.int f0), .val (.ref b4), .val (.ref b25), .val (.ref b39), .val (.int ((LS1 w0 w1) + w1)), .val (.int (LI1 w0 w1)), .val (.int (LS1 w0 w1)), .val (.int ((LI1 w0 w1) + (1 : Int32))), .val (.int (0 : Int32)), .unset, .unset, .unset, .unset, .unset] []))
            exact JL2 _ _ (by rw [LI2, if_pos hc289]) (by rw [LS2, if_pos hc289])
          · refine ownEnds.law (fun t => XS.icmpYes X52.here hx rfl (pc0 := 289) (pc' := 301) rfl (hb hby at_289) rfl (flt hc289).2.2.2 (by decide) (by decide)) ?_
            exact JL2 _ _ (by rw [LI2, if_neg hc289]) (by rw [LS2, if_neg hc289])
        show ownEnds _ _ _ _ (T52.setTop (mkF m 258 #[.val (.int xa), .val (.int xb), .val (.long s0), .second, .val (.long s1), .second, .val (.long s2), .second, .val (.long s3), .second, .val (.int w0), .val (.int w1), .val (.int w2), .val (.int w3), .val (.int f0), .val (.ref b4), .val (.ref b25), .val (.ref b39), .val (.int w0), .val (.int (0 : Int32)), .val (.int w0), .unset, .unset, .unset, .unset, .unset, .unset, .unset] [(.int (64 : Int32)), (.int (w0 + w1))]))
        by_cases hc258 : (64 : Int32) < (w0 + w1)
        · refine ownEnds.law (fun t => XS.icmpNo X52.here hx rfl (hb hby at_258) rfl (tlt hc258).2.2.2) ?_
          show ownEnds _ _ _ _ (T52.setTop (mkF m 261 #[.val (.int xa), .val (.int xb), .val (.long s0), .second, .val (.long s1), .second, .val (.long s2), .second, .val (.long s3), .second, .val (.int w0), .val (.int w1), .val (.int w2), .val (.int w3), .val (.int f0), .val (.ref b4), .val (.ref b25), .val (.ref b39), .val (.int w0), .val (.int (0 : Int32)), .val (.int w0), .unset, .unset, .unset, .unset, .unset, .unset, .unset] []))
          refine ownEnds.law (fun t k => XS.iconst X52.here hx rfl (hb hby at_261) (XS.istore X52.here hx rfl (hb hby at_262) rfl (l' := #[.val (.int xa), .val (.int xb), .val (.long s0), .second, .val (.long s1), .second, .val (.long s2), .second, .val (.long s3), .second, .val (.int w0), .val (.int w1), .val (.int w2), .val (.int w3), .val (.int f0), .val (.ref b4), .val (.ref b25), .val (.ref b39), .val (.int w0), .val (.int (1 : Int32)), .val (.int w0), .unset, .unset, .unset, .unset, .unset, .unset, .unset]) rfl (XS.iconst X52.here hx rfl (hb hby at_264) (XS.istore X52.here hx rfl (hb hby at_265) rfl (l' := #[.val (.int xa), .val (.int xb), .val (.long s0), .second, .val (.long s1), .second, .val (.long s2), .second, .val (.long s3), .second, .val (.int w0), .val (.int w1), .val (.int w2), .val (.int w3), .val (.int f0), .val (.ref b4), .val (.ref b25), .val (.ref b39), .val (.int w0), .val (.int (1 : Int32)), .val (.int (0 : Int32)), .unset, .unset, .unset, .unset, .unset, .unset, .unset]) rfl k)))) ?_
          show ownEnds _ _ _ _ (T52.setTop (mkF m 267 #[.val (.int xa), .val (.int xb), .val (.long s0), .second, .val (.long s1), .second, .val (.long s2), .second, .val (.long s3), .second, .val (.int w0), .val (.int w1), .val (.int w2), .val (.int w3), .val (.int f0), .val (.ref b4), .val (.ref b25), .val (.ref b39), .val (.int w0), .val (.int (1 : Int32)), .val (.int (0 : Int32)), .unset, .unset, .unset, .unset, .unset, .unset, .unset] []))
          exact JL1 _ _ (by rw [LI1, if_pos hc258]) (by rw [LS1, if_pos hc258])
        · refine ownEnds.law (fun t => XS.icmpYes X52.here hx rfl (pc0 := 258) (pc' := 267) rfl (hb hby at_258) rfl (flt hc258).2.2.2 (by decide) (by decide)) ?_
          exact JL1 _ _ (by rw [LI1, if_neg hc258]) (by rw [LS1, if_neg hc258])
      show ownEnds _ _ _ _ (T2.setTop (mkF m 44 #[.val (.int xa), .val (.int xb), .val (.long s0), .second, .val (.long s1), .second, .val (.long s2), .second, .val (.long s3), .second, .val (.int w0), .val (.int w1), .unset, .unset, .unset, .unset, .unset, .unset, .unset, .unset, .unset, .unset, .unset, .unset, .unset, .unset, .unset, .unset] [(.int w2)]))
      refine ownEnds.law (fun t k => XS.istore X2.here hx rfl (hb hby at_44) rfl (l' := #[.val (.int xa), .val (.int xb), .val (.long s0), .second, .val (.long s1), .second, .val (.long s2), .second, .val (.long s3), .second, .val (.int w0), .val (.int w1), .val (.int w2), .unset, .unset, .unset, .unset, .unset, .unset, .unset, .unset, .unset, .unset, .unset, .unset, .unset, .unset, .unset]) rfl (XS.iloadN X2.here hx rfl (hb hby at_46) rfl (XS.iconst X2.here hx rfl (hb hby at_47) (XS.iand X2.here hx rfl (hb hby at_48) rfl k)))) ?_
      show ownEnds _ _ _ _ (T2.setTop (mkF m 49 #[.val (.int xa), .val (.int xb), .val (.long s0), .second, .val (.long s1), .second, .val (.long s2), .second, .val (.long s3), .second, .val (.int w0), .val (.int w1), .val (.int w2), .unset, .unset, .unset, .unset, .unset, .unset, .unset, .unset, .unset, .unset, .unset, .unset, .unset, .unset, .unset] [(.int (xb &&& (4 : Int32)))]))
      by_cases hc49 : (xb &&& (4 : Int32)) = (0 : Int32)
      · refine ownEnds.law (fun t => XS.ifYes X2.here hx rfl (pc0 := 49) (pc' := 57) rfl (hb hby at_49) rfl ((if0 _ _).trans (teq hc49).1) (by decide) (by decide)) ?_
        show ownEnds _ _ _ _ (T2.setTop (mkF m 57 #[.val (.int xa), .val (.int xb), .val (.long s0), .second, .val (.long s1), .second, .val (.long s2), .second, .val (.long s3), .second, .val (.int w0), .val (.int w1), .val (.int w2), .unset, .unset, .unset, .unset, .unset, .unset, .unset, .unset, .unset, .unset, .unset, .unset, .unset, .unset, .unset] []))
        refine ownEnds.law (fun t k => XS.iloadN X2.here hx rfl (hb hby at_57) rfl (XS.bipush X2.here hx rfl (hb hby at_58) (XS.iushr X2.here hx rfl (hb hby at_60) rfl k))) ?_
        show ownEnds _ _ _ _ (T2.setTop (mkF m 61 #[.val (.int xa), .val (.int xb), .val (.long s0), .second, .val (.long s1), .second, .val (.long s2), .second, .val (.long s3), .second, .val (.int w0), .val (.int w1), .val (.int w2), .unset, .unset, .unset, .unset, .unset, .unset, .unset, .unset, .unset, .unset, .unset, .unset, .unset, .unset, .unset] [(.int ((xa.toUInt32 >>> ((18 : Int32) &&& 31).toUInt32).toInt32))]))
        obtain ⟨v97, T97, L97, X97, hQ97, st97⟩ := ownCallS X2 hx hZ hown (y := (⟨"com/example/libreach/libreach/engine/StateLayoutUnpackPinLaw", "width", "(I)I"⟩ : MethodName)) (as := [(.int ((xa.toUInt32 >>> ((18 : Int32) &&& 31).toUInt32).toInt32))]) (wd_0 hw) (wd_1 hw) (wd_2 hw) (wd_3 hw) (by decide) (rm1 l Z a0 hw ((xa.toUInt32 >>> ((18 : Int32) &&& 31).toUInt32).toInt32)  h0 n0 Z0 ) e2 0 (by decide) (by decide) (by decide) (by decide) (g := (mkF m 61 #[.val (.int xa), .val (.int xb), .val (.long s0), .second, .val (.long s1), .second, .val (.long s2), .second, .val (.long s3), .second, .val (.int w0), .val (.int w1), .val (.int w2), .unset, .unset, .unset, .unset, .unset, .unset, .unset, .unset, .unset, .unset, .unset, .unset, .unset, .unset, .unset] [(.int ((xa.toUInt32 >>> ((18 : Int32) &&& 31).toUInt32).toInt32))])) rfl (by rw [hml]; rfl) (rest := []) pd_5 rfl rfl (by show 2 * 0 + _ ≤ _; exact Nat.le_of_eq rfl) (hb hby at_61)
        obtain ⟨rfl, rfl, e97⟩ := hQ97
        rw [List.append_nil] at X97
        refine ownEnds.law st97 ?_
        exact JW3 _ _ X97 N2 e97 _ (own_fw _)
      · refine ownEnds.law (fun t => XS.ifNo X2.here hx rfl (hb hby at_49) rfl ((if0 _ _).trans (feq hc49).1)) ?_
        show ownEnds _ _ _ _ (T2.setTop (mkF m 52 #[.val (.int xa), .val (.int xb), .val (.long s0), .second, .val (.long s1), .second, .val (.long s2), .second, .val (.long s3), .second, .val (.int w0), .val (.int w1), .val (.int w2), .unset, .unset, .unset, .unset, .unset, .unset, .unset, .unset, .unset, .unset, .unset, .unset, .unset, .unset, .unset] []))
        refine ownEnds.law (fun t k => XS.iload X2.here hx rfl (hb hby at_52) rfl (XS.goto X2.here hx rfl (pc0 := 54) (pc' := 64) rfl (hb hby at_54) (by decide) (by decide) k)) ?_
        show ownEnds _ _ _ _ (T2.setTop (mkF m 64 #[.val (.int xa), .val (.int xb), .val (.long s0), .second, .val (.long s1), .second, .val (.long s2), .second, .val (.long s3), .second, .val (.int w0), .val (.int w1), .val (.int w2), .unset, .unset, .unset, .unset, .unset, .unset, .unset, .unset, .unset, .unset, .unset, .unset, .unset, .unset, .unset] [(.int w2)]))
        exact JW3 _ _ X2 N2 e2 _ (hr2)
    show ownEnds _ _ _ _ (T1.setTop (mkF m 24 #[.val (.int xa), .val (.int xb), .val (.long s0), .second, .val (.long s1), .second, .val (.long s2), .second, .val (.long s3), .second, .val (.int w0), .unset, .unset, .unset, .unset, .unset, .unset, .unset, .unset, .unset, .unset, .unset, .unset, .unset, .unset, .unset, .unset, .unset] [(.int w1)]))
    refine ownEnds.law (fun t k => XS.istore X1.here hx rfl (hb hby at_24) rfl (l' := #[.val (.int xa), .val (.int xb), .val (.long s0), .second, .val (.long s1), .second, .val (.long s2), .second, .val (.long s3), .second, .val (.int w0), .val (.int w1), .unset, .unset, .unset, .unset, .unset, .unset, .unset, .unset, .unset, .unset, .unset, .unset, .unset, .unset, .unset, .unset]) rfl (XS.iloadN X1.here hx rfl (hb hby at_26) rfl (XS.iconst X1.here hx rfl (hb hby at_27) (XS.iand X1.here hx rfl (hb hby at_28) rfl k)))) ?_
    show ownEnds _ _ _ _ (T1.setTop (mkF m 29 #[.val (.int xa), .val (.int xb), .val (.long s0), .second, .val (.long s1), .second, .val (.long s2), .second, .val (.long s3), .second, .val (.int w0), .val (.int w1), .unset, .unset, .unset, .unset, .unset, .unset, .unset, .unset, .unset, .unset, .unset, .unset, .unset, .unset, .unset, .unset] [(.int (xb &&& (2 : Int32)))]))
    by_cases hc29 : (xb &&& (2 : Int32)) = (0 : Int32)
    · refine ownEnds.law (fun t => XS.ifYes X1.here hx rfl (pc0 := 29) (pc' := 37) rfl (hb hby at_29) rfl ((if0 _ _).trans (teq hc29).1) (by decide) (by decide)) ?_
      show ownEnds _ _ _ _ (T1.setTop (mkF m 37 #[.val (.int xa), .val (.int xb), .val (.long s0), .second, .val (.long s1), .second, .val (.long s2), .second, .val (.long s3), .second, .val (.int w0), .val (.int w1), .unset, .unset, .unset, .unset, .unset, .unset, .unset, .unset, .unset, .unset, .unset, .unset, .unset, .unset, .unset, .unset] []))
      refine ownEnds.law (fun t k => XS.iloadN X1.here hx rfl (hb hby at_37) rfl (XS.bipush X1.here hx rfl (hb hby at_38) (XS.iushr X1.here hx rfl (hb hby at_40) rfl k))) ?_
      show ownEnds _ _ _ _ (T1.setTop (mkF m 41 #[.val (.int xa), .val (.int xb), .val (.long s0), .second, .val (.long s1), .second, .val (.long s2), .second, .val (.long s3), .second, .val (.int w0), .val (.int w1), .unset, .unset, .unset, .unset, .unset, .unset, .unset, .unset, .unset, .unset, .unset, .unset, .unset, .unset, .unset, .unset] [(.int ((xa.toUInt32 >>> ((12 : Int32) &&& 31).toUInt32).toInt32))]))
      obtain ⟨v98, T98, L98, X98, hQ98, st98⟩ := ownCallS X1 hx hZ hown (y := (⟨"com/example/libreach/libreach/engine/StateLayoutUnpackPinLaw", "width", "(I)I"⟩ : MethodName)) (as := [(.int ((xa.toUInt32 >>> ((12 : Int32) &&& 31).toUInt32).toInt32))]) (wd_0 hw) (wd_1 hw) (wd_2 hw) (wd_3 hw) (by decide) (rm1 l Z a0 hw ((xa.toUInt32 >>> ((12 : Int32) &&& 31).toUInt32).toInt32)  h0 n0 Z0 ) e1 0 (by decide) (by decide) (by decide) (by decide) (g := (mkF m 41 #[.val (.int xa), .val (.int xb), .val (.long s0), .second, .val (.long s1), .second, .val (.long s2), .second, .val (.long s3), .second, .val (.int w0), .val (.int w1), .unset, .unset, .unset, .unset, .unset, .unset, .unset, .unset, .unset, .unset, .unset, .unset, .unset, .unset, .unset, .unset] [(.int ((xa.toUInt32 >>> ((12 : Int32) &&& 31).toUInt32).toInt32))])) rfl (by rw [hml]; rfl) (rest := []) pd_5 rfl rfl (by show 2 * 0 + _ ≤ _; exact Nat.le_of_eq rfl) (hb hby at_41)
      obtain ⟨rfl, rfl, e98⟩ := hQ98
      rw [List.append_nil] at X98
      refine ownEnds.law st98 ?_
      exact JW2 _ _ X98 N1 e98 _ (own_fw _)
    · refine ownEnds.law (fun t => XS.ifNo X1.here hx rfl (hb hby at_29) rfl ((if0 _ _).trans (feq hc29).1)) ?_
      show ownEnds _ _ _ _ (T1.setTop (mkF m 32 #[.val (.int xa), .val (.int xb), .val (.long s0), .second, .val (.long s1), .second, .val (.long s2), .second, .val (.long s3), .second, .val (.int w0), .val (.int w1), .unset, .unset, .unset, .unset, .unset, .unset, .unset, .unset, .unset, .unset, .unset, .unset, .unset, .unset, .unset, .unset] []))
      refine ownEnds.law (fun t k => XS.iload X1.here hx rfl (hb hby at_32) rfl (XS.goto X1.here hx rfl (pc0 := 34) (pc' := 44) rfl (hb hby at_34) (by decide) (by decide) k)) ?_
      show ownEnds _ _ _ _ (T1.setTop (mkF m 44 #[.val (.int xa), .val (.int xb), .val (.long s0), .second, .val (.long s1), .second, .val (.long s2), .second, .val (.long s3), .second, .val (.int w0), .val (.int w1), .unset, .unset, .unset, .unset, .unset, .unset, .unset, .unset, .unset, .unset, .unset, .unset, .unset, .unset, .unset, .unset] [(.int w1)]))
      exact JW2 _ _ X1 N1 e1 _ (hr1)
  show ownEnds _ _ _ _ (T0.setTop (mkF m 0 #[.val (.int xa), .val (.int xb), .val (.long s0), .second, .val (.long s1), .second, .val (.long s2), .second, .val (.long s3), .second, .unset, .unset, .unset, .unset, .unset, .unset, .unset, .unset, .unset, .unset, .unset, .unset, .unset, .unset, .unset, .unset, .unset, .unset] []))
  refine ownEnds.law (fun t k => XS.iloadN X0.here hx rfl (hb hby at_0) rfl k) ?_
  show ownEnds _ _ _ _ (T0.setTop (mkF m 1 #[.val (.int xa), .val (.int xb), .val (.long s0), .second, .val (.long s1), .second, .val (.long s2), .second, .val (.long s3), .second, .unset, .unset, .unset, .unset, .unset, .unset, .unset, .unset, .unset, .unset, .unset, .unset, .unset, .unset, .unset, .unset, .unset, .unset] [(.int xa)]))
  obtain ⟨v99, T99, L99, X99, hQ99, st99⟩ := ownCallS X0 hx hZ hown (y := (⟨"com/example/libreach/libreach/engine/StateLayoutUnpackPinLaw", "width", "(I)I"⟩ : MethodName)) (as := [(.int xa)]) (wd_0 hw) (wd_1 hw) (wd_2 hw) (wd_3 hw) (by decide) (rm1 l Z a0 hw xa  h0 n0 Z0 ) e0 0 (by decide) (by decide) (by decide) (by decide) (g := (mkF m 1 #[.val (.int xa), .val (.int xb), .val (.long s0), .second, .val (.long s1), .second, .val (.long s2), .second, .val (.long s3), .second, .unset, .unset, .unset, .unset, .unset, .unset, .unset, .unset, .unset, .unset, .unset, .unset, .unset, .unset, .unset, .unset, .unset, .unset] [(.int xa)])) rfl (by rw [hml]; rfl) (rest := []) pd_5 rfl rfl (by show 2 * 0 + _ ≤ _; exact Nat.le_of_eq rfl) (hb hby at_1)
  obtain ⟨rfl, rfl, e99⟩ := hQ99
  rw [List.append_nil] at X99
  refine ownEnds.law st99 ?_
  rw [← e_w0]
  show ownEnds _ _ _ _ (T99.setTop (mkF m 4 #[.val (.int xa), .val (.int xb), .val (.long s0), .second, .val (.long s1), .second, .val (.long s2), .second, .val (.long s3), .second, .unset, .unset, .unset, .unset, .unset, .unset, .unset, .unset, .unset, .unset, .unset, .unset, .unset, .unset, .unset, .unset, .unset, .unset] [(.int w0)]))
  refine ownEnds.law (fun t k => XS.istore X99.here hx rfl (hb hby at_4) rfl (l' := #[.val (.int xa), .val (.int xb), .val (.long s0), .second, .val (.long s1), .second, .val (.long s2), .second, .val (.long s3), .second, .val (.int w0), .unset, .unset, .unset, .unset, .unset, .unset, .unset, .unset, .unset, .unset, .unset, .unset, .unset, .unset, .unset, .unset, .unset]) rfl (XS.iloadN X99.here hx rfl (hb hby at_6) rfl (XS.iconst X99.here hx rfl (hb hby at_7) (XS.iand X99.here hx rfl (hb hby at_8) rfl k)))) ?_
  show ownEnds _ _ _ _ (T99.setTop (mkF m 9 #[.val (.int xa), .val (.int xb), .val (.long s0), .second, .val (.long s1), .second, .val (.long s2), .second, .val (.long s3), .second, .val (.int w0), .unset, .unset, .unset, .unset, .unset, .unset, .unset, .unset, .unset, .unset, .unset, .unset, .unset, .unset, .unset, .unset, .unset] [(.int (xb &&& (1 : Int32)))]))
  by_cases hc9 : (xb &&& (1 : Int32)) = (0 : Int32)
  · refine ownEnds.law (fun t => XS.ifYes X99.here hx rfl (pc0 := 9) (pc' := 17) rfl (hb hby at_9) rfl ((if0 _ _).trans (teq hc9).1) (by decide) (by decide)) ?_
    show ownEnds _ _ _ _ (T99.setTop (mkF m 17 #[.val (.int xa), .val (.int xb), .val (.long s0), .second, .val (.long s1), .second, .val (.long s2), .second, .val (.long s3), .second, .val (.int w0), .unset, .unset, .unset, .unset, .unset, .unset, .unset, .unset, .unset, .unset, .unset, .unset, .unset, .unset, .unset, .unset, .unset] []))
    refine ownEnds.law (fun t k => XS.iloadN X99.here hx rfl (hb hby at_17) rfl (XS.bipush X99.here hx rfl (hb hby at_18) (XS.iushr X99.here hx rfl (hb hby at_20) rfl k))) ?_
    show ownEnds _ _ _ _ (T99.setTop (mkF m 21 #[.val (.int xa), .val (.int xb), .val (.long s0), .second, .val (.long s1), .second, .val (.long s2), .second, .val (.long s3), .second, .val (.int w0), .unset, .unset, .unset, .unset, .unset, .unset, .unset, .unset, .unset, .unset, .unset, .unset, .unset, .unset, .unset, .unset, .unset] [(.int ((xa.toUInt32 >>> ((6 : Int32) &&& 31).toUInt32).toInt32))]))
    obtain ⟨v100, T100, L100, X100, hQ100, st100⟩ := ownCallS X99 hx hZ hown (y := (⟨"com/example/libreach/libreach/engine/StateLayoutUnpackPinLaw", "width", "(I)I"⟩ : MethodName)) (as := [(.int ((xa.toUInt32 >>> ((6 : Int32) &&& 31).toUInt32).toInt32))]) (wd_0 hw) (wd_1 hw) (wd_2 hw) (wd_3 hw) (by decide) (rm1 l Z a0 hw ((xa.toUInt32 >>> ((6 : Int32) &&& 31).toUInt32).toInt32)  h0 n0 Z0 ) e99 0 (by decide) (by decide) (by decide) (by decide) (g := (mkF m 21 #[.val (.int xa), .val (.int xb), .val (.long s0), .second, .val (.long s1), .second, .val (.long s2), .second, .val (.long s3), .second, .val (.int w0), .unset, .unset, .unset, .unset, .unset, .unset, .unset, .unset, .unset, .unset, .unset, .unset, .unset, .unset, .unset, .unset, .unset] [(.int ((xa.toUInt32 >>> ((6 : Int32) &&& 31).toUInt32).toInt32))])) rfl (by rw [hml]; rfl) (rest := []) pd_5 rfl rfl (by show 2 * 0 + _ ≤ _; exact Nat.le_of_eq rfl) (hb hby at_21)
    obtain ⟨rfl, rfl, e100⟩ := hQ100
    rw [List.append_nil] at X100
    refine ownEnds.law st100 ?_
    exact JW1 _ _ X100 (Fr.nil n0) e100 _ (own_fw _)
  · refine ownEnds.law (fun t => XS.ifNo X99.here hx rfl (hb hby at_9) rfl ((if0 _ _).trans (feq hc9).1)) ?_
    show ownEnds _ _ _ _ (T99.setTop (mkF m 12 #[.val (.int xa), .val (.int xb), .val (.long s0), .second, .val (.long s1), .second, .val (.long s2), .second, .val (.long s3), .second, .val (.int w0), .unset, .unset, .unset, .unset, .unset, .unset, .unset, .unset, .unset, .unset, .unset, .unset, .unset, .unset, .unset, .unset, .unset] []))
    refine ownEnds.law (fun t k => XS.iload X99.here hx rfl (hb hby at_12) rfl (XS.goto X99.here hx rfl (pc0 := 14) (pc' := 24) rfl (hb hby at_14) (by decide) (by decide) k)) ?_
    show ownEnds _ _ _ _ (T99.setTop (mkF m 24 #[.val (.int xa), .val (.int xb), .val (.long s0), .second, .val (.long s1), .second, .val (.long s2), .second, .val (.long s3), .second, .val (.int w0), .unset, .unset, .unset, .unset, .unset, .unset, .unset, .unset, .unset, .unset, .unset, .unset, .unset, .unset, .unset, .unset, .unset] [(.int w0)]))
    exact JW1 _ _ X99 (Fr.nil n0) e99 _ (hr0)
set_option maxRecDepth 65536 in
set_option maxHeartbeats 40000000 in
theorem comes_1 {Post : Tables → Env → Array Value → State → Outcome → State → Prop} (hpost : ∀ tb e args s v u, (limb_1_1.after args s (.returned v) u = true ∧ limb_1_2.after args s (.returned v) u = true ∧ True) → FrameEnd s (.returned v) u (Jvm.fieldLocs frame_1_writes args s ++ Jvm.arrayLocs frame_1_arrays args s ++ Jvm.staticLocs frame_1_statics s) 32 192 → Post tb e args s (.returned v) u) :
    ArmFor flags0 classFile x code maxLocals ret World_1 tables_1 room_1 Calls_1 rest_1 Pre_1 Post := by
  intro l hfl _ _ p e ha hc hk s m args below hf hA hF happ hP
  obtain ⟨hcalls, hrest, hpre⟩ := hP
  obtain ⟨-, -, -, hnamed, -, -, -, hat⟩ := (Spec.applies_iff hf).mp happ
  obtain ⟨hg, hn⟩ := and_e (Cond.before_iff.mp (show (Jvm.Cond.and given_1 narrow_1).before args s = true from hpre))
  obtain ⟨gg1, gg2⟩ := and_e hg
  obtain ⟨gg3, gg4⟩ := and_e gg2
  obtain ⟨gg5, gg6⟩ := and_e gg4
  obtain ⟨gg7, gg8⟩ := and_e gg6
  obtain ⟨gg9, gg10⟩ := and_e gg8
  obtain ⟨gg11, gg12⟩ := and_e gg10
  obtain ⟨w0, w1, w2, w3, w4, w5, rfl⟩ : ∃ w0 w1 w2 w3 w4 w5 : Value, args = #[w0, w1, w2, w3, w4, w5] := by
    have hs : args.size = 6 := by simpa [Cond.value, given_1] using gg1
    obtain ⟨L⟩ := args
    match L, hs with
    | [w0, w1, w2, w3, w4, w5], _ => exact ⟨w0, w1, w2, w3, w4, w5, rfl⟩
  have hw := fun d (hd : d ∈ tables_1) => atoms_spec (ws := Jvm.Cond.code x code maxLocals ret :: tables_1) hat d (List.mem_cons_of_mem _ hd)
  have hfit : Fit s := fun {y c} hc i hi => by
    obtain ⟨ha, rfl⟩ := Array.getElem?_eq_some_iff.mp hc
    have q := List.all_eq_true.mp ((Array.all_eq_true_iff_forall_mem.mp hF) _ (Array.getElem_mem ha)) i (List.mem_range.mpr hi)
    simpa [Array.getElem?_eq_getElem hi] using q
  obtain ⟨i0, ei0⟩ := is_v gg3
  obtain rfl : w0 = (.int i0) := Option.some.inj ei0
  obtain ⟨i1, ei1⟩ := is_v gg5
  obtain rfl : w1 = (.int i1) := Option.some.inj ei1
  obtain ⟨i2, ei2⟩ := isL_v gg7
  obtain rfl : w2 = (.long i2) := Option.some.inj ei2
  obtain ⟨i3, ei3⟩ := isL_v gg9
  obtain rfl : w3 = (.long i3) := Option.some.inj ei3
  obtain ⟨i4, ei4⟩ := isL_v gg11
  obtain rfl : w4 = (.long i4) := Option.some.inj ei4
  obtain ⟨i5, ei5⟩ := isL_v gg12
  obtain rfl : w5 = (.long i5) := Option.some.inj ei5
  obtain ⟨n, o, h1, h2, h3, _, L, rfl, ⟨rfl, N⟩, hq⟩ := rm0 l s _ hw i0 i1 i2 i3 i4 i5  s.heap s.heap.size (Nat.le_refl _)  p e ha hc hk s m _ below hf ((Spec.applies_iff_loose hf).mp happ).1 ⟨rfl, State.Warmed39.refl s, rfl⟩ trivial
  refine ⟨n, _, h1, h2, h3, hpost _ _ _ _ _ _ ⟨Cond.after_iff.mpr rfl, Cond.after_iff.mpr (eq_i res_at (Term.int_eval (1)) rfl), trivial⟩ ⟨hq.1, hq.2.1, (hq.2.2.sift fun y hy => Or.inr (N y hy)).mono (by decide) (by decide)⟩⟩
theorem main_1_1 : Claimed_1_1 := comes_1 fun _ _ _ _ _ _ h hF => ⟨h.1, hF⟩
theorem main_1_2 : Claimed_1_2 := comes_1 fun _ _ _ _ _ _ h hF => ⟨h.2.1, hF⟩
end Jvm.Pilot.@@N@@
namespace Jvm.Pilot.@@N@@
open Jvm Jvm.ClassFile Sem Op Lib Jvm.Free Jvm.Stand Jvm.Pilot.@@N@@.Jvm.D
/-! MADE BY PROGRAM (witnessworld.py) out of the Statement's table words and the real class files: 14 classes; the members and pool entries that the words name. The judged class is class 1, her method 1. -/
namespace start1
open Jvm.ClassFile
def u (s : String) : CpInfo := .utf8 (stringToUtf16 s)
/-- a pool by its gaps: so many unusable entries, then the entry; so many at the end -/
def gap : Nat → List CpInfo → List CpInfo
  | 0, r => r
  | n + 1, r => .unusable :: gap n r
def poolList (es : List (Nat × CpInfo)) (last : Nat) : List CpInfo := es.foldr (fun e r => gap e.1 (e.2 :: r)) (gap last [])
def pool (es : List (Nat × CpInfo)) (last : Nat) : Array CpInfo := ⟨poolList es last⟩
def fileOf (pool : Array CpInfo) (this : Nat) (attrs : Array Attribute := #[]) (ms : Array MethodInfo := #[]) (fl : Nat := 33) (sup : Nat := 0) (ifs : Array Nat := #[]) (fds : Array FieldInfo := #[]) : ClassFile where
  minorVersion := 0
  majorVersion := 65
  constantPool := pool
  accessFlags := fl
  thisClass := this
  superClass := sup
  interfaces := ifs
  fields := fds
  methods := ms
  attributes := attrs
def plain (name : String) (sup : Option ClassId) : Class where
  name := name
  kind := .ordinary
  loader := none
  accessFlags := 33
  super := sup
  interfaces := #[]
  cf := none
  fields := #[]
  methods := #[]
  instanceTypes := #[]
  staticTypes := #[]
  resolved := #[]
  callSites := []
  init := .initialized
  statics := none
  mirror := none

def pool0 : Array CpInfo := pool [(5, u "<init>"), (0, u "()V"), (1, .class_ 10), (1, u "java/lang/Object"), (85, u "clone"), (0, u "()Ljava/lang/Object;")] 26

def k0c0 : Code := { maxStack := 0, maxLocals := 1, code := object_method_1_code, exceptionTable := #[], attributes := #[] }
def k0m0 : Method := { name := "<init>", desc := "()V", sig := { parameters := [], returnType := none }, accessFlags := 1, code := some k0c0 }
def k0m1 : Method := { name := "clone", desc := "()Ljava/lang/Object;", sig := { parameters := [], returnType := some (.object "java/lang/Object") }, accessFlags := 260, code := none }
/-- java/lang/Object -/
def k0 : Class := { plain "java/lang/Object" none with
  accessFlags := 33
  interfaces := #[]
  cf := some (fileOf pool0 8 #[] #[{ accessFlags := 1, nameIndex := 5, descriptorIndex := 6, attributes := #[] }, { accessFlags := 260, nameIndex := 96, descriptorIndex := 97, attributes := #[] }] 33 0 #[] #[])
  fields := #[]
  methods := #[k0m0, k0m1]
  instanceTypes := #[]
  staticTypes := #[]
  resolved := Array.replicate 124 none
  statics := none }

def pool1 : Array CpInfo := pool [(2, .class_ 4), (1, u "java/lang/Object"), (0, u "<init>"), (0, u "()V"), (0, .methodref 8 9), (0, .class_ 10), (0, .nameAndType 11 12), (0, u "com/example/libreach/libreach/engine/StateLayoutUnpackPinLaw"), (0, u "width"), (0, u "(I)I"), (0, .class_ 14), (0, u "com/example/libreach/libreach/engine/StateLayout"), (0, .methodref 13 16), (0, .nameAndType 5 17), (0, u "([I)V"), (0, .long 18446744073709551615), (1, .long 18446744073709551609), (1, .methodref 13 23), (0, .nameAndType 24 25), (0, u "unpack"), (0, u "([JI[J)V"), (0, .methodref 8 27), (0, .nameAndType 28 29), (0, u "field"), (0, u "(JII)J"), (2, u "law"), (0, u "(IIJJJJ)Z")] 5

def k1m0 : Method := { name := "<init>", desc := "()V", sig := { parameters := [], returnType := none }, accessFlags := 1, code := none }
def k1c1 : Code := { maxStack := 6, maxLocals := 28, code := code, exceptionTable := #[], attributes := #[] }
def k1m1 : Method := { name := "law", desc := "(IIJJJJ)Z", sig := { parameters := [.int, .int, .long, .long, .long, .long], returnType := some .boolean }, accessFlags := 9, code := some k1c1 }
def k1c2 : Code := { maxStack := 2, maxLocals := 2, code := method_3_code, exceptionTable := #[], attributes := #[] }
def k1m2 : Method := { name := "width", desc := "(I)I", sig := { parameters := [.int], returnType := some .int }, accessFlags := 10, code := some k1c2 }
def k1c3 : Code := { maxStack := 6, maxLocals := 4, code := method_4_code, exceptionTable := #[], attributes := #[] }
def k1m3 : Method := { name := "field", desc := "(JII)J", sig := { parameters := [.long, .int, .int], returnType := some .long }, accessFlags := 10, code := some k1c3 }
/-- com/example/libreach/libreach/engine/StateLayoutUnpackPinLaw -/
def k1 : Class := { plain "com/example/libreach/libreach/engine/StateLayoutUnpackPinLaw" (some 0) with
  accessFlags := 49
  interfaces := #[]
  cf := some (fileOf pool1 8 #[] #[{ accessFlags := 1, nameIndex := 5, descriptorIndex := 6, attributes := #[] }, { accessFlags := 9, nameIndex := 32, descriptorIndex := 33, attributes := #[] }, { accessFlags := 10, nameIndex := 11, descriptorIndex := 12, attributes := #[] }, { accessFlags := 10, nameIndex := 28, descriptorIndex := 29, attributes := #[] }] 49 2 #[] #[])
  fields := #[]
  methods := #[k1m0, k1m1, k1m2, k1m3]
  instanceTypes := #[]
  staticTypes := #[]
  resolved := Array.replicate 39 none
  statics := none }

def pool2 : Array CpInfo := pool [(1, .methodref 2 3), (0, .class_ 4), (0, .nameAndType 5 6), (0, u "java/lang/Object"), (0, u "<init>"), (0, u "()V"), (0, .methodref 8 9), (0, .class_ 10), (0, .nameAndType 11 12), (0, u "[I"), (0, u "clone"), (0, u "()Ljava/lang/Object;"), (0, .fieldref 14 15), (0, .class_ 16), (0, .nameAndType 17 10), (0, u "com/example/libreach/libreach/engine/StateLayout"), (0, u "widths"), (0, .fieldref 14 19), (0, .nameAndType 20 10), (0, u "word"), (0, .fieldref 14 22), (0, .nameAndType 23 10), (0, u "shift"), (0, .fieldref 14 25), (0, .nameAndType 26 27), (0, u "largest"), (0, u "[J"), (2, .long 18446744073709551615), (1, .fieldref 14 33), (0, .nameAndType 34 35), (0, u "words"), (0, u "I"), (0, .methodref 37 38), (0, .class_ 39), (0, .nameAndType 40 41), (0, u "java/util/Arrays"), (0, u "copyOf"), (0, u "([II)[I"), (0, .fieldref 14 43), (0, .nameAndType 44 10), (0, u "runs"), (59, u "([I)V"), (17, u "MAX_WIDTH"), (12, u "unpack"), (0, u "([JI[J)V")] 6

def k2c0 : Code := { maxStack := 7, maxLocals := 7, code := prog_17_method_1_code, exceptionTable := #[], attributes := #[] }
def k2m0 : Method := { name := "<init>", desc := "([I)V", sig := { parameters := [(.array .int)], returnType := none }, accessFlags := 0, code := some k2c0 }
def k2c1 : Code := { maxStack := 6, maxLocals := 12, code := prog_17_method_8_code, exceptionTable := #[], attributes := #[] }
def k2m1 : Method := { name := "unpack", desc := "([JI[J)V", sig := { parameters := [(.array .long), .int, (.array .long)], returnType := none }, accessFlags := 0, code := some k2c1 }
/-- com/example/libreach/libreach/engine/StateLayout -/
def k2 : Class := { plain "com/example/libreach/libreach/engine/StateLayout" (some 0) with
  accessFlags := 32
  interfaces := #[]
  cf := some (fileOf pool2 14 #[] #[{ accessFlags := 0, nameIndex := 5, descriptorIndex := 104, attributes := #[] }, { accessFlags := 0, nameIndex := 135, descriptorIndex := 136, attributes := #[] }] 32 2 #[] #[{ accessFlags := 26, nameIndex := 122, descriptorIndex := 35, attributes := #[] }, { accessFlags := 18, nameIndex := 17, descriptorIndex := 10, attributes := #[] }, { accessFlags := 18, nameIndex := 20, descriptorIndex := 10, attributes := #[] }, { accessFlags := 18, nameIndex := 23, descriptorIndex := 10, attributes := #[] }, { accessFlags := 18, nameIndex := 26, descriptorIndex := 27, attributes := #[] }, { accessFlags := 18, nameIndex := 34, descriptorIndex := 35, attributes := #[] }, { accessFlags := 18, nameIndex := 44, descriptorIndex := 10, attributes := #[] }])
  fields := #[{ name := "MAX_WIDTH", type := .int, accessFlags := 26, slot := 0, constantValue := 0 }, { name := "widths", type := (.array .int), accessFlags := 18, slot := 0, constantValue := 0 }, { name := "word", type := (.array .int), accessFlags := 18, slot := 1, constantValue := 0 }, { name := "shift", type := (.array .int), accessFlags := 18, slot := 2, constantValue := 0 }, { name := "largest", type := (.array .long), accessFlags := 18, slot := 3, constantValue := 0 }, { name := "words", type := .int, accessFlags := 18, slot := 4, constantValue := 0 }, { name := "runs", type := (.array .int), accessFlags := 18, slot := 5, constantValue := 0 }]
  methods := #[k2m0, k2m1]
  instanceTypes := #[(.array .int), (.array .int), (.array .int), (.array .long), .int, (.array .int)]
  staticTypes := #[.int]
  resolved := Array.replicate 143 none
  statics := none }

def pool3 : Array CpInfo := pool [(1, .class_ 2), (0, u "java/lang/Cloneable"), (0, .class_ 4), (0, u "java/lang/Object")] 2

/-- java/lang/Cloneable -/
def k3 : Class := { plain "java/lang/Cloneable" (some 0) with
  accessFlags := 1537
  interfaces := #[]
  cf := some (fileOf pool3 1 #[] #[] 1537 3 #[] #[])
  fields := #[]
  methods := #[]
  instanceTypes := #[]
  staticTypes := #[]
  resolved := Array.replicate 7 none
  statics := none }

def pool4 : Array CpInfo := pool [(2, .class_ 4), (1, u "java/lang/Object"), (0, u "<init>"), (0, u "()V"), (7, .class_ 16), (1, u "java/util/Arrays"), (57, .class_ 76), (1, u "java/util/Arrays$NaturalOrder"), (32, u "()Ljava/lang/Object;"), (3, .class_ 115), (1, u "java/util/Arrays$LegacyMergeSort"), (1, u "Z"), (10, .nameAndType 129 109), (0, u "clone"), (20, .methodref 151 152), (0, .class_ 153), (0, .nameAndType 154 155), (0, u "java/lang/System"), (0, u "arraycopy"), (0, u "(Ljava/lang/Object;ILjava/lang/Object;II)V"), (146, u "copyOf"), (1, .methodref 305 306), (0, .class_ 307), (0, .nameAndType 308 309), (0, u "java/lang/Math"), (0, u "min"), (0, u "(II)I"), (6, .methodref 317 128), (0, .class_ 318), (0, u "[I"), (56, .class_ 376), (0, u "java/util/Arrays$ArrayList"), (68, u "$assertionsDisabled"), (269, u "MIN_ARRAY_SORT_GRAN"), (0, u "I"), (2, u "INSERTIONSORT_THRESHOLD"), (151, u "([II)[I"), (103, .class_ 976), (0, u "java/util/Arrays$ArrayItr")] 52

def k4m0 : Method := { name := "<init>", desc := "()V", sig := { parameters := [], returnType := none }, accessFlags := 2, code := none }
def k4c1 : Code := { maxStack := 6, maxLocals := 3, code := jdk_65_method_123_code, exceptionTable := #[], attributes := #[] }
def k4m1 : Method := { name := "copyOf", desc := "([II)[I", sig := { parameters := [(.array .int), .int], returnType := some (.array .int) }, accessFlags := 9, code := some k4c1 }
/-- java/util/Arrays -/
def k4 : Class := { plain "java/util/Arrays" (some 0) with
  accessFlags := 49
  interfaces := #[]
  cf := some (fileOf pool4 14 #[.nestMembers #[975, 375, 113, 74]] #[{ accessFlags := 2, nameIndex := 5, descriptorIndex := 6, attributes := #[] }, { accessFlags := 9, nameIndex := 302, descriptorIndex := 871, attributes := #[] }] 49 2 #[] #[{ accessFlags := 26, nameIndex := 715, descriptorIndex := 716, attributes := #[] }, { accessFlags := 26, nameIndex := 719, descriptorIndex := 716, attributes := #[] }, { accessFlags := 4120, nameIndex := 445, descriptorIndex := 117, attributes := #[] }])
  fields := #[{ name := "MIN_ARRAY_SORT_GRAN", type := .int, accessFlags := 26, slot := 0, constantValue := 0 }, { name := "INSERTIONSORT_THRESHOLD", type := .int, accessFlags := 26, slot := 1, constantValue := 0 }, { name := "$assertionsDisabled", type := .boolean, accessFlags := 4120, slot := 2, constantValue := 0 }]
  methods := #[k4m0, k4m1]
  instanceTypes := #[]
  staticTypes := #[.int, .int, .boolean]
  resolved := Array.replicate 1029 none
  statics := none }

def pool5 : Array CpInfo := pool [(1, .class_ 2), (0, u "java/lang/Math"), (1, .class_ 6), (1, u "java/lang/Object"), (0, u "<init>"), (0, u "()V"), (89, .class_ 100), (1, u "java/lang/Math$RandomNumberGeneratorHolder"), (71, u "negativeZeroFloatBits"), (0, u "J"), (2, u "negativeZeroDoubleBits"), (24, u "min"), (43, u "$assertionsDisabled"), (0, u "Z"), (88, u "(II)I"), (2, u "twoToTheDoubleScaleDown"), (0, u "D"), (4, u "twoToTheDoubleScaleUp"), (9, u "E"), (3, u "PI"), (2, u "TAU"), (2, u "DEGREES_TO_RADIANS"), (0, u "RADIANS_TO_DEGREES")] 94

def k5m0 : Method := { name := "<init>", desc := "()V", sig := { parameters := [], returnType := none }, accessFlags := 2, code := none }
def k5c1 : Code := { maxStack := 2, maxLocals := 2, code := jdk_29_method_69_code, exceptionTable := #[], attributes := #[] }
def k5m1 : Method := { name := "min", desc := "(II)I", sig := { parameters := [.int, .int], returnType := some .int }, accessFlags := 9, code := some k5c1 }
/-- java/lang/Math -/
def k5 : Class := { plain "java/lang/Math" (some 0) with
  accessFlags := 49
  interfaces := #[]
  cf := some (fileOf pool5 1 #[.nestMembers #[98]] #[{ accessFlags := 2, nameIndex := 7, descriptorIndex := 8, attributes := #[] }, { accessFlags := 9, nameIndex := 201, descriptorIndex := 335, attributes := #[] }] 49 4 #[] #[{ accessFlags := 25, nameIndex := 354, descriptorIndex := 339, attributes := #[] }, { accessFlags := 25, nameIndex := 358, descriptorIndex := 339, attributes := #[] }, { accessFlags := 25, nameIndex := 361, descriptorIndex := 339, attributes := #[] }, { accessFlags := 26, nameIndex := 364, descriptorIndex := 339, attributes := #[] }, { accessFlags := 26, nameIndex := 365, descriptorIndex := 339, attributes := #[] }, { accessFlags := 26, nameIndex := 172, descriptorIndex := 173, attributes := #[] }, { accessFlags := 26, nameIndex := 176, descriptorIndex := 173, attributes := #[] }, { accessFlags := 8, nameIndex := 344, descriptorIndex := 339, attributes := #[] }, { accessFlags := 8, nameIndex := 338, descriptorIndex := 339, attributes := #[] }, { accessFlags := 4120, nameIndex := 245, descriptorIndex := 246, attributes := #[] }])
  fields := #[{ name := "E", type := .double, accessFlags := 25, slot := 0, constantValue := 0 }, { name := "PI", type := .double, accessFlags := 25, slot := 1, constantValue := 0 }, { name := "TAU", type := .double, accessFlags := 25, slot := 2, constantValue := 0 }, { name := "DEGREES_TO_RADIANS", type := .double, accessFlags := 26, slot := 3, constantValue := 0 }, { name := "RADIANS_TO_DEGREES", type := .double, accessFlags := 26, slot := 4, constantValue := 0 }, { name := "negativeZeroFloatBits", type := .long, accessFlags := 26, slot := 5, constantValue := 0 }, { name := "negativeZeroDoubleBits", type := .long, accessFlags := 26, slot := 6, constantValue := 0 }, { name := "twoToTheDoubleScaleUp", type := .double, accessFlags := 8, slot := 7, constantValue := 0 }, { name := "twoToTheDoubleScaleDown", type := .double, accessFlags := 8, slot := 8, constantValue := 0 }, { name := "$assertionsDisabled", type := .boolean, accessFlags := 4120, slot := 9, constantValue := 0 }]
  methods := #[k5m0, k5m1]
  instanceTypes := #[]
  staticTypes := #[.double, .double, .double, .double, .double, .long, .long, .double, .double, .boolean]
  resolved := Array.replicate 460 none
  statics := none }

def pool6 : Array CpInfo := pool [(2, .class_ 4), (1, u "java/lang/Object"), (0, u "<init>"), (0, u "()V"), (1, .class_ 10), (1, u "java/lang/System"), (0, u "allowSecurityManager"), (0, u "I"), (16, u "cons"), (0, u "Ljava/io/Console;"), (77, .class_ 110), (1, u "java/lang/System$CallersHolder"), (43, u "initialErrStream"), (0, u "Ljava/io/PrintStream;"), (19, u "security"), (0, u "Ljava/lang/SecurityManager;"), (31, .class_ 209), (0, u "java/lang/System$1"), (7, u "props"), (0, u "Ljava/util/Properties;"), (2, u "lineSeparator"), (0, u "Ljava/lang/String;"), (96, .class_ 321), (1, u "java/lang/System$LoggerFinder"), (5, .class_ 328), (0, u "java/lang/System$Logger"), (67, u "err"), (2, u "out"), (91, u "notSupportedJnuEncoding"), (15, u "in"), (17, u "initialIn"), (0, u "Ljava/io/InputStream;"), (35, u "bootLayer"), (0, u "Ljava/lang/ModuleLayer;"), (99, .class_ 664), (0, u "java/lang/System$2"), (9, u "NEVER"), (2, u "MAYBE"), (49, u "arraycopy"), (0, u "(Ljava/lang/Object;ILjava/lang/Object;II)V"), (72, .class_ 802), (0, u "java/lang/System$Logger$Level")] 31

def k6m0 : Method := { name := "<init>", desc := "()V", sig := { parameters := [], returnType := none }, accessFlags := 2, code := none }
def k6m1 : Method := { name := "arraycopy", desc := "(Ljava/lang/Object;ILjava/lang/Object;II)V", sig := { parameters := [(.object "java/lang/Object"), .int, (.object "java/lang/Object"), .int, .int], returnType := none }, accessFlags := 265, code := none }
/-- java/lang/System -/
def k6 : Class := { plain "java/lang/System" (some 0) with
  accessFlags := 49
  interfaces := #[]
  cf := some (fileOf pool6 8 #[.nestMembers #[319, 327, 801, 108, 663, 208]] #[{ accessFlags := 2, nameIndex := 5, descriptorIndex := 6, attributes := #[] }, { accessFlags := 265, nameIndex := 727, descriptorIndex := 728, attributes := #[] }] 49 2 #[] #[{ accessFlags := 25, nameIndex := 507, descriptorIndex := 526, attributes := #[] }, { accessFlags := 25, nameIndex := 399, descriptorIndex := 155, attributes := #[] }, { accessFlags := 25, nameIndex := 396, descriptorIndex := 155, attributes := #[] }, { accessFlags := 10, nameIndex := 525, descriptorIndex := 526, attributes := #[] }, { accessFlags := 26, nameIndex := 674, descriptorIndex := 12, attributes := #[] }, { accessFlags := 26, nameIndex := 677, descriptorIndex := 12, attributes := #[] }, { accessFlags := 10, nameIndex := 11, descriptorIndex := 12, attributes := #[] }, { accessFlags := 74, nameIndex := 175, descriptorIndex := 176, attributes := #[] }, { accessFlags := 10, nameIndex := 491, descriptorIndex := 222, attributes := #[] }, { accessFlags := 74, nameIndex := 29, descriptorIndex := 30, attributes := #[] }, { accessFlags := 74, nameIndex := 154, descriptorIndex := 155, attributes := #[] }, { accessFlags := 10, nameIndex := 217, descriptorIndex := 218, attributes := #[] }, { accessFlags := 10, nameIndex := 221, descriptorIndex := 222, attributes := #[] }, { accessFlags := 8, nameIndex := 562, descriptorIndex := 563, attributes := #[] }])
  fields := #[{ name := "in", type := (.object "java/io/InputStream"), accessFlags := 25, slot := 0, constantValue := 0 }, { name := "out", type := (.object "java/io/PrintStream"), accessFlags := 25, slot := 1, constantValue := 0 }, { name := "err", type := (.object "java/io/PrintStream"), accessFlags := 25, slot := 2, constantValue := 0 }, { name := "initialIn", type := (.object "java/io/InputStream"), accessFlags := 10, slot := 3, constantValue := 0 }, { name := "NEVER", type := .int, accessFlags := 26, slot := 4, constantValue := 0 }, { name := "MAYBE", type := .int, accessFlags := 26, slot := 5, constantValue := 0 }, { name := "allowSecurityManager", type := .int, accessFlags := 10, slot := 6, constantValue := 0 }, { name := "security", type := (.object "java/lang/SecurityManager"), accessFlags := 74, slot := 7, constantValue := 0 }, { name := "notSupportedJnuEncoding", type := (.object "java/lang/String"), accessFlags := 10, slot := 8, constantValue := 0 }, { name := "cons", type := (.object "java/io/Console"), accessFlags := 74, slot := 9, constantValue := 0 }, { name := "initialErrStream", type := (.object "java/io/PrintStream"), accessFlags := 74, slot := 10, constantValue := 0 }, { name := "props", type := (.object "java/util/Properties"), accessFlags := 10, slot := 11, constantValue := 0 }, { name := "lineSeparator", type := (.object "java/lang/String"), accessFlags := 10, slot := 12, constantValue := 0 }, { name := "bootLayer", type := (.object "java/lang/ModuleLayer"), accessFlags := 8, slot := 13, constantValue := 0 }]
  methods := #[k6m0, k6m1]
  instanceTypes := #[]
  staticTypes := #[(.object "java/io/InputStream"), (.object "java/io/PrintStream"), (.object "java/io/PrintStream"), (.object "java/io/InputStream"), .int, .int, .int, (.object "java/lang/SecurityManager"), (.object "java/lang/String"), (.object "java/io/Console"), (.object "java/io/PrintStream"), (.object "java/util/Properties"), (.object "java/lang/String"), (.object "java/lang/ModuleLayer")]
  resolved := Array.replicate 834 none
  statics := none }

def pool7 : Array CpInfo := pool [(1, u "java/io/Serializable"), (0, .class_ 1), (0, u "java/lang/Object"), (0, .class_ 3)] 3

/-- java/io/Serializable -/
def k7 : Class := { plain "java/io/Serializable" (some 0) with
  accessFlags := 1537
  interfaces := #[]
  cf := some (fileOf pool7 2 #[] #[] 1537 4 #[] #[])
  fields := #[]
  methods := #[]
  instanceTypes := #[]
  staticTypes := #[]
  resolved := Array.replicate 8 none
  statics := none }

/-- the primitive byte -/
def k8 : Class := { plain "byte" none with kind := .primitive 'B', accessFlags := 0x411 }
/-- [B -/
def k9 : Class := { plain "[B" (some 0) with kind := .array 8 .byte, interfaces := #[3, 7], accessFlags := 1041 }

/-- the primitive int -/
def k10 : Class := { plain "int" none with kind := .primitive 'I', accessFlags := 0x411 }
/-- [I -/
def k11 : Class := { plain "[I" (some 0) with kind := .array 10 .int, interfaces := #[3, 7], accessFlags := 1041 }

/-- the primitive long -/
def k12 : Class := { plain "long" none with kind := .primitive 'J', accessFlags := 0x411 }
/-- [J -/
def k13 : Class := { plain "[J" (some 0) with kind := .array 12 .long, interfaces := #[3, 7], accessFlags := 1041 }

def heap : Heap := #[]
def classes : Array Class := #[k0, k1, k2, k3, k4, k5, k6, k7, k8, k9, k10, k11, k12, k13]
def interned : List (Array UInt16 × Addr) := []
def slotsUsed : Nat := 0
def theMethod : MethodId := ⟨1, 1⟩
def args0 : Array Value := #[.int 5, .int 6, .long 1, .long 2, .long 3, .long 4]
def aboutOver (below : List Frame) : State where
  vm := { classes := classes, interned := interned.toArray }
  heap := heap
  slotsUsed := slotsUsed
  threads := #[{ frames := .invoking theMethod args0 :: below }]
def below0 : List Frame := [.native { method := ⟨0, 0⟩, args := #[] }]
def about1 : State := aboutOver below0
def p0 : Program := .bare "" "" ""
def e0 : Env := launch0.env 0 0 0
theorem w_frames : about1.frames = Frame.invoking theMethod args0 :: below0 := rfl
set_option maxRecDepth 65536 in
theorem w_args : argsFit about1.vm theMethod args0 = true := by decide +kernel
set_option maxRecDepth 65536 in
theorem w_heap : heapFits about1 = true := by decide +kernel
set_option maxRecDepth 65536 in
theorem w_runnable : about1.curStatus? = some .runnable := by decide +kernel
set_option maxRecDepth 65536 in
theorem w_alone : about1.alone = true := by decide +kernel
set_option maxRecDepth 65536 in
theorem w_named : about1.methodNamed? x = some theMethod := by decide +kernel
set_option maxRecDepth 65536 in
theorem w_hears : about1.hears theMethod below0 = true := by decide +kernel
set_option maxRecDepth 65536 in
theorem w_ripe : about1.ripe theMethod args0 below0 = true := by decide +kernel
theorem w_running : about1.status = .running := rfl
set_option maxRecDepth 65536 in
theorem w_room : about1.hasRoom e0.platform room_1 = true :=
  launch0.hasRoom_least _ room_1 (by decide +kernel) (by decide +kernel) (by decide +kernel) (by decide +kernel) (by decide +kernel) (by decide +kernel)
theorem allAtoms_all (ts : List Jvm.Cond) (a : Array Jvm.Value) (st : Jvm.State) : (allAtoms ts).before a st = ts.all (fun c => c.before a st) := by
  induction ts with
  | nil => rfl
  | cons c t ih =>
    show (Jvm.Cond.and c (allAtoms t)).before a st = _
    rw [Jvm.Cond.before_and, ih, List.all_cons]
def words1 : List Jvm.Cond := Jvm.Cond.code x code maxLocals ret :: tables_1
/-- a 'code' word, met by the world's own term for the bytes: nothing is compared byte by byte -/
theorem code_word {y : MethodName} {bytes : ByteArray} {mx : Nat} {rt : Option FieldType} {a : Array Value} {s : State} {m : MethodId} {meth : Method} {c : Code} (h1 : s.methodNamed? y = some m) (h2 : s.vm.method? m = some meth) (h3 : meth.code = some c) (h4 : c.code = bytes)
    (h5 : (c.maxLocals == mx && c.exceptionTable.isEmpty && decide (c.maxStack ≤ mostOperands) && decide (meth.sig.returnType = rt) && !meth.locks && decide (parseMethodDescriptor y.desc = some meth.sig)) = true) : (Jvm.Cond.code y bytes mx rt).before a s = true := by
  simp only [Bool.and_eq_true, beq_iff_eq, Bool.not_eq_true', decide_eq_true_eq] at h5
  obtain ⟨⟨⟨⟨⟨g1, g2⟩, g3⟩, g4⟩, g5⟩, g6⟩ := h5
  simp [Cond.before, Cond.holds, Cond.value, h1, h2, h3, h4, g1, g2, g3, g4, g5, g6]
def isCode : Jvm.Cond → Bool
  | .code _ _ _ _ => true
  | _ => false
theorem all_split {L : List Jvm.Cond} {P : Jvm.Cond → Bool} (h1 : L.all (fun c => isCode c || P c) = true) (h2 : ∀ c ∈ L.filter isCode, P c = true) : L.all P = true := by
  refine List.all_eq_true.mpr fun c hc => ?_
  have h := List.all_eq_true.mp h1 c hc
  rcases Bool.eq_false_or_eq_true (isCode c) with hi | hi
  · exact h2 c (List.mem_filter.mpr ⟨hc, hi⟩)
  · simpa [hi] using h
set_option maxRecDepth 65536 in
theorem w_c0 : (Jvm.Cond.code x code maxLocals ret).before args0 about1 = true := code_word (m := ⟨1, 1⟩) (meth := k1m1) (c := k1c1) (by decide +kernel) rfl rfl rfl (by decide +kernel)
set_option maxRecDepth 65536 in
theorem w_c1 : (Jvm.Cond.code ({ cls := "com/example/libreach/libreach/engine/StateLayoutUnpackPinLaw", name := "width", desc := "(I)I" } : Jvm.MethodName) method_3_code (2 : Nat) (Option.some Jvm.ClassFile.FieldType.int)).before args0 about1 = true := code_word (m := ⟨1, 2⟩) (meth := k1m2) (c := k1c2) (by decide +kernel) rfl rfl rfl (by decide +kernel)
set_option maxRecDepth 65536 in
theorem w_c2 : (Jvm.Cond.code ({ cls := "com/example/libreach/libreach/engine/StateLayout", name := "<init>", desc := "([I)V" } : Jvm.MethodName) prog_17_method_1_code (7 : Nat) (Option.none : Option Jvm.ClassFile.FieldType)).before args0 about1 = true := code_word (m := ⟨2, 0⟩) (meth := k2m0) (c := k2c0) (by decide +kernel) rfl rfl rfl (by decide +kernel)
set_option maxRecDepth 65536 in
theorem w_c3 : (Jvm.Cond.code ({ cls := "java/lang/Object", name := "<init>", desc := "()V" } : Jvm.MethodName) object_method_1_code (1 : Nat) (Option.none : Option Jvm.ClassFile.FieldType)).before args0 about1 = true := code_word (m := ⟨0, 0⟩) (meth := k0m0) (c := k0c0) (by decide +kernel) rfl rfl rfl (by decide +kernel)
set_option maxRecDepth 65536 in
theorem w_c4 : (Jvm.Cond.code ({ cls := "java/util/Arrays", name := "copyOf", desc := "([II)[I" } : Jvm.MethodName) jdk_65_method_123_code (3 : Nat) (Option.some (Jvm.ClassFile.FieldType.array Jvm.ClassFile.FieldType.int))).before args0 about1 = true := code_word (m := ⟨4, 1⟩) (meth := k4m1) (c := k4c1) (by decide +kernel) rfl rfl rfl (by decide +kernel)
set_option maxRecDepth 65536 in
theorem w_c5 : (Jvm.Cond.code ({ cls := "com/example/libreach/libreach/engine/StateLayout", name := "unpack", desc := "([JI[J)V" } : Jvm.MethodName) prog_17_method_8_code (12 : Nat) (Option.none : Option Jvm.ClassFile.FieldType)).before args0 about1 = true := code_word (m := ⟨2, 1⟩) (meth := k2m1) (c := k2c1) (by decide +kernel) rfl rfl rfl (by decide +kernel)
set_option maxRecDepth 65536 in
theorem w_c6 : (Jvm.Cond.code ({ cls := "com/example/libreach/libreach/engine/StateLayoutUnpackPinLaw", name := "field", desc := "(JII)J" } : Jvm.MethodName) method_4_code (4 : Nat) (Option.some Jvm.ClassFile.FieldType.long)).before args0 about1 = true := code_word (m := ⟨1, 3⟩) (meth := k1m3) (c := k1c3) (by decide +kernel) rfl rfl rfl (by decide +kernel)
set_option maxRecDepth 65536 in
theorem w_c7 : (Jvm.Cond.code ({ cls := "java/lang/Math", name := "min", desc := "(II)I" } : Jvm.MethodName) jdk_29_method_69_code (2 : Nat) (Option.some Jvm.ClassFile.FieldType.int)).before args0 about1 = true := code_word (m := ⟨5, 1⟩) (meth := k5m1) (c := k5c1) (by decide +kernel) rfl rfl rfl (by decide +kernel)
def codes1 : List Jvm.Cond := [Jvm.Cond.code x code maxLocals ret, Jvm.Cond.code ({ cls := "com/example/libreach/libreach/engine/StateLayoutUnpackPinLaw", name := "width", desc := "(I)I" } : Jvm.MethodName) method_3_code (2 : Nat) (Option.some Jvm.ClassFile.FieldType.int), Jvm.Cond.code ({ cls := "com/example/libreach/libreach/engine/StateLayout", name := "<init>", desc := "([I)V" } : Jvm.MethodName) prog_17_method_1_code (7 : Nat) (Option.none : Option Jvm.ClassFile.FieldType), Jvm.Cond.code ({ cls := "java/lang/Object", name := "<init>", desc := "()V" } : Jvm.MethodName) object_method_1_code (1 : Nat) (Option.none : Option Jvm.ClassFile.FieldType), Jvm.Cond.code ({ cls := "java/util/Arrays", name := "copyOf", desc := "([II)[I" } : Jvm.MethodName) jdk_65_method_123_code (3 : Nat) (Option.some (Jvm.ClassFile.FieldType.array Jvm.ClassFile.FieldType.int)), Jvm.Cond.code ({ cls := "com/example/libreach/libreach/engine/StateLayout", name := "unpack", desc := "([JI[J)V" } : Jvm.MethodName) prog_17_method_8_code (12 : Nat) (Option.none : Option Jvm.ClassFile.FieldType), Jvm.Cond.code ({ cls := "com/example/libreach/libreach/engine/StateLayoutUnpackPinLaw", name := "field", desc := "(JII)J" } : Jvm.MethodName) method_4_code (4 : Nat) (Option.some Jvm.ClassFile.FieldType.long), Jvm.Cond.code ({ cls := "java/lang/Math", name := "min", desc := "(II)I" } : Jvm.MethodName) jdk_29_method_69_code (2 : Nat) (Option.some Jvm.ClassFile.FieldType.int)]
set_option maxRecDepth 65536 in
theorem codes_eq : words1.filter isCode = codes1 := rfl
theorem w_codes : ∀ c ∈ words1.filter isCode, c.before args0 about1 = true := by
  rw [codes_eq]
  intro c hc
  simp only [codes1, List.mem_cons, List.not_mem_nil, or_false] at hc
  rcases hc with rfl | rfl | rfl | rfl | rfl | rfl | rfl | rfl
  · exact w_c0
  · exact w_c1
  · exact w_c2
  · exact w_c3
  · exact w_c4
  · exact w_c5
  · exact w_c6
  · exact w_c7
set_option maxRecDepth 65536 in
theorem w_t1 : (words1.take 24).all (fun c => isCode c || c.before args0 about1) = true := by decide +kernel
set_option maxRecDepth 65536 in
theorem w_t2 : ((words1.drop 24).take 24).all (fun c => isCode c || c.before args0 about1) = true := by decide +kernel
set_option maxRecDepth 65536 in
theorem w_t3 : ((words1.drop 24).drop 24).all (fun c => isCode c || c.before args0 about1) = true := by decide +kernel
theorem w_tables : (allAtoms (Jvm.Cond.code x code maxLocals ret :: tables_1)).before args0 about1 = true := by
  rw [allAtoms_all]
  show words1.all (fun c => c.before args0 about1) = true
  refine all_split ?_ w_codes
  rw [← List.take_append_drop 24 words1, List.all_append, w_t1, ← List.take_append_drop 24 (words1.drop 24), List.all_append, w_t2, w_t3]
  rfl
set_option maxRecDepth 65536 in
theorem w_case : (Jvm.Cond.and given_1 narrow_1).before args0 about1 = true := by decide +kernel
theorem w_applies : (headSpec (Jvm.Cond.code x code maxLocals ret :: tables_1) room_1).applies x e0.platform about1 = true :=
  (Spec.applies_iff w_frames).mpr ⟨w_running, w_runnable, w_alone, w_named, w_hears, w_ripe, w_room, w_tables⟩
theorem atStart : AtStart classFile x code maxLocals ret World_1 tables_1 room_1 Calls_1 rest_1 Pre_1 launch0 p0 e0 about1 theMethod args0 below0 :=
  ⟨lists_1, trivial, launch0.admits_env _ _ _, launch0.least_env, fairChoices_fair.cas, fairChoices_fair.clock, w_frames, w_args, w_heap, w_applies, trivial, trivial, w_case⟩
end start1
theorem witness_1 : WitnessClaimed_1 := ⟨start1.p0, start1.e0, start1.about1, start1.theMethod, start1.args0, start1.below0, start1.atStart⟩
end Jvm.Pilot.@@N@@
