import JvmDerived
import JvmDerived.Pilot.@@N@@Statement
import JvmDerived.Pilot.@@N@@Code
set_option linter.unusedVariables false
set_option linter.unusedSimpArgs false
namespace Jvm.Pilot.@@N@@
open Jvm Jvm.ClassFile Sem Op Lib Jvm.Free Jvm.Stand Jvm.LawKit Jvm.RoadKit Bundle Jvm.Pilot.@@N@@.Jvm.D
def ownEnds (tb : Tables) (e : Env) (below : List Frame) (Φ : State → Outcome → Prop) (A : State) : Prop :=
  ∃ s₂ o, Steps tb e below A s₂ ∧ s₂.status = .running ∧ Ended s₂ below o ∧ Φ s₂ o
theorem ownEnds.law {tb : Tables} {e : Env} {below : List Frame} {Φ : State → Outcome → Prop} {A B : State} (k : ∀ t, Steps tb e below B t → Steps tb e below A t) (h : ownEnds tb e below Φ B) : ownEnds tb e below Φ A := by
  obtain ⟨s2, o, h1, h2⟩ := h
  exact ⟨s2, o, k _ h1, h2⟩
theorem ownEnds.tr {tb : Tables} {e : Env} {below : List Frame} {Φ : State → Outcome → Prop} {A B : State} (k : Steps tb e below A B) (h : ownEnds tb e below Φ B) : ownEnds tb e below Φ A := by
  obtain ⟨s2, o, h1, h2⟩ := h
  exact ⟨s2, o, k.trans h1, h2⟩
theorem ownEnds.cast {tb : Tables} {e : Env} {below : List Frame} {Φ : State → Outcome → Prop} {T : State} {g g' : JFrame} (q : g = g') (h : ownEnds tb e below Φ (T.setTop g')) : ownEnds tb e below Φ (T.setTop g) := q ▸ h
def ownPost (s : State) (Q : Option Value → Heap → List Loc → Prop) (C S : Nat) : State → Outcome → Prop := fun U o => ∃ v L, o = .returned v ∧ Q v U.heap L ∧ FrameEnd s o U L C S
abbrev ownMet (l : Launch) (Z : State) (y : MethodName) (bytes : ByteArray) (maxL : Nat) (rt : Option FieldType) (ws : List Jvm.Cond) (rm : Room) (as : Array Value) (h0 : Heap) (Q : Option Value → Heap → List Loc → Prop) : Prop :=
  MetFree l y (head1 (Jvm.Cond.code y bytes maxL rt :: ws) rm) (fun a U => a = as ∧ Z.Warmed39 U.vm ∧ U.heap = h0) (fun _ _ _ _ _ => True) (fun _ U o U' => ∃ v L, o = .returned v ∧ Q v U'.heap L ∧ FrameEnd U o U' L rm.cells rm.slots)
theorem ownMet.of {l : Launch} {Z : State} {y : MethodName} {bytes : ByteArray} {maxL : Nat} {rt : Option FieldType} {ws : List Jvm.Cond} {rm : Room} {as : Array Value} {h0 : Heap} {Q : Option Value → Heap → List Loc → Prop} (hpl : plainFor y = true)
    (body : ∀ (p : Program) (e : Env) (s : State) (m : MethodId) (below : List Frame) (meth : Method) (c : Code) (T0 : State), p.tables.exec = Jvm.exec → c.code = bytes → c.maxLocals = maxL → Z.Warmed39 s.vm → s.vm.findClass y.cls = some m.cls → meth.name = y.name → meth.sig.returnType = rt → meth.locks = false →
      Stand p l e rm s m as below meth c T0 [] 0 0 → T0.heap = h0 → ownEnds p.tables e below (ownPost s Q rm.cells rm.slots) (T0.setTop (entryFrame m as maxL))) : ownMet l Z y bytes maxL rt ws rm as h0 Q := by
  refine MetFree.of_bodySF hpl hisR ?_
  intro p e s m args below meth c s₁ Bd hml0 hP hK
  obtain ⟨rfl, hZ, hh⟩ := hP
  exact body p e s m below meth c s₁ Bd.exec Bd.bytes hml0 hZ (findClass_of_methodNamed Bd.named) (name_of_methodNamed Bd.named Bd.method).1 Bd.returns Bd.notSynchronized (Stand.of_body Bd) (by rw [← hh, Bd.state]; rfl)
theorem ownEqV {args : Array Value} {first s : State} {o : Option Outcome} {idx : List Nat} {a b : Term} {v : Value} (h : (Cond.eq a b).value args first o s idx = some true) (hb : b.eval args first o idx s = some v) : a.eval args first o idx s = some v := by
  simp only [Cond.value, hb] at h
  cases ha : a.eval args first o idx s with
  | none => simp [ha] at h
  | some x => cases x <;> cases v <;> simp_all
theorem ownFieldAt {args : Array Value} {first s : State} {o : Option Outcome} {idx : List Nat} {t : Term} {a : Addr} {C n d : String} (ev : t.eval args first o idx s = some (.ref a)) : (Term.field t C n d).eval args first o idx s = s.fieldOf? a C n d := by
  simp [Term.eval, ev]
theorem ownLen {s : State} {args : Array Value} {t : Term} {a : Addr} {cl : Cell} {ty : FieldType} {z : Int32} (ev : t.eval args s none [] s = some (.ref a)) (A : Arr s s.heap a cl ty) (h : (Term.length t).eval args s none [] s = some (.int z)) : cl.slots.size < 2 ^ 31 ∧ cl.slots.size.toInt32 = z := by
  have q := A.fin (Vm.Alike.refl _)
  simp only [Term.eval, ev, q, Option.bind_eq_bind, Option.bind_some, Option.pure_def] at h
  split at h
  · rename_i hs
    exact ⟨hs, by simpa using h⟩
  · cases h
theorem ownEl {s : State} {args : Array Value} {t i : Term} {a : Addr} {cl : Cell} {ty : FieldType} {j : Int32} {v : Value} (ev : t.eval args s none [] s = some (.ref a)) (A : Arr s s.heap a cl ty) (ej : i.eval args s none [] s = some (.int j)) (h : (Term.elem t i).eval args s none [] s = some v) : cl.slots[j.toNatClampNeg]? = some v := by
  have q := A.fin (Vm.Alike.refl _)
  simp only [Term.eval, ev, ej, q, Option.bind_eq_bind, Option.bind_some] at h
  split at h
  · cases h
  · exact h
section OwnKit
variable {p : Program} {l : Launch} {e : Env} {R : Room} {s : State} {m : MethodId} {args : Array Value} {below : List Frame} {meth : Method} {c : Code} {T : State} {locs : List Loc} {cells slots : Nat} {Z : State} {a0 : Array Value} {h : Heap}
theorem ownRet (X : Stand p l e R s m args below meth c T locs cells slots) (hlk : meth.locks = false) {v : Option Value} (hv : meth.sig.returnType = none → v = none) {g : JFrame} {Q : Option Value → Heap → List Loc → Prop} {C S : Nat}
    (hst : ∀ fs, (∀ (f : JFrame) (acts : List Action), f.method = m → f.locked = none → f.entered = [] → (doReturn e (T.setTop f) acts v).1 = T.setFrames fs) → Steps p.tables e below (T.setTop g) (T.setFrames fs))
    (hc : cells ≤ C) (hs : slots ≤ S) (hQ : Q v T.heap locs) : ownEnds p.tables e below (ownPost s Q C S) (T.setTop g) := by
  obtain ⟨fs, hr, hrun, hended, hW, hsame⟩ := X.leave (v := v) hv hlk
  exact ⟨_, _, hst fs hr, hrun, hended, v, locs, rfl, hQ, ⟨_, rfl⟩, hW, hsame.mono hc hs⟩
theorem ownRetN (X : Stand p l e R s m args below meth c T locs cells slots) (hlk : meth.locks = false) (hx : p.tables.exec = Jvm.exec) {pc : Nat} {Ls : Array Slot} {z : Int32} {t : FieldType} {rest : List Value} (hret : meth.sig.returnType = some t) (ht : t = .boolean ∨ t = .byte ∨ t = .char ∨ t = .short)
    (hd : decode c.code pc = .ok (.ireturn, 1)) {Q : Option Value → Heap → List Loc → Prop} {C S : Nat} (hc : cells ≤ C) (hs : slots ≤ S) (hQ : Q (some (.int (nar t z))) T.heap locs) : ownEnds p.tables e below (ownPost s Q C S) (T.setTop (mkF m pc Ls (.int z :: rest))) :=
  ownRet X hlk (fun h => by rw [hret] at h; cases h) (fun fs hr => retN X hx hret ht hd hr) hc hs hQ
theorem ownRetI (X : Stand p l e R s m args below meth c T locs cells slots) (hlk : meth.locks = false) (hx : p.tables.exec = Jvm.exec) {pc : Nat} {Ls : Array Slot} {z : Int32} {rest : List Value} (hret : meth.sig.returnType = some .int)
    (hd : decode c.code pc = .ok (.ireturn, 1)) {Q : Option Value → Heap → List Loc → Prop} {C S : Nat} (hc : cells ≤ C) (hs : slots ≤ S) (hQ : Q (some (.int z)) T.heap locs) : ownEnds p.tables e below (ownPost s Q C S) (T.setTop (mkF m pc Ls (.int z :: rest))) :=
  ownRet X hlk (fun h => by rw [hret] at h; cases h) (fun fs hr => retOut X hx hret rfl (Or.inl ⟨rfl, Or.inl rfl, z, rfl⟩) hd hr) hc hs hQ
theorem ownRetL (X : Stand p l e R s m args below meth c T locs cells slots) (hlk : meth.locks = false) (hx : p.tables.exec = Jvm.exec) {pc : Nat} {Ls : Array Slot} {z : Int64} {rest : List Value} (hret : meth.sig.returnType = some .long)
    (hd : decode c.code pc = .ok (.lreturn, 1)) {Q : Option Value → Heap → List Loc → Prop} {C S : Nat} (hc : cells ≤ C) (hs : slots ≤ S) (hQ : Q (some (.long z)) T.heap locs) : ownEnds p.tables e below (ownPost s Q C S) (T.setTop (mkF m pc Ls (.long z :: rest))) :=
  ownRet X hlk (fun h => by rw [hret] at h; cases h) (fun fs hr => retOut X hx hret rfl (Or.inr (Or.inl ⟨rfl, rfl, z, rfl⟩)) hd hr) hc hs hQ
theorem ownRetA (X : Stand p l e R s m args below meth c T locs cells slots) (hlk : meth.locks = false) (hx : p.tables.exec = Jvm.exec) {pc : Nat} {Ls : Array Slot} {w : Value} {t : FieldType} {rest : List Value} (hret : meth.sig.returnType = some t) (ht : t.isReference = true) (hw : w.isRef = true)
    (hd : decode c.code pc = .ok (.areturn, 1)) {Q : Option Value → Heap → List Loc → Prop} {C S : Nat} (hc : cells ≤ C) (hs : slots ≤ S) (hQ : Q (some w) T.heap locs) : ownEnds p.tables e below (ownPost s Q C S) (T.setTop (mkF m pc Ls (w :: rest))) :=
  ownRet X hlk (fun h => by rw [hret] at h; cases h) (fun fs hr => retOut X hx hret (by rcases ref_cases hw with rfl | ⟨a, rfl⟩ <;> cases t <;> first | rfl | (simp [FieldType.isReference] at ht)) (Or.inr (Or.inr (Or.inr (Or.inr ⟨rfl, ht, hw⟩)))) hd hr) hc hs hQ
theorem ownRetV (X : Stand p l e R s m args below meth c T locs cells slots) (hlk : meth.locks = false) (hx : p.tables.exec = Jvm.exec) {pc : Nat} {Ls : Array Slot} (hret : meth.sig.returnType = none)
    (hd : decode c.code pc = .ok (.return_, 1)) {Q : Option Value → Heap → List Loc → Prop} {C S : Nat} (hc : cells ≤ C) (hs : slots ≤ S) (hQ : Q none T.heap locs) : ownEnds p.tables e below (ownPost s Q C S) (T.setTop (mkF m pc Ls [])) :=
  ownRet X hlk (fun _ => rfl) (fun fs hr => X.returnOut hx hret hd hr) hc hs hQ
theorem ownCallS (X : Stand p l e R s m args below meth c T locs cells slots) (hx : p.tables.exec = Jvm.exec) (hZ : Z.Warmed39 s.vm) {own : String} {index : Nat} (hown : s.vm.findClass own = some m.cls) {y : MethodName} {bytes : ByteArray} {maxL : Nat} {rt : Option FieldType} {rm : Room} {as : List Value} {Q : Option Value → Heap → List Loc → Prop}
    (w1 : (Cond.methodLink own index y).before a0 Z = true) (w2 : (Cond.static y).before a0 Z = true) (w3 : (Cond.initialized y.cls).before a0 Z = true) (w4 : (Cond.code y bytes maxL rt).before a0 Z = true) (hy : y.cls ≠ "java/lang/invoke/MethodHandle" ∧ y.cls ≠ "java/lang/invoke/VarHandle")
    (hM : ownMet l Z y bytes maxL rt [] rm as.toArray h Q) (eT : T.heap = h) (W : Nat) (hf : rm.frames + 1 ≤ R.frames) (hl : W + (maxL + 11) + rm.locals ≤ R.locals) (hc : cells + rm.cells ≤ R.cells) (hs : slots + rm.slots ≤ R.slots)
    {g : JFrame} (hg : g.method = m) (hsize : g.locals.size = c.maxLocals) {rest : List Value} {ps : List FieldType} {r : Option FieldType} (hd : parseMethodDescriptor y.desc = some ⟨ps, r⟩) (hlen : as.length = ps.length) (hstack : g.stack = as.reverse ++ rest) (hW : 2 * g.monitorRoom + (rest.map fun v => v.category).sum ≤ W)
    (hdg : decode c.code g.pc = .ok (.invokestatic index, 3)) :
    ∃ v T' L, Stand p l e R s m args below meth c T' (locs ++ L) (cells + rm.cells) (slots + rm.slots) ∧ Q v T'.heap L ∧ ∀ t, Steps p.tables e below (T'.setTop { g with pc := g.pc + 3, stack := v.toList ++ rest }) t → Steps p.tables e below (T.setTop g) t := by
  obtain ⟨v, _, ⟨T1, L1, k1, n1⟩, -, X1, ⟨Lc, hQ, l1, y1, z1⟩, st⟩ := Jvm.LawKit.callS X hx (y := y) hown (mvT hZ w1) (mvT hZ w2) (mvT hZ w3) (mvT hZ w4) hy (backOf (W := W) hM hZ w4 w3 hf hl) hg hsize (argsL := as) (rest := rest) (lenOf hd hlen) hstack hW hdg (fun _ _ => ⟨rfl, eT, hc, hs⟩)
  dsimp only [Pt.U, Pt.locs, Pt.cells, Pt.slots] at X1 l1 y1 z1 st hQ
  subst l1 y1 z1
  exact ⟨v, T1, Lc, X1, hQ, st⟩
theorem ownCallC (X : Stand p l e R s m args below meth c T locs cells slots) (hx : p.tables.exec = Jvm.exec) (hZ : Z.Warmed39 s.vm) {own : String} {index : Nat} (hown : s.vm.findClass own = some m.cls) {y : MethodName} (hy1 : y.name = "<init>") {bytes : ByteArray} {maxL : Nat} {rm : Room} {a : Addr} {as : List Value} {Q : Option Value → Heap → List Loc → Prop}
    (w1 : (Cond.methodLink own index y).before a0 Z = true) (w2 : (Cond.instanceMethod y).before a0 Z = true) (w3 : (Cond.initialized y.cls).before a0 Z = true) (w4 : (Cond.code y bytes maxL none).before a0 Z = true) (hy : y.cls ≠ "java/lang/invoke/MethodHandle" ∧ y.cls ≠ "java/lang/invoke/VarHandle")
    (hM : ownMet l Z y bytes maxL none [] rm (.ref a :: as).toArray h Q) (eT : T.heap = h) (W : Nat) (hf : rm.frames + 1 ≤ R.frames) (hl : W + (maxL + 11) + rm.locals ≤ R.locals) (hc : cells + rm.cells ≤ R.cells) (hs : slots + rm.slots ≤ R.slots)
    {g : JFrame} (hg : g.method = m) (hsize : g.locals.size = c.maxLocals) {rest : List Value} {ps : List FieldType} {r : Option FieldType} (hd : parseMethodDescriptor y.desc = some ⟨ps, r⟩) (hlen : as.length = ps.length) (hstack : g.stack = as.reverse ++ .ref a :: rest) (hW : 2 * g.monitorRoom + (rest.map fun v => v.category).sum ≤ W)
    (hdg : decode c.code g.pc = .ok (.invokespecial index, 3)) :
    ∃ v T' L, Stand p l e R s m args below meth c T' (locs ++ L) (cells + rm.cells) (slots + rm.slots) ∧ Q v T'.heap L ∧ ∀ t, Steps p.tables e below (T'.setTop { g with pc := g.pc + 3, stack := v.toList ++ rest }) t → Steps p.tables e below (T.setTop g) t := by
  obtain ⟨v, _, ⟨T1, L1, k1, n1⟩, -, X1, ⟨Lc, hQ, l1, y1, z1⟩, st⟩ := X.specialBack hx (y := y) hy1 hown (mvT hZ w1) (mvT hZ w2) (mvT hZ w4) hy (backOf (W := W) hM hZ w4 w3 hf hl) hg hsize (Steps.refl _) (a := a) (argsL := as) (rest := rest) (lenOf hd hlen) hstack hW hdg (fun _ _ => ⟨rfl, eT, hc, hs⟩)
  dsimp only [Pt.U, Pt.locs, Pt.cells, Pt.slots] at X1 l1 y1 z1 st hQ
  subst l1 y1 z1
  exact ⟨v, T1, Lc, X1, hQ, fun t k => st.trans k⟩
theorem ownCallV (X : Stand p l e R s m args below meth c T locs cells slots) (hx : p.tables.exec = Jvm.exec) (hZ : Z.Warmed39 s.vm) {own C : String} {index : Nat} (hown : s.vm.findClass own = some m.cls) {y z : MethodName} {bytes : ByteArray} {maxL : Nat} {rt : Option FieldType} {rm : Room} {a : Addr} {as : List Value} {Q : Option Value → Heap → List Loc → Prop}
    (w1 : (Cond.methodLink own index y).before a0 Z = true) (w2 : (Cond.declares y).before a0 Z = true) (hnf : NotFace s y) (w5 : (Cond.selects C y z).before a0 Z = true) (w6 : (Cond.instanceMethod z).before a0 Z = true) (w3 : (Cond.initialized z.cls).before a0 Z = true) (w4 : (Cond.code z bytes maxL rt).before a0 Z = true) (hy : y.cls ≠ "java/lang/invoke/MethodHandle" ∧ y.cls ≠ "java/lang/invoke/VarHandle")
    (hM : ownMet l Z z bytes maxL rt [] rm (.ref a :: as).toArray h Q) (eT : T.heap = h) (E : Exa Z h a C) (W : Nat) (hf : rm.frames + 1 ≤ R.frames) (hl : W + (maxL + 11) + rm.locals ≤ R.locals) (hc : cells + rm.cells ≤ R.cells) (hs : slots + rm.slots ≤ R.slots)
    {g : JFrame} (hg : g.method = m) (hsize : g.locals.size = c.maxLocals) {rest : List Value} {ps : List FieldType} {r : Option FieldType} (hd : parseMethodDescriptor y.desc = some ⟨ps, r⟩) (hlen : as.length = ps.length) (hstack : g.stack = as.reverse ++ .ref a :: rest) (hW : 2 * g.monitorRoom + (rest.map fun v => v.category).sum ≤ W)
    (hdg : decode c.code g.pc = .ok (.invokevirtual index, 3)) :
    ∃ v T' L, Stand p l e R s m args below meth c T' (locs ++ L) (cells + rm.cells) (slots + rm.slots) ∧ Q v T'.heap L ∧ ∀ t, Steps p.tables e below (T'.setTop { g with pc := g.pc + 3, stack := v.toList ++ rest }) t → Steps p.tables e below (T.setTop g) t := by
  obtain ⟨cq, kq, qa, qb, qc⟩ := isOf hZ eT E
  obtain ⟨v, _, ⟨T1, L1, k1, n1⟩, -, X1, ⟨Lc, hQ, l1, y1, z1⟩, st⟩ := X.virtualBack hx (y := y) (z := z) hown (mvT hZ w1) (mvT hZ w2) hnf (mvT hZ w5) (mvT hZ w6) hy (backOf (W := W) hM hZ w4 w3 hf hl) qa qc hg hsize (Steps.refl _) (argsL := as) (rest := rest) (lenOf hd hlen) hstack hW hdg (fun _ _ => ⟨rfl, eT, hc, hs⟩)
  dsimp only [Pt.U, Pt.locs, Pt.cells, Pt.slots] at X1 l1 y1 z1 st hQ
  subst l1 y1 z1
  exact ⟨v, T1, Lc, X1, hQ, fun t k => st.trans k⟩
theorem ownSelfSel {y z : MethodName} {C : String} (hz : z.cls = y.cls) (wz : (Cond.selects C z z).before args s = true) (hinst : (Cond.instanceMethod y).before args s = true) (hpriv : s.PrivateAt y) (hy : y.cls ≠ "java/lang/invoke/MethodHandle" ∧ y.cls ≠ "java/lang/invoke/VarHandle") : (Cond.selects y.cls y y).before args s = true := by
  obtain ⟨c2, r2, m2, q1, q2, q3, q4, kP, hkP, hkPi⟩ := Cond.selects_spec wz
  exact selects_self_of_private (by rw [← hz]; exact findClass_of_methodNamed q3) hkP hkPi hpriv hinst hy
theorem ownCallP (X : Stand p l e R s m args below meth c T locs cells slots) (hx : p.tables.exec = Jvm.exec) (hZ : Z.Warmed39 s.vm) {own C D : String} {index : Nat} (hown : s.vm.findClass own = some m.cls) {y z : MethodName} {bytes : ByteArray} {maxL : Nat} {rt : Option FieldType} {rm : Room} {a : Addr} {as : List Value} {Q : Option Value → Heap → List Loc → Prop}
    (w1 : (Cond.methodLink own index y).before a0 Z = true) (hz : z.cls = y.cls) (w5 : (Cond.selects C z z).before a0 Z = true) (w6 : (Cond.instanceMethod y).before a0 Z = true) (w7 : (Cond.privateMethod y).before a0 Z = true) (w3 : (Cond.initialized y.cls).before a0 Z = true) (w4 : (Cond.code y bytes maxL rt).before a0 Z = true) (hy : y.cls ≠ "java/lang/invoke/MethodHandle" ∧ y.cls ≠ "java/lang/invoke/VarHandle")
    (hM : ownMet l Z y bytes maxL rt [] rm (.ref a :: as).toArray h Q) (eT : T.heap = h) (E : Exa Z h a D) (W : Nat) (hf : rm.frames + 1 ≤ R.frames) (hl : W + (maxL + 11) + rm.locals ≤ R.locals) (hc : cells + rm.cells ≤ R.cells) (hs : slots + rm.slots ≤ R.slots)
    {g : JFrame} (hg : g.method = m) (hsize : g.locals.size = c.maxLocals) {rest : List Value} {ps : List FieldType} {r : Option FieldType} (hd : parseMethodDescriptor y.desc = some ⟨ps, r⟩) (hlen : as.length = ps.length) (hstack : g.stack = as.reverse ++ .ref a :: rest) (hW : 2 * g.monitorRoom + (rest.map fun v => v.category).sum ≤ W)
    (hdg : decode c.code g.pc = .ok (.invokevirtual index, 3)) :
    ∃ v T' L, Stand p l e R s m args below meth c T' (locs ++ L) (cells + rm.cells) (slots + rm.slots) ∧ Q v T'.heap L ∧ ∀ t, Steps p.tables e below (T'.setTop { g with pc := g.pc + 3, stack := v.toList ++ rest }) t → Steps p.tables e below (T.setTop g) t := by
  obtain ⟨cq, q1, q2⟩ := E.cell
  have hpv : s.PrivateAt y := Cond.privateMethod_at (mvP hZ w7 (args := #[]))
  obtain ⟨v, _, ⟨T1, L1, k1, n1⟩, -, X1, ⟨Lc, hQ, l1, y1, z1⟩, st⟩ := X.privateBack hx (y := y) hown (mvT hZ w1) (mvT hZ w6) (ownSelfSel hz (mvT hZ w5) (mvT hZ w6) hpv hy) hpv (mvT hZ w4) hy (backOf (W := W) hM hZ w4 w3 hf hl) hg hsize (Steps.refl _) (a := a) (by rw [eT]; exact q1) q2 (argsL := as) (rest := rest) (lenOf hd hlen) hstack hW hdg (fun _ _ => ⟨rfl, eT, hc, hs⟩)
  dsimp only [Pt.U, Pt.locs, Pt.cells, Pt.slots] at X1 l1 y1 z1 st hQ
  subst l1 y1 z1
  exact ⟨v, T1, Lc, X1, hQ, fun t k => st.trans k⟩
end OwnKit
theorem wd_0 {Z : State} {a0 : Array Value} (hw : ∀ d ∈ tables_1, d.before a0 Z = true) : (Jvm.Cond.arrayClass Jvm.ClassFile.FieldType.int).before a0 Z = true := hw _ (List.mem_of_getElem? (i := 0) rfl)
theorem wd_1 {Z : State} {a0 : Array Value} (hw : ∀ d ∈ tables_1, d.before a0 Z = true) : (Jvm.Cond.classLink "com/example/libreach/libreach/engine/StateStoreHashPinLaw" (7 : Nat) "com/example/libreach/libreach/engine/StateStore").before a0 Z = true := hw _ (List.mem_of_getElem? (i := 1) rfl)
theorem wd_2 {Z : State} {a0 : Array Value} (hw : ∀ d ∈ tables_1, d.before a0 Z = true) : (Jvm.Cond.instantiable "com/example/libreach/libreach/engine/StateStore" (8 : Nat)).before a0 Z = true := hw _ (List.mem_of_getElem? (i := 2) rfl)
theorem wd_3 {Z : State} {a0 : Array Value} (hw : ∀ d ∈ tables_1, d.before a0 Z = true) : (Jvm.Cond.initialized "com/example/libreach/libreach/engine/StateStore").before a0 Z = true := hw _ (List.mem_of_getElem? (i := 3) rfl)
theorem wd_4 {Z : State} {a0 : Array Value} (hw : ∀ d ∈ tables_1, d.before a0 Z = true) : (Jvm.Cond.classLink "com/example/libreach/libreach/engine/StateStoreHashPinLaw" (9 : Nat) "com/example/libreach/libreach/engine/StateLayout").before a0 Z = true := hw _ (List.mem_of_getElem? (i := 4) rfl)
theorem wd_5 {Z : State} {a0 : Array Value} (hw : ∀ d ∈ tables_1, d.before a0 Z = true) : (Jvm.Cond.instantiable "com/example/libreach/libreach/engine/StateLayout" (6 : Nat)).before a0 Z = true := hw _ (List.mem_of_getElem? (i := 5) rfl)
theorem wd_6 {Z : State} {a0 : Array Value} (hw : ∀ d ∈ tables_1, d.before a0 Z = true) : (Jvm.Cond.initialized "com/example/libreach/libreach/engine/StateLayout").before a0 Z = true := hw _ (List.mem_of_getElem? (i := 6) rfl)
theorem wd_7 {Z : State} {a0 : Array Value} (hw : ∀ d ∈ tables_1, d.before a0 Z = true) : (Jvm.Cond.methodLink "com/example/libreach/libreach/engine/StateStoreHashPinLaw" (11 : Nat) ({ cls := "com/example/libreach/libreach/engine/StateLayout", name := "<init>", desc := "([I)V" } : Jvm.MethodName)).before a0 Z = true := hw _ (List.mem_of_getElem? (i := 7) rfl)
theorem wd_8 {Z : State} {a0 : Array Value} (hw : ∀ d ∈ tables_1, d.before a0 Z = true) : (Jvm.Cond.instanceMethod ({ cls := "com/example/libreach/libreach/engine/StateLayout", name := "<init>", desc := "([I)V" } : Jvm.MethodName)).before a0 Z = true := hw _ (List.mem_of_getElem? (i := 8) rfl)
theorem wd_9 {Z : State} {a0 : Array Value} (hw : ∀ d ∈ tables_1, d.before a0 Z = true) : (Jvm.Cond.code ({ cls := "com/example/libreach/libreach/engine/StateLayout", name := "<init>", desc := "([I)V" } : Jvm.MethodName) prog_17_method_1_code (7 : Nat) (Option.none : Option Jvm.ClassFile.FieldType)).before a0 Z = true := hw _ (List.mem_of_getElem? (i := 9) rfl)
theorem wd_10 {Z : State} {a0 : Array Value} (hw : ∀ d ∈ tables_1, d.before a0 Z = true) : (Jvm.Cond.methodLink "com/example/libreach/libreach/engine/StateLayout" (1 : Nat) ({ cls := "java/lang/Object", name := "<init>", desc := "()V" } : Jvm.MethodName)).before a0 Z = true := hw _ (List.mem_of_getElem? (i := 10) rfl)
theorem wd_11 {Z : State} {a0 : Array Value} (hw : ∀ d ∈ tables_1, d.before a0 Z = true) : (Jvm.Cond.instanceMethod ({ cls := "java/lang/Object", name := "<init>", desc := "()V" } : Jvm.MethodName)).before a0 Z = true := hw _ (List.mem_of_getElem? (i := 11) rfl)
theorem wd_12 {Z : State} {a0 : Array Value} (hw : ∀ d ∈ tables_1, d.before a0 Z = true) : (Jvm.Cond.code ({ cls := "java/lang/Object", name := "<init>", desc := "()V" } : Jvm.MethodName) object_method_1_code (1 : Nat) (Option.none : Option Jvm.ClassFile.FieldType)).before a0 Z = true := hw _ (List.mem_of_getElem? (i := 12) rfl)
theorem wd_13 {Z : State} {a0 : Array Value} (hw : ∀ d ∈ tables_1, d.before a0 Z = true) : (Jvm.Cond.methodLink "com/example/libreach/libreach/engine/StateLayout" (7 : Nat) ({ cls := "[I", name := "clone", desc := "()Ljava/lang/Object;" } : Jvm.MethodName)).before a0 Z = true := hw _ (List.mem_of_getElem? (i := 13) rfl)
theorem wd_14 {Z : State} {a0 : Array Value} (hw : ∀ d ∈ tables_1, d.before a0 Z = true) : (Jvm.Cond.sameMethod "[I" "java/lang/Object" "clone" "()Ljava/lang/Object;").before a0 Z = true := hw _ (List.mem_of_getElem? (i := 14) rfl)
theorem wd_16 {Z : State} {a0 : Array Value} (hw : ∀ d ∈ tables_1, d.before a0 Z = true) : (Jvm.Cond.instanceMethod ({ cls := "java/lang/Object", name := "clone", desc := "()Ljava/lang/Object;" } : Jvm.MethodName)).before a0 Z = true := hw _ (List.mem_of_getElem? (i := 16) rfl)
theorem wd_17 {Z : State} {a0 : Array Value} (hw : ∀ d ∈ tables_1, d.before a0 Z = true) : (Jvm.Cond.selects "[I" ({ cls := "[I", name := "clone", desc := "()Ljava/lang/Object;" } : Jvm.MethodName) ({ cls := "java/lang/Object", name := "clone", desc := "()Ljava/lang/Object;" } : Jvm.MethodName)).before a0 Z = true := hw _ (List.mem_of_getElem? (i := 17) rfl)
theorem wd_18 {Z : State} {a0 : Array Value} (hw : ∀ d ∈ tables_1, d.before a0 Z = true) : (Jvm.Cond.native ({ cls := "java/lang/Object", name := "clone", desc := "()Ljava/lang/Object;" } : Jvm.MethodName)).before a0 Z = true := hw _ (List.mem_of_getElem? (i := 18) rfl)
theorem wd_19 {Z : State} {a0 : Array Value} (hw : ∀ d ∈ tables_1, d.before a0 Z = true) : (Jvm.Cond.castable "[I" "java/lang/Cloneable").before a0 Z = true := hw _ (List.mem_of_getElem? (i := 19) rfl)
theorem wd_20 {Z : State} {a0 : Array Value} (hw : ∀ d ∈ tables_1, d.before a0 Z = true) : (Jvm.Cond.classLink "com/example/libreach/libreach/engine/StateLayout" (8 : Nat) "[I").before a0 Z = true := hw _ (List.mem_of_getElem? (i := 20) rfl)
theorem wd_22 {Z : State} {a0 : Array Value} (hw : ∀ d ∈ tables_1, d.before a0 Z = true) : (Jvm.Cond.fieldLink "com/example/libreach/libreach/engine/StateLayout" (13 : Nat) "com/example/libreach/libreach/engine/StateLayout" "widths" "[I").before a0 Z = true := hw _ (List.mem_of_getElem? (i := 22) rfl)
theorem wd_23 {Z : State} {a0 : Array Value} (hw : ∀ d ∈ tables_1, d.before a0 Z = true) : (Jvm.Cond.laysFinal "com/example/libreach/libreach/engine/StateLayout" "com/example/libreach/libreach/engine/StateLayout" "widths" "[I").before a0 Z = true := hw _ (List.mem_of_getElem? (i := 23) rfl)
theorem wd_24 {Z : State} {a0 : Array Value} (hw : ∀ d ∈ tables_1, d.before a0 Z = true) : (Jvm.Cond.fieldLink "com/example/libreach/libreach/engine/StateLayout" (18 : Nat) "com/example/libreach/libreach/engine/StateLayout" "word" "[I").before a0 Z = true := hw _ (List.mem_of_getElem? (i := 24) rfl)
theorem wd_25 {Z : State} {a0 : Array Value} (hw : ∀ d ∈ tables_1, d.before a0 Z = true) : (Jvm.Cond.laysFinal "com/example/libreach/libreach/engine/StateLayout" "com/example/libreach/libreach/engine/StateLayout" "word" "[I").before a0 Z = true := hw _ (List.mem_of_getElem? (i := 25) rfl)
theorem wd_26 {Z : State} {a0 : Array Value} (hw : ∀ d ∈ tables_1, d.before a0 Z = true) : (Jvm.Cond.fieldLink "com/example/libreach/libreach/engine/StateLayout" (21 : Nat) "com/example/libreach/libreach/engine/StateLayout" "shift" "[I").before a0 Z = true := hw _ (List.mem_of_getElem? (i := 26) rfl)
theorem wd_27 {Z : State} {a0 : Array Value} (hw : ∀ d ∈ tables_1, d.before a0 Z = true) : (Jvm.Cond.laysFinal "com/example/libreach/libreach/engine/StateLayout" "com/example/libreach/libreach/engine/StateLayout" "shift" "[I").before a0 Z = true := hw _ (List.mem_of_getElem? (i := 27) rfl)
theorem wd_28 {Z : State} {a0 : Array Value} (hw : ∀ d ∈ tables_1, d.before a0 Z = true) : (Jvm.Cond.arrayClass Jvm.ClassFile.FieldType.long).before a0 Z = true := hw _ (List.mem_of_getElem? (i := 28) rfl)
theorem wd_29 {Z : State} {a0 : Array Value} (hw : ∀ d ∈ tables_1, d.before a0 Z = true) : (Jvm.Cond.fieldLink "com/example/libreach/libreach/engine/StateLayout" (24 : Nat) "com/example/libreach/libreach/engine/StateLayout" "largest" "[J").before a0 Z = true := hw _ (List.mem_of_getElem? (i := 29) rfl)
theorem wd_30 {Z : State} {a0 : Array Value} (hw : ∀ d ∈ tables_1, d.before a0 Z = true) : (Jvm.Cond.laysFinal "com/example/libreach/libreach/engine/StateLayout" "com/example/libreach/libreach/engine/StateLayout" "largest" "[J").before a0 Z = true := hw _ (List.mem_of_getElem? (i := 30) rfl)
theorem wd_31 {Z : State} {a0 : Array Value} (hw : ∀ d ∈ tables_1, d.before a0 Z = true) : (Jvm.Cond.fieldLink "com/example/libreach/libreach/engine/StateLayout" (32 : Nat) "com/example/libreach/libreach/engine/StateLayout" "words" "I").before a0 Z = true := hw _ (List.mem_of_getElem? (i := 31) rfl)
theorem wd_32 {Z : State} {a0 : Array Value} (hw : ∀ d ∈ tables_1, d.before a0 Z = true) : (Jvm.Cond.laysFinal "com/example/libreach/libreach/engine/StateLayout" "com/example/libreach/libreach/engine/StateLayout" "words" "I").before a0 Z = true := hw _ (List.mem_of_getElem? (i := 32) rfl)
theorem wd_33 {Z : State} {a0 : Array Value} (hw : ∀ d ∈ tables_1, d.before a0 Z = true) : (Jvm.Cond.methodLink "com/example/libreach/libreach/engine/StateLayout" (36 : Nat) ({ cls := "java/util/Arrays", name := "copyOf", desc := "([II)[I" } : Jvm.MethodName)).before a0 Z = true := hw _ (List.mem_of_getElem? (i := 33) rfl)
theorem wd_34 {Z : State} {a0 : Array Value} (hw : ∀ d ∈ tables_1, d.before a0 Z = true) : (Jvm.Cond.static ({ cls := "java/util/Arrays", name := "copyOf", desc := "([II)[I" } : Jvm.MethodName)).before a0 Z = true := hw _ (List.mem_of_getElem? (i := 34) rfl)
theorem wd_35 {Z : State} {a0 : Array Value} (hw : ∀ d ∈ tables_1, d.before a0 Z = true) : (Jvm.Cond.initialized "java/util/Arrays").before a0 Z = true := hw _ (List.mem_of_getElem? (i := 35) rfl)
theorem wd_36 {Z : State} {a0 : Array Value} (hw : ∀ d ∈ tables_1, d.before a0 Z = true) : (Jvm.Cond.code ({ cls := "java/util/Arrays", name := "copyOf", desc := "([II)[I" } : Jvm.MethodName) jdk_65_method_123_code (3 : Nat) (Option.some (Jvm.ClassFile.FieldType.array Jvm.ClassFile.FieldType.int))).before a0 Z = true := hw _ (List.mem_of_getElem? (i := 36) rfl)
theorem wd_37 {Z : State} {a0 : Array Value} (hw : ∀ d ∈ tables_1, d.before a0 Z = true) : (Jvm.Cond.methodLink "java/util/Arrays" (316 : Nat) ({ cls := "[I", name := "clone", desc := "()Ljava/lang/Object;" } : Jvm.MethodName)).before a0 Z = true := hw _ (List.mem_of_getElem? (i := 37) rfl)
theorem wd_38 {Z : State} {a0 : Array Value} (hw : ∀ d ∈ tables_1, d.before a0 Z = true) : (Jvm.Cond.classLink "java/util/Arrays" (317 : Nat) "[I").before a0 Z = true := hw _ (List.mem_of_getElem? (i := 38) rfl)
theorem wd_39 {Z : State} {a0 : Array Value} (hw : ∀ d ∈ tables_1, d.before a0 Z = true) : (Jvm.Cond.fieldLink "com/example/libreach/libreach/engine/StateLayout" (42 : Nat) "com/example/libreach/libreach/engine/StateLayout" "runs" "[I").before a0 Z = true := hw _ (List.mem_of_getElem? (i := 39) rfl)
theorem wd_40 {Z : State} {a0 : Array Value} (hw : ∀ d ∈ tables_1, d.before a0 Z = true) : (Jvm.Cond.laysFinal "com/example/libreach/libreach/engine/StateLayout" "com/example/libreach/libreach/engine/StateLayout" "runs" "[I").before a0 Z = true := hw _ (List.mem_of_getElem? (i := 40) rfl)
theorem wd_41 {Z : State} {a0 : Array Value} (hw : ∀ d ∈ tables_1, d.before a0 Z = true) : (Jvm.Cond.methodLink "com/example/libreach/libreach/engine/StateStoreHashPinLaw" (14 : Nat) ({ cls := "com/example/libreach/libreach/engine/StateStore", name := "<init>", desc := "(Lcom/example/libreach/libreach/engine/StateLayout;)V" } : Jvm.MethodName)).before a0 Z = true := hw _ (List.mem_of_getElem? (i := 41) rfl)
theorem wd_42 {Z : State} {a0 : Array Value} (hw : ∀ d ∈ tables_1, d.before a0 Z = true) : (Jvm.Cond.instanceMethod ({ cls := "com/example/libreach/libreach/engine/StateStore", name := "<init>", desc := "(Lcom/example/libreach/libreach/engine/StateLayout;)V" } : Jvm.MethodName)).before a0 Z = true := hw _ (List.mem_of_getElem? (i := 42) rfl)
theorem wd_43 {Z : State} {a0 : Array Value} (hw : ∀ d ∈ tables_1, d.before a0 Z = true) : (Jvm.Cond.code ({ cls := "com/example/libreach/libreach/engine/StateStore", name := "<init>", desc := "(Lcom/example/libreach/libreach/engine/StateLayout;)V" } : Jvm.MethodName) prog_18_method_1_code (2 : Nat) (Option.none : Option Jvm.ClassFile.FieldType)).before a0 Z = true := hw _ (List.mem_of_getElem? (i := 43) rfl)
theorem wd_44 {Z : State} {a0 : Array Value} (hw : ∀ d ∈ tables_1, d.before a0 Z = true) : (Jvm.Cond.methodLink "com/example/libreach/libreach/engine/StateStore" (1 : Nat) ({ cls := "com/example/libreach/libreach/engine/StateStore", name := "<init>", desc := "(Lcom/example/libreach/libreach/engine/StateLayout;I)V" } : Jvm.MethodName)).before a0 Z = true := hw _ (List.mem_of_getElem? (i := 44) rfl)
theorem wd_45 {Z : State} {a0 : Array Value} (hw : ∀ d ∈ tables_1, d.before a0 Z = true) : (Jvm.Cond.instanceMethod ({ cls := "com/example/libreach/libreach/engine/StateStore", name := "<init>", desc := "(Lcom/example/libreach/libreach/engine/StateLayout;I)V" } : Jvm.MethodName)).before a0 Z = true := hw _ (List.mem_of_getElem? (i := 45) rfl)
theorem wd_46 {Z : State} {a0 : Array Value} (hw : ∀ d ∈ tables_1, d.before a0 Z = true) : (Jvm.Cond.code ({ cls := "com/example/libreach/libreach/engine/StateStore", name := "<init>", desc := "(Lcom/example/libreach/libreach/engine/StateLayout;I)V" } : Jvm.MethodName) prog_18_method_2_code (4 : Nat) (Option.none : Option Jvm.ClassFile.FieldType)).before a0 Z = true := hw _ (List.mem_of_getElem? (i := 46) rfl)
theorem wd_47 {Z : State} {a0 : Array Value} (hw : ∀ d ∈ tables_1, d.before a0 Z = true) : (Jvm.Cond.methodLink "com/example/libreach/libreach/engine/StateStore" (7 : Nat) ({ cls := "java/lang/Object", name := "<init>", desc := "()V" } : Jvm.MethodName)).before a0 Z = true := hw _ (List.mem_of_getElem? (i := 47) rfl)
theorem wd_48 {Z : State} {a0 : Array Value} (hw : ∀ d ∈ tables_1, d.before a0 Z = true) : (Jvm.Cond.methodLink "com/example/libreach/libreach/engine/StateStore" (12 : Nat) ({ cls := "com/example/libreach/libreach/engine/StateStore", name := "useLayout", desc := "(Lcom/example/libreach/libreach/engine/StateLayout;)V" } : Jvm.MethodName)).before a0 Z = true := hw _ (List.mem_of_getElem? (i := 48) rfl)
theorem wd_49 {Z : State} {a0 : Array Value} (hw : ∀ d ∈ tables_1, d.before a0 Z = true) : (Jvm.Cond.instanceMethod ({ cls := "com/example/libreach/libreach/engine/StateStore", name := "useLayout", desc := "(Lcom/example/libreach/libreach/engine/StateLayout;)V" } : Jvm.MethodName)).before a0 Z = true := hw _ (List.mem_of_getElem? (i := 49) rfl)
theorem wd_50 {Z : State} {a0 : Array Value} (hw : ∀ d ∈ tables_1, d.before a0 Z = true) : (Jvm.Cond.privateMethod ({ cls := "com/example/libreach/libreach/engine/StateStore", name := "useLayout", desc := "(Lcom/example/libreach/libreach/engine/StateLayout;)V" } : Jvm.MethodName)).before a0 Z = true := hw _ (List.mem_of_getElem? (i := 50) rfl)
theorem wd_51 {Z : State} {a0 : Array Value} (hw : ∀ d ∈ tables_1, d.before a0 Z = true) : (Jvm.Cond.code ({ cls := "com/example/libreach/libreach/engine/StateStore", name := "useLayout", desc := "(Lcom/example/libreach/libreach/engine/StateLayout;)V" } : Jvm.MethodName) prog_18_method_14_code (3 : Nat) (Option.none : Option Jvm.ClassFile.FieldType)).before a0 Z = true := hw _ (List.mem_of_getElem? (i := 51) rfl)
theorem wd_52 {Z : State} {a0 : Array Value} (hw : ∀ d ∈ tables_1, d.before a0 Z = true) : (Jvm.Cond.fieldLink "com/example/libreach/libreach/engine/StateStore" (26 : Nat) "com/example/libreach/libreach/engine/StateStore" "layout" "Lcom/example/libreach/libreach/engine/StateLayout;").before a0 Z = true := hw _ (List.mem_of_getElem? (i := 52) rfl)
theorem wd_53 {Z : State} {a0 : Array Value} (hw : ∀ d ∈ tables_1, d.before a0 Z = true) : (Jvm.Cond.lays "com/example/libreach/libreach/engine/StateStore" "com/example/libreach/libreach/engine/StateStore" "layout" "Lcom/example/libreach/libreach/engine/StateLayout;").before a0 Z = true := hw _ (List.mem_of_getElem? (i := 53) rfl)
theorem wd_54 {Z : State} {a0 : Array Value} (hw : ∀ d ∈ tables_1, d.before a0 Z = true) : (Jvm.Cond.methodLink "com/example/libreach/libreach/engine/StateStore" (119 : Nat) ({ cls := "com/example/libreach/libreach/engine/StateLayout", name := "words", desc := "()I" } : Jvm.MethodName)).before a0 Z = true := hw _ (List.mem_of_getElem? (i := 54) rfl)
theorem wd_55 {Z : State} {a0 : Array Value} (hw : ∀ d ∈ tables_1, d.before a0 Z = true) : (Jvm.Cond.declares ({ cls := "com/example/libreach/libreach/engine/StateLayout", name := "words", desc := "()I" } : Jvm.MethodName)).before a0 Z = true := hw _ (List.mem_of_getElem? (i := 55) rfl)
theorem wd_56 {Z : State} {a0 : Array Value} (hw : ∀ d ∈ tables_1, d.before a0 Z = true) : (Jvm.Cond.instanceMethod ({ cls := "com/example/libreach/libreach/engine/StateLayout", name := "words", desc := "()I" } : Jvm.MethodName)).before a0 Z = true := hw _ (List.mem_of_getElem? (i := 56) rfl)
theorem wd_57 {Z : State} {a0 : Array Value} (hw : ∀ d ∈ tables_1, d.before a0 Z = true) : (Jvm.Cond.selects "com/example/libreach/libreach/engine/StateLayout" ({ cls := "com/example/libreach/libreach/engine/StateLayout", name := "words", desc := "()I" } : Jvm.MethodName) ({ cls := "com/example/libreach/libreach/engine/StateLayout", name := "words", desc := "()I" } : Jvm.MethodName)).before a0 Z = true := hw _ (List.mem_of_getElem? (i := 57) rfl)
theorem wd_58 {Z : State} {a0 : Array Value} (hw : ∀ d ∈ tables_1, d.before a0 Z = true) : (Jvm.Cond.code ({ cls := "com/example/libreach/libreach/engine/StateLayout", name := "words", desc := "()I" } : Jvm.MethodName) prog_17_method_4_code (1 : Nat) (Option.some Jvm.ClassFile.FieldType.int)).before a0 Z = true := hw _ (List.mem_of_getElem? (i := 58) rfl)
theorem wd_59 {Z : State} {a0 : Array Value} (hw : ∀ d ∈ tables_1, d.before a0 Z = true) : (Jvm.Cond.fieldLink "com/example/libreach/libreach/engine/StateStore" (63 : Nat) "com/example/libreach/libreach/engine/StateStore" "words" "I").before a0 Z = true := hw _ (List.mem_of_getElem? (i := 59) rfl)
theorem wd_60 {Z : State} {a0 : Array Value} (hw : ∀ d ∈ tables_1, d.before a0 Z = true) : (Jvm.Cond.lays "com/example/libreach/libreach/engine/StateStore" "com/example/libreach/libreach/engine/StateStore" "words" "I").before a0 Z = true := hw _ (List.mem_of_getElem? (i := 60) rfl)
theorem wd_61 {Z : State} {a0 : Array Value} (hw : ∀ d ∈ tables_1, d.before a0 Z = true) : (Jvm.Cond.fieldLink "com/example/libreach/libreach/engine/StateStore" (56 : Nat) "com/example/libreach/libreach/engine/StateStore" "recordWords" "I").before a0 Z = true := hw _ (List.mem_of_getElem? (i := 61) rfl)
theorem wd_62 {Z : State} {a0 : Array Value} (hw : ∀ d ∈ tables_1, d.before a0 Z = true) : (Jvm.Cond.lays "com/example/libreach/libreach/engine/StateStore" "com/example/libreach/libreach/engine/StateStore" "recordWords" "I").before a0 Z = true := hw _ (List.mem_of_getElem? (i := 62) rfl)
theorem wd_63 {Z : State} {a0 : Array Value} (hw : ∀ d ∈ tables_1, d.before a0 Z = true) : (Jvm.Cond.methodLink "com/example/libreach/libreach/engine/StateStore" (121 : Nat) ({ cls := "java/lang/Integer", name := "numberOfLeadingZeros", desc := "(I)I" } : Jvm.MethodName)).before a0 Z = true := hw _ (List.mem_of_getElem? (i := 63) rfl)
theorem wd_64 {Z : State} {a0 : Array Value} (hw : ∀ d ∈ tables_1, d.before a0 Z = true) : (Jvm.Cond.static ({ cls := "java/lang/Integer", name := "numberOfLeadingZeros", desc := "(I)I" } : Jvm.MethodName)).before a0 Z = true := hw _ (List.mem_of_getElem? (i := 64) rfl)
theorem wd_65 {Z : State} {a0 : Array Value} (hw : ∀ d ∈ tables_1, d.before a0 Z = true) : (Jvm.Cond.initialized "java/lang/Integer").before a0 Z = true := hw _ (List.mem_of_getElem? (i := 65) rfl)
theorem wd_66 {Z : State} {a0 : Array Value} (hw : ∀ d ∈ tables_1, d.before a0 Z = true) : (Jvm.Cond.code ({ cls := "java/lang/Integer", name := "numberOfLeadingZeros", desc := "(I)I" } : Jvm.MethodName) jdk_33_method_47_code (2 : Nat) (Option.some Jvm.ClassFile.FieldType.int)).before a0 Z = true := hw _ (List.mem_of_getElem? (i := 66) rfl)
theorem wd_67 {Z : State} {a0 : Array Value} (hw : ∀ d ∈ tables_1, d.before a0 Z = true) : (Jvm.Cond.constant "java/lang/Integer" (264 : Nat) (65536 : Int32)).before a0 Z = true := hw _ (List.mem_of_getElem? (i := 67) rfl)
theorem wd_68 {Z : State} {a0 : Array Value} (hw : ∀ d ∈ tables_1, d.before a0 Z = true) : (Jvm.Cond.constant "com/example/libreach/libreach/engine/StateStore" (126 : Nat) (32768 : Int32)).before a0 Z = true := hw _ (List.mem_of_getElem? (i := 68) rfl)
theorem wd_69 {Z : State} {a0 : Array Value} (hw : ∀ d ∈ tables_1, d.before a0 Z = true) : (Jvm.Cond.methodLink "com/example/libreach/libreach/engine/StateStore" (127 : Nat) ({ cls := "java/lang/Integer", name := "numberOfTrailingZeros", desc := "(I)I" } : Jvm.MethodName)).before a0 Z = true := hw _ (List.mem_of_getElem? (i := 69) rfl)
theorem wd_70 {Z : State} {a0 : Array Value} (hw : ∀ d ∈ tables_1, d.before a0 Z = true) : (Jvm.Cond.static ({ cls := "java/lang/Integer", name := "numberOfTrailingZeros", desc := "(I)I" } : Jvm.MethodName)).before a0 Z = true := hw _ (List.mem_of_getElem? (i := 70) rfl)
theorem wd_71 {Z : State} {a0 : Array Value} (hw : ∀ d ∈ tables_1, d.before a0 Z = true) : (Jvm.Cond.code ({ cls := "java/lang/Integer", name := "numberOfTrailingZeros", desc := "(I)I" } : Jvm.MethodName) jdk_33_method_48_code (2 : Nat) (Option.some Jvm.ClassFile.FieldType.int)).before a0 Z = true := hw _ (List.mem_of_getElem? (i := 71) rfl)
theorem wd_72 {Z : State} {a0 : Array Value} (hw : ∀ d ∈ tables_1, d.before a0 Z = true) : (Jvm.Cond.methodLink "com/example/libreach/libreach/engine/StateStore" (130 : Nat) ({ cls := "java/lang/Math", name := "max", desc := "(II)I" } : Jvm.MethodName)).before a0 Z = true := hw _ (List.mem_of_getElem? (i := 72) rfl)
theorem wd_73 {Z : State} {a0 : Array Value} (hw : ∀ d ∈ tables_1, d.before a0 Z = true) : (Jvm.Cond.static ({ cls := "java/lang/Math", name := "max", desc := "(II)I" } : Jvm.MethodName)).before a0 Z = true := hw _ (List.mem_of_getElem? (i := 73) rfl)
theorem wd_74 {Z : State} {a0 : Array Value} (hw : ∀ d ∈ tables_1, d.before a0 Z = true) : (Jvm.Cond.initialized "java/lang/Math").before a0 Z = true := hw _ (List.mem_of_getElem? (i := 74) rfl)
theorem wd_75 {Z : State} {a0 : Array Value} (hw : ∀ d ∈ tables_1, d.before a0 Z = true) : (Jvm.Cond.code ({ cls := "java/lang/Math", name := "max", desc := "(II)I" } : Jvm.MethodName) jdk_29_method_65_code (2 : Nat) (Option.some Jvm.ClassFile.FieldType.int)).before a0 Z = true := hw _ (List.mem_of_getElem? (i := 75) rfl)
theorem wd_76 {Z : State} {a0 : Array Value} (hw : ∀ d ∈ tables_1, d.before a0 Z = true) : (Jvm.Cond.fieldLink "com/example/libreach/libreach/engine/StateStore" (46 : Nat) "com/example/libreach/libreach/engine/StateStore" "pageShift" "I").before a0 Z = true := hw _ (List.mem_of_getElem? (i := 76) rfl)
theorem wd_77 {Z : State} {a0 : Array Value} (hw : ∀ d ∈ tables_1, d.before a0 Z = true) : (Jvm.Cond.lays "com/example/libreach/libreach/engine/StateStore" "com/example/libreach/libreach/engine/StateStore" "pageShift" "I").before a0 Z = true := hw _ (List.mem_of_getElem? (i := 77) rfl)
theorem wd_78 {Z : State} {a0 : Array Value} (hw : ∀ d ∈ tables_1, d.before a0 Z = true) : (Jvm.Cond.classLink "com/example/libreach/libreach/engine/StateStore" (16 : Nat) "[J").before a0 Z = true := hw _ (List.mem_of_getElem? (i := 78) rfl)
theorem wd_79 {Z : State} {a0 : Array Value} (hw : ∀ d ∈ tables_1, d.before a0 Z = true) : (Jvm.Cond.arrayOver (Jvm.ClassFile.FieldType.array Jvm.ClassFile.FieldType.long)).before a0 Z = true := hw _ (List.mem_of_getElem? (i := 79) rfl)
theorem wd_80 {Z : State} {a0 : Array Value} (hw : ∀ d ∈ tables_1, d.before a0 Z = true) : (Jvm.Cond.fieldLink "com/example/libreach/libreach/engine/StateStore" (18 : Nat) "com/example/libreach/libreach/engine/StateStore" "pages" "[[J").before a0 Z = true := hw _ (List.mem_of_getElem? (i := 80) rfl)
theorem wd_81 {Z : State} {a0 : Array Value} (hw : ∀ d ∈ tables_1, d.before a0 Z = true) : (Jvm.Cond.lays "com/example/libreach/libreach/engine/StateStore" "com/example/libreach/libreach/engine/StateStore" "pages" "[[J").before a0 Z = true := hw _ (List.mem_of_getElem? (i := 81) rfl)
theorem wd_82 {Z : State} {a0 : Array Value} (hw : ∀ d ∈ tables_1, d.before a0 Z = true) : (Jvm.Cond.constant "com/example/libreach/libreach/engine/StateStore" (22 : Nat) (1073741824 : Int32)).before a0 Z = true := hw _ (List.mem_of_getElem? (i := 82) rfl)
theorem wd_83 {Z : State} {a0 : Array Value} (hw : ∀ d ∈ tables_1, d.before a0 Z = true) : (Jvm.Cond.fieldLink "com/example/libreach/libreach/engine/StateStore" (23 : Nat) "com/example/libreach/libreach/engine/StateStore" "table" "[J").before a0 Z = true := hw _ (List.mem_of_getElem? (i := 83) rfl)
theorem wd_84 {Z : State} {a0 : Array Value} (hw : ∀ d ∈ tables_1, d.before a0 Z = true) : (Jvm.Cond.lays "com/example/libreach/libreach/engine/StateStore" "com/example/libreach/libreach/engine/StateStore" "table" "[J").before a0 Z = true := hw _ (List.mem_of_getElem? (i := 84) rfl)
theorem wd_85 {Z : State} {a0 : Array Value} (hw : ∀ d ∈ tables_1, d.before a0 Z = true) : (Jvm.Cond.methodLink "com/example/libreach/libreach/engine/StateStoreHashPinLaw" (17 : Nat) ({ cls := "com/example/libreach/libreach/engine/StateStore", name := "hash", desc := "([JI)I" } : Jvm.MethodName)).before a0 Z = true := hw _ (List.mem_of_getElem? (i := 85) rfl)
theorem wd_86 {Z : State} {a0 : Array Value} (hw : ∀ d ∈ tables_1, d.before a0 Z = true) : (Jvm.Cond.declares ({ cls := "com/example/libreach/libreach/engine/StateStore", name := "hash", desc := "([JI)I" } : Jvm.MethodName)).before a0 Z = true := hw _ (List.mem_of_getElem? (i := 86) rfl)
theorem wd_87 {Z : State} {a0 : Array Value} (hw : ∀ d ∈ tables_1, d.before a0 Z = true) : (Jvm.Cond.instanceMethod ({ cls := "com/example/libreach/libreach/engine/StateStore", name := "hash", desc := "([JI)I" } : Jvm.MethodName)).before a0 Z = true := hw _ (List.mem_of_getElem? (i := 87) rfl)
theorem wd_88 {Z : State} {a0 : Array Value} (hw : ∀ d ∈ tables_1, d.before a0 Z = true) : (Jvm.Cond.selects "com/example/libreach/libreach/engine/StateStore" ({ cls := "com/example/libreach/libreach/engine/StateStore", name := "hash", desc := "([JI)I" } : Jvm.MethodName) ({ cls := "com/example/libreach/libreach/engine/StateStore", name := "hash", desc := "([JI)I" } : Jvm.MethodName)).before a0 Z = true := hw _ (List.mem_of_getElem? (i := 88) rfl)
theorem wd_89 {Z : State} {a0 : Array Value} (hw : ∀ d ∈ tables_1, d.before a0 Z = true) : (Jvm.Cond.code ({ cls := "com/example/libreach/libreach/engine/StateStore", name := "hash", desc := "([JI)I" } : Jvm.MethodName) prog_18_method_7_code (6 : Nat) (Option.some Jvm.ClassFile.FieldType.int)).before a0 Z = true := hw _ (List.mem_of_getElem? (i := 89) rfl)
theorem wd_90 {Z : State} {a0 : Array Value} (hw : ∀ d ∈ tables_1, d.before a0 Z = true) : (Jvm.Cond.constantLong "com/example/libreach/libreach/engine/StateStore" (79 : Nat) (-4658895280553007687 : Int64)).before a0 Z = true := hw _ (List.mem_of_getElem? (i := 90) rfl)
theorem wd_91 {Z : State} {a0 : Array Value} (hw : ∀ d ∈ tables_1, d.before a0 Z = true) : (Jvm.Cond.constantLong "com/example/libreach/libreach/engine/StateLayout" (30 : Nat) (-1 : Int64)).before a0 Z = true := hw _ (List.mem_of_getElem? (i := 91) rfl)
theorem wd_92 {Z : State} {a0 : Array Value} (hw : ∀ d ∈ tables_1, d.before a0 Z = true) : (Jvm.Cond.constantLong "com/example/libreach/libreach/engine/StateStore" (77 : Nat) (-7046029254386353131 : Int64)).before a0 Z = true := hw _ (List.mem_of_getElem? (i := 92) rfl)
theorem wd_93 {Z : State} {a0 : Array Value} (hw : ∀ d ∈ tables_1, d.before a0 Z = true) : (Jvm.Cond.methodLink "java/util/Arrays" (304 : Nat) ({ cls := "java/lang/Math", name := "min", desc := "(II)I" } : Jvm.MethodName)).before a0 Z = true := hw _ (List.mem_of_getElem? (i := 93) rfl)
theorem wd_94 {Z : State} {a0 : Array Value} (hw : ∀ d ∈ tables_1, d.before a0 Z = true) : (Jvm.Cond.static ({ cls := "java/lang/Math", name := "min", desc := "(II)I" } : Jvm.MethodName)).before a0 Z = true := hw _ (List.mem_of_getElem? (i := 94) rfl)
theorem wd_95 {Z : State} {a0 : Array Value} (hw : ∀ d ∈ tables_1, d.before a0 Z = true) : (Jvm.Cond.code ({ cls := "java/lang/Math", name := "min", desc := "(II)I" } : Jvm.MethodName) jdk_29_method_69_code (2 : Nat) (Option.some Jvm.ClassFile.FieldType.int)).before a0 Z = true := hw _ (List.mem_of_getElem? (i := 95) rfl)
theorem wd_96 {Z : State} {a0 : Array Value} (hw : ∀ d ∈ tables_1, d.before a0 Z = true) : (Jvm.Cond.methodLink "java/util/Arrays" (150 : Nat) ({ cls := "java/lang/System", name := "arraycopy", desc := "(Ljava/lang/Object;ILjava/lang/Object;II)V" } : Jvm.MethodName)).before a0 Z = true := hw _ (List.mem_of_getElem? (i := 96) rfl)
theorem wd_97 {Z : State} {a0 : Array Value} (hw : ∀ d ∈ tables_1, d.before a0 Z = true) : (Jvm.Cond.static ({ cls := "java/lang/System", name := "arraycopy", desc := "(Ljava/lang/Object;ILjava/lang/Object;II)V" } : Jvm.MethodName)).before a0 Z = true := hw _ (List.mem_of_getElem? (i := 97) rfl)
theorem wd_98 {Z : State} {a0 : Array Value} (hw : ∀ d ∈ tables_1, d.before a0 Z = true) : (Jvm.Cond.initialized "java/lang/System").before a0 Z = true := hw _ (List.mem_of_getElem? (i := 98) rfl)
theorem wd_99 {Z : State} {a0 : Array Value} (hw : ∀ d ∈ tables_1, d.before a0 Z = true) : (Jvm.Cond.native ({ cls := "java/lang/System", name := "arraycopy", desc := "(Ljava/lang/Object;ILjava/lang/Object;II)V" } : Jvm.MethodName)).before a0 Z = true := hw _ (List.mem_of_getElem? (i := 99) rfl)
theorem ef_rm12 : ∀ (m : MethodId) (xa : Int32) (xb : Int32), entryFrame m #[(.int xa), (.int xb)] 2 = mkF m 0 #[.val (.int xa), .val (.int xb)] [] := by intros; first | (simp [entryFrame, mkF, argsToLocals, Value.category]; done) | rfl
theorem d12_0 : decode jdk_29_method_69_code 0 = .ok (.iload_n 0, 1) := by decide +kernel
theorem d12_1 : decode jdk_29_method_69_code 1 = .ok (.iload_n 1, 1) := by decide +kernel
theorem d12_2 : decode jdk_29_method_69_code 2 = .ok (.if_icmp .gt 7, 3) := by decide +kernel
theorem d12_9 : decode jdk_29_method_69_code 9 = .ok (.iload_n 1, 1) := by decide +kernel
theorem d12_10 : decode jdk_29_method_69_code 10 = .ok (.ireturn, 1) := by decide +kernel
theorem d12_5 : decode jdk_29_method_69_code 5 = .ok (.iload_n 0, 1) := by decide +kernel
theorem d12_6 : decode jdk_29_method_69_code 6 = .ok (.goto 4, 3) := by decide +kernel
theorem ef_rm10 : ∀ (m : MethodId) (xa : Int32) (xb : Int32), entryFrame m #[(.int xa), (.int xb)] 2 = mkF m 0 #[.val (.int xa), .val (.int xb)] [] := by intros; first | (simp [entryFrame, mkF, argsToLocals, Value.category]; done) | rfl
theorem d10_0 : decode jdk_29_method_65_code 0 = .ok (.iload_n 0, 1) := by decide +kernel
theorem d10_1 : decode jdk_29_method_65_code 1 = .ok (.iload_n 1, 1) := by decide +kernel
theorem d10_2 : decode jdk_29_method_65_code 2 = .ok (.if_icmp .lt 7, 3) := by decide +kernel
theorem d10_9 : decode jdk_29_method_65_code 9 = .ok (.iload_n 1, 1) := by decide +kernel
theorem d10_10 : decode jdk_29_method_65_code 10 = .ok (.ireturn, 1) := by decide +kernel
theorem d10_5 : decode jdk_29_method_65_code 5 = .ok (.iload_n 0, 1) := by decide +kernel
theorem d10_6 : decode jdk_29_method_65_code 6 = .ok (.goto 4, 3) := by decide +kernel
theorem ef_rm8_1 : ∀ (m : MethodId) , entryFrame m #[(.int (1 : Int32))] 2 = mkF m 0 #[.val (.int (1 : Int32)), .unset] [] := by intros; first | (simp [entryFrame, mkF, argsToLocals, Value.category]; done) | rfl
theorem d8_0 : decode jdk_33_method_47_code 0 = .ok (.iload_n 0, 1) := by decide +kernel
theorem d8_1 : decode jdk_33_method_47_code 1 = .ok (.ifCond .gt 14, 3) := by decide +kernel
theorem d8_15 : decode jdk_33_method_47_code 15 = .ok (.bipush 31, 2) := by decide +kernel
theorem d8_17 : decode jdk_33_method_47_code 17 = .ok (.istore_n 1, 1) := by decide +kernel
theorem d8_18 : decode jdk_33_method_47_code 18 = .ok (.iload_n 0, 1) := by decide +kernel
theorem d8_19 : decode jdk_33_method_47_code 19 = .ok (.ldc_w 264, 3) := by decide +kernel
theorem d8_22 : decode jdk_33_method_47_code 22 = .ok (.if_icmp .lt 11, 3) := by decide +kernel
theorem d8_33 : decode jdk_33_method_47_code 33 = .ok (.iload_n 0, 1) := by decide +kernel
theorem d8_34 : decode jdk_33_method_47_code 34 = .ok (.sipush 256, 3) := by decide +kernel
theorem d8_37 : decode jdk_33_method_47_code 37 = .ok (.if_icmp .lt 11, 3) := by decide +kernel
theorem d8_48 : decode jdk_33_method_47_code 48 = .ok (.iload_n 0, 1) := by decide +kernel
theorem d8_49 : decode jdk_33_method_47_code 49 = .ok (.bipush 16, 2) := by decide +kernel
theorem d8_51 : decode jdk_33_method_47_code 51 = .ok (.if_icmp .lt 10, 3) := by decide +kernel
theorem d8_61 : decode jdk_33_method_47_code 61 = .ok (.iload_n 0, 1) := by decide +kernel
theorem d8_62 : decode jdk_33_method_47_code 62 = .ok (.iconst 4, 1) := by decide +kernel
theorem d8_63 : decode jdk_33_method_47_code 63 = .ok (.if_icmp .lt 10, 3) := by decide +kernel
theorem d8_73 : decode jdk_33_method_47_code 73 = .ok (.iload_n 1, 1) := by decide +kernel
theorem d8_74 : decode jdk_33_method_47_code 74 = .ok (.iload_n 0, 1) := by decide +kernel
theorem d8_75 : decode jdk_33_method_47_code 75 = .ok (.iconst 1, 1) := by decide +kernel
theorem d8_76 : decode jdk_33_method_47_code 76 = .ok (.iushr, 1) := by decide +kernel
theorem d8_77 : decode jdk_33_method_47_code 77 = .ok (.isub, 1) := by decide +kernel
theorem d8_78 : decode jdk_33_method_47_code 78 = .ok (.ireturn, 1) := by decide +kernel
theorem pn_8 : plainName "java/lang/Integer" = true := by first | (simp [plainName, overriddenIn]; done) | decide +kernel
theorem ef_rm8_2 : ∀ (m : MethodId) , entryFrame m #[(.int (2 : Int32))] 2 = mkF m 0 #[.val (.int (2 : Int32)), .unset] [] := by intros; first | (simp [entryFrame, mkF, argsToLocals, Value.category]; done) | rfl
theorem ef_rm8_3 : ∀ (m : MethodId) , entryFrame m #[(.int (3 : Int32))] 2 = mkF m 0 #[.val (.int (3 : Int32)), .unset] [] := by intros; first | (simp [entryFrame, mkF, argsToLocals, Value.category]; done) | rfl
theorem ef_rm9_32768 : ∀ (m : MethodId) , entryFrame m #[(.int (32768 : Int32))] 2 = mkF m 0 #[.val (.int (32768 : Int32)), .unset] [] := by intros; first | (simp [entryFrame, mkF, argsToLocals, Value.category]; done) | rfl
theorem d9_0 : decode jdk_33_method_48_code 0 = .ok (.iload_n 0, 1) := by decide +kernel
theorem d9_1 : decode jdk_33_method_48_code 1 = .ok (.iconst (-1), 1) := by decide +kernel
theorem d9_2 : decode jdk_33_method_48_code 2 = .ok (.ixor, 1) := by decide +kernel
theorem d9_3 : decode jdk_33_method_48_code 3 = .ok (.iload_n 0, 1) := by decide +kernel
theorem d9_4 : decode jdk_33_method_48_code 4 = .ok (.iconst 1, 1) := by decide +kernel
theorem d9_5 : decode jdk_33_method_48_code 5 = .ok (.isub, 1) := by decide +kernel
theorem d9_6 : decode jdk_33_method_48_code 6 = .ok (.iand, 1) := by decide +kernel
theorem d9_7 : decode jdk_33_method_48_code 7 = .ok (.istore_n 0, 1) := by decide +kernel
theorem d9_8 : decode jdk_33_method_48_code 8 = .ok (.iload_n 0, 1) := by decide +kernel
theorem d9_9 : decode jdk_33_method_48_code 9 = .ok (.ifCond .gt 8, 3) := by decide +kernel
theorem d9_17 : decode jdk_33_method_48_code 17 = .ok (.iconst 1, 1) := by decide +kernel
theorem d9_18 : decode jdk_33_method_48_code 18 = .ok (.istore_n 1, 1) := by decide +kernel
theorem d9_19 : decode jdk_33_method_48_code 19 = .ok (.iload_n 0, 1) := by decide +kernel
theorem d9_20 : decode jdk_33_method_48_code 20 = .ok (.ldc_w 264, 3) := by decide +kernel
theorem d9_23 : decode jdk_33_method_48_code 23 = .ok (.if_icmp .le 11, 3) := by decide +kernel
theorem d9_34 : decode jdk_33_method_48_code 34 = .ok (.iload_n 0, 1) := by decide +kernel
theorem d9_35 : decode jdk_33_method_48_code 35 = .ok (.sipush 256, 3) := by decide +kernel
theorem d9_38 : decode jdk_33_method_48_code 38 = .ok (.if_icmp .le 11, 3) := by decide +kernel
theorem d9_41 : decode jdk_33_method_48_code 41 = .ok (.iinc 1 8, 3) := by decide +kernel
theorem d9_44 : decode jdk_33_method_48_code 44 = .ok (.iload_n 0, 1) := by decide +kernel
theorem d9_45 : decode jdk_33_method_48_code 45 = .ok (.bipush 8, 2) := by decide +kernel
theorem d9_47 : decode jdk_33_method_48_code 47 = .ok (.iushr, 1) := by decide +kernel
theorem d9_48 : decode jdk_33_method_48_code 48 = .ok (.istore_n 0, 1) := by decide +kernel
theorem d9_49 : decode jdk_33_method_48_code 49 = .ok (.iload_n 0, 1) := by decide +kernel
theorem d9_50 : decode jdk_33_method_48_code 50 = .ok (.bipush 16, 2) := by decide +kernel
theorem d9_52 : decode jdk_33_method_48_code 52 = .ok (.if_icmp .le 10, 3) := by decide +kernel
theorem d9_55 : decode jdk_33_method_48_code 55 = .ok (.iinc 1 4, 3) := by decide +kernel
theorem d9_58 : decode jdk_33_method_48_code 58 = .ok (.iload_n 0, 1) := by decide +kernel
theorem d9_59 : decode jdk_33_method_48_code 59 = .ok (.iconst 4, 1) := by decide +kernel
theorem d9_60 : decode jdk_33_method_48_code 60 = .ok (.iushr, 1) := by decide +kernel
theorem d9_61 : decode jdk_33_method_48_code 61 = .ok (.istore_n 0, 1) := by decide +kernel
theorem d9_62 : decode jdk_33_method_48_code 62 = .ok (.iload_n 0, 1) := by decide +kernel
theorem d9_63 : decode jdk_33_method_48_code 63 = .ok (.iconst 4, 1) := by decide +kernel
theorem d9_64 : decode jdk_33_method_48_code 64 = .ok (.if_icmp .le 10, 3) := by decide +kernel
theorem d9_67 : decode jdk_33_method_48_code 67 = .ok (.iinc 1 2, 3) := by decide +kernel
theorem d9_70 : decode jdk_33_method_48_code 70 = .ok (.iload_n 0, 1) := by decide +kernel
theorem d9_71 : decode jdk_33_method_48_code 71 = .ok (.iconst 2, 1) := by decide +kernel
theorem d9_72 : decode jdk_33_method_48_code 72 = .ok (.iushr, 1) := by decide +kernel
theorem d9_73 : decode jdk_33_method_48_code 73 = .ok (.istore_n 0, 1) := by decide +kernel
theorem d9_74 : decode jdk_33_method_48_code 74 = .ok (.iload_n 1, 1) := by decide +kernel
theorem d9_75 : decode jdk_33_method_48_code 75 = .ok (.iload_n 0, 1) := by decide +kernel
theorem d9_76 : decode jdk_33_method_48_code 76 = .ok (.iconst 1, 1) := by decide +kernel
theorem d9_77 : decode jdk_33_method_48_code 77 = .ok (.iushr, 1) := by decide +kernel
theorem d9_78 : decode jdk_33_method_48_code 78 = .ok (.iadd, 1) := by decide +kernel
theorem d9_79 : decode jdk_33_method_48_code 79 = .ok (.ireturn, 1) := by decide +kernel
theorem pn_9 : plainName "java/lang/Integer" = true := by first | (simp [plainName, overriddenIn]; done) | decide +kernel
theorem ef_rm3_1_1 : ∀ (m : MethodId) (oa : Addr), entryFrame m #[(.ref oa), (.int (1 : Int32))] 3 = mkF m 0 #[.val (.ref oa), .val (.int (1 : Int32)), .unset] [] := by intros; first | (simp [entryFrame, mkF, argsToLocals, Value.category]; done) | rfl
theorem d3_0 : decode jdk_65_method_123_code 0 = .ok (.iload_n 1, 1) := by decide +kernel
theorem d3_1 : decode jdk_65_method_123_code 1 = .ok (.aload_n 0, 1) := by decide +kernel
theorem d3_2 : decode jdk_65_method_123_code 2 = .ok (.arraylength, 1) := by decide +kernel
theorem d3_3 : decode jdk_65_method_123_code 3 = .ok (.if_icmp .ne 11, 3) := by decide +kernel
theorem d3_6 : decode jdk_65_method_123_code 6 = .ok (.aload_n 0, 1) := by decide +kernel
theorem d3_7 : decode jdk_65_method_123_code 7 = .ok (.invokevirtual 316, 3) := by decide +kernel
theorem d3_10 : decode jdk_65_method_123_code 10 = .ok (.checkcast 317, 3) := by decide +kernel
theorem d3_13 : decode jdk_65_method_123_code 13 = .ok (.areturn, 1) := by decide +kernel
theorem pn_3 : plainName "java/util/Arrays" = true := by first | (simp [plainName, overriddenIn]; done) | decide +kernel
theorem ef_rm3_3_2 : ∀ (m : MethodId) (oa : Addr), entryFrame m #[(.ref oa), (.int (2 : Int32))] 3 = mkF m 0 #[.val (.ref oa), .val (.int (2 : Int32)), .unset] [] := by intros; first | (simp [entryFrame, mkF, argsToLocals, Value.category]; done) | rfl
theorem d3_14 : decode jdk_65_method_123_code 14 = .ok (.iload_n 1, 1) := by decide +kernel
theorem d3_15 : decode jdk_65_method_123_code 15 = .ok (.newarray .int, 2) := by decide +kernel
theorem d3_17 : decode jdk_65_method_123_code 17 = .ok (.astore_n 2, 1) := by decide +kernel
theorem d3_18 : decode jdk_65_method_123_code 18 = .ok (.aload_n 0, 1) := by decide +kernel
theorem d3_19 : decode jdk_65_method_123_code 19 = .ok (.iconst 0, 1) := by decide +kernel
theorem d3_20 : decode jdk_65_method_123_code 20 = .ok (.aload_n 2, 1) := by decide +kernel
theorem d3_21 : decode jdk_65_method_123_code 21 = .ok (.iconst 0, 1) := by decide +kernel
theorem d3_22 : decode jdk_65_method_123_code 22 = .ok (.aload_n 0, 1) := by decide +kernel
theorem d3_23 : decode jdk_65_method_123_code 23 = .ok (.arraylength, 1) := by decide +kernel
theorem d3_24 : decode jdk_65_method_123_code 24 = .ok (.iload_n 1, 1) := by decide +kernel
theorem pd_0 : parseMethodDescriptor "(II)I" = some ⟨[.int, .int], some .int⟩ := by decide +kernel
theorem d3_25 : decode jdk_65_method_123_code 25 = .ok (.invokestatic 304, 3) := by decide +kernel
theorem d3_28 : decode jdk_65_method_123_code 28 = .ok (.invokestatic 150, 3) := by decide +kernel
theorem d3_31 : decode jdk_65_method_123_code 31 = .ok (.aload_n 2, 1) := by decide +kernel
theorem d3_32 : decode jdk_65_method_123_code 32 = .ok (.areturn, 1) := by decide +kernel
theorem ef_rm3_3_3 : ∀ (m : MethodId) (oa : Addr), entryFrame m #[(.ref oa), (.int (3 : Int32))] 3 = mkF m 0 #[.val (.ref oa), .val (.int (3 : Int32)), .unset] [] := by intros; first | (simp [entryFrame, mkF, argsToLocals, Value.category]; done) | rfl
theorem ef_rm1_0 : ∀ (m : MethodId) (oa : Addr) (ob : Addr), entryFrame m #[(.ref oa), (.ref ob)] 7 = mkF m 0 #[.val (.ref oa), .val (.ref ob), .unset, .unset, .unset, .unset, .unset] [] := by intros; first | (simp [entryFrame, mkF, argsToLocals, Value.category]; done) | rfl
theorem d1_0 : decode prog_17_method_1_code 0 = .ok (.aload_n 0, 1) := by decide +kernel
theorem d1_1 : decode prog_17_method_1_code 1 = .ok (.invokespecial 1, 3) := by decide +kernel
theorem d1_4 : decode prog_17_method_1_code 4 = .ok (.aload_n 0, 1) := by decide +kernel
theorem d1_5 : decode prog_17_method_1_code 5 = .ok (.aload_n 1, 1) := by decide +kernel
theorem d1_6 : decode prog_17_method_1_code 6 = .ok (.invokevirtual 7, 3) := by decide +kernel
theorem d1_9 : decode prog_17_method_1_code 9 = .ok (.checkcast 8, 3) := by decide +kernel
theorem d1_12 : decode prog_17_method_1_code 12 = .ok (.putfield 13, 3) := by decide +kernel
theorem d1_15 : decode prog_17_method_1_code 15 = .ok (.aload_n 0, 1) := by decide +kernel
theorem d1_16 : decode prog_17_method_1_code 16 = .ok (.aload_n 1, 1) := by decide +kernel
theorem d1_17 : decode prog_17_method_1_code 17 = .ok (.arraylength, 1) := by decide +kernel
theorem d1_18 : decode prog_17_method_1_code 18 = .ok (.newarray .int, 2) := by decide +kernel
theorem d1_20 : decode prog_17_method_1_code 20 = .ok (.putfield 18, 3) := by decide +kernel
theorem d1_23 : decode prog_17_method_1_code 23 = .ok (.aload_n 0, 1) := by decide +kernel
theorem d1_24 : decode prog_17_method_1_code 24 = .ok (.aload_n 1, 1) := by decide +kernel
theorem d1_25 : decode prog_17_method_1_code 25 = .ok (.arraylength, 1) := by decide +kernel
theorem d1_26 : decode prog_17_method_1_code 26 = .ok (.newarray .int, 2) := by decide +kernel
theorem d1_28 : decode prog_17_method_1_code 28 = .ok (.putfield 21, 3) := by decide +kernel
theorem d1_31 : decode prog_17_method_1_code 31 = .ok (.aload_n 0, 1) := by decide +kernel
theorem d1_32 : decode prog_17_method_1_code 32 = .ok (.aload_n 1, 1) := by decide +kernel
theorem d1_33 : decode prog_17_method_1_code 33 = .ok (.arraylength, 1) := by decide +kernel
theorem d1_34 : decode prog_17_method_1_code 34 = .ok (.newarray .long, 2) := by decide +kernel
theorem d1_36 : decode prog_17_method_1_code 36 = .ok (.putfield 24, 3) := by decide +kernel
theorem d1_39 : decode prog_17_method_1_code 39 = .ok (.iconst 0, 1) := by decide +kernel
theorem d1_40 : decode prog_17_method_1_code 40 = .ok (.istore_n 2, 1) := by decide +kernel
theorem d1_41 : decode prog_17_method_1_code 41 = .ok (.iconst 0, 1) := by decide +kernel
theorem d1_42 : decode prog_17_method_1_code 42 = .ok (.istore_n 3, 1) := by decide +kernel
theorem d1_43 : decode prog_17_method_1_code 43 = .ok (.iconst 0, 1) := by decide +kernel
theorem d1_44 : decode prog_17_method_1_code 44 = .ok (.istore 4, 2) := by decide +kernel
theorem d1_46 : decode prog_17_method_1_code 46 = .ok (.iload 4, 2) := by decide +kernel
theorem d1_48 : decode prog_17_method_1_code 48 = .ok (.aload_n 1, 1) := by decide +kernel
theorem d1_49 : decode prog_17_method_1_code 49 = .ok (.arraylength, 1) := by decide +kernel
theorem d1_50 : decode prog_17_method_1_code 50 = .ok (.if_icmp .ge 66, 3) := by decide +kernel
theorem d1_116 : decode prog_17_method_1_code 116 = .ok (.aload_n 0, 1) := by decide +kernel
theorem d1_117 : decode prog_17_method_1_code 117 = .ok (.aload_n 1, 1) := by decide +kernel
theorem d1_118 : decode prog_17_method_1_code 118 = .ok (.arraylength, 1) := by decide +kernel
theorem d1_119 : decode prog_17_method_1_code 119 = .ok (.ifCond .ne 7, 3) := by decide +kernel
theorem d1_122 : decode prog_17_method_1_code 122 = .ok (.iconst 0, 1) := by decide +kernel
theorem d1_123 : decode prog_17_method_1_code 123 = .ok (.goto 6, 3) := by decide +kernel
theorem d1_129 : decode prog_17_method_1_code 129 = .ok (.putfield 32, 3) := by decide +kernel
theorem d1_132 : decode prog_17_method_1_code 132 = .ok (.iconst 0, 1) := by decide +kernel
theorem d1_133 : decode prog_17_method_1_code 133 = .ok (.istore 4, 2) := by decide +kernel
theorem d1_135 : decode prog_17_method_1_code 135 = .ok (.aload_n 1, 1) := by decide +kernel
theorem d1_136 : decode prog_17_method_1_code 136 = .ok (.arraylength, 1) := by decide +kernel
theorem d1_137 : decode prog_17_method_1_code 137 = .ok (.iconst 1, 1) := by decide +kernel
theorem d1_138 : decode prog_17_method_1_code 138 = .ok (.iadd, 1) := by decide +kernel
theorem d1_139 : decode prog_17_method_1_code 139 = .ok (.newarray .int, 2) := by decide +kernel
theorem d1_141 : decode prog_17_method_1_code 141 = .ok (.astore 5, 2) := by decide +kernel
theorem d1_143 : decode prog_17_method_1_code 143 = .ok (.iconst 0, 1) := by decide +kernel
theorem d1_144 : decode prog_17_method_1_code 144 = .ok (.istore 6, 2) := by decide +kernel
theorem d1_146 : decode prog_17_method_1_code 146 = .ok (.iload 6, 2) := by decide +kernel
theorem d1_148 : decode prog_17_method_1_code 148 = .ok (.aload_n 1, 1) := by decide +kernel
theorem d1_149 : decode prog_17_method_1_code 149 = .ok (.arraylength, 1) := by decide +kernel
theorem d1_150 : decode prog_17_method_1_code 150 = .ok (.if_icmp .ge 56, 3) := by decide +kernel
theorem d1_206 : decode prog_17_method_1_code 206 = .ok (.aload 5, 2) := by decide +kernel
theorem d1_208 : decode prog_17_method_1_code 208 = .ok (.iload 4, 2) := by decide +kernel
theorem d1_210 : decode prog_17_method_1_code 210 = .ok (.iinc 4 1, 3) := by decide +kernel
theorem d1_213 : decode prog_17_method_1_code 213 = .ok (.aload_n 1, 1) := by decide +kernel
theorem d1_214 : decode prog_17_method_1_code 214 = .ok (.arraylength, 1) := by decide +kernel
theorem d1_215 : decode prog_17_method_1_code 215 = .ok (.iastore, 1) := by decide +kernel
theorem d1_216 : decode prog_17_method_1_code 216 = .ok (.aload_n 0, 1) := by decide +kernel
theorem d1_217 : decode prog_17_method_1_code 217 = .ok (.aload 5, 2) := by decide +kernel
theorem d1_219 : decode prog_17_method_1_code 219 = .ok (.iload 4, 2) := by decide +kernel
theorem pd_1 : parseMethodDescriptor "([II)[I" = some ⟨[(.array .int), .int], some (.array .int)⟩ := by decide +kernel
theorem d1_221 : decode prog_17_method_1_code 221 = .ok (.invokestatic 36, 3) := by decide +kernel
theorem d1_224 : decode prog_17_method_1_code 224 = .ok (.putfield 42, 3) := by decide +kernel
theorem d1_227 : decode prog_17_method_1_code 227 = .ok (.return_, 1) := by decide +kernel
theorem pn_1 : plainName "com/example/libreach/libreach/engine/StateLayout" = true := by first | (simp [plainName, overriddenIn]; done) | decide +kernel
theorem ef_rm1_1 : ∀ (m : MethodId) (oa : Addr) (ob : Addr), entryFrame m #[(.ref oa), (.ref ob)] 7 = mkF m 0 #[.val (.ref oa), .val (.ref ob), .unset, .unset, .unset, .unset, .unset] [] := by intros; first | (simp [entryFrame, mkF, argsToLocals, Value.category]; done) | rfl
theorem d1_53 : decode prog_17_method_1_code 53 = .ok (.iload_n 3, 1) := by decide +kernel
theorem d1_54 : decode prog_17_method_1_code 54 = .ok (.aload_n 1, 1) := by decide +kernel
theorem d1_55 : decode prog_17_method_1_code 55 = .ok (.iload 4, 2) := by decide +kernel
theorem d1_57 : decode prog_17_method_1_code 57 = .ok (.iaload, 1) := by decide +kernel
theorem d1_58 : decode prog_17_method_1_code 58 = .ok (.iadd, 1) := by decide +kernel
theorem d1_59 : decode prog_17_method_1_code 59 = .ok (.bipush 64, 2) := by decide +kernel
theorem d1_61 : decode prog_17_method_1_code 61 = .ok (.if_icmp .le 8, 3) := by decide +kernel
theorem d1_69 : decode prog_17_method_1_code 69 = .ok (.aload_n 0, 1) := by decide +kernel
theorem d1_70 : decode prog_17_method_1_code 70 = .ok (.getfield 18, 3) := by decide +kernel
theorem d1_73 : decode prog_17_method_1_code 73 = .ok (.iload 4, 2) := by decide +kernel
theorem d1_75 : decode prog_17_method_1_code 75 = .ok (.iload_n 2, 1) := by decide +kernel
theorem d1_76 : decode prog_17_method_1_code 76 = .ok (.iastore, 1) := by decide +kernel
theorem d1_77 : decode prog_17_method_1_code 77 = .ok (.aload_n 0, 1) := by decide +kernel
theorem d1_78 : decode prog_17_method_1_code 78 = .ok (.getfield 21, 3) := by decide +kernel
theorem d1_81 : decode prog_17_method_1_code 81 = .ok (.iload 4, 2) := by decide +kernel
theorem d1_83 : decode prog_17_method_1_code 83 = .ok (.iload_n 3, 1) := by decide +kernel
theorem d1_84 : decode prog_17_method_1_code 84 = .ok (.iastore, 1) := by decide +kernel
theorem d1_85 : decode prog_17_method_1_code 85 = .ok (.aload_n 0, 1) := by decide +kernel
theorem d1_86 : decode prog_17_method_1_code 86 = .ok (.getfield 24, 3) := by decide +kernel
theorem d1_89 : decode prog_17_method_1_code 89 = .ok (.iload 4, 2) := by decide +kernel
theorem d1_91 : decode prog_17_method_1_code 91 = .ok (.ldc2_w 30, 3) := by decide +kernel
theorem d1_94 : decode prog_17_method_1_code 94 = .ok (.bipush 64, 2) := by decide +kernel
theorem d1_96 : decode prog_17_method_1_code 96 = .ok (.aload_n 1, 1) := by decide +kernel
theorem d1_97 : decode prog_17_method_1_code 97 = .ok (.iload 4, 2) := by decide +kernel
theorem d1_99 : decode prog_17_method_1_code 99 = .ok (.iaload, 1) := by decide +kernel
theorem d1_100 : decode prog_17_method_1_code 100 = .ok (.isub, 1) := by decide +kernel
theorem d1_101 : decode prog_17_method_1_code 101 = .ok (.lushr, 1) := by decide +kernel
theorem d1_102 : decode prog_17_method_1_code 102 = .ok (.lastore, 1) := by decide +kernel
theorem d1_103 : decode prog_17_method_1_code 103 = .ok (.iload_n 3, 1) := by decide +kernel
theorem d1_104 : decode prog_17_method_1_code 104 = .ok (.aload_n 1, 1) := by decide +kernel
theorem d1_105 : decode prog_17_method_1_code 105 = .ok (.iload 4, 2) := by decide +kernel
theorem d1_107 : decode prog_17_method_1_code 107 = .ok (.iaload, 1) := by decide +kernel
theorem d1_108 : decode prog_17_method_1_code 108 = .ok (.iadd, 1) := by decide +kernel
theorem d1_109 : decode prog_17_method_1_code 109 = .ok (.istore_n 3, 1) := by decide +kernel
theorem d1_110 : decode prog_17_method_1_code 110 = .ok (.iinc 4 1, 3) := by decide +kernel
theorem d1_113 : decode prog_17_method_1_code 113 = .ok (.goto (-67), 3) := by decide +kernel
theorem d1_126 : decode prog_17_method_1_code 126 = .ok (.iload_n 2, 1) := by decide +kernel
theorem d1_127 : decode prog_17_method_1_code 127 = .ok (.iconst 1, 1) := by decide +kernel
theorem d1_128 : decode prog_17_method_1_code 128 = .ok (.iadd, 1) := by decide +kernel
theorem d1_153 : decode prog_17_method_1_code 153 = .ok (.iload 6, 2) := by decide +kernel
theorem d1_155 : decode prog_17_method_1_code 155 = .ok (.ifCond .eq 35, 3) := by decide +kernel
theorem d1_190 : decode prog_17_method_1_code 190 = .ok (.aload 5, 2) := by decide +kernel
theorem d1_192 : decode prog_17_method_1_code 192 = .ok (.iload 4, 2) := by decide +kernel
theorem d1_194 : decode prog_17_method_1_code 194 = .ok (.iinc 4 1, 3) := by decide +kernel
theorem d1_197 : decode prog_17_method_1_code 197 = .ok (.iload 6, 2) := by decide +kernel
theorem d1_199 : decode prog_17_method_1_code 199 = .ok (.iastore, 1) := by decide +kernel
theorem d1_200 : decode prog_17_method_1_code 200 = .ok (.iinc 6 1, 3) := by decide +kernel
theorem d1_203 : decode prog_17_method_1_code 203 = .ok (.goto (-57), 3) := by decide +kernel
theorem d1_158 : decode prog_17_method_1_code 158 = .ok (.aload_n 0, 1) := by decide +kernel
theorem d1_159 : decode prog_17_method_1_code 159 = .ok (.getfield 18, 3) := by decide +kernel
theorem d1_162 : decode prog_17_method_1_code 162 = .ok (.iload 6, 2) := by decide +kernel
theorem d1_164 : decode prog_17_method_1_code 164 = .ok (.iaload, 1) := by decide +kernel
theorem d1_165 : decode prog_17_method_1_code 165 = .ok (.aload_n 0, 1) := by decide +kernel
theorem d1_166 : decode prog_17_method_1_code 166 = .ok (.getfield 18, 3) := by decide +kernel
theorem d1_169 : decode prog_17_method_1_code 169 = .ok (.iload 6, 2) := by decide +kernel
theorem d1_171 : decode prog_17_method_1_code 171 = .ok (.iconst 1, 1) := by decide +kernel
theorem d1_172 : decode prog_17_method_1_code 172 = .ok (.isub, 1) := by decide +kernel
theorem d1_173 : decode prog_17_method_1_code 173 = .ok (.iaload, 1) := by decide +kernel
theorem d1_174 : decode prog_17_method_1_code 174 = .ok (.if_icmp .ne 16, 3) := by decide +kernel
theorem d1_177 : decode prog_17_method_1_code 177 = .ok (.aload_n 1, 1) := by decide +kernel
theorem d1_178 : decode prog_17_method_1_code 178 = .ok (.iload 6, 2) := by decide +kernel
theorem d1_180 : decode prog_17_method_1_code 180 = .ok (.iaload, 1) := by decide +kernel
theorem d1_181 : decode prog_17_method_1_code 181 = .ok (.aload_n 1, 1) := by decide +kernel
theorem d1_182 : decode prog_17_method_1_code 182 = .ok (.iload 6, 2) := by decide +kernel
theorem d1_184 : decode prog_17_method_1_code 184 = .ok (.iconst 1, 1) := by decide +kernel
theorem d1_185 : decode prog_17_method_1_code 185 = .ok (.isub, 1) := by decide +kernel
theorem d1_186 : decode prog_17_method_1_code 186 = .ok (.iaload, 1) := by decide +kernel
theorem d1_187 : decode prog_17_method_1_code 187 = .ok (.if_icmp .eq 13, 3) := by decide +kernel
theorem ef_rm1_2 : ∀ (m : MethodId) (oa : Addr) (ob : Addr), entryFrame m #[(.ref oa), (.ref ob)] 7 = mkF m 0 #[.val (.ref oa), .val (.ref ob), .unset, .unset, .unset, .unset, .unset] [] := by intros; first | (simp [entryFrame, mkF, argsToLocals, Value.category]; done) | rfl
theorem d1_64 : decode prog_17_method_1_code 64 = .ok (.iinc 2 1, 3) := by decide +kernel
theorem d1_67 : decode prog_17_method_1_code 67 = .ok (.iconst 0, 1) := by decide +kernel
theorem d1_68 : decode prog_17_method_1_code 68 = .ok (.istore_n 3, 1) := by decide +kernel
theorem ef_rm7 : ∀ (m : MethodId) (oa : Addr), entryFrame m #[(.ref oa)] 1 = mkF m 0 #[.val (.ref oa)] [] := by intros; first | (simp [entryFrame, mkF, argsToLocals, Value.category]; done) | rfl
theorem d7_0 : decode prog_17_method_4_code 0 = .ok (.aload_n 0, 1) := by decide +kernel
theorem d7_1 : decode prog_17_method_4_code 1 = .ok (.getfield 32, 3) := by decide +kernel
theorem d7_4 : decode prog_17_method_4_code 4 = .ok (.ireturn, 1) := by decide +kernel
theorem pn_7 : plainName "com/example/libreach/libreach/engine/StateLayout" = true := by first | (simp [plainName, overriddenIn]; done) | decide +kernel
theorem ef_rm6_0 : ∀ (m : MethodId) (oa : Addr) (ob : Addr), entryFrame m #[(.ref oa), (.ref ob)] 3 = mkF m 0 #[.val (.ref oa), .val (.ref ob), .unset] [] := by intros; first | (simp [entryFrame, mkF, argsToLocals, Value.category]; done) | rfl
theorem d6_0 : decode prog_18_method_14_code 0 = .ok (.aload_n 0, 1) := by decide +kernel
theorem d6_1 : decode prog_18_method_14_code 1 = .ok (.aload_n 1, 1) := by decide +kernel
theorem d6_2 : decode prog_18_method_14_code 2 = .ok (.putfield 26, 3) := by decide +kernel
theorem d6_5 : decode prog_18_method_14_code 5 = .ok (.aload_n 0, 1) := by decide +kernel
theorem d6_6 : decode prog_18_method_14_code 6 = .ok (.aload_n 1, 1) := by decide +kernel
theorem pd_2 : parseMethodDescriptor "()I" = some ⟨[], some .int⟩ := by decide +kernel
theorem d6_7 : decode prog_18_method_14_code 7 = .ok (.invokevirtual 119, 3) := by decide +kernel
theorem d6_10 : decode prog_18_method_14_code 10 = .ok (.putfield 63, 3) := by decide +kernel
theorem d6_13 : decode prog_18_method_14_code 13 = .ok (.aload_n 0, 1) := by decide +kernel
theorem d6_14 : decode prog_18_method_14_code 14 = .ok (.aload_n 0, 1) := by decide +kernel
theorem d6_15 : decode prog_18_method_14_code 15 = .ok (.getfield 63, 3) := by decide +kernel
theorem d6_18 : decode prog_18_method_14_code 18 = .ok (.iconst 1, 1) := by decide +kernel
theorem d6_19 : decode prog_18_method_14_code 19 = .ok (.iadd, 1) := by decide +kernel
theorem d6_20 : decode prog_18_method_14_code 20 = .ok (.putfield 56, 3) := by decide +kernel
theorem d6_23 : decode prog_18_method_14_code 23 = .ok (.bipush 31, 2) := by decide +kernel
theorem d6_25 : decode prog_18_method_14_code 25 = .ok (.aload_n 0, 1) := by decide +kernel
theorem d6_26 : decode prog_18_method_14_code 26 = .ok (.getfield 56, 3) := by decide +kernel
theorem pd_3 : parseMethodDescriptor "(I)I" = some ⟨[.int], some .int⟩ := by decide +kernel
theorem d6_29 : decode prog_18_method_14_code 29 = .ok (.invokestatic 121, 3) := by decide +kernel
theorem d6_32 : decode prog_18_method_14_code 32 = .ok (.isub, 1) := by decide +kernel
theorem d6_33 : decode prog_18_method_14_code 33 = .ok (.istore_n 2, 1) := by decide +kernel
theorem d6_34 : decode prog_18_method_14_code 34 = .ok (.aload_n 0, 1) := by decide +kernel
theorem d6_35 : decode prog_18_method_14_code 35 = .ok (.iconst 0, 1) := by decide +kernel
theorem d6_36 : decode prog_18_method_14_code 36 = .ok (.ldc 126, 2) := by decide +kernel
theorem d6_38 : decode prog_18_method_14_code 38 = .ok (.invokestatic 127, 3) := by decide +kernel
theorem d6_41 : decode prog_18_method_14_code 41 = .ok (.iload_n 2, 1) := by decide +kernel
theorem d6_42 : decode prog_18_method_14_code 42 = .ok (.isub, 1) := by decide +kernel
theorem d6_43 : decode prog_18_method_14_code 43 = .ok (.invokestatic 130, 3) := by decide +kernel
theorem d6_46 : decode prog_18_method_14_code 46 = .ok (.putfield 46, 3) := by decide +kernel
theorem d6_49 : decode prog_18_method_14_code 49 = .ok (.return_, 1) := by decide +kernel
theorem pn_6 : plainName "com/example/libreach/libreach/engine/StateStore" = true := by first | (simp [plainName, overriddenIn]; done) | decide +kernel
theorem ef_rm5_0 : ∀ (m : MethodId) (oa : Addr) (ob : Addr), entryFrame m #[(.ref oa), (.ref ob), (.int (0 : Int32))] 4 = mkF m 0 #[.val (.ref oa), .val (.ref ob), .val (.int (0 : Int32)), .unset] [] := by intros; first | (simp [entryFrame, mkF, argsToLocals, Value.category]; done) | rfl
theorem d5_0 : decode prog_18_method_2_code 0 = .ok (.aload_n 0, 1) := by decide +kernel
theorem d5_1 : decode prog_18_method_2_code 1 = .ok (.invokespecial 7, 3) := by decide +kernel
theorem d5_4 : decode prog_18_method_2_code 4 = .ok (.aload_n 0, 1) := by decide +kernel
theorem d5_5 : decode prog_18_method_2_code 5 = .ok (.aload_n 1, 1) := by decide +kernel
theorem pd_4 : parseMethodDescriptor "(Lcom/example/libreach/libreach/engine/StateLayout;)V" = some ⟨[(.object "com/example/libreach/libreach/engine/StateLayout")], none⟩ := by decide +kernel
theorem d5_6 : decode prog_18_method_2_code 6 = .ok (.invokevirtual 12, 3) := by decide +kernel
theorem d5_9 : decode prog_18_method_2_code 9 = .ok (.aload_n 0, 1) := by decide +kernel
theorem d5_10 : decode prog_18_method_2_code 10 = .ok (.iconst 1, 1) := by decide +kernel
theorem d5_11 : decode prog_18_method_2_code 11 = .ok (.anewarray 16, 3) := by decide +kernel
theorem d5_14 : decode prog_18_method_2_code 14 = .ok (.putfield 18, 3) := by decide +kernel
theorem d5_17 : decode prog_18_method_2_code 17 = .ok (.sipush 1024, 3) := by decide +kernel
theorem d5_20 : decode prog_18_method_2_code 20 = .ok (.istore_n 3, 1) := by decide +kernel
theorem d5_21 : decode prog_18_method_2_code 21 = .ok (.iload_n 3, 1) := by decide +kernel
theorem d5_22 : decode prog_18_method_2_code 22 = .ok (.ldc 22, 2) := by decide +kernel
theorem d5_24 : decode prog_18_method_2_code 24 = .ok (.if_icmp .ge 19, 3) := by decide +kernel
theorem d5_27 : decode prog_18_method_2_code 27 = .ok (.iload_n 2, 1) := by decide +kernel
theorem d5_28 : decode prog_18_method_2_code 28 = .ok (.iload_n 3, 1) := by decide +kernel
theorem d5_29 : decode prog_18_method_2_code 29 = .ok (.iconst 4, 1) := by decide +kernel
theorem d5_30 : decode prog_18_method_2_code 30 = .ok (.idiv, 1) := by decide +kernel
theorem d5_31 : decode prog_18_method_2_code 31 = .ok (.iconst 3, 1) := by decide +kernel
theorem d5_32 : decode prog_18_method_2_code 32 = .ok (.imul, 1) := by decide +kernel
theorem d5_33 : decode prog_18_method_2_code 33 = .ok (.if_icmp .le 10, 3) := by decide +kernel
theorem d5_43 : decode prog_18_method_2_code 43 = .ok (.aload_n 0, 1) := by decide +kernel
theorem d5_44 : decode prog_18_method_2_code 44 = .ok (.iload_n 3, 1) := by decide +kernel
theorem d5_45 : decode prog_18_method_2_code 45 = .ok (.newarray .long, 2) := by decide +kernel
theorem d5_47 : decode prog_18_method_2_code 47 = .ok (.putfield 23, 3) := by decide +kernel
theorem d5_50 : decode prog_18_method_2_code 50 = .ok (.return_, 1) := by decide +kernel
theorem pn_5 : plainName "com/example/libreach/libreach/engine/StateStore" = true := by first | (simp [plainName, overriddenIn]; done) | decide +kernel
theorem ef_rm4_0 : ∀ (m : MethodId) (oa : Addr) (ob : Addr), entryFrame m #[(.ref oa), (.ref ob)] 2 = mkF m 0 #[.val (.ref oa), .val (.ref ob)] [] := by intros; first | (simp [entryFrame, mkF, argsToLocals, Value.category]; done) | rfl
theorem d4_0 : decode prog_18_method_1_code 0 = .ok (.aload_n 0, 1) := by decide +kernel
theorem d4_1 : decode prog_18_method_1_code 1 = .ok (.aload_n 1, 1) := by decide +kernel
theorem d4_2 : decode prog_18_method_1_code 2 = .ok (.iconst 0, 1) := by decide +kernel
theorem pd_5 : parseMethodDescriptor "(Lcom/example/libreach/libreach/engine/StateLayout;I)V" = some ⟨[(.object "com/example/libreach/libreach/engine/StateLayout"), .int], none⟩ := by decide +kernel
theorem d4_3 : decode prog_18_method_1_code 3 = .ok (.invokespecial 1, 3) := by decide +kernel
theorem d4_6 : decode prog_18_method_1_code 6 = .ok (.return_, 1) := by decide +kernel
theorem pn_4 : plainName "com/example/libreach/libreach/engine/StateStore" = true := by first | (simp [plainName, overriddenIn]; done) | decide +kernel
theorem ef_rm6_1 : ∀ (m : MethodId) (oa : Addr) (ob : Addr), entryFrame m #[(.ref oa), (.ref ob)] 3 = mkF m 0 #[.val (.ref oa), .val (.ref ob), .unset] [] := by intros; first | (simp [entryFrame, mkF, argsToLocals, Value.category]; done) | rfl
theorem ef_rm5_1 : ∀ (m : MethodId) (oa : Addr) (ob : Addr), entryFrame m #[(.ref oa), (.ref ob), (.int (0 : Int32))] 4 = mkF m 0 #[.val (.ref oa), .val (.ref ob), .val (.int (0 : Int32)), .unset] [] := by intros; first | (simp [entryFrame, mkF, argsToLocals, Value.category]; done) | rfl
theorem ef_rm4_1 : ∀ (m : MethodId) (oa : Addr) (ob : Addr), entryFrame m #[(.ref oa), (.ref ob)] 2 = mkF m 0 #[.val (.ref oa), .val (.ref ob)] [] := by intros; first | (simp [entryFrame, mkF, argsToLocals, Value.category]; done) | rfl
theorem ef_rm6_2 : ∀ (m : MethodId) (oa : Addr) (ob : Addr), entryFrame m #[(.ref oa), (.ref ob)] 3 = mkF m 0 #[.val (.ref oa), .val (.ref ob), .unset] [] := by intros; first | (simp [entryFrame, mkF, argsToLocals, Value.category]; done) | rfl
theorem ef_rm5_2 : ∀ (m : MethodId) (oa : Addr) (ob : Addr), entryFrame m #[(.ref oa), (.ref ob), (.int (0 : Int32))] 4 = mkF m 0 #[.val (.ref oa), .val (.ref ob), .val (.int (0 : Int32)), .unset] [] := by intros; first | (simp [entryFrame, mkF, argsToLocals, Value.category]; done) | rfl
theorem ef_rm4_2 : ∀ (m : MethodId) (oa : Addr) (ob : Addr), entryFrame m #[(.ref oa), (.ref ob)] 2 = mkF m 0 #[.val (.ref oa), .val (.ref ob)] [] := by intros; first | (simp [entryFrame, mkF, argsToLocals, Value.category]; done) | rfl
theorem ef_rm11_0_0 : ∀ (m : MethodId) (oa : Addr) (ob : Addr), entryFrame m #[(.ref oa), (.ref ob), (.int (0 : Int32))] 6 = mkF m 0 #[.val (.ref oa), .val (.ref ob), .val (.int (0 : Int32)), .unset, .unset, .unset] [] := by intros; first | (simp [entryFrame, mkF, argsToLocals, Value.category]; done) | rfl
theorem d11_0 : decode prog_18_method_7_code 0 = .ok (.aload_n 0, 1) := by decide +kernel
theorem d11_1 : decode prog_18_method_7_code 1 = .ok (.getfield 63, 3) := by decide +kernel
theorem d11_4 : decode prog_18_method_7_code 4 = .ok (.i2l, 1) := by decide +kernel
theorem d11_5 : decode prog_18_method_7_code 5 = .ok (.lstore_n 3, 1) := by decide +kernel
theorem d11_6 : decode prog_18_method_7_code 6 = .ok (.iconst 0, 1) := by decide +kernel
theorem d11_7 : decode prog_18_method_7_code 7 = .ok (.istore 5, 2) := by decide +kernel
theorem d11_9 : decode prog_18_method_7_code 9 = .ok (.iload 5, 2) := by decide +kernel
theorem d11_11 : decode prog_18_method_7_code 11 = .ok (.aload_n 0, 1) := by decide +kernel
theorem d11_12 : decode prog_18_method_7_code 12 = .ok (.getfield 63, 3) := by decide +kernel
theorem d11_15 : decode prog_18_method_7_code 15 = .ok (.if_icmp .ge 29, 3) := by decide +kernel
theorem d11_44 : decode prog_18_method_7_code 44 = .ok (.lload_n 3, 1) := by decide +kernel
theorem d11_45 : decode prog_18_method_7_code 45 = .ok (.ldc2_w 79, 3) := by decide +kernel
theorem d11_48 : decode prog_18_method_7_code 48 = .ok (.lmul, 1) := by decide +kernel
theorem d11_49 : decode prog_18_method_7_code 49 = .ok (.lstore_n 3, 1) := by decide +kernel
theorem d11_50 : decode prog_18_method_7_code 50 = .ok (.lload_n 3, 1) := by decide +kernel
theorem d11_51 : decode prog_18_method_7_code 51 = .ok (.lload_n 3, 1) := by decide +kernel
theorem d11_52 : decode prog_18_method_7_code 52 = .ok (.bipush 32, 2) := by decide +kernel
theorem d11_54 : decode prog_18_method_7_code 54 = .ok (.lushr, 1) := by decide +kernel
theorem d11_55 : decode prog_18_method_7_code 55 = .ok (.lxor, 1) := by decide +kernel
theorem d11_56 : decode prog_18_method_7_code 56 = .ok (.lstore_n 3, 1) := by decide +kernel
theorem d11_57 : decode prog_18_method_7_code 57 = .ok (.lload_n 3, 1) := by decide +kernel
theorem d11_58 : decode prog_18_method_7_code 58 = .ok (.l2i, 1) := by decide +kernel
theorem d11_59 : decode prog_18_method_7_code 59 = .ok (.ireturn, 1) := by decide +kernel
theorem pn_11 : plainName "com/example/libreach/libreach/engine/StateStore" = true := by first | (simp [plainName, overriddenIn]; done) | decide +kernel
theorem ef_rm11_0_1 : ∀ (m : MethodId) (oa : Addr) (ob : Addr), entryFrame m #[(.ref oa), (.ref ob), (.int (1 : Int32))] 6 = mkF m 0 #[.val (.ref oa), .val (.ref ob), .val (.int (1 : Int32)), .unset, .unset, .unset] [] := by intros; first | (simp [entryFrame, mkF, argsToLocals, Value.category]; done) | rfl
theorem ef_rm11_0_2 : ∀ (m : MethodId) (oa : Addr) (ob : Addr), entryFrame m #[(.ref oa), (.ref ob), (.int (2 : Int32))] 6 = mkF m 0 #[.val (.ref oa), .val (.ref ob), .val (.int (2 : Int32)), .unset, .unset, .unset] [] := by intros; first | (simp [entryFrame, mkF, argsToLocals, Value.category]; done) | rfl
theorem ef_rm11_1_0 : ∀ (m : MethodId) (oa : Addr) (ob : Addr), entryFrame m #[(.ref oa), (.ref ob), (.int (0 : Int32))] 6 = mkF m 0 #[.val (.ref oa), .val (.ref ob), .val (.int (0 : Int32)), .unset, .unset, .unset] [] := by intros; first | (simp [entryFrame, mkF, argsToLocals, Value.category]; done) | rfl
theorem d11_18 : decode prog_18_method_7_code 18 = .ok (.lload_n 3, 1) := by decide +kernel
theorem d11_19 : decode prog_18_method_7_code 19 = .ok (.aload_n 1, 1) := by decide +kernel
theorem d11_20 : decode prog_18_method_7_code 20 = .ok (.iload_n 2, 1) := by decide +kernel
theorem d11_21 : decode prog_18_method_7_code 21 = .ok (.iload 5, 2) := by decide +kernel
theorem d11_23 : decode prog_18_method_7_code 23 = .ok (.iadd, 1) := by decide +kernel
theorem d11_24 : decode prog_18_method_7_code 24 = .ok (.laload, 1) := by decide +kernel
theorem d11_25 : decode prog_18_method_7_code 25 = .ok (.lxor, 1) := by decide +kernel
theorem d11_26 : decode prog_18_method_7_code 26 = .ok (.ldc2_w 77, 3) := by decide +kernel
theorem d11_29 : decode prog_18_method_7_code 29 = .ok (.lmul, 1) := by decide +kernel
theorem d11_30 : decode prog_18_method_7_code 30 = .ok (.lstore_n 3, 1) := by decide +kernel
theorem d11_31 : decode prog_18_method_7_code 31 = .ok (.lload_n 3, 1) := by decide +kernel
theorem d11_32 : decode prog_18_method_7_code 32 = .ok (.lload_n 3, 1) := by decide +kernel
theorem d11_33 : decode prog_18_method_7_code 33 = .ok (.bipush 29, 2) := by decide +kernel
theorem d11_35 : decode prog_18_method_7_code 35 = .ok (.lushr, 1) := by decide +kernel
theorem d11_36 : decode prog_18_method_7_code 36 = .ok (.lxor, 1) := by decide +kernel
theorem d11_37 : decode prog_18_method_7_code 37 = .ok (.lstore_n 3, 1) := by decide +kernel
theorem d11_38 : decode prog_18_method_7_code 38 = .ok (.iinc 5 1, 3) := by decide +kernel
theorem d11_41 : decode prog_18_method_7_code 41 = .ok (.goto (-32), 3) := by decide +kernel
theorem ef_rm11_1_1 : ∀ (m : MethodId) (oa : Addr) (ob : Addr), entryFrame m #[(.ref oa), (.ref ob), (.int (1 : Int32))] 6 = mkF m 0 #[.val (.ref oa), .val (.ref ob), .val (.int (1 : Int32)), .unset, .unset, .unset] [] := by intros; first | (simp [entryFrame, mkF, argsToLocals, Value.category]; done) | rfl
theorem ef_rm11_1_2 : ∀ (m : MethodId) (oa : Addr) (ob : Addr), entryFrame m #[(.ref oa), (.ref ob), (.int (2 : Int32))] 6 = mkF m 0 #[.val (.ref oa), .val (.ref ob), .val (.int (2 : Int32)), .unset, .unset, .unset] [] := by intros; first | (simp [entryFrame, mkF, argsToLocals, Value.category]; done) | rfl
theorem ef_rm11_2_0 : ∀ (m : MethodId) (oa : Addr) (ob : Addr), entryFrame m #[(.ref oa), (.ref ob), (.int (0 : Int32))] 6 = mkF m 0 #[.val (.ref oa), .val (.ref ob), .val (.int (0 : Int32)), .unset, .unset, .unset] [] := by intros; first | (simp [entryFrame, mkF, argsToLocals, Value.category]; done) | rfl
theorem ef_rm11_2_1 : ∀ (m : MethodId) (oa : Addr) (ob : Addr), entryFrame m #[(.ref oa), (.ref ob), (.int (1 : Int32))] 6 = mkF m 0 #[.val (.ref oa), .val (.ref ob), .val (.int (1 : Int32)), .unset, .unset, .unset] [] := by intros; first | (simp [entryFrame, mkF, argsToLocals, Value.category]; done) | rfl
theorem ef_rm11_2_2 : ∀ (m : MethodId) (oa : Addr) (ob : Addr), entryFrame m #[(.ref oa), (.ref ob), (.int (2 : Int32))] 6 = mkF m 0 #[.val (.ref oa), .val (.ref ob), .val (.int (2 : Int32)), .unset, .unset, .unset] [] := by intros; first | (simp [entryFrame, mkF, argsToLocals, Value.category]; done) | rfl
theorem ef_rm0 : ∀ (m : MethodId) (xf : Int32) (qs0 : Int64) (qs1 : Int64) (qg1 : Int64) (qg2 : Int64) (xp : Int32), entryFrame m #[(.int xf), (.long qs0), (.long qs1), (.long qg1), (.long qg2), (.int xp)] maxLocals = mkF m 0 #[.val (.int xf), .val (.long qs0), .second, .val (.long qs1), .second, .val (.long qg1), .second, .val (.long qg2), .second, .val (.int xp), .unset, .unset, .unset, .unset, .unset, .unset, .unset, .unset, .unset] [] := by intros; first | (simp [entryFrame, mkF, argsToLocals, Value.category, maxLocals]; done) | rfl
theorem pd_6 : parseMethodDescriptor "([I)V" = some ⟨[(.array .int)], none⟩ := by decide +kernel
theorem pd_7 : parseMethodDescriptor "([JI)I" = some ⟨[(.array .long), .int], some .int⟩ := by decide +kernel
theorem pn_0 : plainName "com/example/libreach/libreach/engine/StateStoreHashPinLaw" = true := by first | (simp [plainName, overriddenIn]; done) | decide +kernel
def FMin (a b : Int32) : Int32 := if b < a then b else a
def FMax (a b : Int32) : Int32 := if a < b then b else a
def HS (v y : Int64) : Int64 := ((v ^^^ y) * (-7046029254386353131 : Int64)) ^^^ ((((v ^^^ y) * (-7046029254386353131 : Int64)).toUInt64 >>> ((29 : Int32) &&& 0x3f).toInt64.toUInt64).toInt64)
def HE (v : Int64) : Int32 := ((v * (-4658895280553007687 : Int64)) ^^^ (((v * (-4658895280553007687 : Int64)).toUInt64 >>> ((32 : Int32) &&& 0x3f).toInt64.toUInt64).toInt64)).toInt32
theorem own_k2 (a : Int32) (h0 : ¬ a &&& 3 = 0) (h1 : ¬ a &&& 3 = 1) : ¬ a &&& 3 < 2 := by
  have e : (a &&& 3).toInt = a.toInt % (2 ^ 2 : Nat) := c_mask a 3 2 (by decide) (by decide)
  generalize a &&& 3 = r at *
  simp only [← Int32.toInt_inj, Int32.lt_iff_toInt_lt, Int32.reduceToInt] at *
  omega
set_option maxRecDepth 65536 in
set_option maxHeartbeats 40000000 in
theorem rm12 (l : Launch) (Z : State) (a0 : Array Value) (hw : ∀ d ∈ tables_1, d.before a0 Z = true) (xa : Int32) (xb : Int32)  (h0 : Heap) (n0 : Nat) (Z0 : n0 ≤ h0.size)  :
    ownMet l Z (⟨"java/lang/Math", "min", "(II)I"⟩ : MethodName) jdk_29_method_69_code 2 (some .int) [] ({ frames := 0, cells := 0, slots := 0, locals := 0 } : Room) #[(.int xa), (.int xb)] h0 (fun v h L => v = some (.int (FMin xa xb)) ∧ L = [] ∧ h = h0) := by
  refine ownMet.of (Jvm.Free.JP.mathPlain rfl (by decide +kernel)) ?_
  intro p e s m below meth c T0 hx hby hml hZ hown hnm hret hlk X0 e0
  refine ownEnds.cast (ef_rm12 m xa xb) ?_
  show ownEnds _ _ _ _ (T0.setTop (mkF m 0 #[.val (.int xa), .val (.int xb)] []))
  refine ownEnds.law (fun t k => XS.iloadN X0.here hx rfl (hb hby d12_0) rfl (XS.iloadN X0.here hx rfl (hb hby d12_1) rfl k)) ?_
  show ownEnds _ _ _ _ (T0.setTop (mkF m 2 #[.val (.int xa), .val (.int xb)] [(.int xb), (.int xa)]))
  by_cases hc2 : xb < xa
  · refine ownEnds.law (fun t => XS.icmpYes X0.here hx rfl (pc0 := 2) (pc' := 9) rfl (hb hby d12_2) rfl (tlt hc2).2.2.1 (by decide) (by decide)) ?_
    show ownEnds _ _ _ _ (T0.setTop (mkF m 9 #[.val (.int xa), .val (.int xb)] []))
    refine ownEnds.law (fun t k => XS.iloadN X0.here hx rfl (hb hby d12_9) rfl k) ?_
    show ownEnds _ _ _ _ (T0.setTop (mkF m 10 #[.val (.int xa), .val (.int xb)] [(.int xb)]))
    refine ownRetI X0 hlk hx hret (hb hby d12_10) (by decide) (by decide) ?_
    exact ⟨by rw [FMin, if_pos hc2], rfl, e0⟩
  · refine ownEnds.law (fun t => XS.icmpNo X0.here hx rfl (hb hby d12_2) rfl (flt hc2).2.2.1) ?_
    show ownEnds _ _ _ _ (T0.setTop (mkF m 5 #[.val (.int xa), .val (.int xb)] []))
    refine ownEnds.law (fun t k => XS.iloadN X0.here hx rfl (hb hby d12_5) rfl (XS.goto X0.here hx rfl (pc0 := 6) (pc' := 10) rfl (hb hby d12_6) (by decide) (by decide) k)) ?_
    show ownEnds _ _ _ _ (T0.setTop (mkF m 10 #[.val (.int xa), .val (.int xb)] [(.int xa)]))
    refine ownRetI X0 hlk hx hret (hb hby d12_10) (by decide) (by decide) ?_
    exact ⟨by rw [FMin, if_neg hc2], rfl, e0⟩
set_option maxRecDepth 65536 in
set_option maxHeartbeats 40000000 in
theorem rm10 (l : Launch) (Z : State) (a0 : Array Value) (hw : ∀ d ∈ tables_1, d.before a0 Z = true) (xa : Int32) (xb : Int32)  (h0 : Heap) (n0 : Nat) (Z0 : n0 ≤ h0.size)  :
    ownMet l Z (⟨"java/lang/Math", "max", "(II)I"⟩ : MethodName) jdk_29_method_65_code 2 (some .int) [] ({ frames := 0, cells := 0, slots := 0, locals := 0 } : Room) #[(.int xa), (.int xb)] h0 (fun v h L => v = some (.int (FMax xa xb)) ∧ L = [] ∧ h = h0) := by
  refine ownMet.of (Jvm.Free.JP.mathPlain rfl (by decide +kernel)) ?_
  intro p e s m below meth c T0 hx hby hml hZ hown hnm hret hlk X0 e0
  refine ownEnds.cast (ef_rm10 m xa xb) ?_
  show ownEnds _ _ _ _ (T0.setTop (mkF m 0 #[.val (.int xa), .val (.int xb)] []))
  refine ownEnds.law (fun t k => XS.iloadN X0.here hx rfl (hb hby d10_0) rfl (XS.iloadN X0.here hx rfl (hb hby d10_1) rfl k)) ?_
  show ownEnds _ _ _ _ (T0.setTop (mkF m 2 #[.val (.int xa), .val (.int xb)] [(.int xb), (.int xa)]))
  by_cases hc2 : xa < xb
  · refine ownEnds.law (fun t => XS.icmpYes X0.here hx rfl (pc0 := 2) (pc' := 9) rfl (hb hby d10_2) rfl (tlt hc2).1 (by decide) (by decide)) ?_
    show ownEnds _ _ _ _ (T0.setTop (mkF m 9 #[.val (.int xa), .val (.int xb)] []))
    refine ownEnds.law (fun t k => XS.iloadN X0.here hx rfl (hb hby d10_9) rfl k) ?_
    show ownEnds _ _ _ _ (T0.setTop (mkF m 10 #[.val (.int xa), .val (.int xb)] [(.int xb)]))
    refine ownRetI X0 hlk hx hret (hb hby d10_10) (by decide) (by decide) ?_
    exact ⟨by rw [FMax, if_pos hc2], rfl, e0⟩
  · refine ownEnds.law (fun t => XS.icmpNo X0.here hx rfl (hb hby d10_2) rfl (flt hc2).1) ?_
    show ownEnds _ _ _ _ (T0.setTop (mkF m 5 #[.val (.int xa), .val (.int xb)] []))
    refine ownEnds.law (fun t k => XS.iloadN X0.here hx rfl (hb hby d10_5) rfl (XS.goto X0.here hx rfl (pc0 := 6) (pc' := 10) rfl (hb hby d10_6) (by decide) (by decide) k)) ?_
    show ownEnds _ _ _ _ (T0.setTop (mkF m 10 #[.val (.int xa), .val (.int xb)] [(.int xa)]))
    refine ownRetI X0 hlk hx hret (hb hby d10_10) (by decide) (by decide) ?_
    exact ⟨by rw [FMax, if_neg hc2], rfl, e0⟩
set_option maxRecDepth 65536 in
set_option maxHeartbeats 40000000 in
theorem rm8_1 (l : Launch) (Z : State) (a0 : Array Value) (hw : ∀ d ∈ tables_1, d.before a0 Z = true)  (h0 : Heap) (n0 : Nat) (Z0 : n0 ≤ h0.size)  :
    ownMet l Z (⟨"java/lang/Integer", "numberOfLeadingZeros", "(I)I"⟩ : MethodName) jdk_33_method_47_code 2 (some .int) [] ({ frames := 0, cells := 0, slots := 0, locals := 0 } : Room) #[(.int (1 : Int32))] h0 (fun v h L => v = some (.int (31 : Int32)) ∧ L = [] ∧ h = h0) := by
  refine ownMet.of (plainFor_of_name pn_8) ?_
  intro p e s m below meth c T0 hx hby hml hZ hown hnm hret hlk X0 e0
  refine ownEnds.cast (ef_rm8_1 m ) ?_
  show ownEnds _ _ _ _ (T0.setTop (mkF m 0 #[.val (.int (1 : Int32)), .unset] []))
  refine ownEnds.law (fun t k => XS.iloadN X0.here hx rfl (hb hby d8_0) rfl k) ?_
  show ownEnds _ _ _ _ (T0.setTop (mkF m 1 #[.val (.int (1 : Int32)), .unset] [(.int (1 : Int32))]))
  refine ownEnds.law (fun t => XS.ifYes X0.here hx rfl (pc0 := 1) (pc' := 15) rfl (hb hby d8_1) rfl ((if0 _ _).trans (tlt (by decide : (0 : Int32) < (1 : Int32))).2.2.1) (by decide) (by decide)) ?_
  show ownEnds _ _ _ _ (T0.setTop (mkF m 15 #[.val (.int (1 : Int32)), .unset] []))
  refine ownEnds.law (fun t k => XS.bipush X0.here hx rfl (hb hby d8_15) (XS.istoreN X0.here hx rfl (hb hby d8_17) rfl (l' := #[.val (.int (1 : Int32)), .val (.int (31 : Int32))]) rfl (XS.iloadN X0.here hx rfl (hb hby d8_18) rfl (X0.ldcwInt hx hown (mvT hZ (wd_67 hw)) (g := (mkF m 19 #[.val (.int (1 : Int32)), .val (.int (31 : Int32))] [(.int (1 : Int32))])) rfl (hb hby d8_19) _ k)))) ?_
  show ownEnds _ _ _ _ (T0.setTop (mkF m 22 #[.val (.int (1 : Int32)), .val (.int (31 : Int32))] [(.int (65536 : Int32)), (.int (1 : Int32))]))
  refine ownEnds.law (fun t => XS.icmpYes X0.here hx rfl (pc0 := 22) (pc' := 33) rfl (hb hby d8_22) rfl (tlt (by decide : (1 : Int32) < (65536 : Int32))).1 (by decide) (by decide)) ?_
  show ownEnds _ _ _ _ (T0.setTop (mkF m 33 #[.val (.int (1 : Int32)), .val (.int (31 : Int32))] []))
  refine ownEnds.law (fun t k => XS.iloadN X0.here hx rfl (hb hby d8_33) rfl (XS.sipush X0.here hx rfl (hb hby d8_34) k)) ?_
  show ownEnds _ _ _ _ (T0.setTop (mkF m 37 #[.val (.int (1 : Int32)), .val (.int (31 : Int32))] [(.int (256 : Int32)), (.int (1 : Int32))]))
  refine ownEnds.law (fun t => XS.icmpYes X0.here hx rfl (pc0 := 37) (pc' := 48) rfl (hb hby d8_37) rfl (tlt (by decide : (1 : Int32) < (256 : Int32))).1 (by decide) (by decide)) ?_
  show ownEnds _ _ _ _ (T0.setTop (mkF m 48 #[.val (.int (1 : Int32)), .val (.int (31 : Int32))] []))
  refine ownEnds.law (fun t k => XS.iloadN X0.here hx rfl (hb hby d8_48) rfl (XS.bipush X0.here hx rfl (hb hby d8_49) k)) ?_
  show ownEnds _ _ _ _ (T0.setTop (mkF m 51 #[.val (.int (1 : Int32)), .val (.int (31 : Int32))] [(.int (16 : Int32)), (.int (1 : Int32))]))
  refine ownEnds.law (fun t => XS.icmpYes X0.here hx rfl (pc0 := 51) (pc' := 61) rfl (hb hby d8_51) rfl (tlt (by decide : (1 : Int32) < (16 : Int32))).1 (by decide) (by decide)) ?_
  show ownEnds _ _ _ _ (T0.setTop (mkF m 61 #[.val (.int (1 : Int32)), .val (.int (31 : Int32))] []))
  refine ownEnds.law (fun t k => XS.iloadN X0.here hx rfl (hb hby d8_61) rfl (XS.iconst X0.here hx rfl (hb hby d8_62) k)) ?_
  show ownEnds _ _ _ _ (T0.setTop (mkF m 63 #[.val (.int (1 : Int32)), .val (.int (31 : Int32))] [(.int (4 : Int32)), (.int (1 : Int32))]))
  refine ownEnds.law (fun t => XS.icmpYes X0.here hx rfl (pc0 := 63) (pc' := 73) rfl (hb hby d8_63) rfl (tlt (by decide : (1 : Int32) < (4 : Int32))).1 (by decide) (by decide)) ?_
  show ownEnds _ _ _ _ (T0.setTop (mkF m 73 #[.val (.int (1 : Int32)), .val (.int (31 : Int32))] []))
  refine ownEnds.law (fun t k => XS.iloadN X0.here hx rfl (hb hby d8_73) rfl (XS.iloadN X0.here hx rfl (hb hby d8_74) rfl (XS.iconst X0.here hx rfl (hb hby d8_75) (XS.iushr X0.here hx rfl (hb hby d8_76) rfl (XS.isub X0.here hx rfl (hb hby d8_77) rfl k))))) ?_
  show ownEnds _ _ _ _ (T0.setTop (mkF m 78 #[.val (.int (1 : Int32)), .val (.int (31 : Int32))] [(.int (31 : Int32))]))
  refine ownRetI X0 hlk hx hret (hb hby d8_78) (by decide) (by decide) ?_
  exact ⟨rfl, rfl, e0⟩
set_option maxRecDepth 65536 in
set_option maxHeartbeats 40000000 in
theorem rm8_2 (l : Launch) (Z : State) (a0 : Array Value) (hw : ∀ d ∈ tables_1, d.before a0 Z = true)  (h0 : Heap) (n0 : Nat) (Z0 : n0 ≤ h0.size)  :
    ownMet l Z (⟨"java/lang/Integer", "numberOfLeadingZeros", "(I)I"⟩ : MethodName) jdk_33_method_47_code 2 (some .int) [] ({ frames := 0, cells := 0, slots := 0, locals := 0 } : Room) #[(.int (2 : Int32))] h0 (fun v h L => v = some (.int (30 : Int32)) ∧ L = [] ∧ h = h0) := by
  refine ownMet.of (plainFor_of_name pn_8) ?_
  intro p e s m below meth c T0 hx hby hml hZ hown hnm hret hlk X0 e0
  refine ownEnds.cast (ef_rm8_2 m ) ?_
  show ownEnds _ _ _ _ (T0.setTop (mkF m 0 #[.val (.int (2 : Int32)), .unset] []))
  refine ownEnds.law (fun t k => XS.iloadN X0.here hx rfl (hb hby d8_0) rfl k) ?_
  show ownEnds _ _ _ _ (T0.setTop (mkF m 1 #[.val (.int (2 : Int32)), .unset] [(.int (2 : Int32))]))
  refine ownEnds.law (fun t => XS.ifYes X0.here hx rfl (pc0 := 1) (pc' := 15) rfl (hb hby d8_1) rfl ((if0 _ _).trans (tlt (by decide : (0 : Int32) < (2 : Int32))).2.2.1) (by decide) (by decide)) ?_
  show ownEnds _ _ _ _ (T0.setTop (mkF m 15 #[.val (.int (2 : Int32)), .unset] []))
  refine ownEnds.law (fun t k => XS.bipush X0.here hx rfl (hb hby d8_15) (XS.istoreN X0.here hx rfl (hb hby d8_17) rfl (l' := #[.val (.int (2 : Int32)), .val (.int (31 : Int32))]) rfl (XS.iloadN X0.here hx rfl (hb hby d8_18) rfl (X0.ldcwInt hx hown (mvT hZ (wd_67 hw)) (g := (mkF m 19 #[.val (.int (2 : Int32)), .val (.int (31 : Int32))] [(.int (2 : Int32))])) rfl (hb hby d8_19) _ k)))) ?_
  show ownEnds _ _ _ _ (T0.setTop (mkF m 22 #[.val (.int (2 : Int32)), .val (.int (31 : Int32))] [(.int (65536 : Int32)), (.int (2 : Int32))]))
  refine ownEnds.law (fun t => XS.icmpYes X0.here hx rfl (pc0 := 22) (pc' := 33) rfl (hb hby d8_22) rfl (tlt (by decide : (2 : Int32) < (65536 : Int32))).1 (by decide) (by decide)) ?_
  show ownEnds _ _ _ _ (T0.setTop (mkF m 33 #[.val (.int (2 : Int32)), .val (.int (31 : Int32))] []))
  refine ownEnds.law (fun t k => XS.iloadN X0.here hx rfl (hb hby d8_33) rfl (XS.sipush X0.here hx rfl (hb hby d8_34) k)) ?_
  show ownEnds _ _ _ _ (T0.setTop (mkF m 37 #[.val (.int (2 : Int32)), .val (.int (31 : Int32))] [(.int (256 : Int32)), (.int (2 : Int32))]))
  refine ownEnds.law (fun t => XS.icmpYes X0.here hx rfl (pc0 := 37) (pc' := 48) rfl (hb hby d8_37) rfl (tlt (by decide : (2 : Int32) < (256 : Int32))).1 (by decide) (by decide)) ?_
  show ownEnds _ _ _ _ (T0.setTop (mkF m 48 #[.val (.int (2 : Int32)), .val (.int (31 : Int32))] []))
  refine ownEnds.law (fun t k => XS.iloadN X0.here hx rfl (hb hby d8_48) rfl (XS.bipush X0.here hx rfl (hb hby d8_49) k)) ?_
  show ownEnds _ _ _ _ (T0.setTop (mkF m 51 #[.val (.int (2 : Int32)), .val (.int (31 : Int32))] [(.int (16 : Int32)), (.int (2 : Int32))]))
  refine ownEnds.law (fun t => XS.icmpYes X0.here hx rfl (pc0 := 51) (pc' := 61) rfl (hb hby d8_51) rfl (tlt (by decide : (2 : Int32) < (16 : Int32))).1 (by decide) (by decide)) ?_
  show ownEnds _ _ _ _ (T0.setTop (mkF m 61 #[.val (.int (2 : Int32)), .val (.int (31 : Int32))] []))
  refine ownEnds.law (fun t k => XS.iloadN X0.here hx rfl (hb hby d8_61) rfl (XS.iconst X0.here hx rfl (hb hby d8_62) k)) ?_
  show ownEnds _ _ _ _ (T0.setTop (mkF m 63 #[.val (.int (2 : Int32)), .val (.int (31 : Int32))] [(.int (4 : Int32)), (.int (2 : Int32))]))
  refine ownEnds.law (fun t => XS.icmpYes X0.here hx rfl (pc0 := 63) (pc' := 73) rfl (hb hby d8_63) rfl (tlt (by decide : (2 : Int32) < (4 : Int32))).1 (by decide) (by decide)) ?_
  show ownEnds _ _ _ _ (T0.setTop (mkF m 73 #[.val (.int (2 : Int32)), .val (.int (31 : Int32))] []))
  refine ownEnds.law (fun t k => XS.iloadN X0.here hx rfl (hb hby d8_73) rfl (XS.iloadN X0.here hx rfl (hb hby d8_74) rfl (XS.iconst X0.here hx rfl (hb hby d8_75) (XS.iushr X0.here hx rfl (hb hby d8_76) rfl (XS.isub X0.here hx rfl (hb hby d8_77) rfl k))))) ?_
  show ownEnds _ _ _ _ (T0.setTop (mkF m 78 #[.val (.int (2 : Int32)), .val (.int (31 : Int32))] [(.int (30 : Int32))]))
  refine ownRetI X0 hlk hx hret (hb hby d8_78) (by decide) (by decide) ?_
  exact ⟨rfl, rfl, e0⟩
set_option maxRecDepth 65536 in
set_option maxHeartbeats 40000000 in
theorem rm8_3 (l : Launch) (Z : State) (a0 : Array Value) (hw : ∀ d ∈ tables_1, d.before a0 Z = true)  (h0 : Heap) (n0 : Nat) (Z0 : n0 ≤ h0.size)  :
    ownMet l Z (⟨"java/lang/Integer", "numberOfLeadingZeros", "(I)I"⟩ : MethodName) jdk_33_method_47_code 2 (some .int) [] ({ frames := 0, cells := 0, slots := 0, locals := 0 } : Room) #[(.int (3 : Int32))] h0 (fun v h L => v = some (.int (30 : Int32)) ∧ L = [] ∧ h = h0) := by
  refine ownMet.of (plainFor_of_name pn_8) ?_
  intro p e s m below meth c T0 hx hby hml hZ hown hnm hret hlk X0 e0
  refine ownEnds.cast (ef_rm8_3 m ) ?_
  show ownEnds _ _ _ _ (T0.setTop (mkF m 0 #[.val (.int (3 : Int32)), .unset] []))
  refine ownEnds.law (fun t k => XS.iloadN X0.here hx rfl (hb hby d8_0) rfl k) ?_
  show ownEnds _ _ _ _ (T0.setTop (mkF m 1 #[.val (.int (3 : Int32)), .unset] [(.int (3 : Int32))]))
  refine ownEnds.law (fun t => XS.ifYes X0.here hx rfl (pc0 := 1) (pc' := 15) rfl (hb hby d8_1) rfl ((if0 _ _).trans (tlt (by decide : (0 : Int32) < (3 : Int32))).2.2.1) (by decide) (by decide)) ?_
  show ownEnds _ _ _ _ (T0.setTop (mkF m 15 #[.val (.int (3 : Int32)), .unset] []))
  refine ownEnds.law (fun t k => XS.bipush X0.here hx rfl (hb hby d8_15) (XS.istoreN X0.here hx rfl (hb hby d8_17) rfl (l' := #[.val (.int (3 : Int32)), .val (.int (31 : Int32))]) rfl (XS.iloadN X0.here hx rfl (hb hby d8_18) rfl (X0.ldcwInt hx hown (mvT hZ (wd_67 hw)) (g := (mkF m 19 #[.val (.int (3 : Int32)), .val (.int (31 : Int32))] [(.int (3 : Int32))])) rfl (hb hby d8_19) _ k)))) ?_
  show ownEnds _ _ _ _ (T0.setTop (mkF m 22 #[.val (.int (3 : Int32)), .val (.int (31 : Int32))] [(.int (65536 : Int32)), (.int (3 : Int32))]))
  refine ownEnds.law (fun t => XS.icmpYes X0.here hx rfl (pc0 := 22) (pc' := 33) rfl (hb hby d8_22) rfl (tlt (by decide : (3 : Int32) < (65536 : Int32))).1 (by decide) (by decide)) ?_
  show ownEnds _ _ _ _ (T0.setTop (mkF m 33 #[.val (.int (3 : Int32)), .val (.int (31 : Int32))] []))
  refine ownEnds.law (fun t k => XS.iloadN X0.here hx rfl (hb hby d8_33) rfl (XS.sipush X0.here hx rfl (hb hby d8_34) k)) ?_
  show ownEnds _ _ _ _ (T0.setTop (mkF m 37 #[.val (.int (3 : Int32)), .val (.int (31 : Int32))] [(.int (256 : Int32)), (.int (3 : Int32))]))
  refine ownEnds.law (fun t => XS.icmpYes X0.here hx rfl (pc0 := 37) (pc' := 48) rfl (hb hby d8_37) rfl (tlt (by decide : (3 : Int32) < (256 : Int32))).1 (by decide) (by decide)) ?_
  show ownEnds _ _ _ _ (T0.setTop (mkF m 48 #[.val (.int (3 : Int32)), .val (.int (31 : Int32))] []))
  refine ownEnds.law (fun t k => XS.iloadN X0.here hx rfl (hb hby d8_48) rfl (XS.bipush X0.here hx rfl (hb hby d8_49) k)) ?_
  show ownEnds _ _ _ _ (T0.setTop (mkF m 51 #[.val (.int (3 : Int32)), .val (.int (31 : Int32))] [(.int (16 : Int32)), (.int (3 : Int32))]))
  refine ownEnds.law (fun t => XS.icmpYes X0.here hx rfl (pc0 := 51) (pc' := 61) rfl (hb hby d8_51) rfl (tlt (by decide : (3 : Int32) < (16 : Int32))).1 (by decide) (by decide)) ?_
  show ownEnds _ _ _ _ (T0.setTop (mkF m 61 #[.val (.int (3 : Int32)), .val (.int (31 : Int32))] []))
  refine ownEnds.law (fun t k => XS.iloadN X0.here hx rfl (hb hby d8_61) rfl (XS.iconst X0.here hx rfl (hb hby d8_62) k)) ?_
  show ownEnds _ _ _ _ (T0.setTop (mkF m 63 #[.val (.int (3 : Int32)), .val (.int (31 : Int32))] [(.int (4 : Int32)), (.int (3 : Int32))]))
  refine ownEnds.law (fun t => XS.icmpYes X0.here hx rfl (pc0 := 63) (pc' := 73) rfl (hb hby d8_63) rfl (tlt (by decide : (3 : Int32) < (4 : Int32))).1 (by decide) (by decide)) ?_
  show ownEnds _ _ _ _ (T0.setTop (mkF m 73 #[.val (.int (3 : Int32)), .val (.int (31 : Int32))] []))
  refine ownEnds.law (fun t k => XS.iloadN X0.here hx rfl (hb hby d8_73) rfl (XS.iloadN X0.here hx rfl (hb hby d8_74) rfl (XS.iconst X0.here hx rfl (hb hby d8_75) (XS.iushr X0.here hx rfl (hb hby d8_76) rfl (XS.isub X0.here hx rfl (hb hby d8_77) rfl k))))) ?_
  show ownEnds _ _ _ _ (T0.setTop (mkF m 78 #[.val (.int (3 : Int32)), .val (.int (31 : Int32))] [(.int (30 : Int32))]))
  refine ownRetI X0 hlk hx hret (hb hby d8_78) (by decide) (by decide) ?_
  exact ⟨rfl, rfl, e0⟩
set_option maxRecDepth 65536 in
set_option maxHeartbeats 40000000 in
theorem rm9_32768 (l : Launch) (Z : State) (a0 : Array Value) (hw : ∀ d ∈ tables_1, d.before a0 Z = true)  (h0 : Heap) (n0 : Nat) (Z0 : n0 ≤ h0.size)  :
    ownMet l Z (⟨"java/lang/Integer", "numberOfTrailingZeros", "(I)I"⟩ : MethodName) jdk_33_method_48_code 2 (some .int) [] ({ frames := 0, cells := 0, slots := 0, locals := 0 } : Room) #[(.int (32768 : Int32))] h0 (fun v h L => v = some (.int (15 : Int32)) ∧ L = [] ∧ h = h0) := by
  refine ownMet.of (plainFor_of_name pn_9) ?_
  intro p e s m below meth c T0 hx hby hml hZ hown hnm hret hlk X0 e0
  refine ownEnds.cast (ef_rm9_32768 m ) ?_
  show ownEnds _ _ _ _ (T0.setTop (mkF m 0 #[.val (.int (32768 : Int32)), .unset] []))
  refine ownEnds.law (fun t k => XS.iloadN X0.here hx rfl (hb hby d9_0) rfl (XS.iconst X0.here hx rfl (hb hby d9_1) (XS.ixor X0.here hx rfl (hb hby d9_2) rfl (XS.iloadN X0.here hx rfl (hb hby d9_3) rfl (XS.iconst X0.here hx rfl (hb hby d9_4) (XS.isub X0.here hx rfl (hb hby d9_5) rfl (XS.iand X0.here hx rfl (hb hby d9_6) rfl (XS.istoreN X0.here hx rfl (hb hby d9_7) rfl (l' := #[.val (.int (32767 : Int32)), .unset]) rfl (XS.iloadN X0.here hx rfl (hb hby d9_8) rfl k))))))))) ?_
  show ownEnds _ _ _ _ (T0.setTop (mkF m 9 #[.val (.int (32767 : Int32)), .unset] [(.int (32767 : Int32))]))
  refine ownEnds.law (fun t => XS.ifYes X0.here hx rfl (pc0 := 9) (pc' := 17) rfl (hb hby d9_9) rfl ((if0 _ _).trans (tlt (by decide : (0 : Int32) < (32767 : Int32))).2.2.1) (by decide) (by decide)) ?_
  show ownEnds _ _ _ _ (T0.setTop (mkF m 17 #[.val (.int (32767 : Int32)), .unset] []))
  refine ownEnds.law (fun t k => XS.iconst X0.here hx rfl (hb hby d9_17) (XS.istoreN X0.here hx rfl (hb hby d9_18) rfl (l' := #[.val (.int (32767 : Int32)), .val (.int (1 : Int32))]) rfl (XS.iloadN X0.here hx rfl (hb hby d9_19) rfl (X0.ldcwInt hx hown (mvT hZ (wd_67 hw)) (g := (mkF m 20 #[.val (.int (32767 : Int32)), .val (.int (1 : Int32))] [(.int (32767 : Int32))])) rfl (hb hby d9_20) _ k)))) ?_
  show ownEnds _ _ _ _ (T0.setTop (mkF m 23 #[.val (.int (32767 : Int32)), .val (.int (1 : Int32))] [(.int (65536 : Int32)), (.int (32767 : Int32))]))
  refine ownEnds.law (fun t => XS.icmpYes X0.here hx rfl (pc0 := 23) (pc' := 34) rfl (hb hby d9_23) rfl (flt (by decide : ¬ ((65536 : Int32) < (32767 : Int32)))).2.2.2 (by decide) (by decide)) ?_
  show ownEnds _ _ _ _ (T0.setTop (mkF m 34 #[.val (.int (32767 : Int32)), .val (.int (1 : Int32))] []))
  refine ownEnds.law (fun t k => XS.iloadN X0.here hx rfl (hb hby d9_34) rfl (XS.sipush X0.here hx rfl (hb hby d9_35) k)) ?_
  show ownEnds _ _ _ _ (T0.setTop (mkF m 38 #[.val (.int (32767 : Int32)), .val (.int (1 : Int32))] [(.int (256 : Int32)), (.int (32767 : Int32))]))
  refine ownEnds.law (fun t => XS.icmpNo X0.here hx rfl (hb hby d9_38) rfl (tlt (by decide : (256 : Int32) < (32767 : Int32))).2.2.2) ?_
  show ownEnds _ _ _ _ (T0.setTop (mkF m 41 #[.val (.int (32767 : Int32)), .val (.int (1 : Int32))] []))
  refine ownEnds.law (fun t k => XS.iinc X0.here hx rfl (hb hby d9_41) rfl (l' := #[.val (.int (32767 : Int32)), .val (.int (9 : Int32))]) rfl (XS.iloadN X0.here hx rfl (hb hby d9_44) rfl (XS.bipush X0.here hx rfl (hb hby d9_45) (XS.iushr X0.here hx rfl (hb hby d9_47) rfl (XS.istoreN X0.here hx rfl (hb hby d9_48) rfl (l' := #[.val (.int (127 : Int32)), .val (.int (9 : Int32))]) rfl (XS.iloadN X0.here hx rfl (hb hby d9_49) rfl (XS.bipush X0.here hx rfl (hb hby d9_50) k))))))) ?_
  show ownEnds _ _ _ _ (T0.setTop (mkF m 52 #[.val (.int (127 : Int32)), .val (.int (9 : Int32))] [(.int (16 : Int32)), (.int (127 : Int32))]))
  refine ownEnds.law (fun t => XS.icmpNo X0.here hx rfl (hb hby d9_52) rfl (tlt (by decide : (16 : Int32) < (127 : Int32))).2.2.2) ?_
  show ownEnds _ _ _ _ (T0.setTop (mkF m 55 #[.val (.int (127 : Int32)), .val (.int (9 : Int32))] []))
  refine ownEnds.law (fun t k => XS.iinc X0.here hx rfl (hb hby d9_55) rfl (l' := #[.val (.int (127 : Int32)), .val (.int (13 : Int32))]) rfl (XS.iloadN X0.here hx rfl (hb hby d9_58) rfl (XS.iconst X0.here hx rfl (hb hby d9_59) (XS.iushr X0.here hx rfl (hb hby d9_60) rfl (XS.istoreN X0.here hx rfl (hb hby d9_61) rfl (l' := #[.val (.int (7 : Int32)), .val (.int (13 : Int32))]) rfl (XS.iloadN X0.here hx rfl (hb hby d9_62) rfl (XS.iconst X0.here hx rfl (hb hby d9_63) k))))))) ?_
  show ownEnds _ _ _ _ (T0.setTop (mkF m 64 #[.val (.int (7 : Int32)), .val (.int (13 : Int32))] [(.int (4 : Int32)), (.int (7 : Int32))]))
  refine ownEnds.law (fun t => XS.icmpNo X0.here hx rfl (hb hby d9_64) rfl (tlt (by decide : (4 : Int32) < (7 : Int32))).2.2.2) ?_
  show ownEnds _ _ _ _ (T0.setTop (mkF m 67 #[.val (.int (7 : Int32)), .val (.int (13 : Int32))] []))
  refine ownEnds.law (fun t k => XS.iinc X0.here hx rfl (hb hby d9_67) rfl (l' := #[.val (.int (7 : Int32)), .val (.int (15 : Int32))]) rfl (XS.iloadN X0.here hx rfl (hb hby d9_70) rfl (XS.iconst X0.here hx rfl (hb hby d9_71) (XS.iushr X0.here hx rfl (hb hby d9_72) rfl (XS.istoreN X0.here hx rfl (hb hby d9_73) rfl (l' := #[.val (.int (1 : Int32)), .val (.int (15 : Int32))]) rfl (XS.iloadN X0.here hx rfl (hb hby d9_74) rfl (XS.iloadN X0.here hx rfl (hb hby d9_75) rfl (XS.iconst X0.here hx rfl (hb hby d9_76) (XS.iushr X0.here hx rfl (hb hby d9_77) rfl (XS.iadd X0.here hx rfl (hb hby d9_78) rfl k)))))))))) ?_
  show ownEnds _ _ _ _ (T0.setTop (mkF m 79 #[.val (.int (1 : Int32)), .val (.int (15 : Int32))] [(.int (15 : Int32))]))
  refine ownRetI X0 hlk hx hret (hb hby d9_79) (by decide) (by decide) ?_
  exact ⟨rfl, rfl, e0⟩
set_option maxRecDepth 65536 in
set_option maxHeartbeats 40000000 in
theorem rm3_1_1 (l : Launch) (Z : State) (a0 : Array Value) (hw : ∀ d ∈ tables_1, d.before a0 Z = true) (oa : Addr) (ka : ClassId) (u0 : Value) (h0 : Heap) (n0 : Nat) (Z0 : n0 ≤ h0.size) (Va : Arv Z h0 oa ka .int (1 : Int32) [u0] (.int (0 : Int32))) (Ea : Exa Z h0 oa "[I") :
    ownMet l Z (⟨"java/util/Arrays", "copyOf", "([II)[I"⟩ : MethodName) jdk_65_method_123_code 3 (some (.array .int)) [] ({ frames := 1, cells := 1, slots := 1, locals := 40 } : Room) #[(.ref oa), (.int (1 : Int32))] h0 (fun v h L => ∃ (b : Addr), v = some (.ref b) ∧ Fr n0 L ∧ Keep h0 h [] ∧ n0 ≤ b ∧ h0.size ≤ b) := by
  refine ownMet.of (plainFor_of_name pn_3) ?_
  intro p e s m below meth c T0 hx hby hml hZ hown hnm hret hlk X0 e0
  refine ownEnds.cast (ef_rm3_1_1 m oa) ?_
  show ownEnds _ _ _ _ (T0.setTop (mkF m 0 #[.val (.ref oa), .val (.int (1 : Int32)), .unset] []))
  refine ownEnds.law (fun t k => XS.iloadN X0.here hx rfl (hb hby d3_0) rfl (XS.aloadN X0.here hx rfl (hb hby d3_1) rfl rfl k)) ?_
  show ownEnds _ _ _ _ (T0.setTop (mkF m 2 #[.val (.ref oa), .val (.int (1 : Int32)), .unset] [(.ref oa), (.int (1 : Int32))]))
  obtain ⟨cl1, Ar1, -, S1, N1, -, -⟩ := id Va
  refine ownEnds.law (X0.arraylength hx (by rw [e0]; exact Ar1.1) (State.isArrayOf_alike hZ.alike Ar1.2.1) (g := (mkF m 2 #[.val (.ref oa), .val (.int (1 : Int32)), .unset] [(.ref oa), (.int (1 : Int32))])) rfl rfl (hb hby d3_2)) ?_
  rw [len_of S1 N1]
  show ownEnds _ _ _ _ (T0.setTop (mkF m 3 #[.val (.ref oa), .val (.int (1 : Int32)), .unset] [(.int (1 : Int32)), (.int (1 : Int32))]))
  refine ownEnds.law (fun t => XS.icmpNo X0.here hx rfl (hb hby d3_3) rfl (teq (rfl : (1 : Int32) = (1 : Int32))).2) ?_
  show ownEnds _ _ _ _ (T0.setTop (mkF m 6 #[.val (.ref oa), .val (.int (1 : Int32)), .unset] []))
  refine ownEnds.law (fun t k => XS.aloadN X0.here hx rfl (hb hby d3_6) rfl rfl k) ?_
  show ownEnds _ _ _ _ (T0.setTop (mkF m 7 #[.val (.ref oa), .val (.int (1 : Int32)), .unset] [(.ref oa)]))
  obtain ⟨T2, h2, X2, e2, E2, Vh2, A2, st2⟩ := cloneH X0 hx hZ hown (wd_37 hw) (wd_14 hw) (wd_18 hw) (wd_16 hw) (wd_17 hw) (wd_19 hw) e0 (hs := []) Va Ea (g := (mkF m 7 #[.val (.ref oa), .val (.int (1 : Int32)), .unset] [(.ref oa)])) rfl (by rw [hml]; rfl) rfl (hb hby d3_7) (by decide) (W := 0) (cap := 1) (by show 2 * 0 + _ ≤ _; exact Nat.le_of_eq rfl) (by decide) (by decide) (by decide) (by decide)
  obtain ⟨b2, g2⟩ : ∃ z, z = h0.size := ⟨_, rfl⟩
  rw [← g2] at Vh2 A2 st2
  refine ownEnds.law st2 ?_
  have V_b2 : Arv Z h2 b2 ka .int (1 : Int32) [u0] (.int (0 : Int32)) := Vh2
  have ne_oa_b2 : oa ≠ b2 := Nat.ne_of_lt (Nat.lt_of_lt_of_eq Va.lt g2.symm)
  have g_b2 : n0 ≤ b2 := Nat.le_trans Z0 (Nat.le_of_eq g2.symm)
  have sz_b2 : h0.size ≤ b2 := Nat.le_trans (Keep.refl h0 []).1 (Nat.le_of_eq g2.symm)
  have Z2 : n0 ≤ h2.size := Nat.le_trans Z0 E2.1
  have KK2 : Keep h0 h2 [] := (Keep.refl h0 []).ext E2
  show ownEnds _ _ _ _ (T2.setTop (mkF m 10 #[.val (.ref oa), .val (.int (1 : Int32)), .unset] [(.ref b2)]))
  obtain ⟨T3, X3, e3, st3⟩ := castY X2 hx hZ hown (wd_38 hw) e2 (Ins.self A2) (g := (mkF m 10 #[.val (.ref oa), .val (.int (1 : Int32)), .unset] [(.ref b2)])) rfl rfl (hb hby d3_10)
  refine ownEnds.law st3 ?_
  show ownEnds _ _ _ _ (T3.setTop (mkF m 13 #[.val (.ref oa), .val (.int (1 : Int32)), .unset] [(.ref b2)]))
  refine ownRetA X3 hlk hx hret rfl rfl (hb hby d3_13) (by decide) (by decide) ?_
  exact ⟨b2, rfl, (Fr.nil n0), by rw [e3]; exact KK2, g_b2, sz_b2⟩
set_option maxRecDepth 65536 in
set_option maxHeartbeats 40000000 in
theorem rm3_3_2 (l : Launch) (Z : State) (a0 : Array Value) (hw : ∀ d ∈ tables_1, d.before a0 Z = true) (oa : Addr) (ka : ClassId) (u0 u1 u2 : Value) (h0 : Heap) (n0 : Nat) (Z0 : n0 ≤ h0.size) (Va : Arv Z h0 oa ka .int (3 : Int32) [u0, u1, u2] (.int (0 : Int32))) (Ea : Exa Z h0 oa "[I") :
    ownMet l Z (⟨"java/util/Arrays", "copyOf", "([II)[I"⟩ : MethodName) jdk_65_method_123_code 3 (some (.array .int)) [] ({ frames := 1, cells := 1, slots := 2, locals := 40 } : Room) #[(.ref oa), (.int (2 : Int32))] h0 (fun v h L => ∃ (b : Addr), v = some (.ref b) ∧ Fr n0 L ∧ Keep h0 h [] ∧ n0 ≤ b ∧ h0.size ≤ b) := by
  refine ownMet.of (plainFor_of_name pn_3) ?_
  intro p e s m below meth c T0 hx hby hml hZ hown hnm hret hlk X0 e0
  refine ownEnds.cast (ef_rm3_3_2 m oa) ?_
  show ownEnds _ _ _ _ (T0.setTop (mkF m 0 #[.val (.ref oa), .val (.int (2 : Int32)), .unset] []))
  refine ownEnds.law (fun t k => XS.iloadN X0.here hx rfl (hb hby d3_0) rfl (XS.aloadN X0.here hx rfl (hb hby d3_1) rfl rfl k)) ?_
  show ownEnds _ _ _ _ (T0.setTop (mkF m 2 #[.val (.ref oa), .val (.int (2 : Int32)), .unset] [(.ref oa), (.int (2 : Int32))]))
  obtain ⟨cl1, Ar1, -, S1, N1, -, -⟩ := id Va
  refine ownEnds.law (X0.arraylength hx (by rw [e0]; exact Ar1.1) (State.isArrayOf_alike hZ.alike Ar1.2.1) (g := (mkF m 2 #[.val (.ref oa), .val (.int (2 : Int32)), .unset] [(.ref oa), (.int (2 : Int32))])) rfl rfl (hb hby d3_2)) ?_
  rw [len_of S1 N1]
  show ownEnds _ _ _ _ (T0.setTop (mkF m 3 #[.val (.ref oa), .val (.int (2 : Int32)), .unset] [(.int (3 : Int32)), (.int (2 : Int32))]))
  refine ownEnds.law (fun t => XS.icmpYes X0.here hx rfl (pc0 := 3) (pc' := 14) rfl (hb hby d3_3) rfl (feq (by decide : ¬ ((2 : Int32) = (3 : Int32)))).2 (by decide) (by decide)) ?_
  show ownEnds _ _ _ _ (T0.setTop (mkF m 14 #[.val (.ref oa), .val (.int (2 : Int32)), .unset] []))
  refine ownEnds.law (fun t k => XS.iloadN X0.here hx rfl (hb hby d3_14) rfl k) ?_
  show ownEnds _ _ _ _ (T0.setTop (mkF m 15 #[.val (.ref oa), .val (.int (2 : Int32)), .unset] [(.int (2 : Int32))]))
  obtain ⟨T2, h2, k2, X2, e2, E2, A2, st2⟩ := newP X0 hx hZ (aty := .int) (wd_0 hw) e0 (g := (mkF m 15 #[.val (.ref oa), .val (.int (2 : Int32)), .unset] [(.int (2 : Int32))])) rfl (hb hby d3_15) rfl (by decide) (cap := 2) (by decide) (by decide) (by decide) (by decide)
  obtain ⟨b2, g2⟩ : ∃ z, z = h0.size := ⟨_, rfl⟩
  rw [← g2] at A2 st2
  refine ownEnds.law st2 ?_
  have V_b2 : Arv Z h2 b2 k2 .int (2 : Int32) [(.int (0 : Int32)), (.int (0 : Int32))] (.int (0 : Int32)) := (Arv.new A2 (by decide)).pad (pad_rep [] (.int (0 : Int32)) 2)
  have ne_oa_b2 : oa ≠ b2 := Nat.ne_of_lt (Nat.lt_of_lt_of_eq Va.lt g2.symm)
  have g_b2 : n0 ≤ b2 := Nat.le_trans Z0 (Nat.le_of_eq g2.symm)
  have sz_b2 : h0.size ≤ b2 := Nat.le_trans (Keep.refl h0 []).1 (Nat.le_of_eq g2.symm)
  have Z2 : n0 ≤ h2.size := Nat.le_trans Z0 E2.1
  have KK2 : Keep h0 h2 [] := (Keep.refl h0 []).ext E2
  show ownEnds _ _ _ _ (T2.setTop (mkF m 17 #[.val (.ref oa), .val (.int (2 : Int32)), .unset] [(.ref b2)]))
  refine ownEnds.law (fun t k => XS.astoreN X2.here hx rfl (hb hby d3_17) rfl rfl (l' := #[.val (.ref oa), .val (.int (2 : Int32)), .val (.ref b2)]) rfl (XS.aloadN X2.here hx rfl (hb hby d3_18) rfl rfl (XS.iconst X2.here hx rfl (hb hby d3_19) (XS.aloadN X2.here hx rfl (hb hby d3_20) rfl rfl (XS.iconst X2.here hx rfl (hb hby d3_21) (XS.aloadN X2.here hx rfl (hb hby d3_22) rfl rfl k)))))) ?_
  show ownEnds _ _ _ _ (T2.setTop (mkF m 23 #[.val (.ref oa), .val (.int (2 : Int32)), .val (.ref b2)] [(.ref oa), (.int (0 : Int32)), (.ref b2), (.int (0 : Int32)), (.ref oa)]))
  have f4 := (Arv.ext Va E2)
  obtain ⟨cl3, Ar3, -, S3, N3, -, -⟩ := id f4
  refine ownEnds.law (X2.arraylength hx (by rw [e2]; exact Ar3.1) (State.isArrayOf_alike hZ.alike Ar3.2.1) (g := (mkF m 23 #[.val (.ref oa), .val (.int (2 : Int32)), .val (.ref b2)] [(.ref oa), (.int (0 : Int32)), (.ref b2), (.int (0 : Int32)), (.ref oa)])) rfl rfl (hb hby d3_23)) ?_
  rw [len_of S3 N3]
  show ownEnds _ _ _ _ (T2.setTop (mkF m 24 #[.val (.ref oa), .val (.int (2 : Int32)), .val (.ref b2)] [(.int (3 : Int32)), (.int (0 : Int32)), (.ref b2), (.int (0 : Int32)), (.ref oa)]))
  refine ownEnds.law (fun t k => XS.iloadN X2.here hx rfl (hb hby d3_24) rfl k) ?_
  show ownEnds _ _ _ _ (T2.setTop (mkF m 25 #[.val (.ref oa), .val (.int (2 : Int32)), .val (.ref b2)] [(.int (2 : Int32)), (.int (3 : Int32)), (.int (0 : Int32)), (.ref b2), (.int (0 : Int32)), (.ref oa)]))
  obtain ⟨v5, T5, L5, X5, hQ5, st5⟩ := ownCallS X2 hx hZ hown (y := (⟨"java/lang/Math", "min", "(II)I"⟩ : MethodName)) (as := [(.int (3 : Int32)), (.int (2 : Int32))]) (wd_93 hw) (wd_94 hw) (wd_74 hw) (wd_95 hw) (by decide) (rm12 l Z a0 hw (3 : Int32) (2 : Int32) h2 n0 Z2) e2 4 (by decide) (by decide) (by decide) (by decide) (g := (mkF m 25 #[.val (.ref oa), .val (.int (2 : Int32)), .val (.ref b2)] [(.int (2 : Int32)), (.int (3 : Int32)), (.int (0 : Int32)), (.ref b2), (.int (0 : Int32)), (.ref oa)])) rfl (by rw [hml]; rfl) (rest := [(.int (0 : Int32)), (.ref b2), (.int (0 : Int32)), (.ref oa)]) pd_0 rfl rfl (by show 2 * 0 + _ ≤ _; exact Nat.le_of_eq rfl) (hb hby d3_25)
  obtain ⟨hv5, rfl, e5⟩ := hQ5
  rw [List.append_nil] at X5
  have hw5 : v5 = some (.int (2 : Int32)) := hv5.trans (by decide)
  subst hw5
  refine ownEnds.law st5 ?_
  show ownEnds _ _ _ _ (T5.setTop (mkF m 28 #[.val (.ref oa), .val (.int (2 : Int32)), .val (.ref b2)] [(.int (2 : Int32)), (.int (0 : Int32)), (.ref b2), (.int (0 : Int32)), (.ref oa)]))
  obtain ⟨T6, h6, L6, X6, e6, N6, Kq6, Vc6, st6⟩ := cpA X5 hx hZ hown (wd_96 hw) (wd_99 hw) (wd_97 hw) (wd_98 hw) e5 f4 V_b2 (us := [u0, u1]) (Or.inl ⟨rfl, rfl⟩) (by decide) (by decide) (by decide) (by decide) (by decide) rfl (by decide) (Fr.nil n0) g_b2 (g := (mkF m 28 #[.val (.ref oa), .val (.int (2 : Int32)), .val (.ref b2)] [(.int (2 : Int32)), (.int (0 : Int32)), (.ref b2), (.int (0 : Int32)), (.ref oa)])) rfl (by rw [hml]; rfl) rfl (hb hby d3_28) (by decide) (W := 0) (by show 2 * 0 + _ ≤ _; exact Nat.le_of_eq rfl) (by decide)
  have V6 : Arv Z h6 b2 k2 .int (2 : Int32) [u0, u1] (.int (0 : Int32)) := Vc6
  refine ownEnds.law st6 ?_
  have Z6 : n0 ≤ h6.size := Nat.le_trans Z2 Kq6.1
  have KK6 : Keep h0 h6 [] := Keep.trans (KK2) Kq6 (allS (Or.inr sz_b2) all0)
  show ownEnds _ _ _ _ (T6.setTop (mkF m 31 #[.val (.ref oa), .val (.int (2 : Int32)), .val (.ref b2)] []))
  refine ownEnds.law (fun t k => XS.aloadN X6.here hx rfl (hb hby d3_31) rfl rfl k) ?_
  show ownEnds _ _ _ _ (T6.setTop (mkF m 32 #[.val (.ref oa), .val (.int (2 : Int32)), .val (.ref b2)] [(.ref b2)]))
  refine ownRetA X6 hlk hx hret rfl rfl (hb hby d3_32) (by decide) (by decide) ?_
  exact ⟨b2, rfl, N6, by rw [e6]; exact KK6, g_b2, sz_b2⟩
set_option maxRecDepth 65536 in
set_option maxHeartbeats 40000000 in
theorem rm3_3_3 (l : Launch) (Z : State) (a0 : Array Value) (hw : ∀ d ∈ tables_1, d.before a0 Z = true) (oa : Addr) (ka : ClassId) (u0 u1 u2 : Value) (h0 : Heap) (n0 : Nat) (Z0 : n0 ≤ h0.size) (Va : Arv Z h0 oa ka .int (3 : Int32) [u0, u1, u2] (.int (0 : Int32))) (Ea : Exa Z h0 oa "[I") :
    ownMet l Z (⟨"java/util/Arrays", "copyOf", "([II)[I"⟩ : MethodName) jdk_65_method_123_code 3 (some (.array .int)) [] ({ frames := 1, cells := 1, slots := 3, locals := 40 } : Room) #[(.ref oa), (.int (3 : Int32))] h0 (fun v h L => ∃ (b : Addr), v = some (.ref b) ∧ Fr n0 L ∧ Keep h0 h [] ∧ n0 ≤ b ∧ h0.size ≤ b) := by
  refine ownMet.of (plainFor_of_name pn_3) ?_
  intro p e s m below meth c T0 hx hby hml hZ hown hnm hret hlk X0 e0
  refine ownEnds.cast (ef_rm3_3_3 m oa) ?_
  show ownEnds _ _ _ _ (T0.setTop (mkF m 0 #[.val (.ref oa), .val (.int (3 : Int32)), .unset] []))
  refine ownEnds.law (fun t k => XS.iloadN X0.here hx rfl (hb hby d3_0) rfl (XS.aloadN X0.here hx rfl (hb hby d3_1) rfl rfl k)) ?_
  show ownEnds _ _ _ _ (T0.setTop (mkF m 2 #[.val (.ref oa), .val (.int (3 : Int32)), .unset] [(.ref oa), (.int (3 : Int32))]))
  obtain ⟨cl1, Ar1, -, S1, N1, -, -⟩ := id Va
  refine ownEnds.law (X0.arraylength hx (by rw [e0]; exact Ar1.1) (State.isArrayOf_alike hZ.alike Ar1.2.1) (g := (mkF m 2 #[.val (.ref oa), .val (.int (3 : Int32)), .unset] [(.ref oa), (.int (3 : Int32))])) rfl rfl (hb hby d3_2)) ?_
  rw [len_of S1 N1]
  show ownEnds _ _ _ _ (T0.setTop (mkF m 3 #[.val (.ref oa), .val (.int (3 : Int32)), .unset] [(.int (3 : Int32)), (.int (3 : Int32))]))
  refine ownEnds.law (fun t => XS.icmpNo X0.here hx rfl (hb hby d3_3) rfl (teq (rfl : (3 : Int32) = (3 : Int32))).2) ?_
  show ownEnds _ _ _ _ (T0.setTop (mkF m 6 #[.val (.ref oa), .val (.int (3 : Int32)), .unset] []))
  refine ownEnds.law (fun t k => XS.aloadN X0.here hx rfl (hb hby d3_6) rfl rfl k) ?_
  show ownEnds _ _ _ _ (T0.setTop (mkF m 7 #[.val (.ref oa), .val (.int (3 : Int32)), .unset] [(.ref oa)]))
  obtain ⟨T2, h2, X2, e2, E2, Vh2, A2, st2⟩ := cloneH X0 hx hZ hown (wd_37 hw) (wd_14 hw) (wd_18 hw) (wd_16 hw) (wd_17 hw) (wd_19 hw) e0 (hs := []) Va Ea (g := (mkF m 7 #[.val (.ref oa), .val (.int (3 : Int32)), .unset] [(.ref oa)])) rfl (by rw [hml]; rfl) rfl (hb hby d3_7) (by decide) (W := 0) (cap := 3) (by show 2 * 0 + _ ≤ _; exact Nat.le_of_eq rfl) (by decide) (by decide) (by decide) (by decide)
  obtain ⟨b2, g2⟩ : ∃ z, z = h0.size := ⟨_, rfl⟩
  rw [← g2] at Vh2 A2 st2
  refine ownEnds.law st2 ?_
  have V_b2 : Arv Z h2 b2 ka .int (3 : Int32) [u0, u1, u2] (.int (0 : Int32)) := Vh2
  have ne_oa_b2 : oa ≠ b2 := Nat.ne_of_lt (Nat.lt_of_lt_of_eq Va.lt g2.symm)
  have g_b2 : n0 ≤ b2 := Nat.le_trans Z0 (Nat.le_of_eq g2.symm)
  have sz_b2 : h0.size ≤ b2 := Nat.le_trans (Keep.refl h0 []).1 (Nat.le_of_eq g2.symm)
  have Z2 : n0 ≤ h2.size := Nat.le_trans Z0 E2.1
  have KK2 : Keep h0 h2 [] := (Keep.refl h0 []).ext E2
  show ownEnds _ _ _ _ (T2.setTop (mkF m 10 #[.val (.ref oa), .val (.int (3 : Int32)), .unset] [(.ref b2)]))
  obtain ⟨T3, X3, e3, st3⟩ := castY X2 hx hZ hown (wd_38 hw) e2 (Ins.self A2) (g := (mkF m 10 #[.val (.ref oa), .val (.int (3 : Int32)), .unset] [(.ref b2)])) rfl rfl (hb hby d3_10)
  refine ownEnds.law st3 ?_
  show ownEnds _ _ _ _ (T3.setTop (mkF m 13 #[.val (.ref oa), .val (.int (3 : Int32)), .unset] [(.ref b2)]))
  refine ownRetA X3 hlk hx hret rfl rfl (hb hby d3_13) (by decide) (by decide) ?_
  exact ⟨b2, rfl, (Fr.nil n0), by rw [e3]; exact KK2, g_b2, sz_b2⟩
set_option maxRecDepth 65536 in
set_option maxHeartbeats 40000000 in
theorem rm1_0 (l : Launch) (Z : State) (a0 : Array Value) (hw : ∀ d ∈ tables_1, d.before a0 Z = true) (oa : Addr) (ob : Addr)  (k_ob : ClassId) (h0 : Heap) (n0 : Nat) (Z0 : n0 ≤ h0.size) (E_oa : Exa Z h0 oa "com/example/libreach/libreach/engine/StateLayout") (g_oa : n0 ≤ oa) (F_oa_widths : Fld Z h0 oa "com/example/libreach/libreach/engine/StateLayout" "widths" "[I" .null) (F_oa_word : Fld Z h0 oa "com/example/libreach/libreach/engine/StateLayout" "word" "[I" .null) (F_oa_shift : Fld Z h0 oa "com/example/libreach/libreach/engine/StateLayout" "shift" "[I" .null) (F_oa_largest : Fld Z h0 oa "com/example/libreach/libreach/engine/StateLayout" "largest" "[J" .null) (F_oa_words : Fld Z h0 oa "com/example/libreach/libreach/engine/StateLayout" "words" "I" (.int (0 : Int32))) (F_oa_runs : Fld Z h0 oa "com/example/libreach/libreach/engine/StateLayout" "runs" "[I" .null) (E_ob : Exa Z h0 ob "[I") (V_ob : Arv Z h0 ob k_ob .int (0 : Int32) [] (.int (0 : Int32))) :
    ownMet l Z (⟨"com/example/libreach/libreach/engine/StateLayout", "<init>", "([I)V"⟩ : MethodName) prog_17_method_1_code 7 none [] ({ frames := 2, cells := 6, slots := 16, locals := 60 } : Room) #[(.ref oa), (.ref ob)] h0 (fun v h L => v = none ∧ Fr n0 L ∧ Keep h0 h [oa] ∧ Exa Z h oa "com/example/libreach/libreach/engine/StateLayout" ∧ Fld Z h oa "com/example/libreach/libreach/engine/StateLayout" "words" "I" (.int (0 : Int32))) := by
  refine ownMet.of (plainFor_of_name pn_1) ?_
  intro p e s m below meth c T0 hx hby hml hZ hown hnm hret hlk X0 e0
  refine ownEnds.cast (ef_rm1_0 m oa ob) ?_
  have ne_oa_ob : oa ≠ ob := ne_exa E_oa E_ob (by decide)
  show ownEnds _ _ _ _ (T0.setTop (mkF m 0 #[.val (.ref oa), .val (.ref ob), .unset, .unset, .unset, .unset, .unset] []))
  refine ownEnds.law (fun t k => XS.aloadN X0.here hx rfl (hb hby d1_0) rfl rfl k) ?_
  show ownEnds _ _ _ _ (T0.setTop (mkF m 1 #[.val (.ref oa), .val (.ref ob), .unset, .unset, .unset, .unset, .unset] [(.ref oa)]))
  obtain ⟨T1, X1, e1, st1⟩ := initO X0 hx hZ hown (wd_10 hw) (wd_11 hw) (wd_12 hw) e0 (g := (mkF m 1 #[.val (.ref oa), .val (.ref ob), .unset, .unset, .unset, .unset, .unset] [(.ref oa)])) rfl (by rw [hml]; rfl) rfl (hb hby d1_1) (by decide) (W := 0) (by show 2 * 0 + _ ≤ _; exact Nat.le_of_eq rfl) (by decide)
  refine ownEnds.law st1 ?_
  show ownEnds _ _ _ _ (T1.setTop (mkF m 4 #[.val (.ref oa), .val (.ref ob), .unset, .unset, .unset, .unset, .unset] []))
  refine ownEnds.law (fun t k => XS.aloadN X1.here hx rfl (hb hby d1_4) rfl rfl (XS.aloadN X1.here hx rfl (hb hby d1_5) rfl rfl k)) ?_
  show ownEnds _ _ _ _ (T1.setTop (mkF m 6 #[.val (.ref oa), .val (.ref ob), .unset, .unset, .unset, .unset, .unset] [(.ref ob), (.ref oa)]))
  obtain ⟨T2, h2, X2, e2, E2, Vh2, A2, st2⟩ := cloneH X1 hx hZ hown (wd_13 hw) (wd_14 hw) (wd_18 hw) (wd_16 hw) (wd_17 hw) (wd_19 hw) e1 (hs := []) V_ob E_ob (g := (mkF m 6 #[.val (.ref oa), .val (.ref ob), .unset, .unset, .unset, .unset, .unset] [(.ref ob), (.ref oa)])) rfl (by rw [hml]; rfl) rfl (hb hby d1_6) (by decide) (W := 1) (cap := 0) (by show 2 * 0 + _ ≤ _; exact Nat.le_of_eq rfl) (by decide) (by decide) (by decide) (by decide)
  obtain ⟨b2, g2⟩ : ∃ z, z = h0.size := ⟨_, rfl⟩
  rw [← g2] at Vh2 A2 st2
  refine ownEnds.law st2 ?_
  have V_b2 : Arv Z h2 b2 k_ob .int (0 : Int32) [] (.int (0 : Int32)) := Vh2
  have ne_oa_b2 : oa ≠ b2 := Nat.ne_of_lt (Nat.lt_of_lt_of_eq E_oa.lt g2.symm)
  have ne_ob_b2 : ob ≠ b2 := Nat.ne_of_lt (Nat.lt_of_lt_of_eq E_ob.lt g2.symm)
  have g_b2 : n0 ≤ b2 := Nat.le_trans Z0 (Nat.le_of_eq g2.symm)
  have sz_b2 : h0.size ≤ b2 := Nat.le_trans (Keep.refl h0 [oa]).1 (Nat.le_of_eq g2.symm)
  have Z2 : n0 ≤ h2.size := Nat.le_trans Z0 E2.1
  have KK2 : Keep h0 h2 [oa] := (Keep.refl h0 [oa]).ext E2
  show ownEnds _ _ _ _ (T2.setTop (mkF m 9 #[.val (.ref oa), .val (.ref ob), .unset, .unset, .unset, .unset, .unset] [(.ref b2), (.ref oa)]))
  obtain ⟨T3, X3, e3, st3⟩ := castY X2 hx hZ hown (wd_20 hw) e2 (Ins.self A2) (g := (mkF m 9 #[.val (.ref oa), .val (.ref ob), .unset, .unset, .unset, .unset, .unset] [(.ref b2), (.ref oa)])) rfl rfl (hb hby d1_9)
  refine ownEnds.law st3 ?_
  show ownEnds _ _ _ _ (T3.setTop (mkF m 12 #[.val (.ref oa), .val (.ref ob), .unset, .unset, .unset, .unset, .unset] [(.ref b2), (.ref oa)]))
  have f4 := (Exa.ext E2 E_oa)
  have f5 := (Fld.ext E2 F_oa_widths)
  obtain ⟨T6, h6, X6, e6, W6, st6⟩ := putF X3 hx hZ hown (host := "") (Or.inl (wd_22 hw)) Via.refl e3 f5 f4 (Or.inr ⟨(wd_23 hw), rfl, hnm⟩) (wd_5 hw) (ty := (.array .int)) (by decide) rfl rfl (g := (mkF m 12 #[.val (.ref oa), .val (.ref ob), .unset, .unset, .unset, .unset, .unset] [(.ref b2), (.ref oa)])) rfl rfl (hb hby d1_12)
  refine ownEnds.law st6 ?_
  have N6 := Fr.snoc X6 (Fr.nil n0) g_oa
  have KK6 : Keep h0 h6 [oa] := (KK2).wr W6 (Or.inl (List.mem_of_getElem? (i := 0) rfl))
  have Z6 : n0 ≤ h6.size := by rw [W6.size]; exact Z2
  have Fw6 : Fld Z h6 oa "com/example/libreach/libreach/engine/StateLayout" "widths" "[I" (.ref b2) := Fld.same W6 f5
  show ownEnds _ _ _ _ (T6.setTop (mkF m 15 #[.val (.ref oa), .val (.ref ob), .unset, .unset, .unset, .unset, .unset] []))
  refine ownEnds.law (fun t k => XS.aloadN X6.here hx rfl (hb hby d1_15) rfl rfl (XS.aloadN X6.here hx rfl (hb hby d1_16) rfl rfl k)) ?_
  show ownEnds _ _ _ _ (T6.setTop (mkF m 17 #[.val (.ref oa), .val (.ref ob), .unset, .unset, .unset, .unset, .unset] [(.ref ob), (.ref oa)]))
  have f8 := (Arv.other (Arv.ext V_ob E2) W6 (Ne.symm ne_oa_ob))
  obtain ⟨cl7, Ar7, -, S7, N7, -, -⟩ := id f8
  refine ownEnds.law (X6.arraylength hx (by rw [e6]; exact Ar7.1) (State.isArrayOf_alike hZ.alike Ar7.2.1) (g := (mkF m 17 #[.val (.ref oa), .val (.ref ob), .unset, .unset, .unset, .unset, .unset] [(.ref ob), (.ref oa)])) rfl rfl (hb hby d1_17)) ?_
  rw [len_of S7 N7]
  show ownEnds _ _ _ _ (T6.setTop (mkF m 18 #[.val (.ref oa), .val (.ref ob), .unset, .unset, .unset, .unset, .unset] [(.int (0 : Int32)), (.ref oa)]))
  obtain ⟨T9, h9, k9, X9, e9, E9, A9, Ax9, st9⟩ := newPE X6 hx hZ (aty := .int) (wd_0 hw) e6 (g := (mkF m 18 #[.val (.ref oa), .val (.ref ob), .unset, .unset, .unset, .unset, .unset] [(.int (0 : Int32)), (.ref oa)])) rfl (hb hby d1_18) rfl (by decide) (cap := 0) (by decide) (by decide) (by decide) (by decide) (ad := "[I") (by decide)
  obtain ⟨b9, g9⟩ : ∃ z, z = h6.size := ⟨_, rfl⟩
  rw [← g9] at A9 st9 Ax9
  refine ownEnds.law st9 ?_
  have V_b9 : Arv Z h9 b9 k9 .int (0 : Int32) [] (.int (0 : Int32)) := Arv.new A9 (by decide)
  have f10 := (Exa.wr W6 f4)
  have ne_oa_b9 : oa ≠ b9 := Nat.ne_of_lt (Nat.lt_of_lt_of_eq f10.lt g9.symm)
  have f11 := (Exa.wr W6 (Exa.ext E2 E_ob))
  have ne_ob_b9 : ob ≠ b9 := Nat.ne_of_lt (Nat.lt_of_lt_of_eq f11.lt g9.symm)
  have f12 := (Arv.other V_b2 W6 (Ne.symm ne_oa_b2))
  have ne_b2_b9 : b2 ≠ b9 := Nat.ne_of_lt (Nat.lt_of_lt_of_eq f12.lt g9.symm)
  have g_b9 : n0 ≤ b9 := Nat.le_trans Z6 (Nat.le_of_eq g9.symm)
  have sz_b9 : h0.size ≤ b9 := Nat.le_trans (KK6).1 (Nat.le_of_eq g9.symm)
  have Z9 : n0 ≤ h9.size := Nat.le_trans Z6 E9.1
  have KK9 : Keep h0 h9 [oa] := (KK6).ext E9
  show ownEnds _ _ _ _ (T9.setTop (mkF m 20 #[.val (.ref oa), .val (.ref ob), .unset, .unset, .unset, .unset, .unset] [(.ref b9), (.ref oa)]))
  have f13 := (Exa.ext E9 f10)
  have f14 := (Fld.ext E9 (Fld.other W6 (Fld.ext E2 F_oa_word) (Or.inr (slot_ne (Or.inr (wd_25 hw)) (Or.inr (wd_23 hw)) (by decide) (t := (.array .int)) (t' := (.array .int)) (by decide) (by decide)))))
  obtain ⟨T15, h15, X15, e15, W15, st15⟩ := putF X9 hx hZ hown (host := "") (Or.inl (wd_24 hw)) Via.refl e9 f14 f13 (Or.inr ⟨(wd_25 hw), rfl, hnm⟩) (wd_5 hw) (ty := (.array .int)) (by decide) rfl rfl (g := (mkF m 20 #[.val (.ref oa), .val (.ref ob), .unset, .unset, .unset, .unset, .unset] [(.ref b9), (.ref oa)])) rfl rfl (hb hby d1_20)
  refine ownEnds.law st15 ?_
  have N15 := Fr.snoc X15 N6 g_oa
  have KK15 : Keep h0 h15 [oa] := (KK9).wr W15 (Or.inl (List.mem_of_getElem? (i := 0) rfl))
  have Z15 : n0 ≤ h15.size := by rw [W15.size]; exact Z9
  have Fw15 : Fld Z h15 oa "com/example/libreach/libreach/engine/StateLayout" "word" "[I" (.ref b9) := Fld.same W15 f14
  show ownEnds _ _ _ _ (T15.setTop (mkF m 23 #[.val (.ref oa), .val (.ref ob), .unset, .unset, .unset, .unset, .unset] []))
  refine ownEnds.law (fun t k => XS.aloadN X15.here hx rfl (hb hby d1_23) rfl rfl (XS.aloadN X15.here hx rfl (hb hby d1_24) rfl rfl k)) ?_
  show ownEnds _ _ _ _ (T15.setTop (mkF m 25 #[.val (.ref oa), .val (.ref ob), .unset, .unset, .unset, .unset, .unset] [(.ref ob), (.ref oa)]))
  have f17 := (Arv.other (Arv.ext f8 E9) W15 (Ne.symm ne_oa_ob))
  obtain ⟨cl16, Ar16, -, S16, N16, -, -⟩ := id f17
  refine ownEnds.law (X15.arraylength hx (by rw [e15]; exact Ar16.1) (State.isArrayOf_alike hZ.alike Ar16.2.1) (g := (mkF m 25 #[.val (.ref oa), .val (.ref ob), .unset, .unset, .unset, .unset, .unset] [(.ref ob), (.ref oa)])) rfl rfl (hb hby d1_25)) ?_
  rw [len_of S16 N16]
  show ownEnds _ _ _ _ (T15.setTop (mkF m 26 #[.val (.ref oa), .val (.ref ob), .unset, .unset, .unset, .unset, .unset] [(.int (0 : Int32)), (.ref oa)]))
  obtain ⟨T18, h18, k18, X18, e18, E18, A18, Ax18, st18⟩ := newPE X15 hx hZ (aty := .int) (wd_0 hw) e15 (g := (mkF m 26 #[.val (.ref oa), .val (.ref ob), .unset, .unset, .unset, .unset, .unset] [(.int (0 : Int32)), (.ref oa)])) rfl (hb hby d1_26) rfl (by decide) (cap := 0) (by decide) (by decide) (by decide) (by decide) (ad := "[I") (by decide)
  obtain ⟨b18, g18⟩ : ∃ z, z = h15.size := ⟨_, rfl⟩
  rw [← g18] at A18 st18 Ax18
  refine ownEnds.law st18 ?_
  have V_b18 : Arv Z h18 b18 k18 .int (0 : Int32) [] (.int (0 : Int32)) := Arv.new A18 (by decide)
  have f19 := (Exa.wr W15 f13)
  have ne_oa_b18 : oa ≠ b18 := Nat.ne_of_lt (Nat.lt_of_lt_of_eq f19.lt g18.symm)
  have f20 := (Exa.wr W15 (Exa.ext E9 f11))
  have ne_ob_b18 : ob ≠ b18 := Nat.ne_of_lt (Nat.lt_of_lt_of_eq f20.lt g18.symm)
  have f21 := (Arv.other (Arv.ext f12 E9) W15 (Ne.symm ne_oa_b2))
  have ne_b2_b18 : b2 ≠ b18 := Nat.ne_of_lt (Nat.lt_of_lt_of_eq f21.lt g18.symm)
  have f22 := (Arv.other V_b9 W15 (Ne.symm ne_oa_b9))
  have ne_b9_b18 : b9 ≠ b18 := Nat.ne_of_lt (Nat.lt_of_lt_of_eq f22.lt g18.symm)
  have g_b18 : n0 ≤ b18 := Nat.le_trans Z15 (Nat.le_of_eq g18.symm)
  have sz_b18 : h0.size ≤ b18 := Nat.le_trans (KK15).1 (Nat.le_of_eq g18.symm)
  have Z18 : n0 ≤ h18.size := Nat.le_trans Z15 E18.1
  have KK18 : Keep h0 h18 [oa] := (KK15).ext E18
  show ownEnds _ _ _ _ (T18.setTop (mkF m 28 #[.val (.ref oa), .val (.ref ob), .unset, .unset, .unset, .unset, .unset] [(.ref b18), (.ref oa)]))
  have f23 := (Exa.ext E18 f19)
  have f24 := (Fld.ext E18 (Fld.other W15 (Fld.ext E9 (Fld.other W6 (Fld.ext E2 F_oa_shift) (Or.inr (slot_ne (Or.inr (wd_27 hw)) (Or.inr (wd_23 hw)) (by decide) (t := (.array .int)) (t' := (.array .int)) (by decide) (by decide))))) (Or.inr (slot_ne (Or.inr (wd_27 hw)) (Or.inr (wd_25 hw)) (by decide) (t := (.array .int)) (t' := (.array .int)) (by decide) (by decide)))))
  obtain ⟨T25, h25, X25, e25, W25, st25⟩ := putF X18 hx hZ hown (host := "") (Or.inl (wd_26 hw)) Via.refl e18 f24 f23 (Or.inr ⟨(wd_27 hw), rfl, hnm⟩) (wd_5 hw) (ty := (.array .int)) (by decide) rfl rfl (g := (mkF m 28 #[.val (.ref oa), .val (.ref ob), .unset, .unset, .unset, .unset, .unset] [(.ref b18), (.ref oa)])) rfl rfl (hb hby d1_28)
  refine ownEnds.law st25 ?_
  have N25 := Fr.snoc X25 N15 g_oa
  have KK25 : Keep h0 h25 [oa] := (KK18).wr W25 (Or.inl (List.mem_of_getElem? (i := 0) rfl))
  have Z25 : n0 ≤ h25.size := by rw [W25.size]; exact Z18
  have Fw25 : Fld Z h25 oa "com/example/libreach/libreach/engine/StateLayout" "shift" "[I" (.ref b18) := Fld.same W25 f24
  show ownEnds _ _ _ _ (T25.setTop (mkF m 31 #[.val (.ref oa), .val (.ref ob), .unset, .unset, .unset, .unset, .unset] []))
  refine ownEnds.law (fun t k => XS.aloadN X25.here hx rfl (hb hby d1_31) rfl rfl (XS.aloadN X25.here hx rfl (hb hby d1_32) rfl rfl k)) ?_
  show ownEnds _ _ _ _ (T25.setTop (mkF m 33 #[.val (.ref oa), .val (.ref ob), .unset, .unset, .unset, .unset, .unset] [(.ref ob), (.ref oa)]))
  have f27 := (Arv.other (Arv.ext f17 E18) W25 (Ne.symm ne_oa_ob))
  obtain ⟨cl26, Ar26, -, S26, N26, -, -⟩ := id f27
  refine ownEnds.law (X25.arraylength hx (by rw [e25]; exact Ar26.1) (State.isArrayOf_alike hZ.alike Ar26.2.1) (g := (mkF m 33 #[.val (.ref oa), .val (.ref ob), .unset, .unset, .unset, .unset, .unset] [(.ref ob), (.ref oa)])) rfl rfl (hb hby d1_33)) ?_
  rw [len_of S26 N26]
  show ownEnds _ _ _ _ (T25.setTop (mkF m 34 #[.val (.ref oa), .val (.ref ob), .unset, .unset, .unset, .unset, .unset] [(.int (0 : Int32)), (.ref oa)]))
  obtain ⟨T28, h28, k28, X28, e28, E28, A28, st28⟩ := newP X25 hx hZ (aty := .long) (wd_28 hw) e25 (g := (mkF m 34 #[.val (.ref oa), .val (.ref ob), .unset, .unset, .unset, .unset, .unset] [(.int (0 : Int32)), (.ref oa)])) rfl (hb hby d1_34) rfl (by decide) (cap := 0) (by decide) (by decide) (by decide) (by decide)
  obtain ⟨b28, g28⟩ : ∃ z, z = h25.size := ⟨_, rfl⟩
  rw [← g28] at A28 st28
  refine ownEnds.law st28 ?_
  have V_b28 : Arv Z h28 b28 k28 .long (0 : Int32) [] (.long (0 : Int64)) := Arv.new A28 (by decide)
  have f29 := (Exa.wr W25 f23)
  have ne_oa_b28 : oa ≠ b28 := Nat.ne_of_lt (Nat.lt_of_lt_of_eq f29.lt g28.symm)
  have f30 := (Exa.wr W25 (Exa.ext E18 f20))
  have ne_ob_b28 : ob ≠ b28 := Nat.ne_of_lt (Nat.lt_of_lt_of_eq f30.lt g28.symm)
  have f31 := (Arv.other (Arv.ext f21 E18) W25 (Ne.symm ne_oa_b2))
  have ne_b2_b28 : b2 ≠ b28 := Nat.ne_of_lt (Nat.lt_of_lt_of_eq f31.lt g28.symm)
  have f32 := (Arv.other (Arv.ext f22 E18) W25 (Ne.symm ne_oa_b9))
  have ne_b9_b28 : b9 ≠ b28 := Nat.ne_of_lt (Nat.lt_of_lt_of_eq f32.lt g28.symm)
  have f33 := (Arv.other V_b18 W25 (Ne.symm ne_oa_b18))
  have ne_b18_b28 : b18 ≠ b28 := Nat.ne_of_lt (Nat.lt_of_lt_of_eq f33.lt g28.symm)
  have g_b28 : n0 ≤ b28 := Nat.le_trans Z25 (Nat.le_of_eq g28.symm)
  have sz_b28 : h0.size ≤ b28 := Nat.le_trans (KK25).1 (Nat.le_of_eq g28.symm)
  have Z28 : n0 ≤ h28.size := Nat.le_trans Z25 E28.1
  have KK28 : Keep h0 h28 [oa] := (KK25).ext E28
  show ownEnds _ _ _ _ (T28.setTop (mkF m 36 #[.val (.ref oa), .val (.ref ob), .unset, .unset, .unset, .unset, .unset] [(.ref b28), (.ref oa)]))
  have f34 := (Exa.ext E28 f29)
  have f35 := (Fld.ext E28 (Fld.other W25 (Fld.ext E18 (Fld.other W15 (Fld.ext E9 (Fld.other W6 (Fld.ext E2 F_oa_largest) (Or.inr (slot_ne (Or.inr (wd_30 hw)) (Or.inr (wd_23 hw)) (by decide) (t := (.array .long)) (t' := (.array .int)) (by decide) (by decide))))) (Or.inr (slot_ne (Or.inr (wd_30 hw)) (Or.inr (wd_25 hw)) (by decide) (t := (.array .long)) (t' := (.array .int)) (by decide) (by decide))))) (Or.inr (slot_ne (Or.inr (wd_30 hw)) (Or.inr (wd_27 hw)) (by decide) (t := (.array .long)) (t' := (.array .int)) (by decide) (by decide)))))
  obtain ⟨T36, h36, X36, e36, W36, st36⟩ := putF X28 hx hZ hown (host := "") (Or.inl (wd_29 hw)) Via.refl e28 f35 f34 (Or.inr ⟨(wd_30 hw), rfl, hnm⟩) (wd_5 hw) (ty := (.array .long)) (by decide) rfl rfl (g := (mkF m 36 #[.val (.ref oa), .val (.ref ob), .unset, .unset, .unset, .unset, .unset] [(.ref b28), (.ref oa)])) rfl rfl (hb hby d1_36)
  refine ownEnds.law st36 ?_
  have N36 := Fr.snoc X36 N25 g_oa
  have KK36 : Keep h0 h36 [oa] := (KK28).wr W36 (Or.inl (List.mem_of_getElem? (i := 0) rfl))
  have Z36 : n0 ≤ h36.size := by rw [W36.size]; exact Z28
  have Fw36 : Fld Z h36 oa "com/example/libreach/libreach/engine/StateLayout" "largest" "[J" (.ref b28) := Fld.same W36 f35
  show ownEnds _ _ _ _ (T36.setTop (mkF m 39 #[.val (.ref oa), .val (.ref ob), .unset, .unset, .unset, .unset, .unset] []))
  refine ownEnds.law (fun t k => XS.iconst X36.here hx rfl (hb hby d1_39) (XS.istoreN X36.here hx rfl (hb hby d1_40) rfl (l' := #[.val (.ref oa), .val (.ref ob), .val (.int (0 : Int32)), .unset, .unset, .unset, .unset]) rfl (XS.iconst X36.here hx rfl (hb hby d1_41) (XS.istoreN X36.here hx rfl (hb hby d1_42) rfl (l' := #[.val (.ref oa), .val (.ref ob), .val (.int (0 : Int32)), .val (.int (0 : Int32)), .unset, .unset, .unset]) rfl (XS.iconst X36.here hx rfl (hb hby d1_43) (XS.istore X36.here hx rfl (hb hby d1_44) rfl (l' := #[.val (.ref oa), .val (.ref ob), .val (.int (0 : Int32)), .val (.int (0 : Int32)), .val (.int (0 : Int32)), .unset, .unset]) rfl (XS.iload X36.here hx rfl (hb hby d1_46) rfl (XS.aloadN X36.here hx rfl (hb hby d1_48) rfl rfl k)))))))) ?_
  show ownEnds _ _ _ _ (T36.setTop (mkF m 49 #[.val (.ref oa), .val (.ref ob), .val (.int (0 : Int32)), .val (.int (0 : Int32)), .val (.int (0 : Int32)), .unset, .unset] [(.ref ob), (.int (0 : Int32))]))
  have f38 := (Arv.other (Arv.ext f27 E28) W36 (Ne.symm ne_oa_ob))
  obtain ⟨cl37, Ar37, -, S37, N37, -, -⟩ := id f38
  refine ownEnds.law (X36.arraylength hx (by rw [e36]; exact Ar37.1) (State.isArrayOf_alike hZ.alike Ar37.2.1) (g := (mkF m 49 #[.val (.ref oa), .val (.ref ob), .val (.int (0 : Int32)), .val (.int (0 : Int32)), .val (.int (0 : Int32)), .unset, .unset] [(.ref ob), (.int (0 : Int32))])) rfl rfl (hb hby d1_49)) ?_
  rw [len_of S37 N37]
  show ownEnds _ _ _ _ (T36.setTop (mkF m 50 #[.val (.ref oa), .val (.ref ob), .val (.int (0 : Int32)), .val (.int (0 : Int32)), .val (.int (0 : Int32)), .unset, .unset] [(.int (0 : Int32)), (.int (0 : Int32))]))
  refine ownEnds.law (fun t => XS.icmpYes X36.here hx rfl (pc0 := 50) (pc' := 116) rfl (hb hby d1_50) rfl (flt (Int32.lt_irrefl)).2.1 (by decide) (by decide)) ?_
  show ownEnds _ _ _ _ (T36.setTop (mkF m 116 #[.val (.ref oa), .val (.ref ob), .val (.int (0 : Int32)), .val (.int (0 : Int32)), .val (.int (0 : Int32)), .unset, .unset] []))
  refine ownEnds.law (fun t k => XS.aloadN X36.here hx rfl (hb hby d1_116) rfl rfl (XS.aloadN X36.here hx rfl (hb hby d1_117) rfl rfl k)) ?_
  show ownEnds _ _ _ _ (T36.setTop (mkF m 118 #[.val (.ref oa), .val (.ref ob), .val (.int (0 : Int32)), .val (.int (0 : Int32)), .val (.int (0 : Int32)), .unset, .unset] [(.ref ob), (.ref oa)]))
  obtain ⟨cl39, Ar39, -, S39, N39, -, -⟩ := id f38
  refine ownEnds.law (X36.arraylength hx (by rw [e36]; exact Ar39.1) (State.isArrayOf_alike hZ.alike Ar39.2.1) (g := (mkF m 118 #[.val (.ref oa), .val (.ref ob), .val (.int (0 : Int32)), .val (.int (0 : Int32)), .val (.int (0 : Int32)), .unset, .unset] [(.ref ob), (.ref oa)])) rfl rfl (hb hby d1_118)) ?_
  rw [len_of S39 N39]
  show ownEnds _ _ _ _ (T36.setTop (mkF m 119 #[.val (.ref oa), .val (.ref ob), .val (.int (0 : Int32)), .val (.int (0 : Int32)), .val (.int (0 : Int32)), .unset, .unset] [(.int (0 : Int32)), (.ref oa)]))
  refine ownEnds.law (fun t => XS.ifNo X36.here hx rfl (hb hby d1_119) rfl ((if0 _ _).trans (teq (rfl : (0 : Int32) = (0 : Int32))).2)) ?_
  show ownEnds _ _ _ _ (T36.setTop (mkF m 122 #[.val (.ref oa), .val (.ref ob), .val (.int (0 : Int32)), .val (.int (0 : Int32)), .val (.int (0 : Int32)), .unset, .unset] [(.ref oa)]))
  refine ownEnds.law (fun t k => XS.iconst X36.here hx rfl (hb hby d1_122) (XS.goto X36.here hx rfl (pc0 := 123) (pc' := 129) rfl (hb hby d1_123) (by decide) (by decide) k)) ?_
  show ownEnds _ _ _ _ (T36.setTop (mkF m 129 #[.val (.ref oa), .val (.ref ob), .val (.int (0 : Int32)), .val (.int (0 : Int32)), .val (.int (0 : Int32)), .unset, .unset] [(.int (0 : Int32)), (.ref oa)]))
  have f40 := (Exa.wr W36 f34)
  have f41 := (Fld.other W36 (Fld.ext E28 (Fld.other W25 (Fld.ext E18 (Fld.other W15 (Fld.ext E9 (Fld.other W6 (Fld.ext E2 F_oa_words) (Or.inr (slot_ne (Or.inr (wd_32 hw)) (Or.inr (wd_23 hw)) (by decide) (t := .int) (t' := (.array .int)) (by decide) (by decide))))) (Or.inr (slot_ne (Or.inr (wd_32 hw)) (Or.inr (wd_25 hw)) (by decide) (t := .int) (t' := (.array .int)) (by decide) (by decide))))) (Or.inr (slot_ne (Or.inr (wd_32 hw)) (Or.inr (wd_27 hw)) (by decide) (t := .int) (t' := (.array .int)) (by decide) (by decide))))) (Or.inr (slot_ne (Or.inr (wd_32 hw)) (Or.inr (wd_30 hw)) (by decide) (t := .int) (t' := (.array .long)) (by decide) (by decide))))
  obtain ⟨T42, h42, X42, e42, W42, st42⟩ := putF X36 hx hZ hown (host := "") (Or.inl (wd_31 hw)) Via.refl e36 f41 f40 (Or.inr ⟨(wd_32 hw), rfl, hnm⟩) (wd_5 hw) (ty := .int) (by decide) rfl rfl (g := (mkF m 129 #[.val (.ref oa), .val (.ref ob), .val (.int (0 : Int32)), .val (.int (0 : Int32)), .val (.int (0 : Int32)), .unset, .unset] [(.int (0 : Int32)), (.ref oa)])) rfl rfl (hb hby d1_129)
  refine ownEnds.law st42 ?_
  have N42 := Fr.snoc X42 N36 g_oa
  have KK42 : Keep h0 h42 [oa] := (KK36).wr W42 (Or.inl (List.mem_of_getElem? (i := 0) rfl))
  have Z42 : n0 ≤ h42.size := by rw [W42.size]; exact Z36
  have Fw42 : Fld Z h42 oa "com/example/libreach/libreach/engine/StateLayout" "words" "I" (.int (0 : Int32)) := Fld.same W42 f41
  show ownEnds _ _ _ _ (T42.setTop (mkF m 132 #[.val (.ref oa), .val (.ref ob), .val (.int (0 : Int32)), .val (.int (0 : Int32)), .val (.int (0 : Int32)), .unset, .unset] []))
  refine ownEnds.law (fun t k => XS.iconst X42.here hx rfl (hb hby d1_132) (XS.istore X42.here hx rfl (hb hby d1_133) rfl (l' := #[.val (.ref oa), .val (.ref ob), .val (.int (0 : Int32)), .val (.int (0 : Int32)), .val (.int (0 : Int32)), .unset, .unset]) rfl (XS.aloadN X42.here hx rfl (hb hby d1_135) rfl rfl k))) ?_
  show ownEnds _ _ _ _ (T42.setTop (mkF m 136 #[.val (.ref oa), .val (.ref ob), .val (.int (0 : Int32)), .val (.int (0 : Int32)), .val (.int (0 : Int32)), .unset, .unset] [(.ref ob)]))
  have f44 := (Arv.other f38 W42 (Ne.symm ne_oa_ob))
  obtain ⟨cl43, Ar43, -, S43, N43, -, -⟩ := id f44
  refine ownEnds.law (X42.arraylength hx (by rw [e42]; exact Ar43.1) (State.isArrayOf_alike hZ.alike Ar43.2.1) (g := (mkF m 136 #[.val (.ref oa), .val (.ref ob), .val (.int (0 : Int32)), .val (.int (0 : Int32)), .val (.int (0 : Int32)), .unset, .unset] [(.ref ob)])) rfl rfl (hb hby d1_136)) ?_
  rw [len_of S43 N43]
  show ownEnds _ _ _ _ (T42.setTop (mkF m 137 #[.val (.ref oa), .val (.ref ob), .val (.int (0 : Int32)), .val (.int (0 : Int32)), .val (.int (0 : Int32)), .unset, .unset] [(.int (0 : Int32))]))
  refine ownEnds.law (fun t k => XS.iconst X42.here hx rfl (hb hby d1_137) (XS.iadd X42.here hx rfl (hb hby d1_138) rfl k)) ?_
  show ownEnds _ _ _ _ (T42.setTop (mkF m 139 #[.val (.ref oa), .val (.ref ob), .val (.int (0 : Int32)), .val (.int (0 : Int32)), .val (.int (0 : Int32)), .unset, .unset] [(.int (1 : Int32))]))
  obtain ⟨T45, h45, k45, X45, e45, E45, A45, Ax45, st45⟩ := newPE X42 hx hZ (aty := .int) (wd_0 hw) e42 (g := (mkF m 139 #[.val (.ref oa), .val (.ref ob), .val (.int (0 : Int32)), .val (.int (0 : Int32)), .val (.int (0 : Int32)), .unset, .unset] [(.int (1 : Int32))])) rfl (hb hby d1_139) rfl (by decide) (cap := 1) (by decide) (by decide) (by decide) (by decide) (ad := "[I") (by decide)
  obtain ⟨b45, g45⟩ : ∃ z, z = h42.size := ⟨_, rfl⟩
  rw [← g45] at A45 st45 Ax45
  refine ownEnds.law st45 ?_
  have V_b45 : Arv Z h45 b45 k45 .int (1 : Int32) [(.int (0 : Int32))] (.int (0 : Int32)) := (Arv.new A45 (by decide)).pad (pad_rep [] (.int (0 : Int32)) 1)
  have f46 := (Exa.wr W42 f40)
  have ne_oa_b45 : oa ≠ b45 := Nat.ne_of_lt (Nat.lt_of_lt_of_eq f46.lt g45.symm)
  have f47 := (Exa.wr W42 (Exa.wr W36 (Exa.ext E28 f30)))
  have ne_ob_b45 : ob ≠ b45 := Nat.ne_of_lt (Nat.lt_of_lt_of_eq f47.lt g45.symm)
  have f48 := (Arv.other (Arv.other (Arv.ext f31 E28) W36 (Ne.symm ne_oa_b2)) W42 (Ne.symm ne_oa_b2))
  have ne_b2_b45 : b2 ≠ b45 := Nat.ne_of_lt (Nat.lt_of_lt_of_eq f48.lt g45.symm)
  have f49 := (Arv.other (Arv.other (Arv.ext f32 E28) W36 (Ne.symm ne_oa_b9)) W42 (Ne.symm ne_oa_b9))
  have ne_b9_b45 : b9 ≠ b45 := Nat.ne_of_lt (Nat.lt_of_lt_of_eq f49.lt g45.symm)
  have f50 := (Arv.other (Arv.other (Arv.ext f33 E28) W36 (Ne.symm ne_oa_b18)) W42 (Ne.symm ne_oa_b18))
  have ne_b18_b45 : b18 ≠ b45 := Nat.ne_of_lt (Nat.lt_of_lt_of_eq f50.lt g45.symm)
  have f51 := (Arv.other (Arv.other V_b28 W36 (Ne.symm ne_oa_b28)) W42 (Ne.symm ne_oa_b28))
  have ne_b28_b45 : b28 ≠ b45 := Nat.ne_of_lt (Nat.lt_of_lt_of_eq f51.lt g45.symm)
  have g_b45 : n0 ≤ b45 := Nat.le_trans Z42 (Nat.le_of_eq g45.symm)
  have sz_b45 : h0.size ≤ b45 := Nat.le_trans (KK42).1 (Nat.le_of_eq g45.symm)
  have Z45 : n0 ≤ h45.size := Nat.le_trans Z42 E45.1
  have KK45 : Keep h0 h45 [oa] := (KK42).ext E45
  show ownEnds _ _ _ _ (T45.setTop (mkF m 141 #[.val (.ref oa), .val (.ref ob), .val (.int (0 : Int32)), .val (.int (0 : Int32)), .val (.int (0 : Int32)), .unset, .unset] [(.ref b45)]))
  refine ownEnds.law (fun t k => XS.astore X45.here hx rfl (hb hby d1_141) rfl rfl (l' := #[.val (.ref oa), .val (.ref ob), .val (.int (0 : Int32)), .val (.int (0 : Int32)), .val (.int (0 : Int32)), .val (.ref b45), .unset]) rfl (XS.iconst X45.here hx rfl (hb hby d1_143) (XS.istore X45.here hx rfl (hb hby d1_144) rfl (l' := #[.val (.ref oa), .val (.ref ob), .val (.int (0 : Int32)), .val (.int (0 : Int32)), .val (.int (0 : Int32)), .val (.ref b45), .val (.int (0 : Int32))]) rfl (XS.iload X45.here hx rfl (hb hby d1_146) rfl (XS.aloadN X45.here hx rfl (hb hby d1_148) rfl rfl k))))) ?_
  show ownEnds _ _ _ _ (T45.setTop (mkF m 149 #[.val (.ref oa), .val (.ref ob), .val (.int (0 : Int32)), .val (.int (0 : Int32)), .val (.int (0 : Int32)), .val (.ref b45), .val (.int (0 : Int32))] [(.ref ob), (.int (0 : Int32))]))
  have f53 := (Arv.ext f44 E45)
  obtain ⟨cl52, Ar52, -, S52, N52, -, -⟩ := id f53
  refine ownEnds.law (X45.arraylength hx (by rw [e45]; exact Ar52.1) (State.isArrayOf_alike hZ.alike Ar52.2.1) (g := (mkF m 149 #[.val (.ref oa), .val (.ref ob), .val (.int (0 : Int32)), .val (.int (0 : Int32)), .val (.int (0 : Int32)), .val (.ref b45), .val (.int (0 : Int32))] [(.ref ob), (.int (0 : Int32))])) rfl rfl (hb hby d1_149)) ?_
  rw [len_of S52 N52]
  show ownEnds _ _ _ _ (T45.setTop (mkF m 150 #[.val (.ref oa), .val (.ref ob), .val (.int (0 : Int32)), .val (.int (0 : Int32)), .val (.int (0 : Int32)), .val (.ref b45), .val (.int (0 : Int32))] [(.int (0 : Int32)), (.int (0 : Int32))]))
  refine ownEnds.law (fun t => XS.icmpYes X45.here hx rfl (pc0 := 150) (pc' := 206) rfl (hb hby d1_150) rfl (flt (Int32.lt_irrefl)).2.1 (by decide) (by decide)) ?_
  show ownEnds _ _ _ _ (T45.setTop (mkF m 206 #[.val (.ref oa), .val (.ref ob), .val (.int (0 : Int32)), .val (.int (0 : Int32)), .val (.int (0 : Int32)), .val (.ref b45), .val (.int (0 : Int32))] []))
  refine ownEnds.law (fun t k => XS.aload X45.here hx rfl (hb hby d1_206) rfl rfl (XS.iload X45.here hx rfl (hb hby d1_208) rfl (XS.iinc X45.here hx rfl (hb hby d1_210) rfl (l' := #[.val (.ref oa), .val (.ref ob), .val (.int (0 : Int32)), .val (.int (0 : Int32)), .val (.int (1 : Int32)), .val (.ref b45), .val (.int (0 : Int32))]) rfl (XS.aloadN X45.here hx rfl (hb hby d1_213) rfl rfl k)))) ?_
  show ownEnds _ _ _ _ (T45.setTop (mkF m 214 #[.val (.ref oa), .val (.ref ob), .val (.int (0 : Int32)), .val (.int (0 : Int32)), .val (.int (1 : Int32)), .val (.ref b45), .val (.int (0 : Int32))] [(.ref ob), (.int (0 : Int32)), (.ref b45)]))
  obtain ⟨cl54, Ar54, -, S54, N54, -, -⟩ := id f53
  refine ownEnds.law (X45.arraylength hx (by rw [e45]; exact Ar54.1) (State.isArrayOf_alike hZ.alike Ar54.2.1) (g := (mkF m 214 #[.val (.ref oa), .val (.ref ob), .val (.int (0 : Int32)), .val (.int (0 : Int32)), .val (.int (1 : Int32)), .val (.ref b45), .val (.int (0 : Int32))] [(.ref ob), (.int (0 : Int32)), (.ref b45)])) rfl rfl (hb hby d1_214)) ?_
  rw [len_of S54 N54]
  show ownEnds _ _ _ _ (T45.setTop (mkF m 215 #[.val (.ref oa), .val (.ref ob), .val (.int (0 : Int32)), .val (.int (0 : Int32)), .val (.int (1 : Int32)), .val (.ref b45), .val (.int (0 : Int32))] [(.int (0 : Int32)), (.int (0 : Int32)), (.ref b45)]))
  obtain ⟨cl55, Ar55, q55, S55, N55, H55, G55⟩ := id V_b45
  obtain ⟨T55, h55, X55, e55, W55, st55⟩ := stI X45 hx hZ e45 Ar55 (j := (0 : Int32)) (inb_of S55 ⟨by decide, by decide⟩) (g := (mkF m 215 #[.val (.ref oa), .val (.ref ob), .val (.int (0 : Int32)), .val (.int (0 : Int32)), .val (.int (1 : Int32)), .val (.ref b45), .val (.int (0 : Int32))] [(.int (0 : Int32)), (.int (0 : Int32)), (.ref b45)])) rfl rfl (hb hby d1_215)
  refine ownEnds.law st55 ?_
  have V55 : Arv Z h55 b45 k45 .int (1 : Int32) [(.int (0 : Int32))] (.int (0 : Int32)) := Arv.set Ar55 q55 S55 N55 H55 G55 rfl W55 0 rfl (Nat.le_of_ble_eq_true rfl)
  have N55 := Fr.snoc X55 N42 g_b45
  have KK55 : Keep h0 h55 [oa] := (KK45).wr W55 (Or.inr sz_b45)
  have Z55 : n0 ≤ h55.size := by rw [W55.size]; exact Z45
  show ownEnds _ _ _ _ (T55.setTop (mkF m 216 #[.val (.ref oa), .val (.ref ob), .val (.int (0 : Int32)), .val (.int (0 : Int32)), .val (.int (1 : Int32)), .val (.ref b45), .val (.int (0 : Int32))] []))
  refine ownEnds.law (fun t k => XS.aloadN X55.here hx rfl (hb hby d1_216) rfl rfl (XS.aload X55.here hx rfl (hb hby d1_217) rfl rfl (XS.iload X55.here hx rfl (hb hby d1_219) rfl k))) ?_
  show ownEnds _ _ _ _ (T55.setTop (mkF m 221 #[.val (.ref oa), .val (.ref ob), .val (.int (0 : Int32)), .val (.int (0 : Int32)), .val (.int (1 : Int32)), .val (.ref b45), .val (.int (0 : Int32))] [(.int (1 : Int32)), (.ref b45), (.ref oa)]))
  have f57 := (Exa.wr W55 Ax45)
  obtain ⟨v56, T56, L56, X56, hQ56, st56⟩ := ownCallS X55 hx hZ hown (y := (⟨"java/util/Arrays", "copyOf", "([II)[I"⟩ : MethodName)) (as := [(.ref b45), (.int (1 : Int32))]) (wd_33 hw) (wd_34 hw) (wd_35 hw) (wd_36 hw) (by decide) (rm3_1_1 l Z a0 hw b45 k45 (.int (0 : Int32)) h55 n0 Z55 V55 f57) e55 1 (by decide) (by decide) (by decide) (by decide) (g := (mkF m 221 #[.val (.ref oa), .val (.ref ob), .val (.int (0 : Int32)), .val (.int (0 : Int32)), .val (.int (1 : Int32)), .val (.ref b45), .val (.int (0 : Int32))] [(.int (1 : Int32)), (.ref b45), (.ref oa)])) rfl (by rw [hml]; rfl) (rest := [(.ref oa)]) pd_1 rfl rfl (by show 2 * 0 + _ ≤ _; exact Nat.le_of_eq rfl) (hb hby d1_221)
  obtain ⟨b56, rfl, Nq56, Kq56, g_b56, zq56⟩ := hQ56
  have N56 := Fr.app N55 Nq56
  have KK56 : Keep h0 T56.heap [oa] := Keep.trans (KK55) Kq56 all0
  have Z56 : n0 ≤ T56.heap.size := Nat.le_trans Z55 Kq56.1
  refine ownEnds.law st56 ?_
  show ownEnds _ _ _ _ (T56.setTop (mkF m 224 #[.val (.ref oa), .val (.ref ob), .val (.int (0 : Int32)), .val (.int (0 : Int32)), .val (.int (1 : Int32)), .val (.ref b45), .val (.int (0 : Int32))] [(.ref b56), (.ref oa)]))
  have f58 := (Exa.keep (Exa.wr W55 (Exa.ext E45 f46)) Kq56)
  have f59 := (Fld.keep (Fld.other W55 (Fld.ext E45 (Fld.other W42 (Fld.other W36 (Fld.ext E28 (Fld.other W25 (Fld.ext E18 (Fld.other W15 (Fld.ext E9 (Fld.other W6 (Fld.ext E2 F_oa_runs) (Or.inr (slot_ne (Or.inr (wd_40 hw)) (Or.inr (wd_23 hw)) (by decide) (t := (.array .int)) (t' := (.array .int)) (by decide) (by decide))))) (Or.inr (slot_ne (Or.inr (wd_40 hw)) (Or.inr (wd_25 hw)) (by decide) (t := (.array .int)) (t' := (.array .int)) (by decide) (by decide))))) (Or.inr (slot_ne (Or.inr (wd_40 hw)) (Or.inr (wd_27 hw)) (by decide) (t := (.array .int)) (t' := (.array .int)) (by decide) (by decide))))) (Or.inr (slot_ne (Or.inr (wd_40 hw)) (Or.inr (wd_30 hw)) (by decide) (t := (.array .int)) (t' := (.array .long)) (by decide) (by decide)))) (Or.inr (slot_ne (Or.inr (wd_40 hw)) (Or.inr (wd_32 hw)) (by decide) (t := (.array .int)) (t' := .int) (by decide) (by decide))))) (Or.inl ne_oa_b45)) Kq56 nin0)
  obtain ⟨T60, h60, X60, e60, W60, st60⟩ := putF X56 hx hZ hown (host := "") (Or.inl (wd_39 hw)) Via.refl rfl f59 f58 (Or.inr ⟨(wd_40 hw), rfl, hnm⟩) (wd_5 hw) (ty := (.array .int)) (by decide) rfl rfl (g := (mkF m 224 #[.val (.ref oa), .val (.ref ob), .val (.int (0 : Int32)), .val (.int (0 : Int32)), .val (.int (1 : Int32)), .val (.ref b45), .val (.int (0 : Int32))] [(.ref b56), (.ref oa)])) rfl rfl (hb hby d1_224)
  refine ownEnds.law st60 ?_
  have N60 := Fr.snoc X60 N56 g_oa
  have KK60 : Keep h0 h60 [oa] := (KK56).wr W60 (Or.inl (List.mem_of_getElem? (i := 0) rfl))
  have Z60 : n0 ≤ h60.size := by rw [W60.size]; exact Z56
  have Fw60 : Fld Z h60 oa "com/example/libreach/libreach/engine/StateLayout" "runs" "[I" (.ref b56) := Fld.same W60 f59
  show ownEnds _ _ _ _ (T60.setTop (mkF m 227 #[.val (.ref oa), .val (.ref ob), .val (.int (0 : Int32)), .val (.int (0 : Int32)), .val (.int (1 : Int32)), .val (.ref b45), .val (.int (0 : Int32))] []))
  refine ownRetV X60 hlk hx hret (hb hby d1_227) (by decide) (by decide) ?_
  have f61 := (Exa.wr W60 f58)
  have f62 := (Fld.other W60 (Fld.keep (Fld.other W55 (Fld.ext E45 Fw42) (Or.inl ne_oa_b45)) Kq56 nin0) (Or.inr (slot_ne (Or.inr (wd_32 hw)) (Or.inr (wd_40 hw)) (by decide) (t := .int) (t' := (.array .int)) (by decide) (by decide))))
  rw [e60]
  exact ⟨rfl, N60, KK60, f61, f62⟩
set_option maxRecDepth 65536 in
set_option maxHeartbeats 40000000 in
theorem rm1_1 (l : Launch) (Z : State) (a0 : Array Value) (hw : ∀ d ∈ tables_1, d.before a0 Z = true) (oa : Addr) (ob : Addr)  (k_ob : ClassId) (h0 : Heap) (n0 : Nat) (Z0 : n0 ≤ h0.size) (E_oa : Exa Z h0 oa "com/example/libreach/libreach/engine/StateLayout") (g_oa : n0 ≤ oa) (F_oa_widths : Fld Z h0 oa "com/example/libreach/libreach/engine/StateLayout" "widths" "[I" .null) (F_oa_word : Fld Z h0 oa "com/example/libreach/libreach/engine/StateLayout" "word" "[I" .null) (F_oa_shift : Fld Z h0 oa "com/example/libreach/libreach/engine/StateLayout" "shift" "[I" .null) (F_oa_largest : Fld Z h0 oa "com/example/libreach/libreach/engine/StateLayout" "largest" "[J" .null) (F_oa_words : Fld Z h0 oa "com/example/libreach/libreach/engine/StateLayout" "words" "I" (.int (0 : Int32))) (F_oa_runs : Fld Z h0 oa "com/example/libreach/libreach/engine/StateLayout" "runs" "[I" .null) (E_ob : Exa Z h0 ob "[I") (V_ob : Arv Z h0 ob k_ob .int (2 : Int32) [(.int (32 : Int32)), (.int (32 : Int32))] (.int (0 : Int32))) :
    ownMet l Z (⟨"com/example/libreach/libreach/engine/StateLayout", "<init>", "([I)V"⟩ : MethodName) prog_17_method_1_code 7 none [] ({ frames := 2, cells := 6, slots := 16, locals := 60 } : Room) #[(.ref oa), (.ref ob)] h0 (fun v h L => v = none ∧ Fr n0 L ∧ Keep h0 h [oa] ∧ Exa Z h oa "com/example/libreach/libreach/engine/StateLayout" ∧ Fld Z h oa "com/example/libreach/libreach/engine/StateLayout" "words" "I" (.int (1 : Int32))) := by
  refine ownMet.of (plainFor_of_name pn_1) ?_
  intro p e s m below meth c T0 hx hby hml hZ hown hnm hret hlk X0 e0
  refine ownEnds.cast (ef_rm1_1 m oa ob) ?_
  have ne_oa_ob : oa ≠ ob := ne_exa E_oa E_ob (by decide)
  show ownEnds _ _ _ _ (T0.setTop (mkF m 0 #[.val (.ref oa), .val (.ref ob), .unset, .unset, .unset, .unset, .unset] []))
  refine ownEnds.law (fun t k => XS.aloadN X0.here hx rfl (hb hby d1_0) rfl rfl k) ?_
  show ownEnds _ _ _ _ (T0.setTop (mkF m 1 #[.val (.ref oa), .val (.ref ob), .unset, .unset, .unset, .unset, .unset] [(.ref oa)]))
  obtain ⟨T1, X1, e1, st1⟩ := initO X0 hx hZ hown (wd_10 hw) (wd_11 hw) (wd_12 hw) e0 (g := (mkF m 1 #[.val (.ref oa), .val (.ref ob), .unset, .unset, .unset, .unset, .unset] [(.ref oa)])) rfl (by rw [hml]; rfl) rfl (hb hby d1_1) (by decide) (W := 0) (by show 2 * 0 + _ ≤ _; exact Nat.le_of_eq rfl) (by decide)
  refine ownEnds.law st1 ?_
  show ownEnds _ _ _ _ (T1.setTop (mkF m 4 #[.val (.ref oa), .val (.ref ob), .unset, .unset, .unset, .unset, .unset] []))
  refine ownEnds.law (fun t k => XS.aloadN X1.here hx rfl (hb hby d1_4) rfl rfl (XS.aloadN X1.here hx rfl (hb hby d1_5) rfl rfl k)) ?_
  show ownEnds _ _ _ _ (T1.setTop (mkF m 6 #[.val (.ref oa), .val (.ref ob), .unset, .unset, .unset, .unset, .unset] [(.ref ob), (.ref oa)]))
  obtain ⟨T2, h2, X2, e2, E2, Vh2, A2, st2⟩ := cloneH X1 hx hZ hown (wd_13 hw) (wd_14 hw) (wd_18 hw) (wd_16 hw) (wd_17 hw) (wd_19 hw) e1 (hs := []) V_ob E_ob (g := (mkF m 6 #[.val (.ref oa), .val (.ref ob), .unset, .unset, .unset, .unset, .unset] [(.ref ob), (.ref oa)])) rfl (by rw [hml]; rfl) rfl (hb hby d1_6) (by decide) (W := 1) (cap := 2) (by show 2 * 0 + _ ≤ _; exact Nat.le_of_eq rfl) (by decide) (by decide) (by decide) (by decide)
  obtain ⟨b2, g2⟩ : ∃ z, z = h0.size := ⟨_, rfl⟩
  rw [← g2] at Vh2 A2 st2
  refine ownEnds.law st2 ?_
  have V_b2 : Arv Z h2 b2 k_ob .int (2 : Int32) [(.int (32 : Int32)), (.int (32 : Int32))] (.int (0 : Int32)) := Vh2
  have ne_oa_b2 : oa ≠ b2 := Nat.ne_of_lt (Nat.lt_of_lt_of_eq E_oa.lt g2.symm)
  have ne_ob_b2 : ob ≠ b2 := Nat.ne_of_lt (Nat.lt_of_lt_of_eq E_ob.lt g2.symm)
  have g_b2 : n0 ≤ b2 := Nat.le_trans Z0 (Nat.le_of_eq g2.symm)
  have sz_b2 : h0.size ≤ b2 := Nat.le_trans (Keep.refl h0 [oa]).1 (Nat.le_of_eq g2.symm)
  have Z2 : n0 ≤ h2.size := Nat.le_trans Z0 E2.1
  have KK2 : Keep h0 h2 [oa] := (Keep.refl h0 [oa]).ext E2
  show ownEnds _ _ _ _ (T2.setTop (mkF m 9 #[.val (.ref oa), .val (.ref ob), .unset, .unset, .unset, .unset, .unset] [(.ref b2), (.ref oa)]))
  obtain ⟨T3, X3, e3, st3⟩ := castY X2 hx hZ hown (wd_20 hw) e2 (Ins.self A2) (g := (mkF m 9 #[.val (.ref oa), .val (.ref ob), .unset, .unset, .unset, .unset, .unset] [(.ref b2), (.ref oa)])) rfl rfl (hb hby d1_9)
  refine ownEnds.law st3 ?_
  show ownEnds _ _ _ _ (T3.setTop (mkF m 12 #[.val (.ref oa), .val (.ref ob), .unset, .unset, .unset, .unset, .unset] [(.ref b2), (.ref oa)]))
  have f4 := (Exa.ext E2 E_oa)
  have f5 := (Fld.ext E2 F_oa_widths)
  obtain ⟨T6, h6, X6, e6, W6, st6⟩ := putF X3 hx hZ hown (host := "") (Or.inl (wd_22 hw)) Via.refl e3 f5 f4 (Or.inr ⟨(wd_23 hw), rfl, hnm⟩) (wd_5 hw) (ty := (.array .int)) (by decide) rfl rfl (g := (mkF m 12 #[.val (.ref oa), .val (.ref ob), .unset, .unset, .unset, .unset, .unset] [(.ref b2), (.ref oa)])) rfl rfl (hb hby d1_12)
  refine ownEnds.law st6 ?_
  have N6 := Fr.snoc X6 (Fr.nil n0) g_oa
  have KK6 : Keep h0 h6 [oa] := (KK2).wr W6 (Or.inl (List.mem_of_getElem? (i := 0) rfl))
  have Z6 : n0 ≤ h6.size := by rw [W6.size]; exact Z2
  have Fw6 : Fld Z h6 oa "com/example/libreach/libreach/engine/StateLayout" "widths" "[I" (.ref b2) := Fld.same W6 f5
  show ownEnds _ _ _ _ (T6.setTop (mkF m 15 #[.val (.ref oa), .val (.ref ob), .unset, .unset, .unset, .unset, .unset] []))
  refine ownEnds.law (fun t k => XS.aloadN X6.here hx rfl (hb hby d1_15) rfl rfl (XS.aloadN X6.here hx rfl (hb hby d1_16) rfl rfl k)) ?_
  show ownEnds _ _ _ _ (T6.setTop (mkF m 17 #[.val (.ref oa), .val (.ref ob), .unset, .unset, .unset, .unset, .unset] [(.ref ob), (.ref oa)]))
  have f8 := (Arv.other (Arv.ext V_ob E2) W6 (Ne.symm ne_oa_ob))
  obtain ⟨cl7, Ar7, -, S7, N7, -, -⟩ := id f8
  refine ownEnds.law (X6.arraylength hx (by rw [e6]; exact Ar7.1) (State.isArrayOf_alike hZ.alike Ar7.2.1) (g := (mkF m 17 #[.val (.ref oa), .val (.ref ob), .unset, .unset, .unset, .unset, .unset] [(.ref ob), (.ref oa)])) rfl rfl (hb hby d1_17)) ?_
  rw [len_of S7 N7]
  show ownEnds _ _ _ _ (T6.setTop (mkF m 18 #[.val (.ref oa), .val (.ref ob), .unset, .unset, .unset, .unset, .unset] [(.int (2 : Int32)), (.ref oa)]))
  obtain ⟨T9, h9, k9, X9, e9, E9, A9, Ax9, st9⟩ := newPE X6 hx hZ (aty := .int) (wd_0 hw) e6 (g := (mkF m 18 #[.val (.ref oa), .val (.ref ob), .unset, .unset, .unset, .unset, .unset] [(.int (2 : Int32)), (.ref oa)])) rfl (hb hby d1_18) rfl (by decide) (cap := 2) (by decide) (by decide) (by decide) (by decide) (ad := "[I") (by decide)
  obtain ⟨b9, g9⟩ : ∃ z, z = h6.size := ⟨_, rfl⟩
  rw [← g9] at A9 st9 Ax9
  refine ownEnds.law st9 ?_
  have V_b9 : Arv Z h9 b9 k9 .int (2 : Int32) [(.int (0 : Int32)), (.int (0 : Int32))] (.int (0 : Int32)) := (Arv.new A9 (by decide)).pad (pad_rep [] (.int (0 : Int32)) 2)
  have f10 := (Exa.wr W6 f4)
  have ne_oa_b9 : oa ≠ b9 := Nat.ne_of_lt (Nat.lt_of_lt_of_eq f10.lt g9.symm)
  have f11 := (Exa.wr W6 (Exa.ext E2 E_ob))
  have ne_ob_b9 : ob ≠ b9 := Nat.ne_of_lt (Nat.lt_of_lt_of_eq f11.lt g9.symm)
  have f12 := (Arv.other V_b2 W6 (Ne.symm ne_oa_b2))
  have ne_b2_b9 : b2 ≠ b9 := Nat.ne_of_lt (Nat.lt_of_lt_of_eq f12.lt g9.symm)
  have g_b9 : n0 ≤ b9 := Nat.le_trans Z6 (Nat.le_of_eq g9.symm)
  have sz_b9 : h0.size ≤ b9 := Nat.le_trans (KK6).1 (Nat.le_of_eq g9.symm)
  have Z9 : n0 ≤ h9.size := Nat.le_trans Z6 E9.1
  have KK9 : Keep h0 h9 [oa] := (KK6).ext E9
  show ownEnds _ _ _ _ (T9.setTop (mkF m 20 #[.val (.ref oa), .val (.ref ob), .unset, .unset, .unset, .unset, .unset] [(.ref b9), (.ref oa)]))
  have f13 := (Exa.ext E9 f10)
  have f14 := (Fld.ext E9 (Fld.other W6 (Fld.ext E2 F_oa_word) (Or.inr (slot_ne (Or.inr (wd_25 hw)) (Or.inr (wd_23 hw)) (by decide) (t := (.array .int)) (t' := (.array .int)) (by decide) (by decide)))))
  obtain ⟨T15, h15, X15, e15, W15, st15⟩ := putF X9 hx hZ hown (host := "") (Or.inl (wd_24 hw)) Via.refl e9 f14 f13 (Or.inr ⟨(wd_25 hw), rfl, hnm⟩) (wd_5 hw) (ty := (.array .int)) (by decide) rfl rfl (g := (mkF m 20 #[.val (.ref oa), .val (.ref ob), .unset, .unset, .unset, .unset, .unset] [(.ref b9), (.ref oa)])) rfl rfl (hb hby d1_20)
  refine ownEnds.law st15 ?_
  have N15 := Fr.snoc X15 N6 g_oa
  have KK15 : Keep h0 h15 [oa] := (KK9).wr W15 (Or.inl (List.mem_of_getElem? (i := 0) rfl))
  have Z15 : n0 ≤ h15.size := by rw [W15.size]; exact Z9
  have Fw15 : Fld Z h15 oa "com/example/libreach/libreach/engine/StateLayout" "word" "[I" (.ref b9) := Fld.same W15 f14
  show ownEnds _ _ _ _ (T15.setTop (mkF m 23 #[.val (.ref oa), .val (.ref ob), .unset, .unset, .unset, .unset, .unset] []))
  refine ownEnds.law (fun t k => XS.aloadN X15.here hx rfl (hb hby d1_23) rfl rfl (XS.aloadN X15.here hx rfl (hb hby d1_24) rfl rfl k)) ?_
  show ownEnds _ _ _ _ (T15.setTop (mkF m 25 #[.val (.ref oa), .val (.ref ob), .unset, .unset, .unset, .unset, .unset] [(.ref ob), (.ref oa)]))
  have f17 := (Arv.other (Arv.ext f8 E9) W15 (Ne.symm ne_oa_ob))
  obtain ⟨cl16, Ar16, -, S16, N16, -, -⟩ := id f17
  refine ownEnds.law (X15.arraylength hx (by rw [e15]; exact Ar16.1) (State.isArrayOf_alike hZ.alike Ar16.2.1) (g := (mkF m 25 #[.val (.ref oa), .val (.ref ob), .unset, .unset, .unset, .unset, .unset] [(.ref ob), (.ref oa)])) rfl rfl (hb hby d1_25)) ?_
  rw [len_of S16 N16]
  show ownEnds _ _ _ _ (T15.setTop (mkF m 26 #[.val (.ref oa), .val (.ref ob), .unset, .unset, .unset, .unset, .unset] [(.int (2 : Int32)), (.ref oa)]))
  obtain ⟨T18, h18, k18, X18, e18, E18, A18, Ax18, st18⟩ := newPE X15 hx hZ (aty := .int) (wd_0 hw) e15 (g := (mkF m 26 #[.val (.ref oa), .val (.ref ob), .unset, .unset, .unset, .unset, .unset] [(.int (2 : Int32)), (.ref oa)])) rfl (hb hby d1_26) rfl (by decide) (cap := 2) (by decide) (by decide) (by decide) (by decide) (ad := "[I") (by decide)
  obtain ⟨b18, g18⟩ : ∃ z, z = h15.size := ⟨_, rfl⟩
  rw [← g18] at A18 st18 Ax18
  refine ownEnds.law st18 ?_
  have V_b18 : Arv Z h18 b18 k18 .int (2 : Int32) [(.int (0 : Int32)), (.int (0 : Int32))] (.int (0 : Int32)) := (Arv.new A18 (by decide)).pad (pad_rep [] (.int (0 : Int32)) 2)
  have f19 := (Exa.wr W15 f13)
  have ne_oa_b18 : oa ≠ b18 := Nat.ne_of_lt (Nat.lt_of_lt_of_eq f19.lt g18.symm)
  have f20 := (Exa.wr W15 (Exa.ext E9 f11))
  have ne_ob_b18 : ob ≠ b18 := Nat.ne_of_lt (Nat.lt_of_lt_of_eq f20.lt g18.symm)
  have f21 := (Arv.other (Arv.ext f12 E9) W15 (Ne.symm ne_oa_b2))
  have ne_b2_b18 : b2 ≠ b18 := Nat.ne_of_lt (Nat.lt_of_lt_of_eq f21.lt g18.symm)
  have f22 := (Arv.other V_b9 W15 (Ne.symm ne_oa_b9))
  have ne_b9_b18 : b9 ≠ b18 := Nat.ne_of_lt (Nat.lt_of_lt_of_eq f22.lt g18.symm)
  have g_b18 : n0 ≤ b18 := Nat.le_trans Z15 (Nat.le_of_eq g18.symm)
  have sz_b18 : h0.size ≤ b18 := Nat.le_trans (KK15).1 (Nat.le_of_eq g18.symm)
  have Z18 : n0 ≤ h18.size := Nat.le_trans Z15 E18.1
  have KK18 : Keep h0 h18 [oa] := (KK15).ext E18
  show ownEnds _ _ _ _ (T18.setTop (mkF m 28 #[.val (.ref oa), .val (.ref ob), .unset, .unset, .unset, .unset, .unset] [(.ref b18), (.ref oa)]))
  have f23 := (Exa.ext E18 f19)
  have f24 := (Fld.ext E18 (Fld.other W15 (Fld.ext E9 (Fld.other W6 (Fld.ext E2 F_oa_shift) (Or.inr (slot_ne (Or.inr (wd_27 hw)) (Or.inr (wd_23 hw)) (by decide) (t := (.array .int)) (t' := (.array .int)) (by decide) (by decide))))) (Or.inr (slot_ne (Or.inr (wd_27 hw)) (Or.inr (wd_25 hw)) (by decide) (t := (.array .int)) (t' := (.array .int)) (by decide) (by decide)))))
  obtain ⟨T25, h25, X25, e25, W25, st25⟩ := putF X18 hx hZ hown (host := "") (Or.inl (wd_26 hw)) Via.refl e18 f24 f23 (Or.inr ⟨(wd_27 hw), rfl, hnm⟩) (wd_5 hw) (ty := (.array .int)) (by decide) rfl rfl (g := (mkF m 28 #[.val (.ref oa), .val (.ref ob), .unset, .unset, .unset, .unset, .unset] [(.ref b18), (.ref oa)])) rfl rfl (hb hby d1_28)
  refine ownEnds.law st25 ?_
  have N25 := Fr.snoc X25 N15 g_oa
  have KK25 : Keep h0 h25 [oa] := (KK18).wr W25 (Or.inl (List.mem_of_getElem? (i := 0) rfl))
  have Z25 : n0 ≤ h25.size := by rw [W25.size]; exact Z18
  have Fw25 : Fld Z h25 oa "com/example/libreach/libreach/engine/StateLayout" "shift" "[I" (.ref b18) := Fld.same W25 f24
  show ownEnds _ _ _ _ (T25.setTop (mkF m 31 #[.val (.ref oa), .val (.ref ob), .unset, .unset, .unset, .unset, .unset] []))
  refine ownEnds.law (fun t k => XS.aloadN X25.here hx rfl (hb hby d1_31) rfl rfl (XS.aloadN X25.here hx rfl (hb hby d1_32) rfl rfl k)) ?_
  show ownEnds _ _ _ _ (T25.setTop (mkF m 33 #[.val (.ref oa), .val (.ref ob), .unset, .unset, .unset, .unset, .unset] [(.ref ob), (.ref oa)]))
  have f27 := (Arv.other (Arv.ext f17 E18) W25 (Ne.symm ne_oa_ob))
  obtain ⟨cl26, Ar26, -, S26, N26, -, -⟩ := id f27
  refine ownEnds.law (X25.arraylength hx (by rw [e25]; exact Ar26.1) (State.isArrayOf_alike hZ.alike Ar26.2.1) (g := (mkF m 33 #[.val (.ref oa), .val (.ref ob), .unset, .unset, .unset, .unset, .unset] [(.ref ob), (.ref oa)])) rfl rfl (hb hby d1_33)) ?_
  rw [len_of S26 N26]
  show ownEnds _ _ _ _ (T25.setTop (mkF m 34 #[.val (.ref oa), .val (.ref ob), .unset, .unset, .unset, .unset, .unset] [(.int (2 : Int32)), (.ref oa)]))
  obtain ⟨T28, h28, k28, X28, e28, E28, A28, st28⟩ := newP X25 hx hZ (aty := .long) (wd_28 hw) e25 (g := (mkF m 34 #[.val (.ref oa), .val (.ref ob), .unset, .unset, .unset, .unset, .unset] [(.int (2 : Int32)), (.ref oa)])) rfl (hb hby d1_34) rfl (by decide) (cap := 2) (by decide) (by decide) (by decide) (by decide)
  obtain ⟨b28, g28⟩ : ∃ z, z = h25.size := ⟨_, rfl⟩
  rw [← g28] at A28 st28
  refine ownEnds.law st28 ?_
  have V_b28 : Arv Z h28 b28 k28 .long (2 : Int32) [(.long (0 : Int64)), (.long (0 : Int64))] (.long (0 : Int64)) := (Arv.new A28 (by decide)).pad (pad_rep [] (.long (0 : Int64)) 2)
  have f29 := (Exa.wr W25 f23)
  have ne_oa_b28 : oa ≠ b28 := Nat.ne_of_lt (Nat.lt_of_lt_of_eq f29.lt g28.symm)
  have f30 := (Exa.wr W25 (Exa.ext E18 f20))
  have ne_ob_b28 : ob ≠ b28 := Nat.ne_of_lt (Nat.lt_of_lt_of_eq f30.lt g28.symm)
  have f31 := (Arv.other (Arv.ext f21 E18) W25 (Ne.symm ne_oa_b2))
  have ne_b2_b28 : b2 ≠ b28 := Nat.ne_of_lt (Nat.lt_of_lt_of_eq f31.lt g28.symm)
  have f32 := (Arv.other (Arv.ext f22 E18) W25 (Ne.symm ne_oa_b9))
  have ne_b9_b28 : b9 ≠ b28 := Nat.ne_of_lt (Nat.lt_of_lt_of_eq f32.lt g28.symm)
  have f33 := (Arv.other V_b18 W25 (Ne.symm ne_oa_b18))
  have ne_b18_b28 : b18 ≠ b28 := Nat.ne_of_lt (Nat.lt_of_lt_of_eq f33.lt g28.symm)
  have g_b28 : n0 ≤ b28 := Nat.le_trans Z25 (Nat.le_of_eq g28.symm)
  have sz_b28 : h0.size ≤ b28 := Nat.le_trans (KK25).1 (Nat.le_of_eq g28.symm)
  have Z28 : n0 ≤ h28.size := Nat.le_trans Z25 E28.1
  have KK28 : Keep h0 h28 [oa] := (KK25).ext E28
  show ownEnds _ _ _ _ (T28.setTop (mkF m 36 #[.val (.ref oa), .val (.ref ob), .unset, .unset, .unset, .unset, .unset] [(.ref b28), (.ref oa)]))
  have f34 := (Exa.ext E28 f29)
  have f35 := (Fld.ext E28 (Fld.other W25 (Fld.ext E18 (Fld.other W15 (Fld.ext E9 (Fld.other W6 (Fld.ext E2 F_oa_largest) (Or.inr (slot_ne (Or.inr (wd_30 hw)) (Or.inr (wd_23 hw)) (by decide) (t := (.array .long)) (t' := (.array .int)) (by decide) (by decide))))) (Or.inr (slot_ne (Or.inr (wd_30 hw)) (Or.inr (wd_25 hw)) (by decide) (t := (.array .long)) (t' := (.array .int)) (by decide) (by decide))))) (Or.inr (slot_ne (Or.inr (wd_30 hw)) (Or.inr (wd_27 hw)) (by decide) (t := (.array .long)) (t' := (.array .int)) (by decide) (by decide)))))
  obtain ⟨T36, h36, X36, e36, W36, st36⟩ := putF X28 hx hZ hown (host := "") (Or.inl (wd_29 hw)) Via.refl e28 f35 f34 (Or.inr ⟨(wd_30 hw), rfl, hnm⟩) (wd_5 hw) (ty := (.array .long)) (by decide) rfl rfl (g := (mkF m 36 #[.val (.ref oa), .val (.ref ob), .unset, .unset, .unset, .unset, .unset] [(.ref b28), (.ref oa)])) rfl rfl (hb hby d1_36)
  refine ownEnds.law st36 ?_
  have N36 := Fr.snoc X36 N25 g_oa
  have KK36 : Keep h0 h36 [oa] := (KK28).wr W36 (Or.inl (List.mem_of_getElem? (i := 0) rfl))
  have Z36 : n0 ≤ h36.size := by rw [W36.size]; exact Z28
  have Fw36 : Fld Z h36 oa "com/example/libreach/libreach/engine/StateLayout" "largest" "[J" (.ref b28) := Fld.same W36 f35
  show ownEnds _ _ _ _ (T36.setTop (mkF m 39 #[.val (.ref oa), .val (.ref ob), .unset, .unset, .unset, .unset, .unset] []))
  refine ownEnds.law (fun t k => XS.iconst X36.here hx rfl (hb hby d1_39) (XS.istoreN X36.here hx rfl (hb hby d1_40) rfl (l' := #[.val (.ref oa), .val (.ref ob), .val (.int (0 : Int32)), .unset, .unset, .unset, .unset]) rfl (XS.iconst X36.here hx rfl (hb hby d1_41) (XS.istoreN X36.here hx rfl (hb hby d1_42) rfl (l' := #[.val (.ref oa), .val (.ref ob), .val (.int (0 : Int32)), .val (.int (0 : Int32)), .unset, .unset, .unset]) rfl (XS.iconst X36.here hx rfl (hb hby d1_43) (XS.istore X36.here hx rfl (hb hby d1_44) rfl (l' := #[.val (.ref oa), .val (.ref ob), .val (.int (0 : Int32)), .val (.int (0 : Int32)), .val (.int (0 : Int32)), .unset, .unset]) rfl (XS.iload X36.here hx rfl (hb hby d1_46) rfl (XS.aloadN X36.here hx rfl (hb hby d1_48) rfl rfl k)))))))) ?_
  show ownEnds _ _ _ _ (T36.setTop (mkF m 49 #[.val (.ref oa), .val (.ref ob), .val (.int (0 : Int32)), .val (.int (0 : Int32)), .val (.int (0 : Int32)), .unset, .unset] [(.ref ob), (.int (0 : Int32))]))
  have f38 := (Arv.other (Arv.ext f27 E28) W36 (Ne.symm ne_oa_ob))
  obtain ⟨cl37, Ar37, -, S37, N37, -, -⟩ := id f38
  refine ownEnds.law (X36.arraylength hx (by rw [e36]; exact Ar37.1) (State.isArrayOf_alike hZ.alike Ar37.2.1) (g := (mkF m 49 #[.val (.ref oa), .val (.ref ob), .val (.int (0 : Int32)), .val (.int (0 : Int32)), .val (.int (0 : Int32)), .unset, .unset] [(.ref ob), (.int (0 : Int32))])) rfl rfl (hb hby d1_49)) ?_
  rw [len_of S37 N37]
  show ownEnds _ _ _ _ (T36.setTop (mkF m 50 #[.val (.ref oa), .val (.ref ob), .val (.int (0 : Int32)), .val (.int (0 : Int32)), .val (.int (0 : Int32)), .unset, .unset] [(.int (2 : Int32)), (.int (0 : Int32))]))
  refine ownEnds.law (fun t => XS.icmpNo X36.here hx rfl (hb hby d1_50) rfl (tlt (by decide : (0 : Int32) < (2 : Int32))).2.1) ?_
  show ownEnds _ _ _ _ (T36.setTop (mkF m 53 #[.val (.ref oa), .val (.ref ob), .val (.int (0 : Int32)), .val (.int (0 : Int32)), .val (.int (0 : Int32)), .unset, .unset] []))
  refine ownEnds.law (fun t k => XS.iloadN X36.here hx rfl (hb hby d1_53) rfl (XS.aloadN X36.here hx rfl (hb hby d1_54) rfl rfl (XS.iload X36.here hx rfl (hb hby d1_55) rfl k))) ?_
  show ownEnds _ _ _ _ (T36.setTop (mkF m 57 #[.val (.ref oa), .val (.ref ob), .val (.int (0 : Int32)), .val (.int (0 : Int32)), .val (.int (0 : Int32)), .unset, .unset] [(.int (0 : Int32)), (.ref ob), (.int (0 : Int32))]))
  obtain ⟨cl39, Ar39, q39, S39, N39, H39, G39⟩ := id f38
  have hi39 := inb_of (j := (0 : Int32)) S39 ⟨by decide, by decide⟩
  have hv39 : cl39.slots[((0 : Int32)).toNatClampNeg]? = some (.int (32 : Int32)) := H39.at hi39 rfl
  refine ownEnds.law (fun t k => X36.iaload hx (j := (0 : Int32)) (v := (.int (32 : Int32))) (by rw [e36]; exact Ar39.1) (State.isArrayOf_alike hZ.alike Ar39.2.1) Ar39.2.2 hi39 hv39 (g := (mkF m 57 #[.val (.ref oa), .val (.ref ob), .val (.int (0 : Int32)), .val (.int (0 : Int32)), .val (.int (0 : Int32)), .unset, .unset] [(.int (0 : Int32)), (.ref ob), (.int (0 : Int32))])) rfl rfl (hb hby d1_57) _ (XS.iadd X36.here hx rfl (hb hby d1_58) rfl (XS.bipush X36.here hx rfl (hb hby d1_59) k))) ?_
  show ownEnds _ _ _ _ (T36.setTop (mkF m 61 #[.val (.ref oa), .val (.ref ob), .val (.int (0 : Int32)), .val (.int (0 : Int32)), .val (.int (0 : Int32)), .unset, .unset] [(.int (64 : Int32)), (.int (32 : Int32))]))
  refine ownEnds.law (fun t => XS.icmpYes X36.here hx rfl (pc0 := 61) (pc' := 69) rfl (hb hby d1_61) rfl (flt (by decide : ¬ ((64 : Int32) < (32 : Int32)))).2.2.2 (by decide) (by decide)) ?_
  show ownEnds _ _ _ _ (T36.setTop (mkF m 69 #[.val (.ref oa), .val (.ref ob), .val (.int (0 : Int32)), .val (.int (0 : Int32)), .val (.int (0 : Int32)), .unset, .unset] []))
  refine ownEnds.law (fun t k => XS.aloadN X36.here hx rfl (hb hby d1_69) rfl rfl k) ?_
  show ownEnds _ _ _ _ (T36.setTop (mkF m 70 #[.val (.ref oa), .val (.ref ob), .val (.int (0 : Int32)), .val (.int (0 : Int32)), .val (.int (0 : Int32)), .unset, .unset] [(.ref oa)]))
  have f40 := (Fld.other W36 (Fld.ext E28 (Fld.other W25 (Fld.ext E18 Fw15) (Or.inr (slot_ne (Or.inr (wd_25 hw)) (Or.inr (wd_27 hw)) (by decide) (t := (.array .int)) (t' := (.array .int)) (by decide) (by decide))))) (Or.inr (slot_ne (Or.inr (wd_25 hw)) (Or.inr (wd_30 hw)) (by decide) (t := (.array .int)) (t' := (.array .long)) (by decide) (by decide))))
  obtain ⟨T41, X41, e41, st41⟩ := getF X36 hx hZ hown (host := "") (Or.inl (wd_24 hw)) Via.refl e36 f40 (g := (mkF m 70 #[.val (.ref oa), .val (.ref ob), .val (.int (0 : Int32)), .val (.int (0 : Int32)), .val (.int (0 : Int32)), .unset, .unset] [(.ref oa)])) rfl rfl (hb hby d1_70)
  refine ownEnds.law st41 ?_
  show ownEnds _ _ _ _ (T41.setTop (mkF m 73 #[.val (.ref oa), .val (.ref ob), .val (.int (0 : Int32)), .val (.int (0 : Int32)), .val (.int (0 : Int32)), .unset, .unset] [(.ref b9)]))
  refine ownEnds.law (fun t k => XS.iload X41.here hx rfl (hb hby d1_73) rfl (XS.iloadN X41.here hx rfl (hb hby d1_75) rfl k)) ?_
  show ownEnds _ _ _ _ (T41.setTop (mkF m 76 #[.val (.ref oa), .val (.ref ob), .val (.int (0 : Int32)), .val (.int (0 : Int32)), .val (.int (0 : Int32)), .unset, .unset] [(.int (0 : Int32)), (.int (0 : Int32)), (.ref b9)]))
  have f43 := (Arv.other (Arv.ext f32 E28) W36 (Ne.symm ne_oa_b9))
  obtain ⟨cl42, Ar42, q42, S42, N42, H42, G42⟩ := id f43
  obtain ⟨T42, h42, X42, e42, W42, st42⟩ := stI X41 hx hZ e41 Ar42 (j := (0 : Int32)) (inb_of S42 ⟨by decide, by decide⟩) (g := (mkF m 76 #[.val (.ref oa), .val (.ref ob), .val (.int (0 : Int32)), .val (.int (0 : Int32)), .val (.int (0 : Int32)), .unset, .unset] [(.int (0 : Int32)), (.int (0 : Int32)), (.ref b9)])) rfl rfl (hb hby d1_76)
  refine ownEnds.law st42 ?_
  have V42 : Arv Z h42 b9 k9 .int (2 : Int32) [(.int (0 : Int32)), (.int (0 : Int32))] (.int (0 : Int32)) := Arv.set Ar42 q42 S42 N42 H42 G42 rfl W42 0 rfl (Nat.le_of_ble_eq_true rfl)
  have N42 := Fr.snoc X42 N36 g_b9
  have KK42 : Keep h0 h42 [oa] := (KK36).wr W42 (Or.inr sz_b9)
  have Z42 : n0 ≤ h42.size := by rw [W42.size]; exact Z36
  show ownEnds _ _ _ _ (T42.setTop (mkF m 77 #[.val (.ref oa), .val (.ref ob), .val (.int (0 : Int32)), .val (.int (0 : Int32)), .val (.int (0 : Int32)), .unset, .unset] []))
  refine ownEnds.law (fun t k => XS.aloadN X42.here hx rfl (hb hby d1_77) rfl rfl k) ?_
  show ownEnds _ _ _ _ (T42.setTop (mkF m 78 #[.val (.ref oa), .val (.ref ob), .val (.int (0 : Int32)), .val (.int (0 : Int32)), .val (.int (0 : Int32)), .unset, .unset] [(.ref oa)]))
  have f44 := (Fld.other W42 (Fld.other W36 (Fld.ext E28 Fw25) (Or.inr (slot_ne (Or.inr (wd_27 hw)) (Or.inr (wd_30 hw)) (by decide) (t := (.array .int)) (t' := (.array .long)) (by decide) (by decide)))) (Or.inl ne_oa_b9))
  obtain ⟨T45, X45, e45, st45⟩ := getF X42 hx hZ hown (host := "") (Or.inl (wd_26 hw)) Via.refl e42 f44 (g := (mkF m 78 #[.val (.ref oa), .val (.ref ob), .val (.int (0 : Int32)), .val (.int (0 : Int32)), .val (.int (0 : Int32)), .unset, .unset] [(.ref oa)])) rfl rfl (hb hby d1_78)
  refine ownEnds.law st45 ?_
  show ownEnds _ _ _ _ (T45.setTop (mkF m 81 #[.val (.ref oa), .val (.ref ob), .val (.int (0 : Int32)), .val (.int (0 : Int32)), .val (.int (0 : Int32)), .unset, .unset] [(.ref b18)]))
  refine ownEnds.law (fun t k => XS.iload X45.here hx rfl (hb hby d1_81) rfl (XS.iloadN X45.here hx rfl (hb hby d1_83) rfl k)) ?_
  show ownEnds _ _ _ _ (T45.setTop (mkF m 84 #[.val (.ref oa), .val (.ref ob), .val (.int (0 : Int32)), .val (.int (0 : Int32)), .val (.int (0 : Int32)), .unset, .unset] [(.int (0 : Int32)), (.int (0 : Int32)), (.ref b18)]))
  have f47 := (Arv.other (Arv.other (Arv.ext f33 E28) W36 (Ne.symm ne_oa_b18)) W42 (Ne.symm ne_b9_b18))
  obtain ⟨cl46, Ar46, q46, S46, N46, H46, G46⟩ := id f47
  obtain ⟨T46, h46, X46, e46, W46, st46⟩ := stI X45 hx hZ e45 Ar46 (j := (0 : Int32)) (inb_of S46 ⟨by decide, by decide⟩) (g := (mkF m 84 #[.val (.ref oa), .val (.ref ob), .val (.int (0 : Int32)), .val (.int (0 : Int32)), .val (.int (0 : Int32)), .unset, .unset] [(.int (0 : Int32)), (.int (0 : Int32)), (.ref b18)])) rfl rfl (hb hby d1_84)
  refine ownEnds.law st46 ?_
  have V46 : Arv Z h46 b18 k18 .int (2 : Int32) [(.int (0 : Int32)), (.int (0 : Int32))] (.int (0 : Int32)) := Arv.set Ar46 q46 S46 N46 H46 G46 rfl W46 0 rfl (Nat.le_of_ble_eq_true rfl)
  have N46 := Fr.snoc X46 N42 g_b18
  have KK46 : Keep h0 h46 [oa] := (KK42).wr W46 (Or.inr sz_b18)
  have Z46 : n0 ≤ h46.size := by rw [W46.size]; exact Z42
  show ownEnds _ _ _ _ (T46.setTop (mkF m 85 #[.val (.ref oa), .val (.ref ob), .val (.int (0 : Int32)), .val (.int (0 : Int32)), .val (.int (0 : Int32)), .unset, .unset] []))
  refine ownEnds.law (fun t k => XS.aloadN X46.here hx rfl (hb hby d1_85) rfl rfl k) ?_
  show ownEnds _ _ _ _ (T46.setTop (mkF m 86 #[.val (.ref oa), .val (.ref ob), .val (.int (0 : Int32)), .val (.int (0 : Int32)), .val (.int (0 : Int32)), .unset, .unset] [(.ref oa)]))
  have f48 := (Fld.other W46 (Fld.other W42 Fw36 (Or.inl ne_oa_b9)) (Or.inl ne_oa_b18))
  obtain ⟨T49, X49, e49, st49⟩ := getF X46 hx hZ hown (host := "") (Or.inl (wd_29 hw)) Via.refl e46 f48 (g := (mkF m 86 #[.val (.ref oa), .val (.ref ob), .val (.int (0 : Int32)), .val (.int (0 : Int32)), .val (.int (0 : Int32)), .unset, .unset] [(.ref oa)])) rfl rfl (hb hby d1_86)
  refine ownEnds.law st49 ?_
  show ownEnds _ _ _ _ (T49.setTop (mkF m 89 #[.val (.ref oa), .val (.ref ob), .val (.int (0 : Int32)), .val (.int (0 : Int32)), .val (.int (0 : Int32)), .unset, .unset] [(.ref b28)]))
  refine ownEnds.law (fun t k => XS.iload X49.here hx rfl (hb hby d1_89) rfl (X49.ldc2Long hx hown (mvT hZ (wd_91 hw)) (g := (mkF m 91 #[.val (.ref oa), .val (.ref ob), .val (.int (0 : Int32)), .val (.int (0 : Int32)), .val (.int (0 : Int32)), .unset, .unset] [(.int (0 : Int32)), (.ref b28)])) rfl (hb hby d1_91) _ (XS.bipush X49.here hx rfl (hb hby d1_94) (XS.aloadN X49.here hx rfl (hb hby d1_96) rfl rfl (XS.iload X49.here hx rfl (hb hby d1_97) rfl k))))) ?_
  show ownEnds _ _ _ _ (T49.setTop (mkF m 99 #[.val (.ref oa), .val (.ref ob), .val (.int (0 : Int32)), .val (.int (0 : Int32)), .val (.int (0 : Int32)), .unset, .unset] [(.int (0 : Int32)), (.ref ob), (.int (64 : Int32)), (.long (-1 : Int64)), (.int (0 : Int32)), (.ref b28)]))
  have f51 := (Arv.other (Arv.other f38 W42 ne_ob_b9) W46 ne_ob_b18)
  obtain ⟨cl50, Ar50, q50, S50, N50, H50, G50⟩ := id f51
  have hi50 := inb_of (j := (0 : Int32)) S50 ⟨by decide, by decide⟩
  have hv50 : cl50.slots[((0 : Int32)).toNatClampNeg]? = some (.int (32 : Int32)) := H50.at hi50 rfl
  refine ownEnds.law (fun t k => X49.iaload hx (j := (0 : Int32)) (v := (.int (32 : Int32))) (by rw [e49]; exact Ar50.1) (State.isArrayOf_alike hZ.alike Ar50.2.1) Ar50.2.2 hi50 hv50 (g := (mkF m 99 #[.val (.ref oa), .val (.ref ob), .val (.int (0 : Int32)), .val (.int (0 : Int32)), .val (.int (0 : Int32)), .unset, .unset] [(.int (0 : Int32)), (.ref ob), (.int (64 : Int32)), (.long (-1 : Int64)), (.int (0 : Int32)), (.ref b28)])) rfl rfl (hb hby d1_99) _ (XS.isub X49.here hx rfl (hb hby d1_100) rfl (XS.lushr X49.here hx rfl (hb hby d1_101) rfl k))) ?_
  show ownEnds _ _ _ _ (T49.setTop (mkF m 102 #[.val (.ref oa), .val (.ref ob), .val (.int (0 : Int32)), .val (.int (0 : Int32)), .val (.int (0 : Int32)), .unset, .unset] [(.long (((-1 : Int64).toUInt64 >>> ((32 : Int32) &&& 0x3f).toInt64.toUInt64).toInt64)), (.int (0 : Int32)), (.ref b28)]))
  have f53 := (Arv.other (Arv.other (Arv.other V_b28 W36 (Ne.symm ne_oa_b28)) W42 (Ne.symm ne_b9_b28)) W46 (Ne.symm ne_b18_b28))
  obtain ⟨cl52, Ar52, q52, S52, N52, H52, G52⟩ := id f53
  obtain ⟨T52, h52, X52, e52, W52, st52⟩ := stJ X49 hx hZ e49 Ar52 (j := (0 : Int32)) (inb_of S52 ⟨by decide, by decide⟩) (g := (mkF m 102 #[.val (.ref oa), .val (.ref ob), .val (.int (0 : Int32)), .val (.int (0 : Int32)), .val (.int (0 : Int32)), .unset, .unset] [(.long (((-1 : Int64).toUInt64 >>> ((32 : Int32) &&& 0x3f).toInt64.toUInt64).toInt64)), (.int (0 : Int32)), (.ref b28)])) rfl rfl (hb hby d1_102)
  refine ownEnds.law st52 ?_
  have V52 : Arv Z h52 b28 k28 .long (2 : Int32) [(.long (((-1 : Int64).toUInt64 >>> ((32 : Int32) &&& 0x3f).toInt64.toUInt64).toInt64)), (.long (0 : Int64))] (.long (0 : Int64)) := Arv.set Ar52 q52 S52 N52 H52 G52 rfl W52 0 rfl (Nat.le_of_ble_eq_true rfl)
  have N52 := Fr.snoc X52 N46 g_b28
  have KK52 : Keep h0 h52 [oa] := (KK46).wr W52 (Or.inr sz_b28)
  have Z52 : n0 ≤ h52.size := by rw [W52.size]; exact Z46
  show ownEnds _ _ _ _ (T52.setTop (mkF m 103 #[.val (.ref oa), .val (.ref ob), .val (.int (0 : Int32)), .val (.int (0 : Int32)), .val (.int (0 : Int32)), .unset, .unset] []))
  refine ownEnds.law (fun t k => XS.iloadN X52.here hx rfl (hb hby d1_103) rfl (XS.aloadN X52.here hx rfl (hb hby d1_104) rfl rfl (XS.iload X52.here hx rfl (hb hby d1_105) rfl k))) ?_
  show ownEnds _ _ _ _ (T52.setTop (mkF m 107 #[.val (.ref oa), .val (.ref ob), .val (.int (0 : Int32)), .val (.int (0 : Int32)), .val (.int (0 : Int32)), .unset, .unset] [(.int (0 : Int32)), (.ref ob), (.int (0 : Int32))]))
  have f55 := (Arv.other f51 W52 ne_ob_b28)
  obtain ⟨cl54, Ar54, q54, S54, N54, H54, G54⟩ := id f55
  have hi54 := inb_of (j := (0 : Int32)) S54 ⟨by decide, by decide⟩
  have hv54 : cl54.slots[((0 : Int32)).toNatClampNeg]? = some (.int (32 : Int32)) := H54.at hi54 rfl
  refine ownEnds.law (fun t k => X52.iaload hx (j := (0 : Int32)) (v := (.int (32 : Int32))) (by rw [e52]; exact Ar54.1) (State.isArrayOf_alike hZ.alike Ar54.2.1) Ar54.2.2 hi54 hv54 (g := (mkF m 107 #[.val (.ref oa), .val (.ref ob), .val (.int (0 : Int32)), .val (.int (0 : Int32)), .val (.int (0 : Int32)), .unset, .unset] [(.int (0 : Int32)), (.ref ob), (.int (0 : Int32))])) rfl rfl (hb hby d1_107) _ (XS.iadd X52.here hx rfl (hb hby d1_108) rfl (XS.istoreN X52.here hx rfl (hb hby d1_109) rfl (l' := #[.val (.ref oa), .val (.ref ob), .val (.int (0 : Int32)), .val (.int (32 : Int32)), .val (.int (0 : Int32)), .unset, .unset]) rfl (XS.iinc X52.here hx rfl (hb hby d1_110) rfl (l' := #[.val (.ref oa), .val (.ref ob), .val (.int (0 : Int32)), .val (.int (32 : Int32)), .val (.int (1 : Int32)), .unset, .unset]) rfl (XS.goto X52.here hx rfl (pc0 := 113) (pc' := 46) rfl (hb hby d1_113) (by decide) (by decide) (XS.iload X52.here hx rfl (hb hby d1_46) rfl (XS.aloadN X52.here hx rfl (hb hby d1_48) rfl rfl k))))))) ?_
  show ownEnds _ _ _ _ (T52.setTop (mkF m 49 #[.val (.ref oa), .val (.ref ob), .val (.int (0 : Int32)), .val (.int (32 : Int32)), .val (.int (1 : Int32)), .unset, .unset] [(.ref ob), (.int (1 : Int32))]))
  obtain ⟨cl56, Ar56, -, S56, N56, -, -⟩ := id f55
  refine ownEnds.law (X52.arraylength hx (by rw [e52]; exact Ar56.1) (State.isArrayOf_alike hZ.alike Ar56.2.1) (g := (mkF m 49 #[.val (.ref oa), .val (.ref ob), .val (.int (0 : Int32)), .val (.int (32 : Int32)), .val (.int (1 : Int32)), .unset, .unset] [(.ref ob), (.int (1 : Int32))])) rfl rfl (hb hby d1_49)) ?_
  rw [len_of S56 N56]
  show ownEnds _ _ _ _ (T52.setTop (mkF m 50 #[.val (.ref oa), .val (.ref ob), .val (.int (0 : Int32)), .val (.int (32 : Int32)), .val (.int (1 : Int32)), .unset, .unset] [(.int (2 : Int32)), (.int (1 : Int32))]))
  refine ownEnds.law (fun t => XS.icmpNo X52.here hx rfl (hb hby d1_50) rfl (tlt (by decide : (1 : Int32) < (2 : Int32))).2.1) ?_
  show ownEnds _ _ _ _ (T52.setTop (mkF m 53 #[.val (.ref oa), .val (.ref ob), .val (.int (0 : Int32)), .val (.int (32 : Int32)), .val (.int (1 : Int32)), .unset, .unset] []))
  refine ownEnds.law (fun t k => XS.iloadN X52.here hx rfl (hb hby d1_53) rfl (XS.aloadN X52.here hx rfl (hb hby d1_54) rfl rfl (XS.iload X52.here hx rfl (hb hby d1_55) rfl k))) ?_
  show ownEnds _ _ _ _ (T52.setTop (mkF m 57 #[.val (.ref oa), .val (.ref ob), .val (.int (0 : Int32)), .val (.int (32 : Int32)), .val (.int (1 : Int32)), .unset, .unset] [(.int (1 : Int32)), (.ref ob), (.int (32 : Int32))]))
  obtain ⟨cl57, Ar57, q57, S57, N57, H57, G57⟩ := id f55
  have hi57 := inb_of (j := (1 : Int32)) S57 ⟨by decide, by decide⟩
  have hv57 : cl57.slots[((1 : Int32)).toNatClampNeg]? = some (.int (32 : Int32)) := H57.at hi57 rfl
  refine ownEnds.law (fun t k => X52.iaload hx (j := (1 : Int32)) (v := (.int (32 : Int32))) (by rw [e52]; exact Ar57.1) (State.isArrayOf_alike hZ.alike Ar57.2.1) Ar57.2.2 hi57 hv57 (g := (mkF m 57 #[.val (.ref oa), .val (.ref ob), .val (.int (0 : Int32)), .val (.int (32 : Int32)), .val (.int (1 : Int32)), .unset, .unset] [(.int (1 : Int32)), (.ref ob), (.int (32 : Int32))])) rfl rfl (hb hby d1_57) _ (XS.iadd X52.here hx rfl (hb hby d1_58) rfl (XS.bipush X52.here hx rfl (hb hby d1_59) k))) ?_
  show ownEnds _ _ _ _ (T52.setTop (mkF m 61 #[.val (.ref oa), .val (.ref ob), .val (.int (0 : Int32)), .val (.int (32 : Int32)), .val (.int (1 : Int32)), .unset, .unset] [(.int (64 : Int32)), (.int (64 : Int32))]))
  refine ownEnds.law (fun t => XS.icmpYes X52.here hx rfl (pc0 := 61) (pc' := 69) rfl (hb hby d1_61) rfl (flt (Int32.lt_irrefl)).2.2.2 (by decide) (by decide)) ?_
  show ownEnds _ _ _ _ (T52.setTop (mkF m 69 #[.val (.ref oa), .val (.ref ob), .val (.int (0 : Int32)), .val (.int (32 : Int32)), .val (.int (1 : Int32)), .unset, .unset] []))
  refine ownEnds.law (fun t k => XS.aloadN X52.here hx rfl (hb hby d1_69) rfl rfl k) ?_
  show ownEnds _ _ _ _ (T52.setTop (mkF m 70 #[.val (.ref oa), .val (.ref ob), .val (.int (0 : Int32)), .val (.int (32 : Int32)), .val (.int (1 : Int32)), .unset, .unset] [(.ref oa)]))
  have f58 := (Fld.other W52 (Fld.other W46 (Fld.other W42 f40 (Or.inl ne_oa_b9)) (Or.inl ne_oa_b18)) (Or.inl ne_oa_b28))
  obtain ⟨T59, X59, e59, st59⟩ := getF X52 hx hZ hown (host := "") (Or.inl (wd_24 hw)) Via.refl e52 f58 (g := (mkF m 70 #[.val (.ref oa), .val (.ref ob), .val (.int (0 : Int32)), .val (.int (32 : Int32)), .val (.int (1 : Int32)), .unset, .unset] [(.ref oa)])) rfl rfl (hb hby d1_70)
  refine ownEnds.law st59 ?_
  show ownEnds _ _ _ _ (T59.setTop (mkF m 73 #[.val (.ref oa), .val (.ref ob), .val (.int (0 : Int32)), .val (.int (32 : Int32)), .val (.int (1 : Int32)), .unset, .unset] [(.ref b9)]))
  refine ownEnds.law (fun t k => XS.iload X59.here hx rfl (hb hby d1_73) rfl (XS.iloadN X59.here hx rfl (hb hby d1_75) rfl k)) ?_
  show ownEnds _ _ _ _ (T59.setTop (mkF m 76 #[.val (.ref oa), .val (.ref ob), .val (.int (0 : Int32)), .val (.int (32 : Int32)), .val (.int (1 : Int32)), .unset, .unset] [(.int (0 : Int32)), (.int (1 : Int32)), (.ref b9)]))
  have f61 := (Arv.other (Arv.other V42 W46 ne_b9_b18) W52 ne_b9_b28)
  obtain ⟨cl60, Ar60, q60, S60, N60, H60, G60⟩ := id f61
  obtain ⟨T60, h60, X60, e60, W60, st60⟩ := stI X59 hx hZ e59 Ar60 (j := (1 : Int32)) (inb_of S60 ⟨by decide, by decide⟩) (g := (mkF m 76 #[.val (.ref oa), .val (.ref ob), .val (.int (0 : Int32)), .val (.int (32 : Int32)), .val (.int (1 : Int32)), .unset, .unset] [(.int (0 : Int32)), (.int (1 : Int32)), (.ref b9)])) rfl rfl (hb hby d1_76)
  refine ownEnds.law st60 ?_
  have V60 : Arv Z h60 b9 k9 .int (2 : Int32) [(.int (0 : Int32)), (.int (0 : Int32))] (.int (0 : Int32)) := Arv.set Ar60 q60 S60 N60 H60 G60 rfl W60 1 rfl (Nat.le_of_ble_eq_true rfl)
  have N60 := Fr.snoc X60 N52 g_b9
  have KK60 : Keep h0 h60 [oa] := (KK52).wr W60 (Or.inr sz_b9)
  have Z60 : n0 ≤ h60.size := by rw [W60.size]; exact Z52
  show ownEnds _ _ _ _ (T60.setTop (mkF m 77 #[.val (.ref oa), .val (.ref ob), .val (.int (0 : Int32)), .val (.int (32 : Int32)), .val (.int (1 : Int32)), .unset, .unset] []))
  refine ownEnds.law (fun t k => XS.aloadN X60.here hx rfl (hb hby d1_77) rfl rfl k) ?_
  show ownEnds _ _ _ _ (T60.setTop (mkF m 78 #[.val (.ref oa), .val (.ref ob), .val (.int (0 : Int32)), .val (.int (32 : Int32)), .val (.int (1 : Int32)), .unset, .unset] [(.ref oa)]))
  have f62 := (Fld.other W60 (Fld.other W52 (Fld.other W46 f44 (Or.inl ne_oa_b18)) (Or.inl ne_oa_b28)) (Or.inl ne_oa_b9))
  obtain ⟨T63, X63, e63, st63⟩ := getF X60 hx hZ hown (host := "") (Or.inl (wd_26 hw)) Via.refl e60 f62 (g := (mkF m 78 #[.val (.ref oa), .val (.ref ob), .val (.int (0 : Int32)), .val (.int (32 : Int32)), .val (.int (1 : Int32)), .unset, .unset] [(.ref oa)])) rfl rfl (hb hby d1_78)
  refine ownEnds.law st63 ?_
  show ownEnds _ _ _ _ (T63.setTop (mkF m 81 #[.val (.ref oa), .val (.ref ob), .val (.int (0 : Int32)), .val (.int (32 : Int32)), .val (.int (1 : Int32)), .unset, .unset] [(.ref b18)]))
  refine ownEnds.law (fun t k => XS.iload X63.here hx rfl (hb hby d1_81) rfl (XS.iloadN X63.here hx rfl (hb hby d1_83) rfl k)) ?_
  show ownEnds _ _ _ _ (T63.setTop (mkF m 84 #[.val (.ref oa), .val (.ref ob), .val (.int (0 : Int32)), .val (.int (32 : Int32)), .val (.int (1 : Int32)), .unset, .unset] [(.int (32 : Int32)), (.int (1 : Int32)), (.ref b18)]))
  have f65 := (Arv.other (Arv.other V46 W52 ne_b18_b28) W60 (Ne.symm ne_b9_b18))
  obtain ⟨cl64, Ar64, q64, S64, N64, H64, G64⟩ := id f65
  obtain ⟨T64, h64, X64, e64, W64, st64⟩ := stI X63 hx hZ e63 Ar64 (j := (1 : Int32)) (inb_of S64 ⟨by decide, by decide⟩) (g := (mkF m 84 #[.val (.ref oa), .val (.ref ob), .val (.int (0 : Int32)), .val (.int (32 : Int32)), .val (.int (1 : Int32)), .unset, .unset] [(.int (32 : Int32)), (.int (1 : Int32)), (.ref b18)])) rfl rfl (hb hby d1_84)
  refine ownEnds.law st64 ?_
  have V64 : Arv Z h64 b18 k18 .int (2 : Int32) [(.int (0 : Int32)), (.int (32 : Int32))] (.int (0 : Int32)) := Arv.set Ar64 q64 S64 N64 H64 G64 rfl W64 1 rfl (Nat.le_of_ble_eq_true rfl)
  have N64 := Fr.snoc X64 N60 g_b18
  have KK64 : Keep h0 h64 [oa] := (KK60).wr W64 (Or.inr sz_b18)
  have Z64 : n0 ≤ h64.size := by rw [W64.size]; exact Z60
  show ownEnds _ _ _ _ (T64.setTop (mkF m 85 #[.val (.ref oa), .val (.ref ob), .val (.int (0 : Int32)), .val (.int (32 : Int32)), .val (.int (1 : Int32)), .unset, .unset] []))
  refine ownEnds.law (fun t k => XS.aloadN X64.here hx rfl (hb hby d1_85) rfl rfl k) ?_
  show ownEnds _ _ _ _ (T64.setTop (mkF m 86 #[.val (.ref oa), .val (.ref ob), .val (.int (0 : Int32)), .val (.int (32 : Int32)), .val (.int (1 : Int32)), .unset, .unset] [(.ref oa)]))
  have f66 := (Fld.other W64 (Fld.other W60 (Fld.other W52 f48 (Or.inl ne_oa_b28)) (Or.inl ne_oa_b9)) (Or.inl ne_oa_b18))
  obtain ⟨T67, X67, e67, st67⟩ := getF X64 hx hZ hown (host := "") (Or.inl (wd_29 hw)) Via.refl e64 f66 (g := (mkF m 86 #[.val (.ref oa), .val (.ref ob), .val (.int (0 : Int32)), .val (.int (32 : Int32)), .val (.int (1 : Int32)), .unset, .unset] [(.ref oa)])) rfl rfl (hb hby d1_86)
  refine ownEnds.law st67 ?_
  show ownEnds _ _ _ _ (T67.setTop (mkF m 89 #[.val (.ref oa), .val (.ref ob), .val (.int (0 : Int32)), .val (.int (32 : Int32)), .val (.int (1 : Int32)), .unset, .unset] [(.ref b28)]))
  refine ownEnds.law (fun t k => XS.iload X67.here hx rfl (hb hby d1_89) rfl (X67.ldc2Long hx hown (mvT hZ (wd_91 hw)) (g := (mkF m 91 #[.val (.ref oa), .val (.ref ob), .val (.int (0 : Int32)), .val (.int (32 : Int32)), .val (.int (1 : Int32)), .unset, .unset] [(.int (1 : Int32)), (.ref b28)])) rfl (hb hby d1_91) _ (XS.bipush X67.here hx rfl (hb hby d1_94) (XS.aloadN X67.here hx rfl (hb hby d1_96) rfl rfl (XS.iload X67.here hx rfl (hb hby d1_97) rfl k))))) ?_
  show ownEnds _ _ _ _ (T67.setTop (mkF m 99 #[.val (.ref oa), .val (.ref ob), .val (.int (0 : Int32)), .val (.int (32 : Int32)), .val (.int (1 : Int32)), .unset, .unset] [(.int (1 : Int32)), (.ref ob), (.int (64 : Int32)), (.long (-1 : Int64)), (.int (1 : Int32)), (.ref b28)]))
  have f69 := (Arv.other (Arv.other f55 W60 ne_ob_b9) W64 ne_ob_b18)
  obtain ⟨cl68, Ar68, q68, S68, N68, H68, G68⟩ := id f69
  have hi68 := inb_of (j := (1 : Int32)) S68 ⟨by decide, by decide⟩
  have hv68 : cl68.slots[((1 : Int32)).toNatClampNeg]? = some (.int (32 : Int32)) := H68.at hi68 rfl
  refine ownEnds.law (fun t k => X67.iaload hx (j := (1 : Int32)) (v := (.int (32 : Int32))) (by rw [e67]; exact Ar68.1) (State.isArrayOf_alike hZ.alike Ar68.2.1) Ar68.2.2 hi68 hv68 (g := (mkF m 99 #[.val (.ref oa), .val (.ref ob), .val (.int (0 : Int32)), .val (.int (32 : Int32)), .val (.int (1 : Int32)), .unset, .unset] [(.int (1 : Int32)), (.ref ob), (.int (64 : Int32)), (.long (-1 : Int64)), (.int (1 : Int32)), (.ref b28)])) rfl rfl (hb hby d1_99) _ (XS.isub X67.here hx rfl (hb hby d1_100) rfl (XS.lushr X67.here hx rfl (hb hby d1_101) rfl k))) ?_
  show ownEnds _ _ _ _ (T67.setTop (mkF m 102 #[.val (.ref oa), .val (.ref ob), .val (.int (0 : Int32)), .val (.int (32 : Int32)), .val (.int (1 : Int32)), .unset, .unset] [(.long (((-1 : Int64).toUInt64 >>> ((32 : Int32) &&& 0x3f).toInt64.toUInt64).toInt64)), (.int (1 : Int32)), (.ref b28)]))
  have f71 := (Arv.other (Arv.other V52 W60 (Ne.symm ne_b9_b28)) W64 (Ne.symm ne_b18_b28))
  obtain ⟨cl70, Ar70, q70, S70, N70, H70, G70⟩ := id f71
  obtain ⟨T70, h70, X70, e70, W70, st70⟩ := stJ X67 hx hZ e67 Ar70 (j := (1 : Int32)) (inb_of S70 ⟨by decide, by decide⟩) (g := (mkF m 102 #[.val (.ref oa), .val (.ref ob), .val (.int (0 : Int32)), .val (.int (32 : Int32)), .val (.int (1 : Int32)), .unset, .unset] [(.long (((-1 : Int64).toUInt64 >>> ((32 : Int32) &&& 0x3f).toInt64.toUInt64).toInt64)), (.int (1 : Int32)), (.ref b28)])) rfl rfl (hb hby d1_102)
  refine ownEnds.law st70 ?_
  have V70 : Arv Z h70 b28 k28 .long (2 : Int32) [(.long (((-1 : Int64).toUInt64 >>> ((32 : Int32) &&& 0x3f).toInt64.toUInt64).toInt64)), (.long (((-1 : Int64).toUInt64 >>> ((32 : Int32) &&& 0x3f).toInt64.toUInt64).toInt64))] (.long (0 : Int64)) := Arv.set Ar70 q70 S70 N70 H70 G70 rfl W70 1 rfl (Nat.le_of_ble_eq_true rfl)
  have N70 := Fr.snoc X70 N64 g_b28
  have KK70 : Keep h0 h70 [oa] := (KK64).wr W70 (Or.inr sz_b28)
  have Z70 : n0 ≤ h70.size := by rw [W70.size]; exact Z64
  show ownEnds _ _ _ _ (T70.setTop (mkF m 103 #[.val (.ref oa), .val (.ref ob), .val (.int (0 : Int32)), .val (.int (32 : Int32)), .val (.int (1 : Int32)), .unset, .unset] []))
  refine ownEnds.law (fun t k => XS.iloadN X70.here hx rfl (hb hby d1_103) rfl (XS.aloadN X70.here hx rfl (hb hby d1_104) rfl rfl (XS.iload X70.here hx rfl (hb hby d1_105) rfl k))) ?_
  show ownEnds _ _ _ _ (T70.setTop (mkF m 107 #[.val (.ref oa), .val (.ref ob), .val (.int (0 : Int32)), .val (.int (32 : Int32)), .val (.int (1 : Int32)), .unset, .unset] [(.int (1 : Int32)), (.ref ob), (.int (32 : Int32))]))
  have f73 := (Arv.other f69 W70 ne_ob_b28)
  obtain ⟨cl72, Ar72, q72, S72, N72, H72, G72⟩ := id f73
  have hi72 := inb_of (j := (1 : Int32)) S72 ⟨by decide, by decide⟩
  have hv72 : cl72.slots[((1 : Int32)).toNatClampNeg]? = some (.int (32 : Int32)) := H72.at hi72 rfl
  refine ownEnds.law (fun t k => X70.iaload hx (j := (1 : Int32)) (v := (.int (32 : Int32))) (by rw [e70]; exact Ar72.1) (State.isArrayOf_alike hZ.alike Ar72.2.1) Ar72.2.2 hi72 hv72 (g := (mkF m 107 #[.val (.ref oa), .val (.ref ob), .val (.int (0 : Int32)), .val (.int (32 : Int32)), .val (.int (1 : Int32)), .unset, .unset] [(.int (1 : Int32)), (.ref ob), (.int (32 : Int32))])) rfl rfl (hb hby d1_107) _ (XS.iadd X70.here hx rfl (hb hby d1_108) rfl (XS.istoreN X70.here hx rfl (hb hby d1_109) rfl (l' := #[.val (.ref oa), .val (.ref ob), .val (.int (0 : Int32)), .val (.int (64 : Int32)), .val (.int (1 : Int32)), .unset, .unset]) rfl (XS.iinc X70.here hx rfl (hb hby d1_110) rfl (l' := #[.val (.ref oa), .val (.ref ob), .val (.int (0 : Int32)), .val (.int (64 : Int32)), .val (.int (2 : Int32)), .unset, .unset]) rfl (XS.goto X70.here hx rfl (pc0 := 113) (pc' := 46) rfl (hb hby d1_113) (by decide) (by decide) (XS.iload X70.here hx rfl (hb hby d1_46) rfl (XS.aloadN X70.here hx rfl (hb hby d1_48) rfl rfl k))))))) ?_
  show ownEnds _ _ _ _ (T70.setTop (mkF m 49 #[.val (.ref oa), .val (.ref ob), .val (.int (0 : Int32)), .val (.int (64 : Int32)), .val (.int (2 : Int32)), .unset, .unset] [(.ref ob), (.int (2 : Int32))]))
  obtain ⟨cl74, Ar74, -, S74, N74, -, -⟩ := id f73
  refine ownEnds.law (X70.arraylength hx (by rw [e70]; exact Ar74.1) (State.isArrayOf_alike hZ.alike Ar74.2.1) (g := (mkF m 49 #[.val (.ref oa), .val (.ref ob), .val (.int (0 : Int32)), .val (.int (64 : Int32)), .val (.int (2 : Int32)), .unset, .unset] [(.ref ob), (.int (2 : Int32))])) rfl rfl (hb hby d1_49)) ?_
  rw [len_of S74 N74]
  show ownEnds _ _ _ _ (T70.setTop (mkF m 50 #[.val (.ref oa), .val (.ref ob), .val (.int (0 : Int32)), .val (.int (64 : Int32)), .val (.int (2 : Int32)), .unset, .unset] [(.int (2 : Int32)), (.int (2 : Int32))]))
  refine ownEnds.law (fun t => XS.icmpYes X70.here hx rfl (pc0 := 50) (pc' := 116) rfl (hb hby d1_50) rfl (flt (Int32.lt_irrefl)).2.1 (by decide) (by decide)) ?_
  show ownEnds _ _ _ _ (T70.setTop (mkF m 116 #[.val (.ref oa), .val (.ref ob), .val (.int (0 : Int32)), .val (.int (64 : Int32)), .val (.int (2 : Int32)), .unset, .unset] []))
  refine ownEnds.law (fun t k => XS.aloadN X70.here hx rfl (hb hby d1_116) rfl rfl (XS.aloadN X70.here hx rfl (hb hby d1_117) rfl rfl k)) ?_
  show ownEnds _ _ _ _ (T70.setTop (mkF m 118 #[.val (.ref oa), .val (.ref ob), .val (.int (0 : Int32)), .val (.int (64 : Int32)), .val (.int (2 : Int32)), .unset, .unset] [(.ref ob), (.ref oa)]))
  obtain ⟨cl75, Ar75, -, S75, N75, -, -⟩ := id f73
  refine ownEnds.law (X70.arraylength hx (by rw [e70]; exact Ar75.1) (State.isArrayOf_alike hZ.alike Ar75.2.1) (g := (mkF m 118 #[.val (.ref oa), .val (.ref ob), .val (.int (0 : Int32)), .val (.int (64 : Int32)), .val (.int (2 : Int32)), .unset, .unset] [(.ref ob), (.ref oa)])) rfl rfl (hb hby d1_118)) ?_
  rw [len_of S75 N75]
  show ownEnds _ _ _ _ (T70.setTop (mkF m 119 #[.val (.ref oa), .val (.ref ob), .val (.int (0 : Int32)), .val (.int (64 : Int32)), .val (.int (2 : Int32)), .unset, .unset] [(.int (2 : Int32)), (.ref oa)]))
  refine ownEnds.law (fun t => XS.ifYes X70.here hx rfl (pc0 := 119) (pc' := 126) rfl (hb hby d1_119) rfl ((if0 _ _).trans (feq (by decide : ¬ ((2 : Int32) = (0 : Int32)))).2) (by decide) (by decide)) ?_
  show ownEnds _ _ _ _ (T70.setTop (mkF m 126 #[.val (.ref oa), .val (.ref ob), .val (.int (0 : Int32)), .val (.int (64 : Int32)), .val (.int (2 : Int32)), .unset, .unset] [(.ref oa)]))
  refine ownEnds.law (fun t k => XS.iloadN X70.here hx rfl (hb hby d1_126) rfl (XS.iconst X70.here hx rfl (hb hby d1_127) (XS.iadd X70.here hx rfl (hb hby d1_128) rfl k))) ?_
  show ownEnds _ _ _ _ (T70.setTop (mkF m 129 #[.val (.ref oa), .val (.ref ob), .val (.int (0 : Int32)), .val (.int (64 : Int32)), .val (.int (2 : Int32)), .unset, .unset] [(.int (1 : Int32)), (.ref oa)]))
  have f76 := (Exa.wr W70 (Exa.wr W64 (Exa.wr W60 (Exa.wr W52 (Exa.wr W46 (Exa.wr W42 (Exa.wr W36 f34)))))))
  have f77 := (Fld.other W70 (Fld.other W64 (Fld.other W60 (Fld.other W52 (Fld.other W46 (Fld.other W42 (Fld.other W36 (Fld.ext E28 (Fld.other W25 (Fld.ext E18 (Fld.other W15 (Fld.ext E9 (Fld.other W6 (Fld.ext E2 F_oa_words) (Or.inr (slot_ne (Or.inr (wd_32 hw)) (Or.inr (wd_23 hw)) (by decide) (t := .int) (t' := (.array .int)) (by decide) (by decide))))) (Or.inr (slot_ne (Or.inr (wd_32 hw)) (Or.inr (wd_25 hw)) (by decide) (t := .int) (t' := (.array .int)) (by decide) (by decide))))) (Or.inr (slot_ne (Or.inr (wd_32 hw)) (Or.inr (wd_27 hw)) (by decide) (t := .int) (t' := (.array .int)) (by decide) (by decide))))) (Or.inr (slot_ne (Or.inr (wd_32 hw)) (Or.inr (wd_30 hw)) (by decide) (t := .int) (t' := (.array .long)) (by decide) (by decide)))) (Or.inl ne_oa_b9)) (Or.inl ne_oa_b18)) (Or.inl ne_oa_b28)) (Or.inl ne_oa_b9)) (Or.inl ne_oa_b18)) (Or.inl ne_oa_b28))
  obtain ⟨T78, h78, X78, e78, W78, st78⟩ := putF X70 hx hZ hown (host := "") (Or.inl (wd_31 hw)) Via.refl e70 f77 f76 (Or.inr ⟨(wd_32 hw), rfl, hnm⟩) (wd_5 hw) (ty := .int) (by decide) rfl rfl (g := (mkF m 129 #[.val (.ref oa), .val (.ref ob), .val (.int (0 : Int32)), .val (.int (64 : Int32)), .val (.int (2 : Int32)), .unset, .unset] [(.int (1 : Int32)), (.ref oa)])) rfl rfl (hb hby d1_129)
  refine ownEnds.law st78 ?_
  have N78 := Fr.snoc X78 N70 g_oa
  have KK78 : Keep h0 h78 [oa] := (KK70).wr W78 (Or.inl (List.mem_of_getElem? (i := 0) rfl))
  have Z78 : n0 ≤ h78.size := by rw [W78.size]; exact Z70
  have Fw78 : Fld Z h78 oa "com/example/libreach/libreach/engine/StateLayout" "words" "I" (.int (1 : Int32)) := Fld.same W78 f77
  show ownEnds _ _ _ _ (T78.setTop (mkF m 132 #[.val (.ref oa), .val (.ref ob), .val (.int (0 : Int32)), .val (.int (64 : Int32)), .val (.int (2 : Int32)), .unset, .unset] []))
  refine ownEnds.law (fun t k => XS.iconst X78.here hx rfl (hb hby d1_132) (XS.istore X78.here hx rfl (hb hby d1_133) rfl (l' := #[.val (.ref oa), .val (.ref ob), .val (.int (0 : Int32)), .val (.int (64 : Int32)), .val (.int (0 : Int32)), .unset, .unset]) rfl (XS.aloadN X78.here hx rfl (hb hby d1_135) rfl rfl k))) ?_
  show ownEnds _ _ _ _ (T78.setTop (mkF m 136 #[.val (.ref oa), .val (.ref ob), .val (.int (0 : Int32)), .val (.int (64 : Int32)), .val (.int (0 : Int32)), .unset, .unset] [(.ref ob)]))
  have f80 := (Arv.other f73 W78 (Ne.symm ne_oa_ob))
  obtain ⟨cl79, Ar79, -, S79, N79, -, -⟩ := id f80
  refine ownEnds.law (X78.arraylength hx (by rw [e78]; exact Ar79.1) (State.isArrayOf_alike hZ.alike Ar79.2.1) (g := (mkF m 136 #[.val (.ref oa), .val (.ref ob), .val (.int (0 : Int32)), .val (.int (64 : Int32)), .val (.int (0 : Int32)), .unset, .unset] [(.ref ob)])) rfl rfl (hb hby d1_136)) ?_
  rw [len_of S79 N79]
  show ownEnds _ _ _ _ (T78.setTop (mkF m 137 #[.val (.ref oa), .val (.ref ob), .val (.int (0 : Int32)), .val (.int (64 : Int32)), .val (.int (0 : Int32)), .unset, .unset] [(.int (2 : Int32))]))
  refine ownEnds.law (fun t k => XS.iconst X78.here hx rfl (hb hby d1_137) (XS.iadd X78.here hx rfl (hb hby d1_138) rfl k)) ?_
  show ownEnds _ _ _ _ (T78.setTop (mkF m 139 #[.val (.ref oa), .val (.ref ob), .val (.int (0 : Int32)), .val (.int (64 : Int32)), .val (.int (0 : Int32)), .unset, .unset] [(.int (3 : Int32))]))
  obtain ⟨T81, h81, k81, X81, e81, E81, A81, Ax81, st81⟩ := newPE X78 hx hZ (aty := .int) (wd_0 hw) e78 (g := (mkF m 139 #[.val (.ref oa), .val (.ref ob), .val (.int (0 : Int32)), .val (.int (64 : Int32)), .val (.int (0 : Int32)), .unset, .unset] [(.int (3 : Int32))])) rfl (hb hby d1_139) rfl (by decide) (cap := 3) (by decide) (by decide) (by decide) (by decide) (ad := "[I") (by decide)
  obtain ⟨b81, g81⟩ : ∃ z, z = h78.size := ⟨_, rfl⟩
  rw [← g81] at A81 st81 Ax81
  refine ownEnds.law st81 ?_
  have V_b81 : Arv Z h81 b81 k81 .int (3 : Int32) [(.int (0 : Int32)), (.int (0 : Int32)), (.int (0 : Int32))] (.int (0 : Int32)) := (Arv.new A81 (by decide)).pad (pad_rep [] (.int (0 : Int32)) 3)
  have f82 := (Exa.wr W78 f76)
  have ne_oa_b81 : oa ≠ b81 := Nat.ne_of_lt (Nat.lt_of_lt_of_eq f82.lt g81.symm)
  have f83 := (Exa.wr W78 (Exa.wr W70 (Exa.wr W64 (Exa.wr W60 (Exa.wr W52 (Exa.wr W46 (Exa.wr W42 (Exa.wr W36 (Exa.ext E28 f30)))))))))
  have ne_ob_b81 : ob ≠ b81 := Nat.ne_of_lt (Nat.lt_of_lt_of_eq f83.lt g81.symm)
  have f84 := (Arv.other (Arv.other (Arv.other (Arv.other (Arv.other (Arv.other (Arv.other (Arv.other (Arv.ext f31 E28) W36 (Ne.symm ne_oa_b2)) W42 ne_b2_b9) W46 ne_b2_b18) W52 ne_b2_b28) W60 ne_b2_b9) W64 ne_b2_b18) W70 ne_b2_b28) W78 (Ne.symm ne_oa_b2))
  have ne_b2_b81 : b2 ≠ b81 := Nat.ne_of_lt (Nat.lt_of_lt_of_eq f84.lt g81.symm)
  have f85 := (Arv.other (Arv.other (Arv.other V60 W64 ne_b9_b18) W70 ne_b9_b28) W78 (Ne.symm ne_oa_b9))
  have ne_b9_b81 : b9 ≠ b81 := Nat.ne_of_lt (Nat.lt_of_lt_of_eq f85.lt g81.symm)
  have f86 := (Arv.other (Arv.other V64 W70 ne_b18_b28) W78 (Ne.symm ne_oa_b18))
  have ne_b18_b81 : b18 ≠ b81 := Nat.ne_of_lt (Nat.lt_of_lt_of_eq f86.lt g81.symm)
  have f87 := (Arv.other V70 W78 (Ne.symm ne_oa_b28))
  have ne_b28_b81 : b28 ≠ b81 := Nat.ne_of_lt (Nat.lt_of_lt_of_eq f87.lt g81.symm)
  have g_b81 : n0 ≤ b81 := Nat.le_trans Z78 (Nat.le_of_eq g81.symm)
  have sz_b81 : h0.size ≤ b81 := Nat.le_trans (KK78).1 (Nat.le_of_eq g81.symm)
  have Z81 : n0 ≤ h81.size := Nat.le_trans Z78 E81.1
  have KK81 : Keep h0 h81 [oa] := (KK78).ext E81
  show ownEnds _ _ _ _ (T81.setTop (mkF m 141 #[.val (.ref oa), .val (.ref ob), .val (.int (0 : Int32)), .val (.int (64 : Int32)), .val (.int (0 : Int32)), .unset, .unset] [(.ref b81)]))
  refine ownEnds.law (fun t k => XS.astore X81.here hx rfl (hb hby d1_141) rfl rfl (l' := #[.val (.ref oa), .val (.ref ob), .val (.int (0 : Int32)), .val (.int (64 : Int32)), .val (.int (0 : Int32)), .val (.ref b81), .unset]) rfl (XS.iconst X81.here hx rfl (hb hby d1_143) (XS.istore X81.here hx rfl (hb hby d1_144) rfl (l' := #[.val (.ref oa), .val (.ref ob), .val (.int (0 : Int32)), .val (.int (64 : Int32)), .val (.int (0 : Int32)), .val (.ref b81), .val (.int (0 : Int32))]) rfl (XS.iload X81.here hx rfl (hb hby d1_146) rfl (XS.aloadN X81.here hx rfl (hb hby d1_148) rfl rfl k))))) ?_
  show ownEnds _ _ _ _ (T81.setTop (mkF m 149 #[.val (.ref oa), .val (.ref ob), .val (.int (0 : Int32)), .val (.int (64 : Int32)), .val (.int (0 : Int32)), .val (.ref b81), .val (.int (0 : Int32))] [(.ref ob), (.int (0 : Int32))]))
  have f89 := (Arv.ext f80 E81)
  obtain ⟨cl88, Ar88, -, S88, N88, -, -⟩ := id f89
  refine ownEnds.law (X81.arraylength hx (by rw [e81]; exact Ar88.1) (State.isArrayOf_alike hZ.alike Ar88.2.1) (g := (mkF m 149 #[.val (.ref oa), .val (.ref ob), .val (.int (0 : Int32)), .val (.int (64 : Int32)), .val (.int (0 : Int32)), .val (.ref b81), .val (.int (0 : Int32))] [(.ref ob), (.int (0 : Int32))])) rfl rfl (hb hby d1_149)) ?_
  rw [len_of S88 N88]
  show ownEnds _ _ _ _ (T81.setTop (mkF m 150 #[.val (.ref oa), .val (.ref ob), .val (.int (0 : Int32)), .val (.int (64 : Int32)), .val (.int (0 : Int32)), .val (.ref b81), .val (.int (0 : Int32))] [(.int (2 : Int32)), (.int (0 : Int32))]))
  refine ownEnds.law (fun t => XS.icmpNo X81.here hx rfl (hb hby d1_150) rfl (tlt (by decide : (0 : Int32) < (2 : Int32))).2.1) ?_
  show ownEnds _ _ _ _ (T81.setTop (mkF m 153 #[.val (.ref oa), .val (.ref ob), .val (.int (0 : Int32)), .val (.int (64 : Int32)), .val (.int (0 : Int32)), .val (.ref b81), .val (.int (0 : Int32))] []))
  refine ownEnds.law (fun t k => XS.iload X81.here hx rfl (hb hby d1_153) rfl k) ?_
  show ownEnds _ _ _ _ (T81.setTop (mkF m 155 #[.val (.ref oa), .val (.ref ob), .val (.int (0 : Int32)), .val (.int (64 : Int32)), .val (.int (0 : Int32)), .val (.ref b81), .val (.int (0 : Int32))] [(.int (0 : Int32))]))
  refine ownEnds.law (fun t => XS.ifYes X81.here hx rfl (pc0 := 155) (pc' := 190) rfl (hb hby d1_155) rfl ((if0 _ _).trans (teq (rfl : (0 : Int32) = (0 : Int32))).1) (by decide) (by decide)) ?_
  show ownEnds _ _ _ _ (T81.setTop (mkF m 190 #[.val (.ref oa), .val (.ref ob), .val (.int (0 : Int32)), .val (.int (64 : Int32)), .val (.int (0 : Int32)), .val (.ref b81), .val (.int (0 : Int32))] []))
  refine ownEnds.law (fun t k => XS.aload X81.here hx rfl (hb hby d1_190) rfl rfl (XS.iload X81.here hx rfl (hb hby d1_192) rfl (XS.iinc X81.here hx rfl (hb hby d1_194) rfl (l' := #[.val (.ref oa), .val (.ref ob), .val (.int (0 : Int32)), .val (.int (64 : Int32)), .val (.int (1 : Int32)), .val (.ref b81), .val (.int (0 : Int32))]) rfl (XS.iload X81.here hx rfl (hb hby d1_197) rfl k)))) ?_
  show ownEnds _ _ _ _ (T81.setTop (mkF m 199 #[.val (.ref oa), .val (.ref ob), .val (.int (0 : Int32)), .val (.int (64 : Int32)), .val (.int (1 : Int32)), .val (.ref b81), .val (.int (0 : Int32))] [(.int (0 : Int32)), (.int (0 : Int32)), (.ref b81)]))
  obtain ⟨cl90, Ar90, q90, S90, N90, H90, G90⟩ := id V_b81
  obtain ⟨T90, h90, X90, e90, W90, st90⟩ := stI X81 hx hZ e81 Ar90 (j := (0 : Int32)) (inb_of S90 ⟨by decide, by decide⟩) (g := (mkF m 199 #[.val (.ref oa), .val (.ref ob), .val (.int (0 : Int32)), .val (.int (64 : Int32)), .val (.int (1 : Int32)), .val (.ref b81), .val (.int (0 : Int32))] [(.int (0 : Int32)), (.int (0 : Int32)), (.ref b81)])) rfl rfl (hb hby d1_199)
  refine ownEnds.law st90 ?_
  have V90 : Arv Z h90 b81 k81 .int (3 : Int32) [(.int (0 : Int32)), (.int (0 : Int32)), (.int (0 : Int32))] (.int (0 : Int32)) := Arv.set Ar90 q90 S90 N90 H90 G90 rfl W90 0 rfl (Nat.le_of_ble_eq_true rfl)
  have N90 := Fr.snoc X90 N78 g_b81
  have KK90 : Keep h0 h90 [oa] := (KK81).wr W90 (Or.inr sz_b81)
  have Z90 : n0 ≤ h90.size := by rw [W90.size]; exact Z81
  show ownEnds _ _ _ _ (T90.setTop (mkF m 200 #[.val (.ref oa), .val (.ref ob), .val (.int (0 : Int32)), .val (.int (64 : Int32)), .val (.int (1 : Int32)), .val (.ref b81), .val (.int (0 : Int32))] []))
  refine ownEnds.law (fun t k => XS.iinc X90.here hx rfl (hb hby d1_200) rfl (l' := #[.val (.ref oa), .val (.ref ob), .val (.int (0 : Int32)), .val (.int (64 : Int32)), .val (.int (1 : Int32)), .val (.ref b81), .val (.int (1 : Int32))]) rfl (XS.goto X90.here hx rfl (pc0 := 203) (pc' := 146) rfl (hb hby d1_203) (by decide) (by decide) (XS.iload X90.here hx rfl (hb hby d1_146) rfl (XS.aloadN X90.here hx rfl (hb hby d1_148) rfl rfl k)))) ?_
  show ownEnds _ _ _ _ (T90.setTop (mkF m 149 #[.val (.ref oa), .val (.ref ob), .val (.int (0 : Int32)), .val (.int (64 : Int32)), .val (.int (1 : Int32)), .val (.ref b81), .val (.int (1 : Int32))] [(.ref ob), (.int (1 : Int32))]))
  have f92 := (Arv.other f89 W90 ne_ob_b81)
  obtain ⟨cl91, Ar91, -, S91, N91, -, -⟩ := id f92
  refine ownEnds.law (X90.arraylength hx (by rw [e90]; exact Ar91.1) (State.isArrayOf_alike hZ.alike Ar91.2.1) (g := (mkF m 149 #[.val (.ref oa), .val (.ref ob), .val (.int (0 : Int32)), .val (.int (64 : Int32)), .val (.int (1 : Int32)), .val (.ref b81), .val (.int (1 : Int32))] [(.ref ob), (.int (1 : Int32))])) rfl rfl (hb hby d1_149)) ?_
  rw [len_of S91 N91]
  show ownEnds _ _ _ _ (T90.setTop (mkF m 150 #[.val (.ref oa), .val (.ref ob), .val (.int (0 : Int32)), .val (.int (64 : Int32)), .val (.int (1 : Int32)), .val (.ref b81), .val (.int (1 : Int32))] [(.int (2 : Int32)), (.int (1 : Int32))]))
  refine ownEnds.law (fun t => XS.icmpNo X90.here hx rfl (hb hby d1_150) rfl (tlt (by decide : (1 : Int32) < (2 : Int32))).2.1) ?_
  show ownEnds _ _ _ _ (T90.setTop (mkF m 153 #[.val (.ref oa), .val (.ref ob), .val (.int (0 : Int32)), .val (.int (64 : Int32)), .val (.int (1 : Int32)), .val (.ref b81), .val (.int (1 : Int32))] []))
  refine ownEnds.law (fun t k => XS.iload X90.here hx rfl (hb hby d1_153) rfl k) ?_
  show ownEnds _ _ _ _ (T90.setTop (mkF m 155 #[.val (.ref oa), .val (.ref ob), .val (.int (0 : Int32)), .val (.int (64 : Int32)), .val (.int (1 : Int32)), .val (.ref b81), .val (.int (1 : Int32))] [(.int (1 : Int32))]))
  refine ownEnds.law (fun t => XS.ifNo X90.here hx rfl (hb hby d1_155) rfl ((if0 _ _).trans (feq (by decide : ¬ ((1 : Int32) = (0 : Int32)))).1)) ?_
  show ownEnds _ _ _ _ (T90.setTop (mkF m 158 #[.val (.ref oa), .val (.ref ob), .val (.int (0 : Int32)), .val (.int (64 : Int32)), .val (.int (1 : Int32)), .val (.ref b81), .val (.int (1 : Int32))] []))
  refine ownEnds.law (fun t k => XS.aloadN X90.here hx rfl (hb hby d1_158) rfl rfl k) ?_
  show ownEnds _ _ _ _ (T90.setTop (mkF m 159 #[.val (.ref oa), .val (.ref ob), .val (.int (0 : Int32)), .val (.int (64 : Int32)), .val (.int (1 : Int32)), .val (.ref b81), .val (.int (1 : Int32))] [(.ref oa)]))
  have f93 := (Fld.other W90 (Fld.ext E81 (Fld.other W78 (Fld.other W70 (Fld.other W64 (Fld.other W60 f58 (Or.inl ne_oa_b9)) (Or.inl ne_oa_b18)) (Or.inl ne_oa_b28)) (Or.inr (slot_ne (Or.inr (wd_25 hw)) (Or.inr (wd_32 hw)) (by decide) (t := (.array .int)) (t' := .int) (by decide) (by decide))))) (Or.inl ne_oa_b81))
  obtain ⟨T94, X94, e94, st94⟩ := getF X90 hx hZ hown (host := "") (Or.inl (wd_24 hw)) Via.refl e90 f93 (g := (mkF m 159 #[.val (.ref oa), .val (.ref ob), .val (.int (0 : Int32)), .val (.int (64 : Int32)), .val (.int (1 : Int32)), .val (.ref b81), .val (.int (1 : Int32))] [(.ref oa)])) rfl rfl (hb hby d1_159)
  refine ownEnds.law st94 ?_
  show ownEnds _ _ _ _ (T94.setTop (mkF m 162 #[.val (.ref oa), .val (.ref ob), .val (.int (0 : Int32)), .val (.int (64 : Int32)), .val (.int (1 : Int32)), .val (.ref b81), .val (.int (1 : Int32))] [(.ref b9)]))
  refine ownEnds.law (fun t k => XS.iload X94.here hx rfl (hb hby d1_162) rfl k) ?_
  show ownEnds _ _ _ _ (T94.setTop (mkF m 164 #[.val (.ref oa), .val (.ref ob), .val (.int (0 : Int32)), .val (.int (64 : Int32)), .val (.int (1 : Int32)), .val (.ref b81), .val (.int (1 : Int32))] [(.int (1 : Int32)), (.ref b9)]))
  have f96 := (Arv.other (Arv.ext f85 E81) W90 ne_b9_b81)
  obtain ⟨cl95, Ar95, q95, S95, N95, H95, G95⟩ := id f96
  have hi95 := inb_of (j := (1 : Int32)) S95 ⟨by decide, by decide⟩
  have hv95 : cl95.slots[((1 : Int32)).toNatClampNeg]? = some (.int (0 : Int32)) := H95.at hi95 rfl
  refine ownEnds.law (fun t k => X94.iaload hx (j := (1 : Int32)) (v := (.int (0 : Int32))) (by rw [e94]; exact Ar95.1) (State.isArrayOf_alike hZ.alike Ar95.2.1) Ar95.2.2 hi95 hv95 (g := (mkF m 164 #[.val (.ref oa), .val (.ref ob), .val (.int (0 : Int32)), .val (.int (64 : Int32)), .val (.int (1 : Int32)), .val (.ref b81), .val (.int (1 : Int32))] [(.int (1 : Int32)), (.ref b9)])) rfl rfl (hb hby d1_164) _ (XS.aloadN X94.here hx rfl (hb hby d1_165) rfl rfl k)) ?_
  show ownEnds _ _ _ _ (T94.setTop (mkF m 166 #[.val (.ref oa), .val (.ref ob), .val (.int (0 : Int32)), .val (.int (64 : Int32)), .val (.int (1 : Int32)), .val (.ref b81), .val (.int (1 : Int32))] [(.ref oa), (.int (0 : Int32))]))
  obtain ⟨T97, X97, e97, st97⟩ := getF X94 hx hZ hown (host := "") (Or.inl (wd_24 hw)) Via.refl e94 f93 (g := (mkF m 166 #[.val (.ref oa), .val (.ref ob), .val (.int (0 : Int32)), .val (.int (64 : Int32)), .val (.int (1 : Int32)), .val (.ref b81), .val (.int (1 : Int32))] [(.ref oa), (.int (0 : Int32))])) rfl rfl (hb hby d1_166)
  refine ownEnds.law st97 ?_
  show ownEnds _ _ _ _ (T97.setTop (mkF m 169 #[.val (.ref oa), .val (.ref ob), .val (.int (0 : Int32)), .val (.int (64 : Int32)), .val (.int (1 : Int32)), .val (.ref b81), .val (.int (1 : Int32))] [(.ref b9), (.int (0 : Int32))]))
  refine ownEnds.law (fun t k => XS.iload X97.here hx rfl (hb hby d1_169) rfl (XS.iconst X97.here hx rfl (hb hby d1_171) (XS.isub X97.here hx rfl (hb hby d1_172) rfl k))) ?_
  show ownEnds _ _ _ _ (T97.setTop (mkF m 173 #[.val (.ref oa), .val (.ref ob), .val (.int (0 : Int32)), .val (.int (64 : Int32)), .val (.int (1 : Int32)), .val (.ref b81), .val (.int (1 : Int32))] [(.int (0 : Int32)), (.ref b9), (.int (0 : Int32))]))
  obtain ⟨cl98, Ar98, q98, S98, N98, H98, G98⟩ := id f96
  have hi98 := inb_of (j := (0 : Int32)) S98 ⟨by decide, by decide⟩
  have hv98 : cl98.slots[((0 : Int32)).toNatClampNeg]? = some (.int (0 : Int32)) := H98.at hi98 rfl
  refine ownEnds.law (fun t k => X97.iaload hx (j := (0 : Int32)) (v := (.int (0 : Int32))) (by rw [e97]; exact Ar98.1) (State.isArrayOf_alike hZ.alike Ar98.2.1) Ar98.2.2 hi98 hv98 (g := (mkF m 173 #[.val (.ref oa), .val (.ref ob), .val (.int (0 : Int32)), .val (.int (64 : Int32)), .val (.int (1 : Int32)), .val (.ref b81), .val (.int (1 : Int32))] [(.int (0 : Int32)), (.ref b9), (.int (0 : Int32))])) rfl rfl (hb hby d1_173) _ k) ?_
  show ownEnds _ _ _ _ (T97.setTop (mkF m 174 #[.val (.ref oa), .val (.ref ob), .val (.int (0 : Int32)), .val (.int (64 : Int32)), .val (.int (1 : Int32)), .val (.ref b81), .val (.int (1 : Int32))] [(.int (0 : Int32)), (.int (0 : Int32))]))
  refine ownEnds.law (fun t => XS.icmpNo X97.here hx rfl (hb hby d1_174) rfl (teq (rfl : (0 : Int32) = (0 : Int32))).2) ?_
  show ownEnds _ _ _ _ (T97.setTop (mkF m 177 #[.val (.ref oa), .val (.ref ob), .val (.int (0 : Int32)), .val (.int (64 : Int32)), .val (.int (1 : Int32)), .val (.ref b81), .val (.int (1 : Int32))] []))
  refine ownEnds.law (fun t k => XS.aloadN X97.here hx rfl (hb hby d1_177) rfl rfl (XS.iload X97.here hx rfl (hb hby d1_178) rfl k)) ?_
  show ownEnds _ _ _ _ (T97.setTop (mkF m 180 #[.val (.ref oa), .val (.ref ob), .val (.int (0 : Int32)), .val (.int (64 : Int32)), .val (.int (1 : Int32)), .val (.ref b81), .val (.int (1 : Int32))] [(.int (1 : Int32)), (.ref ob)]))
  obtain ⟨cl99, Ar99, q99, S99, N99, H99, G99⟩ := id f92
  have hi99 := inb_of (j := (1 : Int32)) S99 ⟨by decide, by decide⟩
  have hv99 : cl99.slots[((1 : Int32)).toNatClampNeg]? = some (.int (32 : Int32)) := H99.at hi99 rfl
  refine ownEnds.law (fun t k => X97.iaload hx (j := (1 : Int32)) (v := (.int (32 : Int32))) (by rw [e97]; exact Ar99.1) (State.isArrayOf_alike hZ.alike Ar99.2.1) Ar99.2.2 hi99 hv99 (g := (mkF m 180 #[.val (.ref oa), .val (.ref ob), .val (.int (0 : Int32)), .val (.int (64 : Int32)), .val (.int (1 : Int32)), .val (.ref b81), .val (.int (1 : Int32))] [(.int (1 : Int32)), (.ref ob)])) rfl rfl (hb hby d1_180) _ (XS.aloadN X97.here hx rfl (hb hby d1_181) rfl rfl (XS.iload X97.here hx rfl (hb hby d1_182) rfl (XS.iconst X97.here hx rfl (hb hby d1_184) (XS.isub X97.here hx rfl (hb hby d1_185) rfl k))))) ?_
  show ownEnds _ _ _ _ (T97.setTop (mkF m 186 #[.val (.ref oa), .val (.ref ob), .val (.int (0 : Int32)), .val (.int (64 : Int32)), .val (.int (1 : Int32)), .val (.ref b81), .val (.int (1 : Int32))] [(.int (0 : Int32)), (.ref ob), (.int (32 : Int32))]))
  obtain ⟨cl100, Ar100, q100, S100, N100, H100, G100⟩ := id f92
  have hi100 := inb_of (j := (0 : Int32)) S100 ⟨by decide, by decide⟩
  have hv100 : cl100.slots[((0 : Int32)).toNatClampNeg]? = some (.int (32 : Int32)) := H100.at hi100 rfl
  refine ownEnds.law (fun t k => X97.iaload hx (j := (0 : Int32)) (v := (.int (32 : Int32))) (by rw [e97]; exact Ar100.1) (State.isArrayOf_alike hZ.alike Ar100.2.1) Ar100.2.2 hi100 hv100 (g := (mkF m 186 #[.val (.ref oa), .val (.ref ob), .val (.int (0 : Int32)), .val (.int (64 : Int32)), .val (.int (1 : Int32)), .val (.ref b81), .val (.int (1 : Int32))] [(.int (0 : Int32)), (.ref ob), (.int (32 : Int32))])) rfl rfl (hb hby d1_186) _ k) ?_
  show ownEnds _ _ _ _ (T97.setTop (mkF m 187 #[.val (.ref oa), .val (.ref ob), .val (.int (0 : Int32)), .val (.int (64 : Int32)), .val (.int (1 : Int32)), .val (.ref b81), .val (.int (1 : Int32))] [(.int (32 : Int32)), (.int (32 : Int32))]))
  refine ownEnds.law (fun t => XS.icmpYes X97.here hx rfl (pc0 := 187) (pc' := 200) rfl (hb hby d1_187) rfl (teq (rfl : (32 : Int32) = (32 : Int32))).1 (by decide) (by decide)) ?_
  show ownEnds _ _ _ _ (T97.setTop (mkF m 200 #[.val (.ref oa), .val (.ref ob), .val (.int (0 : Int32)), .val (.int (64 : Int32)), .val (.int (1 : Int32)), .val (.ref b81), .val (.int (1 : Int32))] []))
  refine ownEnds.law (fun t k => XS.iinc X97.here hx rfl (hb hby d1_200) rfl (l' := #[.val (.ref oa), .val (.ref ob), .val (.int (0 : Int32)), .val (.int (64 : Int32)), .val (.int (1 : Int32)), .val (.ref b81), .val (.int (2 : Int32))]) rfl (XS.goto X97.here hx rfl (pc0 := 203) (pc' := 146) rfl (hb hby d1_203) (by decide) (by decide) (XS.iload X97.here hx rfl (hb hby d1_146) rfl (XS.aloadN X97.here hx rfl (hb hby d1_148) rfl rfl k)))) ?_
  show ownEnds _ _ _ _ (T97.setTop (mkF m 149 #[.val (.ref oa), .val (.ref ob), .val (.int (0 : Int32)), .val (.int (64 : Int32)), .val (.int (1 : Int32)), .val (.ref b81), .val (.int (2 : Int32))] [(.ref ob), (.int (2 : Int32))]))
  obtain ⟨cl101, Ar101, -, S101, N101, -, -⟩ := id f92
  refine ownEnds.law (X97.arraylength hx (by rw [e97]; exact Ar101.1) (State.isArrayOf_alike hZ.alike Ar101.2.1) (g := (mkF m 149 #[.val (.ref oa), .val (.ref ob), .val (.int (0 : Int32)), .val (.int (64 : Int32)), .val (.int (1 : Int32)), .val (.ref b81), .val (.int (2 : Int32))] [(.ref ob), (.int (2 : Int32))])) rfl rfl (hb hby d1_149)) ?_
  rw [len_of S101 N101]
  show ownEnds _ _ _ _ (T97.setTop (mkF m 150 #[.val (.ref oa), .val (.ref ob), .val (.int (0 : Int32)), .val (.int (64 : Int32)), .val (.int (1 : Int32)), .val (.ref b81), .val (.int (2 : Int32))] [(.int (2 : Int32)), (.int (2 : Int32))]))
  refine ownEnds.law (fun t => XS.icmpYes X97.here hx rfl (pc0 := 150) (pc' := 206) rfl (hb hby d1_150) rfl (flt (Int32.lt_irrefl)).2.1 (by decide) (by decide)) ?_
  show ownEnds _ _ _ _ (T97.setTop (mkF m 206 #[.val (.ref oa), .val (.ref ob), .val (.int (0 : Int32)), .val (.int (64 : Int32)), .val (.int (1 : Int32)), .val (.ref b81), .val (.int (2 : Int32))] []))
  refine ownEnds.law (fun t k => XS.aload X97.here hx rfl (hb hby d1_206) rfl rfl (XS.iload X97.here hx rfl (hb hby d1_208) rfl (XS.iinc X97.here hx rfl (hb hby d1_210) rfl (l' := #[.val (.ref oa), .val (.ref ob), .val (.int (0 : Int32)), .val (.int (64 : Int32)), .val (.int (2 : Int32)), .val (.ref b81), .val (.int (2 : Int32))]) rfl (XS.aloadN X97.here hx rfl (hb hby d1_213) rfl rfl k)))) ?_
  show ownEnds _ _ _ _ (T97.setTop (mkF m 214 #[.val (.ref oa), .val (.ref ob), .val (.int (0 : Int32)), .val (.int (64 : Int32)), .val (.int (2 : Int32)), .val (.ref b81), .val (.int (2 : Int32))] [(.ref ob), (.int (1 : Int32)), (.ref b81)]))
  obtain ⟨cl102, Ar102, -, S102, N102, -, -⟩ := id f92
  refine ownEnds.law (X97.arraylength hx (by rw [e97]; exact Ar102.1) (State.isArrayOf_alike hZ.alike Ar102.2.1) (g := (mkF m 214 #[.val (.ref oa), .val (.ref ob), .val (.int (0 : Int32)), .val (.int (64 : Int32)), .val (.int (2 : Int32)), .val (.ref b81), .val (.int (2 : Int32))] [(.ref ob), (.int (1 : Int32)), (.ref b81)])) rfl rfl (hb hby d1_214)) ?_
  rw [len_of S102 N102]
  show ownEnds _ _ _ _ (T97.setTop (mkF m 215 #[.val (.ref oa), .val (.ref ob), .val (.int (0 : Int32)), .val (.int (64 : Int32)), .val (.int (2 : Int32)), .val (.ref b81), .val (.int (2 : Int32))] [(.int (2 : Int32)), (.int (1 : Int32)), (.ref b81)]))
  obtain ⟨cl103, Ar103, q103, S103, N103, H103, G103⟩ := id V90
  obtain ⟨T103, h103, X103, e103, W103, st103⟩ := stI X97 hx hZ e97 Ar103 (j := (1 : Int32)) (inb_of S103 ⟨by decide, by decide⟩) (g := (mkF m 215 #[.val (.ref oa), .val (.ref ob), .val (.int (0 : Int32)), .val (.int (64 : Int32)), .val (.int (2 : Int32)), .val (.ref b81), .val (.int (2 : Int32))] [(.int (2 : Int32)), (.int (1 : Int32)), (.ref b81)])) rfl rfl (hb hby d1_215)
  refine ownEnds.law st103 ?_
  have V103 : Arv Z h103 b81 k81 .int (3 : Int32) [(.int (0 : Int32)), (.int (2 : Int32)), (.int (0 : Int32))] (.int (0 : Int32)) := Arv.set Ar103 q103 S103 N103 H103 G103 rfl W103 1 rfl (Nat.le_of_ble_eq_true rfl)
  have N103 := Fr.snoc X103 N90 g_b81
  have KK103 : Keep h0 h103 [oa] := (KK90).wr W103 (Or.inr sz_b81)
  have Z103 : n0 ≤ h103.size := by rw [W103.size]; exact Z90
  show ownEnds _ _ _ _ (T103.setTop (mkF m 216 #[.val (.ref oa), .val (.ref ob), .val (.int (0 : Int32)), .val (.int (64 : Int32)), .val (.int (2 : Int32)), .val (.ref b81), .val (.int (2 : Int32))] []))
  refine ownEnds.law (fun t k => XS.aloadN X103.here hx rfl (hb hby d1_216) rfl rfl (XS.aload X103.here hx rfl (hb hby d1_217) rfl rfl (XS.iload X103.here hx rfl (hb hby d1_219) rfl k))) ?_
  show ownEnds _ _ _ _ (T103.setTop (mkF m 221 #[.val (.ref oa), .val (.ref ob), .val (.int (0 : Int32)), .val (.int (64 : Int32)), .val (.int (2 : Int32)), .val (.ref b81), .val (.int (2 : Int32))] [(.int (2 : Int32)), (.ref b81), (.ref oa)]))
  have f105 := (Exa.wr W103 (Exa.wr W90 Ax81))
  obtain ⟨v104, T104, L104, X104, hQ104, st104⟩ := ownCallS X103 hx hZ hown (y := (⟨"java/util/Arrays", "copyOf", "([II)[I"⟩ : MethodName)) (as := [(.ref b81), (.int (2 : Int32))]) (wd_33 hw) (wd_34 hw) (wd_35 hw) (wd_36 hw) (by decide) (rm3_3_2 l Z a0 hw b81 k81 (.int (0 : Int32)) (.int (2 : Int32)) (.int (0 : Int32)) h103 n0 Z103 V103 f105) e103 1 (by decide) (by decide) (by decide) (by decide) (g := (mkF m 221 #[.val (.ref oa), .val (.ref ob), .val (.int (0 : Int32)), .val (.int (64 : Int32)), .val (.int (2 : Int32)), .val (.ref b81), .val (.int (2 : Int32))] [(.int (2 : Int32)), (.ref b81), (.ref oa)])) rfl (by rw [hml]; rfl) (rest := [(.ref oa)]) pd_1 rfl rfl (by show 2 * 0 + _ ≤ _; exact Nat.le_of_eq rfl) (hb hby d1_221)
  obtain ⟨b104, rfl, Nq104, Kq104, g_b104, zq104⟩ := hQ104
  have N104 := Fr.app N103 Nq104
  have KK104 : Keep h0 T104.heap [oa] := Keep.trans (KK103) Kq104 all0
  have Z104 : n0 ≤ T104.heap.size := Nat.le_trans Z103 Kq104.1
  refine ownEnds.law st104 ?_
  show ownEnds _ _ _ _ (T104.setTop (mkF m 224 #[.val (.ref oa), .val (.ref ob), .val (.int (0 : Int32)), .val (.int (64 : Int32)), .val (.int (2 : Int32)), .val (.ref b81), .val (.int (2 : Int32))] [(.ref b104), (.ref oa)]))
  have f106 := (Exa.keep (Exa.wr W103 (Exa.wr W90 (Exa.ext E81 f82))) Kq104)
  have f107 := (Fld.keep (Fld.other W103 (Fld.other W90 (Fld.ext E81 (Fld.other W78 (Fld.other W70 (Fld.other W64 (Fld.other W60 (Fld.other W52 (Fld.other W46 (Fld.other W42 (Fld.other W36 (Fld.ext E28 (Fld.other W25 (Fld.ext E18 (Fld.other W15 (Fld.ext E9 (Fld.other W6 (Fld.ext E2 F_oa_runs) (Or.inr (slot_ne (Or.inr (wd_40 hw)) (Or.inr (wd_23 hw)) (by decide) (t := (.array .int)) (t' := (.array .int)) (by decide) (by decide))))) (Or.inr (slot_ne (Or.inr (wd_40 hw)) (Or.inr (wd_25 hw)) (by decide) (t := (.array .int)) (t' := (.array .int)) (by decide) (by decide))))) (Or.inr (slot_ne (Or.inr (wd_40 hw)) (Or.inr (wd_27 hw)) (by decide) (t := (.array .int)) (t' := (.array .int)) (by decide) (by decide))))) (Or.inr (slot_ne (Or.inr (wd_40 hw)) (Or.inr (wd_30 hw)) (by decide) (t := (.array .int)) (t' := (.array .long)) (by decide) (by decide)))) (Or.inl ne_oa_b9)) (Or.inl ne_oa_b18)) (Or.inl ne_oa_b28)) (Or.inl ne_oa_b9)) (Or.inl ne_oa_b18)) (Or.inl ne_oa_b28)) (Or.inr (slot_ne (Or.inr (wd_40 hw)) (Or.inr (wd_32 hw)) (by decide) (t := (.array .int)) (t' := .int) (by decide) (by decide))))) (Or.inl ne_oa_b81)) (Or.inl ne_oa_b81)) Kq104 nin0)
  obtain ⟨T108, h108, X108, e108, W108, st108⟩ := putF X104 hx hZ hown (host := "") (Or.inl (wd_39 hw)) Via.refl rfl f107 f106 (Or.inr ⟨(wd_40 hw), rfl, hnm⟩) (wd_5 hw) (ty := (.array .int)) (by decide) rfl rfl (g := (mkF m 224 #[.val (.ref oa), .val (.ref ob), .val (.int (0 : Int32)), .val (.int (64 : Int32)), .val (.int (2 : Int32)), .val (.ref b81), .val (.int (2 : Int32))] [(.ref b104), (.ref oa)])) rfl rfl (hb hby d1_224)
  refine ownEnds.law st108 ?_
  have N108 := Fr.snoc X108 N104 g_oa
  have KK108 : Keep h0 h108 [oa] := (KK104).wr W108 (Or.inl (List.mem_of_getElem? (i := 0) rfl))
  have Z108 : n0 ≤ h108.size := by rw [W108.size]; exact Z104
  have Fw108 : Fld Z h108 oa "com/example/libreach/libreach/engine/StateLayout" "runs" "[I" (.ref b104) := Fld.same W108 f107
  show ownEnds _ _ _ _ (T108.setTop (mkF m 227 #[.val (.ref oa), .val (.ref ob), .val (.int (0 : Int32)), .val (.int (64 : Int32)), .val (.int (2 : Int32)), .val (.ref b81), .val (.int (2 : Int32))] []))
  refine ownRetV X108 hlk hx hret (hb hby d1_227) (by decide) (by decide) ?_
  have f109 := (Exa.wr W108 f106)
  have f110 := (Fld.other W108 (Fld.keep (Fld.other W103 (Fld.other W90 (Fld.ext E81 Fw78) (Or.inl ne_oa_b81)) (Or.inl ne_oa_b81)) Kq104 nin0) (Or.inr (slot_ne (Or.inr (wd_32 hw)) (Or.inr (wd_40 hw)) (by decide) (t := .int) (t' := (.array .int)) (by decide) (by decide))))
  rw [e108]
  exact ⟨rfl, N108, KK108, f109, f110⟩
set_option maxRecDepth 65536 in
set_option maxHeartbeats 40000000 in
theorem rm1_2 (l : Launch) (Z : State) (a0 : Array Value) (hw : ∀ d ∈ tables_1, d.before a0 Z = true) (oa : Addr) (ob : Addr)  (k_ob : ClassId) (h0 : Heap) (n0 : Nat) (Z0 : n0 ≤ h0.size) (E_oa : Exa Z h0 oa "com/example/libreach/libreach/engine/StateLayout") (g_oa : n0 ≤ oa) (F_oa_widths : Fld Z h0 oa "com/example/libreach/libreach/engine/StateLayout" "widths" "[I" .null) (F_oa_word : Fld Z h0 oa "com/example/libreach/libreach/engine/StateLayout" "word" "[I" .null) (F_oa_shift : Fld Z h0 oa "com/example/libreach/libreach/engine/StateLayout" "shift" "[I" .null) (F_oa_largest : Fld Z h0 oa "com/example/libreach/libreach/engine/StateLayout" "largest" "[J" .null) (F_oa_words : Fld Z h0 oa "com/example/libreach/libreach/engine/StateLayout" "words" "I" (.int (0 : Int32))) (F_oa_runs : Fld Z h0 oa "com/example/libreach/libreach/engine/StateLayout" "runs" "[I" .null) (E_ob : Exa Z h0 ob "[I") (V_ob : Arv Z h0 ob k_ob .int (2 : Int32) [(.int (63 : Int32)), (.int (63 : Int32))] (.int (0 : Int32))) :
    ownMet l Z (⟨"com/example/libreach/libreach/engine/StateLayout", "<init>", "([I)V"⟩ : MethodName) prog_17_method_1_code 7 none [] ({ frames := 2, cells := 6, slots := 16, locals := 60 } : Room) #[(.ref oa), (.ref ob)] h0 (fun v h L => v = none ∧ Fr n0 L ∧ Keep h0 h [oa] ∧ Exa Z h oa "com/example/libreach/libreach/engine/StateLayout" ∧ Fld Z h oa "com/example/libreach/libreach/engine/StateLayout" "words" "I" (.int (2 : Int32))) := by
  refine ownMet.of (plainFor_of_name pn_1) ?_
  intro p e s m below meth c T0 hx hby hml hZ hown hnm hret hlk X0 e0
  refine ownEnds.cast (ef_rm1_2 m oa ob) ?_
  have ne_oa_ob : oa ≠ ob := ne_exa E_oa E_ob (by decide)
  show ownEnds _ _ _ _ (T0.setTop (mkF m 0 #[.val (.ref oa), .val (.ref ob), .unset, .unset, .unset, .unset, .unset] []))
  refine ownEnds.law (fun t k => XS.aloadN X0.here hx rfl (hb hby d1_0) rfl rfl k) ?_
  show ownEnds _ _ _ _ (T0.setTop (mkF m 1 #[.val (.ref oa), .val (.ref ob), .unset, .unset, .unset, .unset, .unset] [(.ref oa)]))
  obtain ⟨T1, X1, e1, st1⟩ := initO X0 hx hZ hown (wd_10 hw) (wd_11 hw) (wd_12 hw) e0 (g := (mkF m 1 #[.val (.ref oa), .val (.ref ob), .unset, .unset, .unset, .unset, .unset] [(.ref oa)])) rfl (by rw [hml]; rfl) rfl (hb hby d1_1) (by decide) (W := 0) (by show 2 * 0 + _ ≤ _; exact Nat.le_of_eq rfl) (by decide)
  refine ownEnds.law st1 ?_
  show ownEnds _ _ _ _ (T1.setTop (mkF m 4 #[.val (.ref oa), .val (.ref ob), .unset, .unset, .unset, .unset, .unset] []))
  refine ownEnds.law (fun t k => XS.aloadN X1.here hx rfl (hb hby d1_4) rfl rfl (XS.aloadN X1.here hx rfl (hb hby d1_5) rfl rfl k)) ?_
  show ownEnds _ _ _ _ (T1.setTop (mkF m 6 #[.val (.ref oa), .val (.ref ob), .unset, .unset, .unset, .unset, .unset] [(.ref ob), (.ref oa)]))
  obtain ⟨T2, h2, X2, e2, E2, Vh2, A2, st2⟩ := cloneH X1 hx hZ hown (wd_13 hw) (wd_14 hw) (wd_18 hw) (wd_16 hw) (wd_17 hw) (wd_19 hw) e1 (hs := []) V_ob E_ob (g := (mkF m 6 #[.val (.ref oa), .val (.ref ob), .unset, .unset, .unset, .unset, .unset] [(.ref ob), (.ref oa)])) rfl (by rw [hml]; rfl) rfl (hb hby d1_6) (by decide) (W := 1) (cap := 2) (by show 2 * 0 + _ ≤ _; exact Nat.le_of_eq rfl) (by decide) (by decide) (by decide) (by decide)
  obtain ⟨b2, g2⟩ : ∃ z, z = h0.size := ⟨_, rfl⟩
  rw [← g2] at Vh2 A2 st2
  refine ownEnds.law st2 ?_
  have V_b2 : Arv Z h2 b2 k_ob .int (2 : Int32) [(.int (63 : Int32)), (.int (63 : Int32))] (.int (0 : Int32)) := Vh2
  have ne_oa_b2 : oa ≠ b2 := Nat.ne_of_lt (Nat.lt_of_lt_of_eq E_oa.lt g2.symm)
  have ne_ob_b2 : ob ≠ b2 := Nat.ne_of_lt (Nat.lt_of_lt_of_eq E_ob.lt g2.symm)
  have g_b2 : n0 ≤ b2 := Nat.le_trans Z0 (Nat.le_of_eq g2.symm)
  have sz_b2 : h0.size ≤ b2 := Nat.le_trans (Keep.refl h0 [oa]).1 (Nat.le_of_eq g2.symm)
  have Z2 : n0 ≤ h2.size := Nat.le_trans Z0 E2.1
  have KK2 : Keep h0 h2 [oa] := (Keep.refl h0 [oa]).ext E2
  show ownEnds _ _ _ _ (T2.setTop (mkF m 9 #[.val (.ref oa), .val (.ref ob), .unset, .unset, .unset, .unset, .unset] [(.ref b2), (.ref oa)]))
  obtain ⟨T3, X3, e3, st3⟩ := castY X2 hx hZ hown (wd_20 hw) e2 (Ins.self A2) (g := (mkF m 9 #[.val (.ref oa), .val (.ref ob), .unset, .unset, .unset, .unset, .unset] [(.ref b2), (.ref oa)])) rfl rfl (hb hby d1_9)
  refine ownEnds.law st3 ?_
  show ownEnds _ _ _ _ (T3.setTop (mkF m 12 #[.val (.ref oa), .val (.ref ob), .unset, .unset, .unset, .unset, .unset] [(.ref b2), (.ref oa)]))
  have f4 := (Exa.ext E2 E_oa)
  have f5 := (Fld.ext E2 F_oa_widths)
  obtain ⟨T6, h6, X6, e6, W6, st6⟩ := putF X3 hx hZ hown (host := "") (Or.inl (wd_22 hw)) Via.refl e3 f5 f4 (Or.inr ⟨(wd_23 hw), rfl, hnm⟩) (wd_5 hw) (ty := (.array .int)) (by decide) rfl rfl (g := (mkF m 12 #[.val (.ref oa), .val (.ref ob), .unset, .unset, .unset, .unset, .unset] [(.ref b2), (.ref oa)])) rfl rfl (hb hby d1_12)
  refine ownEnds.law st6 ?_
  have N6 := Fr.snoc X6 (Fr.nil n0) g_oa
  have KK6 : Keep h0 h6 [oa] := (KK2).wr W6 (Or.inl (List.mem_of_getElem? (i := 0) rfl))
  have Z6 : n0 ≤ h6.size := by rw [W6.size]; exact Z2
  have Fw6 : Fld Z h6 oa "com/example/libreach/libreach/engine/StateLayout" "widths" "[I" (.ref b2) := Fld.same W6 f5
  show ownEnds _ _ _ _ (T6.setTop (mkF m 15 #[.val (.ref oa), .val (.ref ob), .unset, .unset, .unset, .unset, .unset] []))
  refine ownEnds.law (fun t k => XS.aloadN X6.here hx rfl (hb hby d1_15) rfl rfl (XS.aloadN X6.here hx rfl (hb hby d1_16) rfl rfl k)) ?_
  show ownEnds _ _ _ _ (T6.setTop (mkF m 17 #[.val (.ref oa), .val (.ref ob), .unset, .unset, .unset, .unset, .unset] [(.ref ob), (.ref oa)]))
  have f8 := (Arv.other (Arv.ext V_ob E2) W6 (Ne.symm ne_oa_ob))
  obtain ⟨cl7, Ar7, -, S7, N7, -, -⟩ := id f8
  refine ownEnds.law (X6.arraylength hx (by rw [e6]; exact Ar7.1) (State.isArrayOf_alike hZ.alike Ar7.2.1) (g := (mkF m 17 #[.val (.ref oa), .val (.ref ob), .unset, .unset, .unset, .unset, .unset] [(.ref ob), (.ref oa)])) rfl rfl (hb hby d1_17)) ?_
  rw [len_of S7 N7]
  show ownEnds _ _ _ _ (T6.setTop (mkF m 18 #[.val (.ref oa), .val (.ref ob), .unset, .unset, .unset, .unset, .unset] [(.int (2 : Int32)), (.ref oa)]))
  obtain ⟨T9, h9, k9, X9, e9, E9, A9, Ax9, st9⟩ := newPE X6 hx hZ (aty := .int) (wd_0 hw) e6 (g := (mkF m 18 #[.val (.ref oa), .val (.ref ob), .unset, .unset, .unset, .unset, .unset] [(.int (2 : Int32)), (.ref oa)])) rfl (hb hby d1_18) rfl (by decide) (cap := 2) (by decide) (by decide) (by decide) (by decide) (ad := "[I") (by decide)
  obtain ⟨b9, g9⟩ : ∃ z, z = h6.size := ⟨_, rfl⟩
  rw [← g9] at A9 st9 Ax9
  refine ownEnds.law st9 ?_
  have V_b9 : Arv Z h9 b9 k9 .int (2 : Int32) [(.int (0 : Int32)), (.int (0 : Int32))] (.int (0 : Int32)) := (Arv.new A9 (by decide)).pad (pad_rep [] (.int (0 : Int32)) 2)
  have f10 := (Exa.wr W6 f4)
  have ne_oa_b9 : oa ≠ b9 := Nat.ne_of_lt (Nat.lt_of_lt_of_eq f10.lt g9.symm)
  have f11 := (Exa.wr W6 (Exa.ext E2 E_ob))
  have ne_ob_b9 : ob ≠ b9 := Nat.ne_of_lt (Nat.lt_of_lt_of_eq f11.lt g9.symm)
  have f12 := (Arv.other V_b2 W6 (Ne.symm ne_oa_b2))
  have ne_b2_b9 : b2 ≠ b9 := Nat.ne_of_lt (Nat.lt_of_lt_of_eq f12.lt g9.symm)
  have g_b9 : n0 ≤ b9 := Nat.le_trans Z6 (Nat.le_of_eq g9.symm)
  have sz_b9 : h0.size ≤ b9 := Nat.le_trans (KK6).1 (Nat.le_of_eq g9.symm)
  have Z9 : n0 ≤ h9.size := Nat.le_trans Z6 E9.1
  have KK9 : Keep h0 h9 [oa] := (KK6).ext E9
  show ownEnds _ _ _ _ (T9.setTop (mkF m 20 #[.val (.ref oa), .val (.ref ob), .unset, .unset, .unset, .unset, .unset] [(.ref b9), (.ref oa)]))
  have f13 := (Exa.ext E9 f10)
  have f14 := (Fld.ext E9 (Fld.other W6 (Fld.ext E2 F_oa_word) (Or.inr (slot_ne (Or.inr (wd_25 hw)) (Or.inr (wd_23 hw)) (by decide) (t := (.array .int)) (t' := (.array .int)) (by decide) (by decide)))))
  obtain ⟨T15, h15, X15, e15, W15, st15⟩ := putF X9 hx hZ hown (host := "") (Or.inl (wd_24 hw)) Via.refl e9 f14 f13 (Or.inr ⟨(wd_25 hw), rfl, hnm⟩) (wd_5 hw) (ty := (.array .int)) (by decide) rfl rfl (g := (mkF m 20 #[.val (.ref oa), .val (.ref ob), .unset, .unset, .unset, .unset, .unset] [(.ref b9), (.ref oa)])) rfl rfl (hb hby d1_20)
  refine ownEnds.law st15 ?_
  have N15 := Fr.snoc X15 N6 g_oa
  have KK15 : Keep h0 h15 [oa] := (KK9).wr W15 (Or.inl (List.mem_of_getElem? (i := 0) rfl))
  have Z15 : n0 ≤ h15.size := by rw [W15.size]; exact Z9
  have Fw15 : Fld Z h15 oa "com/example/libreach/libreach/engine/StateLayout" "word" "[I" (.ref b9) := Fld.same W15 f14
  show ownEnds _ _ _ _ (T15.setTop (mkF m 23 #[.val (.ref oa), .val (.ref ob), .unset, .unset, .unset, .unset, .unset] []))
  refine ownEnds.law (fun t k => XS.aloadN X15.here hx rfl (hb hby d1_23) rfl rfl (XS.aloadN X15.here hx rfl (hb hby d1_24) rfl rfl k)) ?_
  show ownEnds _ _ _ _ (T15.setTop (mkF m 25 #[.val (.ref oa), .val (.ref ob), .unset, .unset, .unset, .unset, .unset] [(.ref ob), (.ref oa)]))
  have f17 := (Arv.other (Arv.ext f8 E9) W15 (Ne.symm ne_oa_ob))
  obtain ⟨cl16, Ar16, -, S16, N16, -, -⟩ := id f17
  refine ownEnds.law (X15.arraylength hx (by rw [e15]; exact Ar16.1) (State.isArrayOf_alike hZ.alike Ar16.2.1) (g := (mkF m 25 #[.val (.ref oa), .val (.ref ob), .unset, .unset, .unset, .unset, .unset] [(.ref ob), (.ref oa)])) rfl rfl (hb hby d1_25)) ?_
  rw [len_of S16 N16]
  show ownEnds _ _ _ _ (T15.setTop (mkF m 26 #[.val (.ref oa), .val (.ref ob), .unset, .unset, .unset, .unset, .unset] [(.int (2 : Int32)), (.ref oa)]))
  obtain ⟨T18, h18, k18, X18, e18, E18, A18, Ax18, st18⟩ := newPE X15 hx hZ (aty := .int) (wd_0 hw) e15 (g := (mkF m 26 #[.val (.ref oa), .val (.ref ob), .unset, .unset, .unset, .unset, .unset] [(.int (2 : Int32)), (.ref oa)])) rfl (hb hby d1_26) rfl (by decide) (cap := 2) (by decide) (by decide) (by decide) (by decide) (ad := "[I") (by decide)
  obtain ⟨b18, g18⟩ : ∃ z, z = h15.size := ⟨_, rfl⟩
  rw [← g18] at A18 st18 Ax18
  refine ownEnds.law st18 ?_
  have V_b18 : Arv Z h18 b18 k18 .int (2 : Int32) [(.int (0 : Int32)), (.int (0 : Int32))] (.int (0 : Int32)) := (Arv.new A18 (by decide)).pad (pad_rep [] (.int (0 : Int32)) 2)
  have f19 := (Exa.wr W15 f13)
  have ne_oa_b18 : oa ≠ b18 := Nat.ne_of_lt (Nat.lt_of_lt_of_eq f19.lt g18.symm)
  have f20 := (Exa.wr W15 (Exa.ext E9 f11))
  have ne_ob_b18 : ob ≠ b18 := Nat.ne_of_lt (Nat.lt_of_lt_of_eq f20.lt g18.symm)
  have f21 := (Arv.other (Arv.ext f12 E9) W15 (Ne.symm ne_oa_b2))
  have ne_b2_b18 : b2 ≠ b18 := Nat.ne_of_lt (Nat.lt_of_lt_of_eq f21.lt g18.symm)
  have f22 := (Arv.other V_b9 W15 (Ne.symm ne_oa_b9))
  have ne_b9_b18 : b9 ≠ b18 := Nat.ne_of_lt (Nat.lt_of_lt_of_eq f22.lt g18.symm)
  have g_b18 : n0 ≤ b18 := Nat.le_trans Z15 (Nat.le_of_eq g18.symm)
  have sz_b18 : h0.size ≤ b18 := Nat.le_trans (KK15).1 (Nat.le_of_eq g18.symm)
  have Z18 : n0 ≤ h18.size := Nat.le_trans Z15 E18.1
  have KK18 : Keep h0 h18 [oa] := (KK15).ext E18
  show ownEnds _ _ _ _ (T18.setTop (mkF m 28 #[.val (.ref oa), .val (.ref ob), .unset, .unset, .unset, .unset, .unset] [(.ref b18), (.ref oa)]))
  have f23 := (Exa.ext E18 f19)
  have f24 := (Fld.ext E18 (Fld.other W15 (Fld.ext E9 (Fld.other W6 (Fld.ext E2 F_oa_shift) (Or.inr (slot_ne (Or.inr (wd_27 hw)) (Or.inr (wd_23 hw)) (by decide) (t := (.array .int)) (t' := (.array .int)) (by decide) (by decide))))) (Or.inr (slot_ne (Or.inr (wd_27 hw)) (Or.inr (wd_25 hw)) (by decide) (t := (.array .int)) (t' := (.array .int)) (by decide) (by decide)))))
  obtain ⟨T25, h25, X25, e25, W25, st25⟩ := putF X18 hx hZ hown (host := "") (Or.inl (wd_26 hw)) Via.refl e18 f24 f23 (Or.inr ⟨(wd_27 hw), rfl, hnm⟩) (wd_5 hw) (ty := (.array .int)) (by decide) rfl rfl (g := (mkF m 28 #[.val (.ref oa), .val (.ref ob), .unset, .unset, .unset, .unset, .unset] [(.ref b18), (.ref oa)])) rfl rfl (hb hby d1_28)
  refine ownEnds.law st25 ?_
  have N25 := Fr.snoc X25 N15 g_oa
  have KK25 : Keep h0 h25 [oa] := (KK18).wr W25 (Or.inl (List.mem_of_getElem? (i := 0) rfl))
  have Z25 : n0 ≤ h25.size := by rw [W25.size]; exact Z18
  have Fw25 : Fld Z h25 oa "com/example/libreach/libreach/engine/StateLayout" "shift" "[I" (.ref b18) := Fld.same W25 f24
  show ownEnds _ _ _ _ (T25.setTop (mkF m 31 #[.val (.ref oa), .val (.ref ob), .unset, .unset, .unset, .unset, .unset] []))
  refine ownEnds.law (fun t k => XS.aloadN X25.here hx rfl (hb hby d1_31) rfl rfl (XS.aloadN X25.here hx rfl (hb hby d1_32) rfl rfl k)) ?_
  show ownEnds _ _ _ _ (T25.setTop (mkF m 33 #[.val (.ref oa), .val (.ref ob), .unset, .unset, .unset, .unset, .unset] [(.ref ob), (.ref oa)]))
  have f27 := (Arv.other (Arv.ext f17 E18) W25 (Ne.symm ne_oa_ob))
  obtain ⟨cl26, Ar26, -, S26, N26, -, -⟩ := id f27
  refine ownEnds.law (X25.arraylength hx (by rw [e25]; exact Ar26.1) (State.isArrayOf_alike hZ.alike Ar26.2.1) (g := (mkF m 33 #[.val (.ref oa), .val (.ref ob), .unset, .unset, .unset, .unset, .unset] [(.ref ob), (.ref oa)])) rfl rfl (hb hby d1_33)) ?_
  rw [len_of S26 N26]
  show ownEnds _ _ _ _ (T25.setTop (mkF m 34 #[.val (.ref oa), .val (.ref ob), .unset, .unset, .unset, .unset, .unset] [(.int (2 : Int32)), (.ref oa)]))
  obtain ⟨T28, h28, k28, X28, e28, E28, A28, st28⟩ := newP X25 hx hZ (aty := .long) (wd_28 hw) e25 (g := (mkF m 34 #[.val (.ref oa), .val (.ref ob), .unset, .unset, .unset, .unset, .unset] [(.int (2 : Int32)), (.ref oa)])) rfl (hb hby d1_34) rfl (by decide) (cap := 2) (by decide) (by decide) (by decide) (by decide)
  obtain ⟨b28, g28⟩ : ∃ z, z = h25.size := ⟨_, rfl⟩
  rw [← g28] at A28 st28
  refine ownEnds.law st28 ?_
  have V_b28 : Arv Z h28 b28 k28 .long (2 : Int32) [(.long (0 : Int64)), (.long (0 : Int64))] (.long (0 : Int64)) := (Arv.new A28 (by decide)).pad (pad_rep [] (.long (0 : Int64)) 2)
  have f29 := (Exa.wr W25 f23)
  have ne_oa_b28 : oa ≠ b28 := Nat.ne_of_lt (Nat.lt_of_lt_of_eq f29.lt g28.symm)
  have f30 := (Exa.wr W25 (Exa.ext E18 f20))
  have ne_ob_b28 : ob ≠ b28 := Nat.ne_of_lt (Nat.lt_of_lt_of_eq f30.lt g28.symm)
  have f31 := (Arv.other (Arv.ext f21 E18) W25 (Ne.symm ne_oa_b2))
  have ne_b2_b28 : b2 ≠ b28 := Nat.ne_of_lt (Nat.lt_of_lt_of_eq f31.lt g28.symm)
  have f32 := (Arv.other (Arv.ext f22 E18) W25 (Ne.symm ne_oa_b9))
  have ne_b9_b28 : b9 ≠ b28 := Nat.ne_of_lt (Nat.lt_of_lt_of_eq f32.lt g28.symm)
  have f33 := (Arv.other V_b18 W25 (Ne.symm ne_oa_b18))
  have ne_b18_b28 : b18 ≠ b28 := Nat.ne_of_lt (Nat.lt_of_lt_of_eq f33.lt g28.symm)
  have g_b28 : n0 ≤ b28 := Nat.le_trans Z25 (Nat.le_of_eq g28.symm)
  have sz_b28 : h0.size ≤ b28 := Nat.le_trans (KK25).1 (Nat.le_of_eq g28.symm)
  have Z28 : n0 ≤ h28.size := Nat.le_trans Z25 E28.1
  have KK28 : Keep h0 h28 [oa] := (KK25).ext E28
  show ownEnds _ _ _ _ (T28.setTop (mkF m 36 #[.val (.ref oa), .val (.ref ob), .unset, .unset, .unset, .unset, .unset] [(.ref b28), (.ref oa)]))
  have f34 := (Exa.ext E28 f29)
  have f35 := (Fld.ext E28 (Fld.other W25 (Fld.ext E18 (Fld.other W15 (Fld.ext E9 (Fld.other W6 (Fld.ext E2 F_oa_largest) (Or.inr (slot_ne (Or.inr (wd_30 hw)) (Or.inr (wd_23 hw)) (by decide) (t := (.array .long)) (t' := (.array .int)) (by decide) (by decide))))) (Or.inr (slot_ne (Or.inr (wd_30 hw)) (Or.inr (wd_25 hw)) (by decide) (t := (.array .long)) (t' := (.array .int)) (by decide) (by decide))))) (Or.inr (slot_ne (Or.inr (wd_30 hw)) (Or.inr (wd_27 hw)) (by decide) (t := (.array .long)) (t' := (.array .int)) (by decide) (by decide)))))
  obtain ⟨T36, h36, X36, e36, W36, st36⟩ := putF X28 hx hZ hown (host := "") (Or.inl (wd_29 hw)) Via.refl e28 f35 f34 (Or.inr ⟨(wd_30 hw), rfl, hnm⟩) (wd_5 hw) (ty := (.array .long)) (by decide) rfl rfl (g := (mkF m 36 #[.val (.ref oa), .val (.ref ob), .unset, .unset, .unset, .unset, .unset] [(.ref b28), (.ref oa)])) rfl rfl (hb hby d1_36)
  refine ownEnds.law st36 ?_
  have N36 := Fr.snoc X36 N25 g_oa
  have KK36 : Keep h0 h36 [oa] := (KK28).wr W36 (Or.inl (List.mem_of_getElem? (i := 0) rfl))
  have Z36 : n0 ≤ h36.size := by rw [W36.size]; exact Z28
  have Fw36 : Fld Z h36 oa "com/example/libreach/libreach/engine/StateLayout" "largest" "[J" (.ref b28) := Fld.same W36 f35
  show ownEnds _ _ _ _ (T36.setTop (mkF m 39 #[.val (.ref oa), .val (.ref ob), .unset, .unset, .unset, .unset, .unset] []))
  refine ownEnds.law (fun t k => XS.iconst X36.here hx rfl (hb hby d1_39) (XS.istoreN X36.here hx rfl (hb hby d1_40) rfl (l' := #[.val (.ref oa), .val (.ref ob), .val (.int (0 : Int32)), .unset, .unset, .unset, .unset]) rfl (XS.iconst X36.here hx rfl (hb hby d1_41) (XS.istoreN X36.here hx rfl (hb hby d1_42) rfl (l' := #[.val (.ref oa), .val (.ref ob), .val (.int (0 : Int32)), .val (.int (0 : Int32)), .unset, .unset, .unset]) rfl (XS.iconst X36.here hx rfl (hb hby d1_43) (XS.istore X36.here hx rfl (hb hby d1_44) rfl (l' := #[.val (.ref oa), .val (.ref ob), .val (.int (0 : Int32)), .val (.int (0 : Int32)), .val (.int (0 : Int32)), .unset, .unset]) rfl (XS.iload X36.here hx rfl (hb hby d1_46) rfl (XS.aloadN X36.here hx rfl (hb hby d1_48) rfl rfl k)))))))) ?_
  show ownEnds _ _ _ _ (T36.setTop (mkF m 49 #[.val (.ref oa), .val (.ref ob), .val (.int (0 : Int32)), .val (.int (0 : Int32)), .val (.int (0 : Int32)), .unset, .unset] [(.ref ob), (.int (0 : Int32))]))
  have f38 := (Arv.other (Arv.ext f27 E28) W36 (Ne.symm ne_oa_ob))
  obtain ⟨cl37, Ar37, -, S37, N37, -, -⟩ := id f38
  refine ownEnds.law (X36.arraylength hx (by rw [e36]; exact Ar37.1) (State.isArrayOf_alike hZ.alike Ar37.2.1) (g := (mkF m 49 #[.val (.ref oa), .val (.ref ob), .val (.int (0 : Int32)), .val (.int (0 : Int32)), .val (.int (0 : Int32)), .unset, .unset] [(.ref ob), (.int (0 : Int32))])) rfl rfl (hb hby d1_49)) ?_
  rw [len_of S37 N37]
  show ownEnds _ _ _ _ (T36.setTop (mkF m 50 #[.val (.ref oa), .val (.ref ob), .val (.int (0 : Int32)), .val (.int (0 : Int32)), .val (.int (0 : Int32)), .unset, .unset] [(.int (2 : Int32)), (.int (0 : Int32))]))
  refine ownEnds.law (fun t => XS.icmpNo X36.here hx rfl (hb hby d1_50) rfl (tlt (by decide : (0 : Int32) < (2 : Int32))).2.1) ?_
  show ownEnds _ _ _ _ (T36.setTop (mkF m 53 #[.val (.ref oa), .val (.ref ob), .val (.int (0 : Int32)), .val (.int (0 : Int32)), .val (.int (0 : Int32)), .unset, .unset] []))
  refine ownEnds.law (fun t k => XS.iloadN X36.here hx rfl (hb hby d1_53) rfl (XS.aloadN X36.here hx rfl (hb hby d1_54) rfl rfl (XS.iload X36.here hx rfl (hb hby d1_55) rfl k))) ?_
  show ownEnds _ _ _ _ (T36.setTop (mkF m 57 #[.val (.ref oa), .val (.ref ob), .val (.int (0 : Int32)), .val (.int (0 : Int32)), .val (.int (0 : Int32)), .unset, .unset] [(.int (0 : Int32)), (.ref ob), (.int (0 : Int32))]))
  obtain ⟨cl39, Ar39, q39, S39, N39, H39, G39⟩ := id f38
  have hi39 := inb_of (j := (0 : Int32)) S39 ⟨by decide, by decide⟩
  have hv39 : cl39.slots[((0 : Int32)).toNatClampNeg]? = some (.int (63 : Int32)) := H39.at hi39 rfl
  refine ownEnds.law (fun t k => X36.iaload hx (j := (0 : Int32)) (v := (.int (63 : Int32))) (by rw [e36]; exact Ar39.1) (State.isArrayOf_alike hZ.alike Ar39.2.1) Ar39.2.2 hi39 hv39 (g := (mkF m 57 #[.val (.ref oa), .val (.ref ob), .val (.int (0 : Int32)), .val (.int (0 : Int32)), .val (.int (0 : Int32)), .unset, .unset] [(.int (0 : Int32)), (.ref ob), (.int (0 : Int32))])) rfl rfl (hb hby d1_57) _ (XS.iadd X36.here hx rfl (hb hby d1_58) rfl (XS.bipush X36.here hx rfl (hb hby d1_59) k))) ?_
  show ownEnds _ _ _ _ (T36.setTop (mkF m 61 #[.val (.ref oa), .val (.ref ob), .val (.int (0 : Int32)), .val (.int (0 : Int32)), .val (.int (0 : Int32)), .unset, .unset] [(.int (64 : Int32)), (.int (63 : Int32))]))
  refine ownEnds.law (fun t => XS.icmpYes X36.here hx rfl (pc0 := 61) (pc' := 69) rfl (hb hby d1_61) rfl (flt (by decide : ¬ ((64 : Int32) < (63 : Int32)))).2.2.2 (by decide) (by decide)) ?_
  show ownEnds _ _ _ _ (T36.setTop (mkF m 69 #[.val (.ref oa), .val (.ref ob), .val (.int (0 : Int32)), .val (.int (0 : Int32)), .val (.int (0 : Int32)), .unset, .unset] []))
  refine ownEnds.law (fun t k => XS.aloadN X36.here hx rfl (hb hby d1_69) rfl rfl k) ?_
  show ownEnds _ _ _ _ (T36.setTop (mkF m 70 #[.val (.ref oa), .val (.ref ob), .val (.int (0 : Int32)), .val (.int (0 : Int32)), .val (.int (0 : Int32)), .unset, .unset] [(.ref oa)]))
  have f40 := (Fld.other W36 (Fld.ext E28 (Fld.other W25 (Fld.ext E18 Fw15) (Or.inr (slot_ne (Or.inr (wd_25 hw)) (Or.inr (wd_27 hw)) (by decide) (t := (.array .int)) (t' := (.array .int)) (by decide) (by decide))))) (Or.inr (slot_ne (Or.inr (wd_25 hw)) (Or.inr (wd_30 hw)) (by decide) (t := (.array .int)) (t' := (.array .long)) (by decide) (by decide))))
  obtain ⟨T41, X41, e41, st41⟩ := getF X36 hx hZ hown (host := "") (Or.inl (wd_24 hw)) Via.refl e36 f40 (g := (mkF m 70 #[.val (.ref oa), .val (.ref ob), .val (.int (0 : Int32)), .val (.int (0 : Int32)), .val (.int (0 : Int32)), .unset, .unset] [(.ref oa)])) rfl rfl (hb hby d1_70)
  refine ownEnds.law st41 ?_
  show ownEnds _ _ _ _ (T41.setTop (mkF m 73 #[.val (.ref oa), .val (.ref ob), .val (.int (0 : Int32)), .val (.int (0 : Int32)), .val (.int (0 : Int32)), .unset, .unset] [(.ref b9)]))
  refine ownEnds.law (fun t k => XS.iload X41.here hx rfl (hb hby d1_73) rfl (XS.iloadN X41.here hx rfl (hb hby d1_75) rfl k)) ?_
  show ownEnds _ _ _ _ (T41.setTop (mkF m 76 #[.val (.ref oa), .val (.ref ob), .val (.int (0 : Int32)), .val (.int (0 : Int32)), .val (.int (0 : Int32)), .unset, .unset] [(.int (0 : Int32)), (.int (0 : Int32)), (.ref b9)]))
  have f43 := (Arv.other (Arv.ext f32 E28) W36 (Ne.symm ne_oa_b9))
  obtain ⟨cl42, Ar42, q42, S42, N42, H42, G42⟩ := id f43
  obtain ⟨T42, h42, X42, e42, W42, st42⟩ := stI X41 hx hZ e41 Ar42 (j := (0 : Int32)) (inb_of S42 ⟨by decide, by decide⟩) (g := (mkF m 76 #[.val (.ref oa), .val (.ref ob), .val (.int (0 : Int32)), .val (.int (0 : Int32)), .val (.int (0 : Int32)), .unset, .unset] [(.int (0 : Int32)), (.int (0 : Int32)), (.ref b9)])) rfl rfl (hb hby d1_76)
  refine ownEnds.law st42 ?_
  have V42 : Arv Z h42 b9 k9 .int (2 : Int32) [(.int (0 : Int32)), (.int (0 : Int32))] (.int (0 : Int32)) := Arv.set Ar42 q42 S42 N42 H42 G42 rfl W42 0 rfl (Nat.le_of_ble_eq_true rfl)
  have N42 := Fr.snoc X42 N36 g_b9
  have KK42 : Keep h0 h42 [oa] := (KK36).wr W42 (Or.inr sz_b9)
  have Z42 : n0 ≤ h42.size := by rw [W42.size]; exact Z36
  show ownEnds _ _ _ _ (T42.setTop (mkF m 77 #[.val (.ref oa), .val (.ref ob), .val (.int (0 : Int32)), .val (.int (0 : Int32)), .val (.int (0 : Int32)), .unset, .unset] []))
  refine ownEnds.law (fun t k => XS.aloadN X42.here hx rfl (hb hby d1_77) rfl rfl k) ?_
  show ownEnds _ _ _ _ (T42.setTop (mkF m 78 #[.val (.ref oa), .val (.ref ob), .val (.int (0 : Int32)), .val (.int (0 : Int32)), .val (.int (0 : Int32)), .unset, .unset] [(.ref oa)]))
  have f44 := (Fld.other W42 (Fld.other W36 (Fld.ext E28 Fw25) (Or.inr (slot_ne (Or.inr (wd_27 hw)) (Or.inr (wd_30 hw)) (by decide) (t := (.array .int)) (t' := (.array .long)) (by decide) (by decide)))) (Or.inl ne_oa_b9))
  obtain ⟨T45, X45, e45, st45⟩ := getF X42 hx hZ hown (host := "") (Or.inl (wd_26 hw)) Via.refl e42 f44 (g := (mkF m 78 #[.val (.ref oa), .val (.ref ob), .val (.int (0 : Int32)), .val (.int (0 : Int32)), .val (.int (0 : Int32)), .unset, .unset] [(.ref oa)])) rfl rfl (hb hby d1_78)
  refine ownEnds.law st45 ?_
  show ownEnds _ _ _ _ (T45.setTop (mkF m 81 #[.val (.ref oa), .val (.ref ob), .val (.int (0 : Int32)), .val (.int (0 : Int32)), .val (.int (0 : Int32)), .unset, .unset] [(.ref b18)]))
  refine ownEnds.law (fun t k => XS.iload X45.here hx rfl (hb hby d1_81) rfl (XS.iloadN X45.here hx rfl (hb hby d1_83) rfl k)) ?_
  show ownEnds _ _ _ _ (T45.setTop (mkF m 84 #[.val (.ref oa), .val (.ref ob), .val (.int (0 : Int32)), .val (.int (0 : Int32)), .val (.int (0 : Int32)), .unset, .unset] [(.int (0 : Int32)), (.int (0 : Int32)), (.ref b18)]))
  have f47 := (Arv.other (Arv.other (Arv.ext f33 E28) W36 (Ne.symm ne_oa_b18)) W42 (Ne.symm ne_b9_b18))
  obtain ⟨cl46, Ar46, q46, S46, N46, H46, G46⟩ := id f47
  obtain ⟨T46, h46, X46, e46, W46, st46⟩ := stI X45 hx hZ e45 Ar46 (j := (0 : Int32)) (inb_of S46 ⟨by decide, by decide⟩) (g := (mkF m 84 #[.val (.ref oa), .val (.ref ob), .val (.int (0 : Int32)), .val (.int (0 : Int32)), .val (.int (0 : Int32)), .unset, .unset] [(.int (0 : Int32)), (.int (0 : Int32)), (.ref b18)])) rfl rfl (hb hby d1_84)
  refine ownEnds.law st46 ?_
  have V46 : Arv Z h46 b18 k18 .int (2 : Int32) [(.int (0 : Int32)), (.int (0 : Int32))] (.int (0 : Int32)) := Arv.set Ar46 q46 S46 N46 H46 G46 rfl W46 0 rfl (Nat.le_of_ble_eq_true rfl)
  have N46 := Fr.snoc X46 N42 g_b18
  have KK46 : Keep h0 h46 [oa] := (KK42).wr W46 (Or.inr sz_b18)
  have Z46 : n0 ≤ h46.size := by rw [W46.size]; exact Z42
  show ownEnds _ _ _ _ (T46.setTop (mkF m 85 #[.val (.ref oa), .val (.ref ob), .val (.int (0 : Int32)), .val (.int (0 : Int32)), .val (.int (0 : Int32)), .unset, .unset] []))
  refine ownEnds.law (fun t k => XS.aloadN X46.here hx rfl (hb hby d1_85) rfl rfl k) ?_
  show ownEnds _ _ _ _ (T46.setTop (mkF m 86 #[.val (.ref oa), .val (.ref ob), .val (.int (0 : Int32)), .val (.int (0 : Int32)), .val (.int (0 : Int32)), .unset, .unset] [(.ref oa)]))
  have f48 := (Fld.other W46 (Fld.other W42 Fw36 (Or.inl ne_oa_b9)) (Or.inl ne_oa_b18))
  obtain ⟨T49, X49, e49, st49⟩ := getF X46 hx hZ hown (host := "") (Or.inl (wd_29 hw)) Via.refl e46 f48 (g := (mkF m 86 #[.val (.ref oa), .val (.ref ob), .val (.int (0 : Int32)), .val (.int (0 : Int32)), .val (.int (0 : Int32)), .unset, .unset] [(.ref oa)])) rfl rfl (hb hby d1_86)
  refine ownEnds.law st49 ?_
  show ownEnds _ _ _ _ (T49.setTop (mkF m 89 #[.val (.ref oa), .val (.ref ob), .val (.int (0 : Int32)), .val (.int (0 : Int32)), .val (.int (0 : Int32)), .unset, .unset] [(.ref b28)]))
  refine ownEnds.law (fun t k => XS.iload X49.here hx rfl (hb hby d1_89) rfl (X49.ldc2Long hx hown (mvT hZ (wd_91 hw)) (g := (mkF m 91 #[.val (.ref oa), .val (.ref ob), .val (.int (0 : Int32)), .val (.int (0 : Int32)), .val (.int (0 : Int32)), .unset, .unset] [(.int (0 : Int32)), (.ref b28)])) rfl (hb hby d1_91) _ (XS.bipush X49.here hx rfl (hb hby d1_94) (XS.aloadN X49.here hx rfl (hb hby d1_96) rfl rfl (XS.iload X49.here hx rfl (hb hby d1_97) rfl k))))) ?_
  show ownEnds _ _ _ _ (T49.setTop (mkF m 99 #[.val (.ref oa), .val (.ref ob), .val (.int (0 : Int32)), .val (.int (0 : Int32)), .val (.int (0 : Int32)), .unset, .unset] [(.int (0 : Int32)), (.ref ob), (.int (64 : Int32)), (.long (-1 : Int64)), (.int (0 : Int32)), (.ref b28)]))
  have f51 := (Arv.other (Arv.other f38 W42 ne_ob_b9) W46 ne_ob_b18)
  obtain ⟨cl50, Ar50, q50, S50, N50, H50, G50⟩ := id f51
  have hi50 := inb_of (j := (0 : Int32)) S50 ⟨by decide, by decide⟩
  have hv50 : cl50.slots[((0 : Int32)).toNatClampNeg]? = some (.int (63 : Int32)) := H50.at hi50 rfl
  refine ownEnds.law (fun t k => X49.iaload hx (j := (0 : Int32)) (v := (.int (63 : Int32))) (by rw [e49]; exact Ar50.1) (State.isArrayOf_alike hZ.alike Ar50.2.1) Ar50.2.2 hi50 hv50 (g := (mkF m 99 #[.val (.ref oa), .val (.ref ob), .val (.int (0 : Int32)), .val (.int (0 : Int32)), .val (.int (0 : Int32)), .unset, .unset] [(.int (0 : Int32)), (.ref ob), (.int (64 : Int32)), (.long (-1 : Int64)), (.int (0 : Int32)), (.ref b28)])) rfl rfl (hb hby d1_99) _ (XS.isub X49.here hx rfl (hb hby d1_100) rfl (XS.lushr X49.here hx rfl (hb hby d1_101) rfl k))) ?_
  show ownEnds _ _ _ _ (T49.setTop (mkF m 102 #[.val (.ref oa), .val (.ref ob), .val (.int (0 : Int32)), .val (.int (0 : Int32)), .val (.int (0 : Int32)), .unset, .unset] [(.long (((-1 : Int64).toUInt64 >>> ((1 : Int32) &&& 0x3f).toInt64.toUInt64).toInt64)), (.int (0 : Int32)), (.ref b28)]))
  have f53 := (Arv.other (Arv.other (Arv.other V_b28 W36 (Ne.symm ne_oa_b28)) W42 (Ne.symm ne_b9_b28)) W46 (Ne.symm ne_b18_b28))
  obtain ⟨cl52, Ar52, q52, S52, N52, H52, G52⟩ := id f53
  obtain ⟨T52, h52, X52, e52, W52, st52⟩ := stJ X49 hx hZ e49 Ar52 (j := (0 : Int32)) (inb_of S52 ⟨by decide, by decide⟩) (g := (mkF m 102 #[.val (.ref oa), .val (.ref ob), .val (.int (0 : Int32)), .val (.int (0 : Int32)), .val (.int (0 : Int32)), .unset, .unset] [(.long (((-1 : Int64).toUInt64 >>> ((1 : Int32) &&& 0x3f).toInt64.toUInt64).toInt64)), (.int (0 : Int32)), (.ref b28)])) rfl rfl (hb hby d1_102)
  refine ownEnds.law st52 ?_
  have V52 : Arv Z h52 b28 k28 .long (2 : Int32) [(.long (((-1 : Int64).toUInt64 >>> ((1 : Int32) &&& 0x3f).toInt64.toUInt64).toInt64)), (.long (0 : Int64))] (.long (0 : Int64)) := Arv.set Ar52 q52 S52 N52 H52 G52 rfl W52 0 rfl (Nat.le_of_ble_eq_true rfl)
  have N52 := Fr.snoc X52 N46 g_b28
  have KK52 : Keep h0 h52 [oa] := (KK46).wr W52 (Or.inr sz_b28)
  have Z52 : n0 ≤ h52.size := by rw [W52.size]; exact Z46
  show ownEnds _ _ _ _ (T52.setTop (mkF m 103 #[.val (.ref oa), .val (.ref ob), .val (.int (0 : Int32)), .val (.int (0 : Int32)), .val (.int (0 : Int32)), .unset, .unset] []))
  refine ownEnds.law (fun t k => XS.iloadN X52.here hx rfl (hb hby d1_103) rfl (XS.aloadN X52.here hx rfl (hb hby d1_104) rfl rfl (XS.iload X52.here hx rfl (hb hby d1_105) rfl k))) ?_
  show ownEnds _ _ _ _ (T52.setTop (mkF m 107 #[.val (.ref oa), .val (.ref ob), .val (.int (0 : Int32)), .val (.int (0 : Int32)), .val (.int (0 : Int32)), .unset, .unset] [(.int (0 : Int32)), (.ref ob), (.int (0 : Int32))]))
  have f55 := (Arv.other f51 W52 ne_ob_b28)
  obtain ⟨cl54, Ar54, q54, S54, N54, H54, G54⟩ := id f55
  have hi54 := inb_of (j := (0 : Int32)) S54 ⟨by decide, by decide⟩
  have hv54 : cl54.slots[((0 : Int32)).toNatClampNeg]? = some (.int (63 : Int32)) := H54.at hi54 rfl
  refine ownEnds.law (fun t k => X52.iaload hx (j := (0 : Int32)) (v := (.int (63 : Int32))) (by rw [e52]; exact Ar54.1) (State.isArrayOf_alike hZ.alike Ar54.2.1) Ar54.2.2 hi54 hv54 (g := (mkF m 107 #[.val (.ref oa), .val (.ref ob), .val (.int (0 : Int32)), .val (.int (0 : Int32)), .val (.int (0 : Int32)), .unset, .unset] [(.int (0 : Int32)), (.ref ob), (.int (0 : Int32))])) rfl rfl (hb hby d1_107) _ (XS.iadd X52.here hx rfl (hb hby d1_108) rfl (XS.istoreN X52.here hx rfl (hb hby d1_109) rfl (l' := #[.val (.ref oa), .val (.ref ob), .val (.int (0 : Int32)), .val (.int (63 : Int32)), .val (.int (0 : Int32)), .unset, .unset]) rfl (XS.iinc X52.here hx rfl (hb hby d1_110) rfl (l' := #[.val (.ref oa), .val (.ref ob), .val (.int (0 : Int32)), .val (.int (63 : Int32)), .val (.int (1 : Int32)), .unset, .unset]) rfl (XS.goto X52.here hx rfl (pc0 := 113) (pc' := 46) rfl (hb hby d1_113) (by decide) (by decide) (XS.iload X52.here hx rfl (hb hby d1_46) rfl (XS.aloadN X52.here hx rfl (hb hby d1_48) rfl rfl k))))))) ?_
  show ownEnds _ _ _ _ (T52.setTop (mkF m 49 #[.val (.ref oa), .val (.ref ob), .val (.int (0 : Int32)), .val (.int (63 : Int32)), .val (.int (1 : Int32)), .unset, .unset] [(.ref ob), (.int (1 : Int32))]))
  obtain ⟨cl56, Ar56, -, S56, N56, -, -⟩ := id f55
  refine ownEnds.law (X52.arraylength hx (by rw [e52]; exact Ar56.1) (State.isArrayOf_alike hZ.alike Ar56.2.1) (g := (mkF m 49 #[.val (.ref oa), .val (.ref ob), .val (.int (0 : Int32)), .val (.int (63 : Int32)), .val (.int (1 : Int32)), .unset, .unset] [(.ref ob), (.int (1 : Int32))])) rfl rfl (hb hby d1_49)) ?_
  rw [len_of S56 N56]
  show ownEnds _ _ _ _ (T52.setTop (mkF m 50 #[.val (.ref oa), .val (.ref ob), .val (.int (0 : Int32)), .val (.int (63 : Int32)), .val (.int (1 : Int32)), .unset, .unset] [(.int (2 : Int32)), (.int (1 : Int32))]))
  refine ownEnds.law (fun t => XS.icmpNo X52.here hx rfl (hb hby d1_50) rfl (tlt (by decide : (1 : Int32) < (2 : Int32))).2.1) ?_
  show ownEnds _ _ _ _ (T52.setTop (mkF m 53 #[.val (.ref oa), .val (.ref ob), .val (.int (0 : Int32)), .val (.int (63 : Int32)), .val (.int (1 : Int32)), .unset, .unset] []))
  refine ownEnds.law (fun t k => XS.iloadN X52.here hx rfl (hb hby d1_53) rfl (XS.aloadN X52.here hx rfl (hb hby d1_54) rfl rfl (XS.iload X52.here hx rfl (hb hby d1_55) rfl k))) ?_
  show ownEnds _ _ _ _ (T52.setTop (mkF m 57 #[.val (.ref oa), .val (.ref ob), .val (.int (0 : Int32)), .val (.int (63 : Int32)), .val (.int (1 : Int32)), .unset, .unset] [(.int (1 : Int32)), (.ref ob), (.int (63 : Int32))]))
  obtain ⟨cl57, Ar57, q57, S57, N57, H57, G57⟩ := id f55
  have hi57 := inb_of (j := (1 : Int32)) S57 ⟨by decide, by decide⟩
  have hv57 : cl57.slots[((1 : Int32)).toNatClampNeg]? = some (.int (63 : Int32)) := H57.at hi57 rfl
  refine ownEnds.law (fun t k => X52.iaload hx (j := (1 : Int32)) (v := (.int (63 : Int32))) (by rw [e52]; exact Ar57.1) (State.isArrayOf_alike hZ.alike Ar57.2.1) Ar57.2.2 hi57 hv57 (g := (mkF m 57 #[.val (.ref oa), .val (.ref ob), .val (.int (0 : Int32)), .val (.int (63 : Int32)), .val (.int (1 : Int32)), .unset, .unset] [(.int (1 : Int32)), (.ref ob), (.int (63 : Int32))])) rfl rfl (hb hby d1_57) _ (XS.iadd X52.here hx rfl (hb hby d1_58) rfl (XS.bipush X52.here hx rfl (hb hby d1_59) k))) ?_
  show ownEnds _ _ _ _ (T52.setTop (mkF m 61 #[.val (.ref oa), .val (.ref ob), .val (.int (0 : Int32)), .val (.int (63 : Int32)), .val (.int (1 : Int32)), .unset, .unset] [(.int (64 : Int32)), (.int (126 : Int32))]))
  refine ownEnds.law (fun t => XS.icmpNo X52.here hx rfl (hb hby d1_61) rfl (tlt (by decide : (64 : Int32) < (126 : Int32))).2.2.2) ?_
  show ownEnds _ _ _ _ (T52.setTop (mkF m 64 #[.val (.ref oa), .val (.ref ob), .val (.int (0 : Int32)), .val (.int (63 : Int32)), .val (.int (1 : Int32)), .unset, .unset] []))
  refine ownEnds.law (fun t k => XS.iinc X52.here hx rfl (hb hby d1_64) rfl (l' := #[.val (.ref oa), .val (.ref ob), .val (.int (1 : Int32)), .val (.int (63 : Int32)), .val (.int (1 : Int32)), .unset, .unset]) rfl (XS.iconst X52.here hx rfl (hb hby d1_67) (XS.istoreN X52.here hx rfl (hb hby d1_68) rfl (l' := #[.val (.ref oa), .val (.ref ob), .val (.int (1 : Int32)), .val (.int (0 : Int32)), .val (.int (1 : Int32)), .unset, .unset]) rfl (XS.aloadN X52.here hx rfl (hb hby d1_69) rfl rfl k)))) ?_
  show ownEnds _ _ _ _ (T52.setTop (mkF m 70 #[.val (.ref oa), .val (.ref ob), .val (.int (1 : Int32)), .val (.int (0 : Int32)), .val (.int (1 : Int32)), .unset, .unset] [(.ref oa)]))
  have f58 := (Fld.other W52 (Fld.other W46 (Fld.other W42 f40 (Or.inl ne_oa_b9)) (Or.inl ne_oa_b18)) (Or.inl ne_oa_b28))
  obtain ⟨T59, X59, e59, st59⟩ := getF X52 hx hZ hown (host := "") (Or.inl (wd_24 hw)) Via.refl e52 f58 (g := (mkF m 70 #[.val (.ref oa), .val (.ref ob), .val (.int (1 : Int32)), .val (.int (0 : Int32)), .val (.int (1 : Int32)), .unset, .unset] [(.ref oa)])) rfl rfl (hb hby d1_70)
  refine ownEnds.law st59 ?_
  show ownEnds _ _ _ _ (T59.setTop (mkF m 73 #[.val (.ref oa), .val (.ref ob), .val (.int (1 : Int32)), .val (.int (0 : Int32)), .val (.int (1 : Int32)), .unset, .unset] [(.ref b9)]))
  refine ownEnds.law (fun t k => XS.iload X59.here hx rfl (hb hby d1_73) rfl (XS.iloadN X59.here hx rfl (hb hby d1_75) rfl k)) ?_
  show ownEnds _ _ _ _ (T59.setTop (mkF m 76 #[.val (.ref oa), .val (.ref ob), .val (.int (1 : Int32)), .val (.int (0 : Int32)), .val (.int (1 : Int32)), .unset, .unset] [(.int (1 : Int32)), (.int (1 : Int32)), (.ref b9)]))
  have f61 := (Arv.other (Arv.other V42 W46 ne_b9_b18) W52 ne_b9_b28)
  obtain ⟨cl60, Ar60, q60, S60, N60, H60, G60⟩ := id f61
  obtain ⟨T60, h60, X60, e60, W60, st60⟩ := stI X59 hx hZ e59 Ar60 (j := (1 : Int32)) (inb_of S60 ⟨by decide, by decide⟩) (g := (mkF m 76 #[.val (.ref oa), .val (.ref ob), .val (.int (1 : Int32)), .val (.int (0 : Int32)), .val (.int (1 : Int32)), .unset, .unset] [(.int (1 : Int32)), (.int (1 : Int32)), (.ref b9)])) rfl rfl (hb hby d1_76)
  refine ownEnds.law st60 ?_
  have V60 : Arv Z h60 b9 k9 .int (2 : Int32) [(.int (0 : Int32)), (.int (1 : Int32))] (.int (0 : Int32)) := Arv.set Ar60 q60 S60 N60 H60 G60 rfl W60 1 rfl (Nat.le_of_ble_eq_true rfl)
  have N60 := Fr.snoc X60 N52 g_b9
  have KK60 : Keep h0 h60 [oa] := (KK52).wr W60 (Or.inr sz_b9)
  have Z60 : n0 ≤ h60.size := by rw [W60.size]; exact Z52
  show ownEnds _ _ _ _ (T60.setTop (mkF m 77 #[.val (.ref oa), .val (.ref ob), .val (.int (1 : Int32)), .val (.int (0 : Int32)), .val (.int (1 : Int32)), .unset, .unset] []))
  refine ownEnds.law (fun t k => XS.aloadN X60.here hx rfl (hb hby d1_77) rfl rfl k) ?_
  show ownEnds _ _ _ _ (T60.setTop (mkF m 78 #[.val (.ref oa), .val (.ref ob), .val (.int (1 : Int32)), .val (.int (0 : Int32)), .val (.int (1 : Int32)), .unset, .unset] [(.ref oa)]))
  have f62 := (Fld.other W60 (Fld.other W52 (Fld.other W46 f44 (Or.inl ne_oa_b18)) (Or.inl ne_oa_b28)) (Or.inl ne_oa_b9))
  obtain ⟨T63, X63, e63, st63⟩ := getF X60 hx hZ hown (host := "") (Or.inl (wd_26 hw)) Via.refl e60 f62 (g := (mkF m 78 #[.val (.ref oa), .val (.ref ob), .val (.int (1 : Int32)), .val (.int (0 : Int32)), .val (.int (1 : Int32)), .unset, .unset] [(.ref oa)])) rfl rfl (hb hby d1_78)
  refine ownEnds.law st63 ?_
  show ownEnds _ _ _ _ (T63.setTop (mkF m 81 #[.val (.ref oa), .val (.ref ob), .val (.int (1 : Int32)), .val (.int (0 : Int32)), .val (.int (1 : Int32)), .unset, .unset] [(.ref b18)]))
  refine ownEnds.law (fun t k => XS.iload X63.here hx rfl (hb hby d1_81) rfl (XS.iloadN X63.here hx rfl (hb hby d1_83) rfl k)) ?_
  show ownEnds _ _ _ _ (T63.setTop (mkF m 84 #[.val (.ref oa), .val (.ref ob), .val (.int (1 : Int32)), .val (.int (0 : Int32)), .val (.int (1 : Int32)), .unset, .unset] [(.int (0 : Int32)), (.int (1 : Int32)), (.ref b18)]))
  have f65 := (Arv.other (Arv.other V46 W52 ne_b18_b28) W60 (Ne.symm ne_b9_b18))
  obtain ⟨cl64, Ar64, q64, S64, N64, H64, G64⟩ := id f65
  obtain ⟨T64, h64, X64, e64, W64, st64⟩ := stI X63 hx hZ e63 Ar64 (j := (1 : Int32)) (inb_of S64 ⟨by decide, by decide⟩) (g := (mkF m 84 #[.val (.ref oa), .val (.ref ob), .val (.int (1 : Int32)), .val (.int (0 : Int32)), .val (.int (1 : Int32)), .unset, .unset] [(.int (0 : Int32)), (.int (1 : Int32)), (.ref b18)])) rfl rfl (hb hby d1_84)
  refine ownEnds.law st64 ?_
  have V64 : Arv Z h64 b18 k18 .int (2 : Int32) [(.int (0 : Int32)), (.int (0 : Int32))] (.int (0 : Int32)) := Arv.set Ar64 q64 S64 N64 H64 G64 rfl W64 1 rfl (Nat.le_of_ble_eq_true rfl)
  have N64 := Fr.snoc X64 N60 g_b18
  have KK64 : Keep h0 h64 [oa] := (KK60).wr W64 (Or.inr sz_b18)
  have Z64 : n0 ≤ h64.size := by rw [W64.size]; exact Z60
  show ownEnds _ _ _ _ (T64.setTop (mkF m 85 #[.val (.ref oa), .val (.ref ob), .val (.int (1 : Int32)), .val (.int (0 : Int32)), .val (.int (1 : Int32)), .unset, .unset] []))
  refine ownEnds.law (fun t k => XS.aloadN X64.here hx rfl (hb hby d1_85) rfl rfl k) ?_
  show ownEnds _ _ _ _ (T64.setTop (mkF m 86 #[.val (.ref oa), .val (.ref ob), .val (.int (1 : Int32)), .val (.int (0 : Int32)), .val (.int (1 : Int32)), .unset, .unset] [(.ref oa)]))
  have f66 := (Fld.other W64 (Fld.other W60 (Fld.other W52 f48 (Or.inl ne_oa_b28)) (Or.inl ne_oa_b9)) (Or.inl ne_oa_b18))
  obtain ⟨T67, X67, e67, st67⟩ := getF X64 hx hZ hown (host := "") (Or.inl (wd_29 hw)) Via.refl e64 f66 (g := (mkF m 86 #[.val (.ref oa), .val (.ref ob), .val (.int (1 : Int32)), .val (.int (0 : Int32)), .val (.int (1 : Int32)), .unset, .unset] [(.ref oa)])) rfl rfl (hb hby d1_86)
  refine ownEnds.law st67 ?_
  show ownEnds _ _ _ _ (T67.setTop (mkF m 89 #[.val (.ref oa), .val (.ref ob), .val (.int (1 : Int32)), .val (.int (0 : Int32)), .val (.int (1 : Int32)), .unset, .unset] [(.ref b28)]))
  refine ownEnds.law (fun t k => XS.iload X67.here hx rfl (hb hby d1_89) rfl (X67.ldc2Long hx hown (mvT hZ (wd_91 hw)) (g := (mkF m 91 #[.val (.ref oa), .val (.ref ob), .val (.int (1 : Int32)), .val (.int (0 : Int32)), .val (.int (1 : Int32)), .unset, .unset] [(.int (1 : Int32)), (.ref b28)])) rfl (hb hby d1_91) _ (XS.bipush X67.here hx rfl (hb hby d1_94) (XS.aloadN X67.here hx rfl (hb hby d1_96) rfl rfl (XS.iload X67.here hx rfl (hb hby d1_97) rfl k))))) ?_
  show ownEnds _ _ _ _ (T67.setTop (mkF m 99 #[.val (.ref oa), .val (.ref ob), .val (.int (1 : Int32)), .val (.int (0 : Int32)), .val (.int (1 : Int32)), .unset, .unset] [(.int (1 : Int32)), (.ref ob), (.int (64 : Int32)), (.long (-1 : Int64)), (.int (1 : Int32)), (.ref b28)]))
  have f69 := (Arv.other (Arv.other f55 W60 ne_ob_b9) W64 ne_ob_b18)
  obtain ⟨cl68, Ar68, q68, S68, N68, H68, G68⟩ := id f69
  have hi68 := inb_of (j := (1 : Int32)) S68 ⟨by decide, by decide⟩
  have hv68 : cl68.slots[((1 : Int32)).toNatClampNeg]? = some (.int (63 : Int32)) := H68.at hi68 rfl
  refine ownEnds.law (fun t k => X67.iaload hx (j := (1 : Int32)) (v := (.int (63 : Int32))) (by rw [e67]; exact Ar68.1) (State.isArrayOf_alike hZ.alike Ar68.2.1) Ar68.2.2 hi68 hv68 (g := (mkF m 99 #[.val (.ref oa), .val (.ref ob), .val (.int (1 : Int32)), .val (.int (0 : Int32)), .val (.int (1 : Int32)), .unset, .unset] [(.int (1 : Int32)), (.ref ob), (.int (64 : Int32)), (.long (-1 : Int64)), (.int (1 : Int32)), (.ref b28)])) rfl rfl (hb hby d1_99) _ (XS.isub X67.here hx rfl (hb hby d1_100) rfl (XS.lushr X67.here hx rfl (hb hby d1_101) rfl k))) ?_
  show ownEnds _ _ _ _ (T67.setTop (mkF m 102 #[.val (.ref oa), .val (.ref ob), .val (.int (1 : Int32)), .val (.int (0 : Int32)), .val (.int (1 : Int32)), .unset, .unset] [(.long (((-1 : Int64).toUInt64 >>> ((1 : Int32) &&& 0x3f).toInt64.toUInt64).toInt64)), (.int (1 : Int32)), (.ref b28)]))
  have f71 := (Arv.other (Arv.other V52 W60 (Ne.symm ne_b9_b28)) W64 (Ne.symm ne_b18_b28))
  obtain ⟨cl70, Ar70, q70, S70, N70, H70, G70⟩ := id f71
  obtain ⟨T70, h70, X70, e70, W70, st70⟩ := stJ X67 hx hZ e67 Ar70 (j := (1 : Int32)) (inb_of S70 ⟨by decide, by decide⟩) (g := (mkF m 102 #[.val (.ref oa), .val (.ref ob), .val (.int (1 : Int32)), .val (.int (0 : Int32)), .val (.int (1 : Int32)), .unset, .unset] [(.long (((-1 : Int64).toUInt64 >>> ((1 : Int32) &&& 0x3f).toInt64.toUInt64).toInt64)), (.int (1 : Int32)), (.ref b28)])) rfl rfl (hb hby d1_102)
  refine ownEnds.law st70 ?_
  have V70 : Arv Z h70 b28 k28 .long (2 : Int32) [(.long (((-1 : Int64).toUInt64 >>> ((1 : Int32) &&& 0x3f).toInt64.toUInt64).toInt64)), (.long (((-1 : Int64).toUInt64 >>> ((1 : Int32) &&& 0x3f).toInt64.toUInt64).toInt64))] (.long (0 : Int64)) := Arv.set Ar70 q70 S70 N70 H70 G70 rfl W70 1 rfl (Nat.le_of_ble_eq_true rfl)
  have N70 := Fr.snoc X70 N64 g_b28
  have KK70 : Keep h0 h70 [oa] := (KK64).wr W70 (Or.inr sz_b28)
  have Z70 : n0 ≤ h70.size := by rw [W70.size]; exact Z64
  show ownEnds _ _ _ _ (T70.setTop (mkF m 103 #[.val (.ref oa), .val (.ref ob), .val (.int (1 : Int32)), .val (.int (0 : Int32)), .val (.int (1 : Int32)), .unset, .unset] []))
  refine ownEnds.law (fun t k => XS.iloadN X70.here hx rfl (hb hby d1_103) rfl (XS.aloadN X70.here hx rfl (hb hby d1_104) rfl rfl (XS.iload X70.here hx rfl (hb hby d1_105) rfl k))) ?_
  show ownEnds _ _ _ _ (T70.setTop (mkF m 107 #[.val (.ref oa), .val (.ref ob), .val (.int (1 : Int32)), .val (.int (0 : Int32)), .val (.int (1 : Int32)), .unset, .unset] [(.int (1 : Int32)), (.ref ob), (.int (0 : Int32))]))
  have f73 := (Arv.other f69 W70 ne_ob_b28)
  obtain ⟨cl72, Ar72, q72, S72, N72, H72, G72⟩ := id f73
  have hi72 := inb_of (j := (1 : Int32)) S72 ⟨by decide, by decide⟩
  have hv72 : cl72.slots[((1 : Int32)).toNatClampNeg]? = some (.int (63 : Int32)) := H72.at hi72 rfl
  refine ownEnds.law (fun t k => X70.iaload hx (j := (1 : Int32)) (v := (.int (63 : Int32))) (by rw [e70]; exact Ar72.1) (State.isArrayOf_alike hZ.alike Ar72.2.1) Ar72.2.2 hi72 hv72 (g := (mkF m 107 #[.val (.ref oa), .val (.ref ob), .val (.int (1 : Int32)), .val (.int (0 : Int32)), .val (.int (1 : Int32)), .unset, .unset] [(.int (1 : Int32)), (.ref ob), (.int (0 : Int32))])) rfl rfl (hb hby d1_107) _ (XS.iadd X70.here hx rfl (hb hby d1_108) rfl (XS.istoreN X70.here hx rfl (hb hby d1_109) rfl (l' := #[.val (.ref oa), .val (.ref ob), .val (.int (1 : Int32)), .val (.int (63 : Int32)), .val (.int (1 : Int32)), .unset, .unset]) rfl (XS.iinc X70.here hx rfl (hb hby d1_110) rfl (l' := #[.val (.ref oa), .val (.ref ob), .val (.int (1 : Int32)), .val (.int (63 : Int32)), .val (.int (2 : Int32)), .unset, .unset]) rfl (XS.goto X70.here hx rfl (pc0 := 113) (pc' := 46) rfl (hb hby d1_113) (by decide) (by decide) (XS.iload X70.here hx rfl (hb hby d1_46) rfl (XS.aloadN X70.here hx rfl (hb hby d1_48) rfl rfl k))))))) ?_
  show ownEnds _ _ _ _ (T70.setTop (mkF m 49 #[.val (.ref oa), .val (.ref ob), .val (.int (1 : Int32)), .val (.int (63 : Int32)), .val (.int (2 : Int32)), .unset, .unset] [(.ref ob), (.int (2 : Int32))]))
  obtain ⟨cl74, Ar74, -, S74, N74, -, -⟩ := id f73
  refine ownEnds.law (X70.arraylength hx (by rw [e70]; exact Ar74.1) (State.isArrayOf_alike hZ.alike Ar74.2.1) (g := (mkF m 49 #[.val (.ref oa), .val (.ref ob), .val (.int (1 : Int32)), .val (.int (63 : Int32)), .val (.int (2 : Int32)), .unset, .unset] [(.ref ob), (.int (2 : Int32))])) rfl rfl (hb hby d1_49)) ?_
  rw [len_of S74 N74]
  show ownEnds _ _ _ _ (T70.setTop (mkF m 50 #[.val (.ref oa), .val (.ref ob), .val (.int (1 : Int32)), .val (.int (63 : Int32)), .val (.int (2 : Int32)), .unset, .unset] [(.int (2 : Int32)), (.int (2 : Int32))]))
  refine ownEnds.law (fun t => XS.icmpYes X70.here hx rfl (pc0 := 50) (pc' := 116) rfl (hb hby d1_50) rfl (flt (Int32.lt_irrefl)).2.1 (by decide) (by decide)) ?_
  show ownEnds _ _ _ _ (T70.setTop (mkF m 116 #[.val (.ref oa), .val (.ref ob), .val (.int (1 : Int32)), .val (.int (63 : Int32)), .val (.int (2 : Int32)), .unset, .unset] []))
  refine ownEnds.law (fun t k => XS.aloadN X70.here hx rfl (hb hby d1_116) rfl rfl (XS.aloadN X70.here hx rfl (hb hby d1_117) rfl rfl k)) ?_
  show ownEnds _ _ _ _ (T70.setTop (mkF m 118 #[.val (.ref oa), .val (.ref ob), .val (.int (1 : Int32)), .val (.int (63 : Int32)), .val (.int (2 : Int32)), .unset, .unset] [(.ref ob), (.ref oa)]))
  obtain ⟨cl75, Ar75, -, S75, N75, -, -⟩ := id f73
  refine ownEnds.law (X70.arraylength hx (by rw [e70]; exact Ar75.1) (State.isArrayOf_alike hZ.alike Ar75.2.1) (g := (mkF m 118 #[.val (.ref oa), .val (.ref ob), .val (.int (1 : Int32)), .val (.int (63 : Int32)), .val (.int (2 : Int32)), .unset, .unset] [(.ref ob), (.ref oa)])) rfl rfl (hb hby d1_118)) ?_
  rw [len_of S75 N75]
  show ownEnds _ _ _ _ (T70.setTop (mkF m 119 #[.val (.ref oa), .val (.ref ob), .val (.int (1 : Int32)), .val (.int (63 : Int32)), .val (.int (2 : Int32)), .unset, .unset] [(.int (2 : Int32)), (.ref oa)]))
  refine ownEnds.law (fun t => XS.ifYes X70.here hx rfl (pc0 := 119) (pc' := 126) rfl (hb hby d1_119) rfl ((if0 _ _).trans (feq (by decide : ¬ ((2 : Int32) = (0 : Int32)))).2) (by decide) (by decide)) ?_
  show ownEnds _ _ _ _ (T70.setTop (mkF m 126 #[.val (.ref oa), .val (.ref ob), .val (.int (1 : Int32)), .val (.int (63 : Int32)), .val (.int (2 : Int32)), .unset, .unset] [(.ref oa)]))
  refine ownEnds.law (fun t k => XS.iloadN X70.here hx rfl (hb hby d1_126) rfl (XS.iconst X70.here hx rfl (hb hby d1_127) (XS.iadd X70.here hx rfl (hb hby d1_128) rfl k))) ?_
  show ownEnds _ _ _ _ (T70.setTop (mkF m 129 #[.val (.ref oa), .val (.ref ob), .val (.int (1 : Int32)), .val (.int (63 : Int32)), .val (.int (2 : Int32)), .unset, .unset] [(.int (2 : Int32)), (.ref oa)]))
  have f76 := (Exa.wr W70 (Exa.wr W64 (Exa.wr W60 (Exa.wr W52 (Exa.wr W46 (Exa.wr W42 (Exa.wr W36 f34)))))))
  have f77 := (Fld.other W70 (Fld.other W64 (Fld.other W60 (Fld.other W52 (Fld.other W46 (Fld.other W42 (Fld.other W36 (Fld.ext E28 (Fld.other W25 (Fld.ext E18 (Fld.other W15 (Fld.ext E9 (Fld.other W6 (Fld.ext E2 F_oa_words) (Or.inr (slot_ne (Or.inr (wd_32 hw)) (Or.inr (wd_23 hw)) (by decide) (t := .int) (t' := (.array .int)) (by decide) (by decide))))) (Or.inr (slot_ne (Or.inr (wd_32 hw)) (Or.inr (wd_25 hw)) (by decide) (t := .int) (t' := (.array .int)) (by decide) (by decide))))) (Or.inr (slot_ne (Or.inr (wd_32 hw)) (Or.inr (wd_27 hw)) (by decide) (t := .int) (t' := (.array .int)) (by decide) (by decide))))) (Or.inr (slot_ne (Or.inr (wd_32 hw)) (Or.inr (wd_30 hw)) (by decide) (t := .int) (t' := (.array .long)) (by decide) (by decide)))) (Or.inl ne_oa_b9)) (Or.inl ne_oa_b18)) (Or.inl ne_oa_b28)) (Or.inl ne_oa_b9)) (Or.inl ne_oa_b18)) (Or.inl ne_oa_b28))
  obtain ⟨T78, h78, X78, e78, W78, st78⟩ := putF X70 hx hZ hown (host := "") (Or.inl (wd_31 hw)) Via.refl e70 f77 f76 (Or.inr ⟨(wd_32 hw), rfl, hnm⟩) (wd_5 hw) (ty := .int) (by decide) rfl rfl (g := (mkF m 129 #[.val (.ref oa), .val (.ref ob), .val (.int (1 : Int32)), .val (.int (63 : Int32)), .val (.int (2 : Int32)), .unset, .unset] [(.int (2 : Int32)), (.ref oa)])) rfl rfl (hb hby d1_129)
  refine ownEnds.law st78 ?_
  have N78 := Fr.snoc X78 N70 g_oa
  have KK78 : Keep h0 h78 [oa] := (KK70).wr W78 (Or.inl (List.mem_of_getElem? (i := 0) rfl))
  have Z78 : n0 ≤ h78.size := by rw [W78.size]; exact Z70
  have Fw78 : Fld Z h78 oa "com/example/libreach/libreach/engine/StateLayout" "words" "I" (.int (2 : Int32)) := Fld.same W78 f77
  show ownEnds _ _ _ _ (T78.setTop (mkF m 132 #[.val (.ref oa), .val (.ref ob), .val (.int (1 : Int32)), .val (.int (63 : Int32)), .val (.int (2 : Int32)), .unset, .unset] []))
  refine ownEnds.law (fun t k => XS.iconst X78.here hx rfl (hb hby d1_132) (XS.istore X78.here hx rfl (hb hby d1_133) rfl (l' := #[.val (.ref oa), .val (.ref ob), .val (.int (1 : Int32)), .val (.int (63 : Int32)), .val (.int (0 : Int32)), .unset, .unset]) rfl (XS.aloadN X78.here hx rfl (hb hby d1_135) rfl rfl k))) ?_
  show ownEnds _ _ _ _ (T78.setTop (mkF m 136 #[.val (.ref oa), .val (.ref ob), .val (.int (1 : Int32)), .val (.int (63 : Int32)), .val (.int (0 : Int32)), .unset, .unset] [(.ref ob)]))
  have f80 := (Arv.other f73 W78 (Ne.symm ne_oa_ob))
  obtain ⟨cl79, Ar79, -, S79, N79, -, -⟩ := id f80
  refine ownEnds.law (X78.arraylength hx (by rw [e78]; exact Ar79.1) (State.isArrayOf_alike hZ.alike Ar79.2.1) (g := (mkF m 136 #[.val (.ref oa), .val (.ref ob), .val (.int (1 : Int32)), .val (.int (63 : Int32)), .val (.int (0 : Int32)), .unset, .unset] [(.ref ob)])) rfl rfl (hb hby d1_136)) ?_
  rw [len_of S79 N79]
  show ownEnds _ _ _ _ (T78.setTop (mkF m 137 #[.val (.ref oa), .val (.ref ob), .val (.int (1 : Int32)), .val (.int (63 : Int32)), .val (.int (0 : Int32)), .unset, .unset] [(.int (2 : Int32))]))
  refine ownEnds.law (fun t k => XS.iconst X78.here hx rfl (hb hby d1_137) (XS.iadd X78.here hx rfl (hb hby d1_138) rfl k)) ?_
  show ownEnds _ _ _ _ (T78.setTop (mkF m 139 #[.val (.ref oa), .val (.ref ob), .val (.int (1 : Int32)), .val (.int (63 : Int32)), .val (.int (0 : Int32)), .unset, .unset] [(.int (3 : Int32))]))
  obtain ⟨T81, h81, k81, X81, e81, E81, A81, Ax81, st81⟩ := newPE X78 hx hZ (aty := .int) (wd_0 hw) e78 (g := (mkF m 139 #[.val (.ref oa), .val (.ref ob), .val (.int (1 : Int32)), .val (.int (63 : Int32)), .val (.int (0 : Int32)), .unset, .unset] [(.int (3 : Int32))])) rfl (hb hby d1_139) rfl (by decide) (cap := 3) (by decide) (by decide) (by decide) (by decide) (ad := "[I") (by decide)
  obtain ⟨b81, g81⟩ : ∃ z, z = h78.size := ⟨_, rfl⟩
  rw [← g81] at A81 st81 Ax81
  refine ownEnds.law st81 ?_
  have V_b81 : Arv Z h81 b81 k81 .int (3 : Int32) [(.int (0 : Int32)), (.int (0 : Int32)), (.int (0 : Int32))] (.int (0 : Int32)) := (Arv.new A81 (by decide)).pad (pad_rep [] (.int (0 : Int32)) 3)
  have f82 := (Exa.wr W78 f76)
  have ne_oa_b81 : oa ≠ b81 := Nat.ne_of_lt (Nat.lt_of_lt_of_eq f82.lt g81.symm)
  have f83 := (Exa.wr W78 (Exa.wr W70 (Exa.wr W64 (Exa.wr W60 (Exa.wr W52 (Exa.wr W46 (Exa.wr W42 (Exa.wr W36 (Exa.ext E28 f30)))))))))
  have ne_ob_b81 : ob ≠ b81 := Nat.ne_of_lt (Nat.lt_of_lt_of_eq f83.lt g81.symm)
  have f84 := (Arv.other (Arv.other (Arv.other (Arv.other (Arv.other (Arv.other (Arv.other (Arv.other (Arv.ext f31 E28) W36 (Ne.symm ne_oa_b2)) W42 ne_b2_b9) W46 ne_b2_b18) W52 ne_b2_b28) W60 ne_b2_b9) W64 ne_b2_b18) W70 ne_b2_b28) W78 (Ne.symm ne_oa_b2))
  have ne_b2_b81 : b2 ≠ b81 := Nat.ne_of_lt (Nat.lt_of_lt_of_eq f84.lt g81.symm)
  have f85 := (Arv.other (Arv.other (Arv.other V60 W64 ne_b9_b18) W70 ne_b9_b28) W78 (Ne.symm ne_oa_b9))
  have ne_b9_b81 : b9 ≠ b81 := Nat.ne_of_lt (Nat.lt_of_lt_of_eq f85.lt g81.symm)
  have f86 := (Arv.other (Arv.other V64 W70 ne_b18_b28) W78 (Ne.symm ne_oa_b18))
  have ne_b18_b81 : b18 ≠ b81 := Nat.ne_of_lt (Nat.lt_of_lt_of_eq f86.lt g81.symm)
  have f87 := (Arv.other V70 W78 (Ne.symm ne_oa_b28))
  have ne_b28_b81 : b28 ≠ b81 := Nat.ne_of_lt (Nat.lt_of_lt_of_eq f87.lt g81.symm)
  have g_b81 : n0 ≤ b81 := Nat.le_trans Z78 (Nat.le_of_eq g81.symm)
  have sz_b81 : h0.size ≤ b81 := Nat.le_trans (KK78).1 (Nat.le_of_eq g81.symm)
  have Z81 : n0 ≤ h81.size := Nat.le_trans Z78 E81.1
  have KK81 : Keep h0 h81 [oa] := (KK78).ext E81
  show ownEnds _ _ _ _ (T81.setTop (mkF m 141 #[.val (.ref oa), .val (.ref ob), .val (.int (1 : Int32)), .val (.int (63 : Int32)), .val (.int (0 : Int32)), .unset, .unset] [(.ref b81)]))
  refine ownEnds.law (fun t k => XS.astore X81.here hx rfl (hb hby d1_141) rfl rfl (l' := #[.val (.ref oa), .val (.ref ob), .val (.int (1 : Int32)), .val (.int (63 : Int32)), .val (.int (0 : Int32)), .val (.ref b81), .unset]) rfl (XS.iconst X81.here hx rfl (hb hby d1_143) (XS.istore X81.here hx rfl (hb hby d1_144) rfl (l' := #[.val (.ref oa), .val (.ref ob), .val (.int (1 : Int32)), .val (.int (63 : Int32)), .val (.int (0 : Int32)), .val (.ref b81), .val (.int (0 : Int32))]) rfl (XS.iload X81.here hx rfl (hb hby d1_146) rfl (XS.aloadN X81.here hx rfl (hb hby d1_148) rfl rfl k))))) ?_
  show ownEnds _ _ _ _ (T81.setTop (mkF m 149 #[.val (.ref oa), .val (.ref ob), .val (.int (1 : Int32)), .val (.int (63 : Int32)), .val (.int (0 : Int32)), .val (.ref b81), .val (.int (0 : Int32))] [(.ref ob), (.int (0 : Int32))]))
  have f89 := (Arv.ext f80 E81)
  obtain ⟨cl88, Ar88, -, S88, N88, -, -⟩ := id f89
  refine ownEnds.law (X81.arraylength hx (by rw [e81]; exact Ar88.1) (State.isArrayOf_alike hZ.alike Ar88.2.1) (g := (mkF m 149 #[.val (.ref oa), .val (.ref ob), .val (.int (1 : Int32)), .val (.int (63 : Int32)), .val (.int (0 : Int32)), .val (.ref b81), .val (.int (0 : Int32))] [(.ref ob), (.int (0 : Int32))])) rfl rfl (hb hby d1_149)) ?_
  rw [len_of S88 N88]
  show ownEnds _ _ _ _ (T81.setTop (mkF m 150 #[.val (.ref oa), .val (.ref ob), .val (.int (1 : Int32)), .val (.int (63 : Int32)), .val (.int (0 : Int32)), .val (.ref b81), .val (.int (0 : Int32))] [(.int (2 : Int32)), (.int (0 : Int32))]))
  refine ownEnds.law (fun t => XS.icmpNo X81.here hx rfl (hb hby d1_150) rfl (tlt (by decide : (0 : Int32) < (2 : Int32))).2.1) ?_
  show ownEnds _ _ _ _ (T81.setTop (mkF m 153 #[.val (.ref oa), .val (.ref ob), .val (.int (1 : Int32)), .val (.int (63 : Int32)), .val (.int (0 : Int32)), .val (.ref b81), .val (.int (0 : Int32))] []))
  refine ownEnds.law (fun t k => XS.iload X81.here hx rfl (hb hby d1_153) rfl k) ?_
  show ownEnds _ _ _ _ (T81.setTop (mkF m 155 #[.val (.ref oa), .val (.ref ob), .val (.int (1 : Int32)), .val (.int (63 : Int32)), .val (.int (0 : Int32)), .val (.ref b81), .val (.int (0 : Int32))] [(.int (0 : Int32))]))
  refine ownEnds.law (fun t => XS.ifYes X81.here hx rfl (pc0 := 155) (pc' := 190) rfl (hb hby d1_155) rfl ((if0 _ _).trans (teq (rfl : (0 : Int32) = (0 : Int32))).1) (by decide) (by decide)) ?_
  show ownEnds _ _ _ _ (T81.setTop (mkF m 190 #[.val (.ref oa), .val (.ref ob), .val (.int (1 : Int32)), .val (.int (63 : Int32)), .val (.int (0 : Int32)), .val (.ref b81), .val (.int (0 : Int32))] []))
  refine ownEnds.law (fun t k => XS.aload X81.here hx rfl (hb hby d1_190) rfl rfl (XS.iload X81.here hx rfl (hb hby d1_192) rfl (XS.iinc X81.here hx rfl (hb hby d1_194) rfl (l' := #[.val (.ref oa), .val (.ref ob), .val (.int (1 : Int32)), .val (.int (63 : Int32)), .val (.int (1 : Int32)), .val (.ref b81), .val (.int (0 : Int32))]) rfl (XS.iload X81.here hx rfl (hb hby d1_197) rfl k)))) ?_
  show ownEnds _ _ _ _ (T81.setTop (mkF m 199 #[.val (.ref oa), .val (.ref ob), .val (.int (1 : Int32)), .val (.int (63 : Int32)), .val (.int (1 : Int32)), .val (.ref b81), .val (.int (0 : Int32))] [(.int (0 : Int32)), (.int (0 : Int32)), (.ref b81)]))
  obtain ⟨cl90, Ar90, q90, S90, N90, H90, G90⟩ := id V_b81
  obtain ⟨T90, h90, X90, e90, W90, st90⟩ := stI X81 hx hZ e81 Ar90 (j := (0 : Int32)) (inb_of S90 ⟨by decide, by decide⟩) (g := (mkF m 199 #[.val (.ref oa), .val (.ref ob), .val (.int (1 : Int32)), .val (.int (63 : Int32)), .val (.int (1 : Int32)), .val (.ref b81), .val (.int (0 : Int32))] [(.int (0 : Int32)), (.int (0 : Int32)), (.ref b81)])) rfl rfl (hb hby d1_199)
  refine ownEnds.law st90 ?_
  have V90 : Arv Z h90 b81 k81 .int (3 : Int32) [(.int (0 : Int32)), (.int (0 : Int32)), (.int (0 : Int32))] (.int (0 : Int32)) := Arv.set Ar90 q90 S90 N90 H90 G90 rfl W90 0 rfl (Nat.le_of_ble_eq_true rfl)
  have N90 := Fr.snoc X90 N78 g_b81
  have KK90 : Keep h0 h90 [oa] := (KK81).wr W90 (Or.inr sz_b81)
  have Z90 : n0 ≤ h90.size := by rw [W90.size]; exact Z81
  show ownEnds _ _ _ _ (T90.setTop (mkF m 200 #[.val (.ref oa), .val (.ref ob), .val (.int (1 : Int32)), .val (.int (63 : Int32)), .val (.int (1 : Int32)), .val (.ref b81), .val (.int (0 : Int32))] []))
  refine ownEnds.law (fun t k => XS.iinc X90.here hx rfl (hb hby d1_200) rfl (l' := #[.val (.ref oa), .val (.ref ob), .val (.int (1 : Int32)), .val (.int (63 : Int32)), .val (.int (1 : Int32)), .val (.ref b81), .val (.int (1 : Int32))]) rfl (XS.goto X90.here hx rfl (pc0 := 203) (pc' := 146) rfl (hb hby d1_203) (by decide) (by decide) (XS.iload X90.here hx rfl (hb hby d1_146) rfl (XS.aloadN X90.here hx rfl (hb hby d1_148) rfl rfl k)))) ?_
  show ownEnds _ _ _ _ (T90.setTop (mkF m 149 #[.val (.ref oa), .val (.ref ob), .val (.int (1 : Int32)), .val (.int (63 : Int32)), .val (.int (1 : Int32)), .val (.ref b81), .val (.int (1 : Int32))] [(.ref ob), (.int (1 : Int32))]))
  have f92 := (Arv.other f89 W90 ne_ob_b81)
  obtain ⟨cl91, Ar91, -, S91, N91, -, -⟩ := id f92
  refine ownEnds.law (X90.arraylength hx (by rw [e90]; exact Ar91.1) (State.isArrayOf_alike hZ.alike Ar91.2.1) (g := (mkF m 149 #[.val (.ref oa), .val (.ref ob), .val (.int (1 : Int32)), .val (.int (63 : Int32)), .val (.int (1 : Int32)), .val (.ref b81), .val (.int (1 : Int32))] [(.ref ob), (.int (1 : Int32))])) rfl rfl (hb hby d1_149)) ?_
  rw [len_of S91 N91]
  show ownEnds _ _ _ _ (T90.setTop (mkF m 150 #[.val (.ref oa), .val (.ref ob), .val (.int (1 : Int32)), .val (.int (63 : Int32)), .val (.int (1 : Int32)), .val (.ref b81), .val (.int (1 : Int32))] [(.int (2 : Int32)), (.int (1 : Int32))]))
  refine ownEnds.law (fun t => XS.icmpNo X90.here hx rfl (hb hby d1_150) rfl (tlt (by decide : (1 : Int32) < (2 : Int32))).2.1) ?_
  show ownEnds _ _ _ _ (T90.setTop (mkF m 153 #[.val (.ref oa), .val (.ref ob), .val (.int (1 : Int32)), .val (.int (63 : Int32)), .val (.int (1 : Int32)), .val (.ref b81), .val (.int (1 : Int32))] []))
  refine ownEnds.law (fun t k => XS.iload X90.here hx rfl (hb hby d1_153) rfl k) ?_
  show ownEnds _ _ _ _ (T90.setTop (mkF m 155 #[.val (.ref oa), .val (.ref ob), .val (.int (1 : Int32)), .val (.int (63 : Int32)), .val (.int (1 : Int32)), .val (.ref b81), .val (.int (1 : Int32))] [(.int (1 : Int32))]))
  refine ownEnds.law (fun t => XS.ifNo X90.here hx rfl (hb hby d1_155) rfl ((if0 _ _).trans (feq (by decide : ¬ ((1 : Int32) = (0 : Int32)))).1)) ?_
  show ownEnds _ _ _ _ (T90.setTop (mkF m 158 #[.val (.ref oa), .val (.ref ob), .val (.int (1 : Int32)), .val (.int (63 : Int32)), .val (.int (1 : Int32)), .val (.ref b81), .val (.int (1 : Int32))] []))
  refine ownEnds.law (fun t k => XS.aloadN X90.here hx rfl (hb hby d1_158) rfl rfl k) ?_
  show ownEnds _ _ _ _ (T90.setTop (mkF m 159 #[.val (.ref oa), .val (.ref ob), .val (.int (1 : Int32)), .val (.int (63 : Int32)), .val (.int (1 : Int32)), .val (.ref b81), .val (.int (1 : Int32))] [(.ref oa)]))
  have f93 := (Fld.other W90 (Fld.ext E81 (Fld.other W78 (Fld.other W70 (Fld.other W64 (Fld.other W60 f58 (Or.inl ne_oa_b9)) (Or.inl ne_oa_b18)) (Or.inl ne_oa_b28)) (Or.inr (slot_ne (Or.inr (wd_25 hw)) (Or.inr (wd_32 hw)) (by decide) (t := (.array .int)) (t' := .int) (by decide) (by decide))))) (Or.inl ne_oa_b81))
  obtain ⟨T94, X94, e94, st94⟩ := getF X90 hx hZ hown (host := "") (Or.inl (wd_24 hw)) Via.refl e90 f93 (g := (mkF m 159 #[.val (.ref oa), .val (.ref ob), .val (.int (1 : Int32)), .val (.int (63 : Int32)), .val (.int (1 : Int32)), .val (.ref b81), .val (.int (1 : Int32))] [(.ref oa)])) rfl rfl (hb hby d1_159)
  refine ownEnds.law st94 ?_
  show ownEnds _ _ _ _ (T94.setTop (mkF m 162 #[.val (.ref oa), .val (.ref ob), .val (.int (1 : Int32)), .val (.int (63 : Int32)), .val (.int (1 : Int32)), .val (.ref b81), .val (.int (1 : Int32))] [(.ref b9)]))
  refine ownEnds.law (fun t k => XS.iload X94.here hx rfl (hb hby d1_162) rfl k) ?_
  show ownEnds _ _ _ _ (T94.setTop (mkF m 164 #[.val (.ref oa), .val (.ref ob), .val (.int (1 : Int32)), .val (.int (63 : Int32)), .val (.int (1 : Int32)), .val (.ref b81), .val (.int (1 : Int32))] [(.int (1 : Int32)), (.ref b9)]))
  have f96 := (Arv.other (Arv.ext f85 E81) W90 ne_b9_b81)
  obtain ⟨cl95, Ar95, q95, S95, N95, H95, G95⟩ := id f96
  have hi95 := inb_of (j := (1 : Int32)) S95 ⟨by decide, by decide⟩
  have hv95 : cl95.slots[((1 : Int32)).toNatClampNeg]? = some (.int (1 : Int32)) := H95.at hi95 rfl
  refine ownEnds.law (fun t k => X94.iaload hx (j := (1 : Int32)) (v := (.int (1 : Int32))) (by rw [e94]; exact Ar95.1) (State.isArrayOf_alike hZ.alike Ar95.2.1) Ar95.2.2 hi95 hv95 (g := (mkF m 164 #[.val (.ref oa), .val (.ref ob), .val (.int (1 : Int32)), .val (.int (63 : Int32)), .val (.int (1 : Int32)), .val (.ref b81), .val (.int (1 : Int32))] [(.int (1 : Int32)), (.ref b9)])) rfl rfl (hb hby d1_164) _ (XS.aloadN X94.here hx rfl (hb hby d1_165) rfl rfl k)) ?_
  show ownEnds _ _ _ _ (T94.setTop (mkF m 166 #[.val (.ref oa), .val (.ref ob), .val (.int (1 : Int32)), .val (.int (63 : Int32)), .val (.int (1 : Int32)), .val (.ref b81), .val (.int (1 : Int32))] [(.ref oa), (.int (1 : Int32))]))
  obtain ⟨T97, X97, e97, st97⟩ := getF X94 hx hZ hown (host := "") (Or.inl (wd_24 hw)) Via.refl e94 f93 (g := (mkF m 166 #[.val (.ref oa), .val (.ref ob), .val (.int (1 : Int32)), .val (.int (63 : Int32)), .val (.int (1 : Int32)), .val (.ref b81), .val (.int (1 : Int32))] [(.ref oa), (.int (1 : Int32))])) rfl rfl (hb hby d1_166)
  refine ownEnds.law st97 ?_
  show ownEnds _ _ _ _ (T97.setTop (mkF m 169 #[.val (.ref oa), .val (.ref ob), .val (.int (1 : Int32)), .val (.int (63 : Int32)), .val (.int (1 : Int32)), .val (.ref b81), .val (.int (1 : Int32))] [(.ref b9), (.int (1 : Int32))]))
  refine ownEnds.law (fun t k => XS.iload X97.here hx rfl (hb hby d1_169) rfl (XS.iconst X97.here hx rfl (hb hby d1_171) (XS.isub X97.here hx rfl (hb hby d1_172) rfl k))) ?_
  show ownEnds _ _ _ _ (T97.setTop (mkF m 173 #[.val (.ref oa), .val (.ref ob), .val (.int (1 : Int32)), .val (.int (63 : Int32)), .val (.int (1 : Int32)), .val (.ref b81), .val (.int (1 : Int32))] [(.int (0 : Int32)), (.ref b9), (.int (1 : Int32))]))
  obtain ⟨cl98, Ar98, q98, S98, N98, H98, G98⟩ := id f96
  have hi98 := inb_of (j := (0 : Int32)) S98 ⟨by decide, by decide⟩
  have hv98 : cl98.slots[((0 : Int32)).toNatClampNeg]? = some (.int (0 : Int32)) := H98.at hi98 rfl
  refine ownEnds.law (fun t k => X97.iaload hx (j := (0 : Int32)) (v := (.int (0 : Int32))) (by rw [e97]; exact Ar98.1) (State.isArrayOf_alike hZ.alike Ar98.2.1) Ar98.2.2 hi98 hv98 (g := (mkF m 173 #[.val (.ref oa), .val (.ref ob), .val (.int (1 : Int32)), .val (.int (63 : Int32)), .val (.int (1 : Int32)), .val (.ref b81), .val (.int (1 : Int32))] [(.int (0 : Int32)), (.ref b9), (.int (1 : Int32))])) rfl rfl (hb hby d1_173) _ k) ?_
  show ownEnds _ _ _ _ (T97.setTop (mkF m 174 #[.val (.ref oa), .val (.ref ob), .val (.int (1 : Int32)), .val (.int (63 : Int32)), .val (.int (1 : Int32)), .val (.ref b81), .val (.int (1 : Int32))] [(.int (0 : Int32)), (.int (1 : Int32))]))
  refine ownEnds.law (fun t => XS.icmpYes X97.here hx rfl (pc0 := 174) (pc' := 190) rfl (hb hby d1_174) rfl (feq (by decide : ¬ ((1 : Int32) = (0 : Int32)))).2 (by decide) (by decide)) ?_
  show ownEnds _ _ _ _ (T97.setTop (mkF m 190 #[.val (.ref oa), .val (.ref ob), .val (.int (1 : Int32)), .val (.int (63 : Int32)), .val (.int (1 : Int32)), .val (.ref b81), .val (.int (1 : Int32))] []))
  refine ownEnds.law (fun t k => XS.aload X97.here hx rfl (hb hby d1_190) rfl rfl (XS.iload X97.here hx rfl (hb hby d1_192) rfl (XS.iinc X97.here hx rfl (hb hby d1_194) rfl (l' := #[.val (.ref oa), .val (.ref ob), .val (.int (1 : Int32)), .val (.int (63 : Int32)), .val (.int (2 : Int32)), .val (.ref b81), .val (.int (1 : Int32))]) rfl (XS.iload X97.here hx rfl (hb hby d1_197) rfl k)))) ?_
  show ownEnds _ _ _ _ (T97.setTop (mkF m 199 #[.val (.ref oa), .val (.ref ob), .val (.int (1 : Int32)), .val (.int (63 : Int32)), .val (.int (2 : Int32)), .val (.ref b81), .val (.int (1 : Int32))] [(.int (1 : Int32)), (.int (1 : Int32)), (.ref b81)]))
  obtain ⟨cl99, Ar99, q99, S99, N99, H99, G99⟩ := id V90
  obtain ⟨T99, h99, X99, e99, W99, st99⟩ := stI X97 hx hZ e97 Ar99 (j := (1 : Int32)) (inb_of S99 ⟨by decide, by decide⟩) (g := (mkF m 199 #[.val (.ref oa), .val (.ref ob), .val (.int (1 : Int32)), .val (.int (63 : Int32)), .val (.int (2 : Int32)), .val (.ref b81), .val (.int (1 : Int32))] [(.int (1 : Int32)), (.int (1 : Int32)), (.ref b81)])) rfl rfl (hb hby d1_199)
  refine ownEnds.law st99 ?_
  have V99 : Arv Z h99 b81 k81 .int (3 : Int32) [(.int (0 : Int32)), (.int (1 : Int32)), (.int (0 : Int32))] (.int (0 : Int32)) := Arv.set Ar99 q99 S99 N99 H99 G99 rfl W99 1 rfl (Nat.le_of_ble_eq_true rfl)
  have N99 := Fr.snoc X99 N90 g_b81
  have KK99 : Keep h0 h99 [oa] := (KK90).wr W99 (Or.inr sz_b81)
  have Z99 : n0 ≤ h99.size := by rw [W99.size]; exact Z90
  show ownEnds _ _ _ _ (T99.setTop (mkF m 200 #[.val (.ref oa), .val (.ref ob), .val (.int (1 : Int32)), .val (.int (63 : Int32)), .val (.int (2 : Int32)), .val (.ref b81), .val (.int (1 : Int32))] []))
  refine ownEnds.law (fun t k => XS.iinc X99.here hx rfl (hb hby d1_200) rfl (l' := #[.val (.ref oa), .val (.ref ob), .val (.int (1 : Int32)), .val (.int (63 : Int32)), .val (.int (2 : Int32)), .val (.ref b81), .val (.int (2 : Int32))]) rfl (XS.goto X99.here hx rfl (pc0 := 203) (pc' := 146) rfl (hb hby d1_203) (by decide) (by decide) (XS.iload X99.here hx rfl (hb hby d1_146) rfl (XS.aloadN X99.here hx rfl (hb hby d1_148) rfl rfl k)))) ?_
  show ownEnds _ _ _ _ (T99.setTop (mkF m 149 #[.val (.ref oa), .val (.ref ob), .val (.int (1 : Int32)), .val (.int (63 : Int32)), .val (.int (2 : Int32)), .val (.ref b81), .val (.int (2 : Int32))] [(.ref ob), (.int (2 : Int32))]))
  have f101 := (Arv.other f92 W99 ne_ob_b81)
  obtain ⟨cl100, Ar100, -, S100, N100, -, -⟩ := id f101
  refine ownEnds.law (X99.arraylength hx (by rw [e99]; exact Ar100.1) (State.isArrayOf_alike hZ.alike Ar100.2.1) (g := (mkF m 149 #[.val (.ref oa), .val (.ref ob), .val (.int (1 : Int32)), .val (.int (63 : Int32)), .val (.int (2 : Int32)), .val (.ref b81), .val (.int (2 : Int32))] [(.ref ob), (.int (2 : Int32))])) rfl rfl (hb hby d1_149)) ?_
  rw [len_of S100 N100]
  show ownEnds _ _ _ _ (T99.setTop (mkF m 150 #[.val (.ref oa), .val (.ref ob), .val (.int (1 : Int32)), .val (.int (63 : Int32)), .val (.int (2 : Int32)), .val (.ref b81), .val (.int (2 : Int32))] [(.int (2 : Int32)), (.int (2 : Int32))]))
  refine ownEnds.law (fun t => XS.icmpYes X99.here hx rfl (pc0 := 150) (pc' := 206) rfl (hb hby d1_150) rfl (flt (Int32.lt_irrefl)).2.1 (by decide) (by decide)) ?_
  show ownEnds _ _ _ _ (T99.setTop (mkF m 206 #[.val (.ref oa), .val (.ref ob), .val (.int (1 : Int32)), .val (.int (63 : Int32)), .val (.int (2 : Int32)), .val (.ref b81), .val (.int (2 : Int32))] []))
  refine ownEnds.law (fun t k => XS.aload X99.here hx rfl (hb hby d1_206) rfl rfl (XS.iload X99.here hx rfl (hb hby d1_208) rfl (XS.iinc X99.here hx rfl (hb hby d1_210) rfl (l' := #[.val (.ref oa), .val (.ref ob), .val (.int (1 : Int32)), .val (.int (63 : Int32)), .val (.int (3 : Int32)), .val (.ref b81), .val (.int (2 : Int32))]) rfl (XS.aloadN X99.here hx rfl (hb hby d1_213) rfl rfl k)))) ?_
  show ownEnds _ _ _ _ (T99.setTop (mkF m 214 #[.val (.ref oa), .val (.ref ob), .val (.int (1 : Int32)), .val (.int (63 : Int32)), .val (.int (3 : Int32)), .val (.ref b81), .val (.int (2 : Int32))] [(.ref ob), (.int (2 : Int32)), (.ref b81)]))
  obtain ⟨cl102, Ar102, -, S102, N102, -, -⟩ := id f101
  refine ownEnds.law (X99.arraylength hx (by rw [e99]; exact Ar102.1) (State.isArrayOf_alike hZ.alike Ar102.2.1) (g := (mkF m 214 #[.val (.ref oa), .val (.ref ob), .val (.int (1 : Int32)), .val (.int (63 : Int32)), .val (.int (3 : Int32)), .val (.ref b81), .val (.int (2 : Int32))] [(.ref ob), (.int (2 : Int32)), (.ref b81)])) rfl rfl (hb hby d1_214)) ?_
  rw [len_of S102 N102]
  show ownEnds _ _ _ _ (T99.setTop (mkF m 215 #[.val (.ref oa), .val (.ref ob), .val (.int (1 : Int32)), .val (.int (63 : Int32)), .val (.int (3 : Int32)), .val (.ref b81), .val (.int (2 : Int32))] [(.int (2 : Int32)), (.int (2 : Int32)), (.ref b81)]))
  obtain ⟨cl103, Ar103, q103, S103, N103, H103, G103⟩ := id V99
  obtain ⟨T103, h103, X103, e103, W103, st103⟩ := stI X99 hx hZ e99 Ar103 (j := (2 : Int32)) (inb_of S103 ⟨by decide, by decide⟩) (g := (mkF m 215 #[.val (.ref oa), .val (.ref ob), .val (.int (1 : Int32)), .val (.int (63 : Int32)), .val (.int (3 : Int32)), .val (.ref b81), .val (.int (2 : Int32))] [(.int (2 : Int32)), (.int (2 : Int32)), (.ref b81)])) rfl rfl (hb hby d1_215)
  refine ownEnds.law st103 ?_
  have V103 : Arv Z h103 b81 k81 .int (3 : Int32) [(.int (0 : Int32)), (.int (1 : Int32)), (.int (2 : Int32))] (.int (0 : Int32)) := Arv.set Ar103 q103 S103 N103 H103 G103 rfl W103 2 rfl (Nat.le_of_ble_eq_true rfl)
  have N103 := Fr.snoc X103 N99 g_b81
  have KK103 : Keep h0 h103 [oa] := (KK99).wr W103 (Or.inr sz_b81)
  have Z103 : n0 ≤ h103.size := by rw [W103.size]; exact Z99
  show ownEnds _ _ _ _ (T103.setTop (mkF m 216 #[.val (.ref oa), .val (.ref ob), .val (.int (1 : Int32)), .val (.int (63 : Int32)), .val (.int (3 : Int32)), .val (.ref b81), .val (.int (2 : Int32))] []))
  refine ownEnds.law (fun t k => XS.aloadN X103.here hx rfl (hb hby d1_216) rfl rfl (XS.aload X103.here hx rfl (hb hby d1_217) rfl rfl (XS.iload X103.here hx rfl (hb hby d1_219) rfl k))) ?_
  show ownEnds _ _ _ _ (T103.setTop (mkF m 221 #[.val (.ref oa), .val (.ref ob), .val (.int (1 : Int32)), .val (.int (63 : Int32)), .val (.int (3 : Int32)), .val (.ref b81), .val (.int (2 : Int32))] [(.int (3 : Int32)), (.ref b81), (.ref oa)]))
  have f105 := (Exa.wr W103 (Exa.wr W99 (Exa.wr W90 Ax81)))
  obtain ⟨v104, T104, L104, X104, hQ104, st104⟩ := ownCallS X103 hx hZ hown (y := (⟨"java/util/Arrays", "copyOf", "([II)[I"⟩ : MethodName)) (as := [(.ref b81), (.int (3 : Int32))]) (wd_33 hw) (wd_34 hw) (wd_35 hw) (wd_36 hw) (by decide) (rm3_3_3 l Z a0 hw b81 k81 (.int (0 : Int32)) (.int (1 : Int32)) (.int (2 : Int32)) h103 n0 Z103 V103 f105) e103 1 (by decide) (by decide) (by decide) (by decide) (g := (mkF m 221 #[.val (.ref oa), .val (.ref ob), .val (.int (1 : Int32)), .val (.int (63 : Int32)), .val (.int (3 : Int32)), .val (.ref b81), .val (.int (2 : Int32))] [(.int (3 : Int32)), (.ref b81), (.ref oa)])) rfl (by rw [hml]; rfl) (rest := [(.ref oa)]) pd_1 rfl rfl (by show 2 * 0 + _ ≤ _; exact Nat.le_of_eq rfl) (hb hby d1_221)
  obtain ⟨b104, rfl, Nq104, Kq104, g_b104, zq104⟩ := hQ104
  have N104 := Fr.app N103 Nq104
  have KK104 : Keep h0 T104.heap [oa] := Keep.trans (KK103) Kq104 all0
  have Z104 : n0 ≤ T104.heap.size := Nat.le_trans Z103 Kq104.1
  refine ownEnds.law st104 ?_
  show ownEnds _ _ _ _ (T104.setTop (mkF m 224 #[.val (.ref oa), .val (.ref ob), .val (.int (1 : Int32)), .val (.int (63 : Int32)), .val (.int (3 : Int32)), .val (.ref b81), .val (.int (2 : Int32))] [(.ref b104), (.ref oa)]))
  have f106 := (Exa.keep (Exa.wr W103 (Exa.wr W99 (Exa.wr W90 (Exa.ext E81 f82)))) Kq104)
  have f107 := (Fld.keep (Fld.other W103 (Fld.other W99 (Fld.other W90 (Fld.ext E81 (Fld.other W78 (Fld.other W70 (Fld.other W64 (Fld.other W60 (Fld.other W52 (Fld.other W46 (Fld.other W42 (Fld.other W36 (Fld.ext E28 (Fld.other W25 (Fld.ext E18 (Fld.other W15 (Fld.ext E9 (Fld.other W6 (Fld.ext E2 F_oa_runs) (Or.inr (slot_ne (Or.inr (wd_40 hw)) (Or.inr (wd_23 hw)) (by decide) (t := (.array .int)) (t' := (.array .int)) (by decide) (by decide))))) (Or.inr (slot_ne (Or.inr (wd_40 hw)) (Or.inr (wd_25 hw)) (by decide) (t := (.array .int)) (t' := (.array .int)) (by decide) (by decide))))) (Or.inr (slot_ne (Or.inr (wd_40 hw)) (Or.inr (wd_27 hw)) (by decide) (t := (.array .int)) (t' := (.array .int)) (by decide) (by decide))))) (Or.inr (slot_ne (Or.inr (wd_40 hw)) (Or.inr (wd_30 hw)) (by decide) (t := (.array .int)) (t' := (.array .long)) (by decide) (by decide)))) (Or.inl ne_oa_b9)) (Or.inl ne_oa_b18)) (Or.inl ne_oa_b28)) (Or.inl ne_oa_b9)) (Or.inl ne_oa_b18)) (Or.inl ne_oa_b28)) (Or.inr (slot_ne (Or.inr (wd_40 hw)) (Or.inr (wd_32 hw)) (by decide) (t := (.array .int)) (t' := .int) (by decide) (by decide))))) (Or.inl ne_oa_b81)) (Or.inl ne_oa_b81)) (Or.inl ne_oa_b81)) Kq104 nin0)
  obtain ⟨T108, h108, X108, e108, W108, st108⟩ := putF X104 hx hZ hown (host := "") (Or.inl (wd_39 hw)) Via.refl rfl f107 f106 (Or.inr ⟨(wd_40 hw), rfl, hnm⟩) (wd_5 hw) (ty := (.array .int)) (by decide) rfl rfl (g := (mkF m 224 #[.val (.ref oa), .val (.ref ob), .val (.int (1 : Int32)), .val (.int (63 : Int32)), .val (.int (3 : Int32)), .val (.ref b81), .val (.int (2 : Int32))] [(.ref b104), (.ref oa)])) rfl rfl (hb hby d1_224)
  refine ownEnds.law st108 ?_
  have N108 := Fr.snoc X108 N104 g_oa
  have KK108 : Keep h0 h108 [oa] := (KK104).wr W108 (Or.inl (List.mem_of_getElem? (i := 0) rfl))
  have Z108 : n0 ≤ h108.size := by rw [W108.size]; exact Z104
  have Fw108 : Fld Z h108 oa "com/example/libreach/libreach/engine/StateLayout" "runs" "[I" (.ref b104) := Fld.same W108 f107
  show ownEnds _ _ _ _ (T108.setTop (mkF m 227 #[.val (.ref oa), .val (.ref ob), .val (.int (1 : Int32)), .val (.int (63 : Int32)), .val (.int (3 : Int32)), .val (.ref b81), .val (.int (2 : Int32))] []))
  refine ownRetV X108 hlk hx hret (hb hby d1_227) (by decide) (by decide) ?_
  have f109 := (Exa.wr W108 f106)
  have f110 := (Fld.other W108 (Fld.keep (Fld.other W103 (Fld.other W99 (Fld.other W90 (Fld.ext E81 Fw78) (Or.inl ne_oa_b81)) (Or.inl ne_oa_b81)) (Or.inl ne_oa_b81)) Kq104 nin0) (Or.inr (slot_ne (Or.inr (wd_32 hw)) (Or.inr (wd_40 hw)) (by decide) (t := .int) (t' := (.array .int)) (by decide) (by decide))))
  rw [e108]
  exact ⟨rfl, N108, KK108, f109, f110⟩
set_option maxRecDepth 65536 in
set_option maxHeartbeats 40000000 in
theorem rm7 (l : Launch) (Z : State) (a0 : Array Value) (hw : ∀ d ∈ tables_1, d.before a0 Z = true) (oa : Addr) (vw : Int32) (h0 : Heap) (n0 : Nat) (Z0 : n0 ≤ h0.size)  (F_words : Fld Z h0 oa "com/example/libreach/libreach/engine/StateLayout" "words" "I" (.int vw)) :
    ownMet l Z (⟨"com/example/libreach/libreach/engine/StateLayout", "words", "()I"⟩ : MethodName) prog_17_method_4_code 1 (some .int) [] ({ frames := 0, cells := 0, slots := 0, locals := 0 } : Room) #[(.ref oa)] h0 (fun v h L => v = some (.int vw) ∧ L = [] ∧ h = h0) := by
  refine ownMet.of (plainFor_of_name pn_7) ?_
  intro p e s m below meth c T0 hx hby hml hZ hown hnm hret hlk X0 e0
  refine ownEnds.cast (ef_rm7 m oa) ?_
  show ownEnds _ _ _ _ (T0.setTop (mkF m 0 #[.val (.ref oa)] []))
  refine ownEnds.law (fun t k => XS.aloadN X0.here hx rfl (hb hby d7_0) rfl rfl k) ?_
  show ownEnds _ _ _ _ (T0.setTop (mkF m 1 #[.val (.ref oa)] [(.ref oa)]))
  obtain ⟨T1, X1, e1, st1⟩ := getF X0 hx hZ hown (host := "") (Or.inl (wd_31 hw)) Via.refl e0 F_words (g := (mkF m 1 #[.val (.ref oa)] [(.ref oa)])) rfl rfl (hb hby d7_1)
  refine ownEnds.law st1 ?_
  show ownEnds _ _ _ _ (T1.setTop (mkF m 4 #[.val (.ref oa)] [(.int vw)]))
  refine ownRetI X1 hlk hx hret (hb hby d7_4) (by decide) (by decide) ?_
  exact ⟨rfl, rfl, e1⟩
set_option maxRecDepth 65536 in
set_option maxHeartbeats 40000000 in
theorem rm6_0 (l : Launch) (Z : State) (a0 : Array Value) (hw : ∀ d ∈ tables_1, d.before a0 Z = true) (oa : Addr) (ob : Addr)  (h0 : Heap) (n0 : Nat) (Z0 : n0 ≤ h0.size) (E_oa : Exa Z h0 oa "com/example/libreach/libreach/engine/StateStore") (g_oa : n0 ≤ oa) (F_oa_layout : Fld Z h0 oa "com/example/libreach/libreach/engine/StateStore" "layout" "Lcom/example/libreach/libreach/engine/StateLayout;" .null) (F_oa_words : Fld Z h0 oa "com/example/libreach/libreach/engine/StateStore" "words" "I" (.int (0 : Int32))) (F_oa_recordWords : Fld Z h0 oa "com/example/libreach/libreach/engine/StateStore" "recordWords" "I" (.int (0 : Int32))) (F_oa_pageShift : Fld Z h0 oa "com/example/libreach/libreach/engine/StateStore" "pageShift" "I" (.int (0 : Int32))) (F_oa_pages : Fld Z h0 oa "com/example/libreach/libreach/engine/StateStore" "pages" "[[J" .null) (F_oa_table : Fld Z h0 oa "com/example/libreach/libreach/engine/StateStore" "table" "[J" .null) (E_ob : Exa Z h0 ob "com/example/libreach/libreach/engine/StateLayout") (F_ob_words : Fld Z h0 ob "com/example/libreach/libreach/engine/StateLayout" "words" "I" (.int (0 : Int32))) :
    ownMet l Z (⟨"com/example/libreach/libreach/engine/StateStore", "useLayout", "(Lcom/example/libreach/libreach/engine/StateLayout;)V"⟩ : MethodName) prog_18_method_14_code 3 none [] ({ frames := 1, cells := 0, slots := 0, locals := 16 } : Room) #[(.ref oa), (.ref ob)] h0 (fun v h L => v = none ∧ Fr n0 L ∧ Keep h0 h [oa] ∧ Exa Z h oa "com/example/libreach/libreach/engine/StateStore" ∧ Fld Z h oa "com/example/libreach/libreach/engine/StateStore" "words" "I" (.int (0 : Int32)) ∧ Fld Z h oa "com/example/libreach/libreach/engine/StateStore" "pages" "[[J" .null ∧ Fld Z h oa "com/example/libreach/libreach/engine/StateStore" "table" "[J" .null) := by
  refine ownMet.of (plainFor_of_name pn_6) ?_
  intro p e s m below meth c T0 hx hby hml hZ hown hnm hret hlk X0 e0
  refine ownEnds.cast (ef_rm6_0 m oa ob) ?_
  have ne_oa_ob : oa ≠ ob := ne_exa E_oa E_ob (by decide)
  show ownEnds _ _ _ _ (T0.setTop (mkF m 0 #[.val (.ref oa), .val (.ref ob), .unset] []))
  refine ownEnds.law (fun t k => XS.aloadN X0.here hx rfl (hb hby d6_0) rfl rfl (XS.aloadN X0.here hx rfl (hb hby d6_1) rfl rfl k)) ?_
  show ownEnds _ _ _ _ (T0.setTop (mkF m 2 #[.val (.ref oa), .val (.ref ob), .unset] [(.ref ob), (.ref oa)]))
  obtain ⟨T1, h1, X1, e1, W1, st1⟩ := putF X0 hx hZ hown (host := "") (Or.inl (wd_52 hw)) Via.refl e0 F_oa_layout E_oa (Or.inl (wd_53 hw)) (wd_2 hw) (ty := (.object "com/example/libreach/libreach/engine/StateLayout")) (by decide) rfl rfl (g := (mkF m 2 #[.val (.ref oa), .val (.ref ob), .unset] [(.ref ob), (.ref oa)])) rfl rfl (hb hby d6_2)
  refine ownEnds.law st1 ?_
  have N1 := Fr.snoc X1 (Fr.nil n0) g_oa
  have KK1 : Keep h0 h1 [oa] := (Keep.refl h0 [oa]).wr W1 (Or.inl (List.mem_of_getElem? (i := 0) rfl))
  have Z1 : n0 ≤ h1.size := by rw [W1.size]; exact Z0
  have Fw1 : Fld Z h1 oa "com/example/libreach/libreach/engine/StateStore" "layout" "Lcom/example/libreach/libreach/engine/StateLayout;" (.ref ob) := Fld.same W1 F_oa_layout
  show ownEnds _ _ _ _ (T1.setTop (mkF m 5 #[.val (.ref oa), .val (.ref ob), .unset] []))
  refine ownEnds.law (fun t k => XS.aloadN X1.here hx rfl (hb hby d6_5) rfl rfl (XS.aloadN X1.here hx rfl (hb hby d6_6) rfl rfl k)) ?_
  show ownEnds _ _ _ _ (T1.setTop (mkF m 7 #[.val (.ref oa), .val (.ref ob), .unset] [(.ref ob), (.ref oa)]))
  have f3 := (Fld.other W1 F_ob_words (Or.inl (Ne.symm ne_oa_ob)))
  have f4 := (Exa.wr W1 E_ob)
  obtain ⟨v2, T2, L2, X2, hQ2, st2⟩ := ownCallV X1 hx hZ hown (y := (⟨"com/example/libreach/libreach/engine/StateLayout", "words", "()I"⟩ : MethodName)) (z := (⟨"com/example/libreach/libreach/engine/StateLayout", "words", "()I"⟩ : MethodName)) (a := ob) (as := []) (wd_54 hw) (wd_55 hw) (notFace_of_selects (args := #[]) (mvT hZ (wd_57 hw))) (wd_57 hw) (wd_56 hw) (wd_6 hw) (wd_58 hw) (by decide) (rm7 l Z a0 hw ob (0 : Int32) h1 n0 Z1 f3) e1 f4 1 (by decide) (by decide) (by decide) (by decide) (g := (mkF m 7 #[.val (.ref oa), .val (.ref ob), .unset] [(.ref ob), (.ref oa)])) rfl (by rw [hml]; rfl) (rest := [(.ref oa)]) pd_2 rfl rfl (by show 2 * 0 + _ ≤ _; exact Nat.le_of_eq rfl) (hb hby d6_7)
  obtain ⟨rfl, rfl, e2⟩ := hQ2
  rw [List.append_nil] at X2
  refine ownEnds.law st2 ?_
  show ownEnds _ _ _ _ (T2.setTop (mkF m 10 #[.val (.ref oa), .val (.ref ob), .unset] [(.int (0 : Int32)), (.ref oa)]))
  have f5 := (Exa.wr W1 E_oa)
  have f6 := (Fld.other W1 F_oa_words (Or.inr (slot_ne (Or.inl (wd_60 hw)) (Or.inl (wd_53 hw)) (by decide) (t := .int) (t' := (.object "com/example/libreach/libreach/engine/StateLayout")) (by decide) (by decide))))
  obtain ⟨T7, h7, X7, e7, W7, st7⟩ := putF X2 hx hZ hown (host := "") (Or.inl (wd_59 hw)) Via.refl e2 f6 f5 (Or.inl (wd_60 hw)) (wd_2 hw) (ty := .int) (by decide) rfl rfl (g := (mkF m 10 #[.val (.ref oa), .val (.ref ob), .unset] [(.int (0 : Int32)), (.ref oa)])) rfl rfl (hb hby d6_10)
  refine ownEnds.law st7 ?_
  have N7 := Fr.snoc X7 N1 g_oa
  have KK7 : Keep h0 h7 [oa] := (KK1).wr W7 (Or.inl (List.mem_of_getElem? (i := 0) rfl))
  have Z7 : n0 ≤ h7.size := by rw [W7.size]; exact Z1
  have Fw7 : Fld Z h7 oa "com/example/libreach/libreach/engine/StateStore" "words" "I" (.int (0 : Int32)) := Fld.same W7 f6
  show ownEnds _ _ _ _ (T7.setTop (mkF m 13 #[.val (.ref oa), .val (.ref ob), .unset] []))
  refine ownEnds.law (fun t k => XS.aloadN X7.here hx rfl (hb hby d6_13) rfl rfl (XS.aloadN X7.here hx rfl (hb hby d6_14) rfl rfl k)) ?_
  show ownEnds _ _ _ _ (T7.setTop (mkF m 15 #[.val (.ref oa), .val (.ref ob), .unset] [(.ref oa), (.ref oa)]))
  obtain ⟨T8, X8, e8, st8⟩ := getF X7 hx hZ hown (host := "") (Or.inl (wd_59 hw)) Via.refl e7 Fw7 (g := (mkF m 15 #[.val (.ref oa), .val (.ref ob), .unset] [(.ref oa), (.ref oa)])) rfl rfl (hb hby d6_15)
  refine ownEnds.law st8 ?_
  show ownEnds _ _ _ _ (T8.setTop (mkF m 18 #[.val (.ref oa), .val (.ref ob), .unset] [(.int (0 : Int32)), (.ref oa)]))
  refine ownEnds.law (fun t k => XS.iconst X8.here hx rfl (hb hby d6_18) (XS.iadd X8.here hx rfl (hb hby d6_19) rfl k)) ?_
  show ownEnds _ _ _ _ (T8.setTop (mkF m 20 #[.val (.ref oa), .val (.ref ob), .unset] [(.int (1 : Int32)), (.ref oa)]))
  have f9 := (Exa.wr W7 f5)
  have f10 := (Fld.other W7 (Fld.other W1 F_oa_recordWords (Or.inr (slot_ne (Or.inl (wd_62 hw)) (Or.inl (wd_53 hw)) (by decide) (t := .int) (t' := (.object "com/example/libreach/libreach/engine/StateLayout")) (by decide) (by decide)))) (Or.inr (slot_ne (Or.inl (wd_62 hw)) (Or.inl (wd_60 hw)) (by decide) (t := .int) (t' := .int) (by decide) (by decide))))
  obtain ⟨T11, h11, X11, e11, W11, st11⟩ := putF X8 hx hZ hown (host := "") (Or.inl (wd_61 hw)) Via.refl e8 f10 f9 (Or.inl (wd_62 hw)) (wd_2 hw) (ty := .int) (by decide) rfl rfl (g := (mkF m 20 #[.val (.ref oa), .val (.ref ob), .unset] [(.int (1 : Int32)), (.ref oa)])) rfl rfl (hb hby d6_20)
  refine ownEnds.law st11 ?_
  have N11 := Fr.snoc X11 N7 g_oa
  have KK11 : Keep h0 h11 [oa] := (KK7).wr W11 (Or.inl (List.mem_of_getElem? (i := 0) rfl))
  have Z11 : n0 ≤ h11.size := by rw [W11.size]; exact Z7
  have Fw11 : Fld Z h11 oa "com/example/libreach/libreach/engine/StateStore" "recordWords" "I" (.int (1 : Int32)) := Fld.same W11 f10
  show ownEnds _ _ _ _ (T11.setTop (mkF m 23 #[.val (.ref oa), .val (.ref ob), .unset] []))
  refine ownEnds.law (fun t k => XS.bipush X11.here hx rfl (hb hby d6_23) (XS.aloadN X11.here hx rfl (hb hby d6_25) rfl rfl k)) ?_
  show ownEnds _ _ _ _ (T11.setTop (mkF m 26 #[.val (.ref oa), .val (.ref ob), .unset] [(.ref oa), (.int (31 : Int32))]))
  obtain ⟨T12, X12, e12, st12⟩ := getF X11 hx hZ hown (host := "") (Or.inl (wd_61 hw)) Via.refl e11 Fw11 (g := (mkF m 26 #[.val (.ref oa), .val (.ref ob), .unset] [(.ref oa), (.int (31 : Int32))])) rfl rfl (hb hby d6_26)
  refine ownEnds.law st12 ?_
  show ownEnds _ _ _ _ (T12.setTop (mkF m 29 #[.val (.ref oa), .val (.ref ob), .unset] [(.int (1 : Int32)), (.int (31 : Int32))]))
  obtain ⟨v13, T13, L13, X13, hQ13, st13⟩ := ownCallS X12 hx hZ hown (y := (⟨"java/lang/Integer", "numberOfLeadingZeros", "(I)I"⟩ : MethodName)) (as := [(.int (1 : Int32))]) (wd_63 hw) (wd_64 hw) (wd_65 hw) (wd_66 hw) (by decide) (rm8_1 l Z a0 hw h11 n0 Z11) e12 1 (by decide) (by decide) (by decide) (by decide) (g := (mkF m 29 #[.val (.ref oa), .val (.ref ob), .unset] [(.int (1 : Int32)), (.int (31 : Int32))])) rfl (by rw [hml]; rfl) (rest := [(.int (31 : Int32))]) pd_3 rfl rfl (by show 2 * 0 + _ ≤ _; exact Nat.le_of_eq rfl) (hb hby d6_29)
  obtain ⟨rfl, rfl, e13⟩ := hQ13
  rw [List.append_nil] at X13
  refine ownEnds.law st13 ?_
  show ownEnds _ _ _ _ (T13.setTop (mkF m 32 #[.val (.ref oa), .val (.ref ob), .unset] [(.int (31 : Int32)), (.int (31 : Int32))]))
  refine ownEnds.law (fun t k => XS.isub X13.here hx rfl (hb hby d6_32) rfl (XS.istoreN X13.here hx rfl (hb hby d6_33) rfl (l' := #[.val (.ref oa), .val (.ref ob), .val (.int (0 : Int32))]) rfl (XS.aloadN X13.here hx rfl (hb hby d6_34) rfl rfl (XS.iconst X13.here hx rfl (hb hby d6_35) (X13.ldcInt hx hown (mvT hZ (wd_68 hw)) (g := (mkF m 36 #[.val (.ref oa), .val (.ref ob), .val (.int (0 : Int32))] [(.int (0 : Int32)), (.ref oa)])) rfl (hb hby d6_36) _ k))))) ?_
  show ownEnds _ _ _ _ (T13.setTop (mkF m 38 #[.val (.ref oa), .val (.ref ob), .val (.int (0 : Int32))] [(.int (32768 : Int32)), (.int (0 : Int32)), (.ref oa)]))
  obtain ⟨v14, T14, L14, X14, hQ14, st14⟩ := ownCallS X13 hx hZ hown (y := (⟨"java/lang/Integer", "numberOfTrailingZeros", "(I)I"⟩ : MethodName)) (as := [(.int (32768 : Int32))]) (wd_69 hw) (wd_70 hw) (wd_65 hw) (wd_71 hw) (by decide) (rm9_32768 l Z a0 hw h11 n0 Z11) e13 2 (by decide) (by decide) (by decide) (by decide) (g := (mkF m 38 #[.val (.ref oa), .val (.ref ob), .val (.int (0 : Int32))] [(.int (32768 : Int32)), (.int (0 : Int32)), (.ref oa)])) rfl (by rw [hml]; rfl) (rest := [(.int (0 : Int32)), (.ref oa)]) pd_3 rfl rfl (by show 2 * 0 + _ ≤ _; exact Nat.le_of_eq rfl) (hb hby d6_38)
  obtain ⟨rfl, rfl, e14⟩ := hQ14
  rw [List.append_nil] at X14
  refine ownEnds.law st14 ?_
  show ownEnds _ _ _ _ (T14.setTop (mkF m 41 #[.val (.ref oa), .val (.ref ob), .val (.int (0 : Int32))] [(.int (15 : Int32)), (.int (0 : Int32)), (.ref oa)]))
  refine ownEnds.law (fun t k => XS.iloadN X14.here hx rfl (hb hby d6_41) rfl (XS.isub X14.here hx rfl (hb hby d6_42) rfl k)) ?_
  show ownEnds _ _ _ _ (T14.setTop (mkF m 43 #[.val (.ref oa), .val (.ref ob), .val (.int (0 : Int32))] [(.int (15 : Int32)), (.int (0 : Int32)), (.ref oa)]))
  obtain ⟨v15, T15, L15, X15, hQ15, st15⟩ := ownCallS X14 hx hZ hown (y := (⟨"java/lang/Math", "max", "(II)I"⟩ : MethodName)) (as := [(.int (0 : Int32)), (.int (15 : Int32))]) (wd_72 hw) (wd_73 hw) (wd_74 hw) (wd_75 hw) (by decide) (rm10 l Z a0 hw (0 : Int32) (15 : Int32) h11 n0 Z11) e14 1 (by decide) (by decide) (by decide) (by decide) (g := (mkF m 43 #[.val (.ref oa), .val (.ref ob), .val (.int (0 : Int32))] [(.int (15 : Int32)), (.int (0 : Int32)), (.ref oa)])) rfl (by rw [hml]; rfl) (rest := [(.ref oa)]) pd_0 rfl rfl (by show 2 * 0 + _ ≤ _; exact Nat.le_of_eq rfl) (hb hby d6_43)
  obtain ⟨hv15, rfl, e15⟩ := hQ15
  rw [List.append_nil] at X15
  have hw15 : v15 = some (.int (15 : Int32)) := hv15.trans (by decide)
  subst hw15
  refine ownEnds.law st15 ?_
  show ownEnds _ _ _ _ (T15.setTop (mkF m 46 #[.val (.ref oa), .val (.ref ob), .val (.int (0 : Int32))] [(.int (15 : Int32)), (.ref oa)]))
  have f16 := (Exa.wr W11 f9)
  have f17 := (Fld.other W11 (Fld.other W7 (Fld.other W1 F_oa_pageShift (Or.inr (slot_ne (Or.inl (wd_77 hw)) (Or.inl (wd_53 hw)) (by decide) (t := .int) (t' := (.object "com/example/libreach/libreach/engine/StateLayout")) (by decide) (by decide)))) (Or.inr (slot_ne (Or.inl (wd_77 hw)) (Or.inl (wd_60 hw)) (by decide) (t := .int) (t' := .int) (by decide) (by decide)))) (Or.inr (slot_ne (Or.inl (wd_77 hw)) (Or.inl (wd_62 hw)) (by decide) (t := .int) (t' := .int) (by decide) (by decide))))
  obtain ⟨T18, h18, X18, e18, W18, st18⟩ := putF X15 hx hZ hown (host := "") (Or.inl (wd_76 hw)) Via.refl e15 f17 f16 (Or.inl (wd_77 hw)) (wd_2 hw) (ty := .int) (by decide) rfl rfl (g := (mkF m 46 #[.val (.ref oa), .val (.ref ob), .val (.int (0 : Int32))] [(.int (15 : Int32)), (.ref oa)])) rfl rfl (hb hby d6_46)
  refine ownEnds.law st18 ?_
  have N18 := Fr.snoc X18 N11 g_oa
  have KK18 : Keep h0 h18 [oa] := (KK11).wr W18 (Or.inl (List.mem_of_getElem? (i := 0) rfl))
  have Z18 : n0 ≤ h18.size := by rw [W18.size]; exact Z11
  have Fw18 : Fld Z h18 oa "com/example/libreach/libreach/engine/StateStore" "pageShift" "I" (.int (15 : Int32)) := Fld.same W18 f17
  show ownEnds _ _ _ _ (T18.setTop (mkF m 49 #[.val (.ref oa), .val (.ref ob), .val (.int (0 : Int32))] []))
  refine ownRetV X18 hlk hx hret (hb hby d6_49) (by decide) (by decide) ?_
  have f19 := (Exa.wr W18 f16)
  have f20 := (Fld.other W18 (Fld.other W11 Fw7 (Or.inr (slot_ne (Or.inl (wd_60 hw)) (Or.inl (wd_62 hw)) (by decide) (t := .int) (t' := .int) (by decide) (by decide)))) (Or.inr (slot_ne (Or.inl (wd_60 hw)) (Or.inl (wd_77 hw)) (by decide) (t := .int) (t' := .int) (by decide) (by decide))))
  have f21 := (Fld.other W18 (Fld.other W11 (Fld.other W7 (Fld.other W1 F_oa_pages (Or.inr (slot_ne (Or.inl (wd_81 hw)) (Or.inl (wd_53 hw)) (by decide) (t := (.array (.array .long))) (t' := (.object "com/example/libreach/libreach/engine/StateLayout")) (by decide) (by decide)))) (Or.inr (slot_ne (Or.inl (wd_81 hw)) (Or.inl (wd_60 hw)) (by decide) (t := (.array (.array .long))) (t' := .int) (by decide) (by decide)))) (Or.inr (slot_ne (Or.inl (wd_81 hw)) (Or.inl (wd_62 hw)) (by decide) (t := (.array (.array .long))) (t' := .int) (by decide) (by decide)))) (Or.inr (slot_ne (Or.inl (wd_81 hw)) (Or.inl (wd_77 hw)) (by decide) (t := (.array (.array .long))) (t' := .int) (by decide) (by decide))))
  have f22 := (Fld.other W18 (Fld.other W11 (Fld.other W7 (Fld.other W1 F_oa_table (Or.inr (slot_ne (Or.inl (wd_84 hw)) (Or.inl (wd_53 hw)) (by decide) (t := (.array .long)) (t' := (.object "com/example/libreach/libreach/engine/StateLayout")) (by decide) (by decide)))) (Or.inr (slot_ne (Or.inl (wd_84 hw)) (Or.inl (wd_60 hw)) (by decide) (t := (.array .long)) (t' := .int) (by decide) (by decide)))) (Or.inr (slot_ne (Or.inl (wd_84 hw)) (Or.inl (wd_62 hw)) (by decide) (t := (.array .long)) (t' := .int) (by decide) (by decide)))) (Or.inr (slot_ne (Or.inl (wd_84 hw)) (Or.inl (wd_77 hw)) (by decide) (t := (.array .long)) (t' := .int) (by decide) (by decide))))
  rw [e18]
  exact ⟨rfl, N18, KK18, f19, f20, f21, f22⟩
set_option maxRecDepth 65536 in
set_option maxHeartbeats 40000000 in
theorem rm5_0 (l : Launch) (Z : State) (a0 : Array Value) (hw : ∀ d ∈ tables_1, d.before a0 Z = true) (oa : Addr) (ob : Addr)  (h0 : Heap) (n0 : Nat) (Z0 : n0 ≤ h0.size) (E_oa : Exa Z h0 oa "com/example/libreach/libreach/engine/StateStore") (g_oa : n0 ≤ oa) (F_oa_layout : Fld Z h0 oa "com/example/libreach/libreach/engine/StateStore" "layout" "Lcom/example/libreach/libreach/engine/StateLayout;" .null) (F_oa_words : Fld Z h0 oa "com/example/libreach/libreach/engine/StateStore" "words" "I" (.int (0 : Int32))) (F_oa_recordWords : Fld Z h0 oa "com/example/libreach/libreach/engine/StateStore" "recordWords" "I" (.int (0 : Int32))) (F_oa_pageShift : Fld Z h0 oa "com/example/libreach/libreach/engine/StateStore" "pageShift" "I" (.int (0 : Int32))) (F_oa_pages : Fld Z h0 oa "com/example/libreach/libreach/engine/StateStore" "pages" "[[J" .null) (F_oa_table : Fld Z h0 oa "com/example/libreach/libreach/engine/StateStore" "table" "[J" .null) (E_ob : Exa Z h0 ob "com/example/libreach/libreach/engine/StateLayout") (F_ob_words : Fld Z h0 ob "com/example/libreach/libreach/engine/StateLayout" "words" "I" (.int (0 : Int32))) :
    ownMet l Z (⟨"com/example/libreach/libreach/engine/StateStore", "<init>", "(Lcom/example/libreach/libreach/engine/StateLayout;I)V"⟩ : MethodName) prog_18_method_2_code 4 none [] ({ frames := 2, cells := 2, slots := 1025, locals := 32 } : Room) #[(.ref oa), (.ref ob), (.int (0 : Int32))] h0 (fun v h L => v = none ∧ Fr n0 L ∧ Keep h0 h [oa] ∧ Exa Z h oa "com/example/libreach/libreach/engine/StateStore" ∧ Fld Z h oa "com/example/libreach/libreach/engine/StateStore" "words" "I" (.int (0 : Int32))) := by
  refine ownMet.of (plainFor_of_name pn_5) ?_
  intro p e s m below meth c T0 hx hby hml hZ hown hnm hret hlk X0 e0
  refine ownEnds.cast (ef_rm5_0 m oa ob) ?_
  have ne_oa_ob : oa ≠ ob := ne_exa E_oa E_ob (by decide)
  show ownEnds _ _ _ _ (T0.setTop (mkF m 0 #[.val (.ref oa), .val (.ref ob), .val (.int (0 : Int32)), .unset] []))
  refine ownEnds.law (fun t k => XS.aloadN X0.here hx rfl (hb hby d5_0) rfl rfl k) ?_
  show ownEnds _ _ _ _ (T0.setTop (mkF m 1 #[.val (.ref oa), .val (.ref ob), .val (.int (0 : Int32)), .unset] [(.ref oa)]))
  obtain ⟨T1, X1, e1, st1⟩ := initO X0 hx hZ hown (wd_47 hw) (wd_11 hw) (wd_12 hw) e0 (g := (mkF m 1 #[.val (.ref oa), .val (.ref ob), .val (.int (0 : Int32)), .unset] [(.ref oa)])) rfl (by rw [hml]; rfl) rfl (hb hby d5_1) (by decide) (W := 0) (by show 2 * 0 + _ ≤ _; exact Nat.le_of_eq rfl) (by decide)
  refine ownEnds.law st1 ?_
  show ownEnds _ _ _ _ (T1.setTop (mkF m 4 #[.val (.ref oa), .val (.ref ob), .val (.int (0 : Int32)), .unset] []))
  refine ownEnds.law (fun t k => XS.aloadN X1.here hx rfl (hb hby d5_4) rfl rfl (XS.aloadN X1.here hx rfl (hb hby d5_5) rfl rfl k)) ?_
  show ownEnds _ _ _ _ (T1.setTop (mkF m 6 #[.val (.ref oa), .val (.ref ob), .val (.int (0 : Int32)), .unset] [(.ref ob), (.ref oa)]))
  obtain ⟨v2, T2, L2, X2, hQ2, st2⟩ := ownCallP X1 hx hZ hown (y := (⟨"com/example/libreach/libreach/engine/StateStore", "useLayout", "(Lcom/example/libreach/libreach/engine/StateLayout;)V"⟩ : MethodName)) (z := (⟨"com/example/libreach/libreach/engine/StateStore", "hash", "([JI)I"⟩ : MethodName)) (a := oa) (as := [(.ref ob)]) (wd_48 hw) rfl (wd_88 hw) (wd_49 hw) (wd_50 hw) (wd_3 hw) (wd_51 hw) (by decide) (rm6_0 l Z a0 hw oa ob  h0 n0 Z0 E_oa g_oa F_oa_layout F_oa_words F_oa_recordWords F_oa_pageShift F_oa_pages F_oa_table E_ob F_ob_words) e1 E_oa 0 (by decide) (by decide) (by decide) (by decide) (g := (mkF m 6 #[.val (.ref oa), .val (.ref ob), .val (.int (0 : Int32)), .unset] [(.ref ob), (.ref oa)])) rfl (by rw [hml]; rfl) (rest := []) pd_4 rfl rfl (by show 2 * 0 + _ ≤ _; exact Nat.le_of_eq rfl) (hb hby d5_6)
  obtain ⟨rfl, Nq2, Kq2, Eq2, Fc2_0, Fc2_1, Fc2_2⟩ := hQ2
  have N2 := Fr.app (Fr.nil n0) Nq2
  have KK2 : Keep h0 T2.heap [oa] := Keep.trans (Keep.refl h0 [oa]) Kq2 (allS (Or.inl (List.mem_of_getElem? (i := 0) rfl)) all0)
  have Z2 : n0 ≤ T2.heap.size := Nat.le_trans Z0 Kq2.1
  refine ownEnds.law st2 ?_
  show ownEnds _ _ _ _ (T2.setTop (mkF m 9 #[.val (.ref oa), .val (.ref ob), .val (.int (0 : Int32)), .unset] []))
  refine ownEnds.law (fun t k => XS.aloadN X2.here hx rfl (hb hby d5_9) rfl rfl (XS.iconst X2.here hx rfl (hb hby d5_10) k)) ?_
  show ownEnds _ _ _ _ (T2.setTop (mkF m 11 #[.val (.ref oa), .val (.ref ob), .val (.int (0 : Int32)), .unset] [(.int (1 : Int32)), (.ref oa)]))
  obtain ⟨T3, h3, k3, X3, e3, E3, A3, -, O3, st3⟩ := newRA X2 hx hZ hown (ty := .long) (by decide) (wd_78 hw) (wd_79 hw) rfl (g := (mkF m 11 #[.val (.ref oa), .val (.ref ob), .val (.int (0 : Int32)), .unset] [(.int (1 : Int32)), (.ref oa)])) rfl (hb hby d5_11) rfl (by decide) (cap := 1) (by decide) (by decide) (by decide) (by decide) (ad := "[[J") (by decide)
  obtain ⟨b3, g3⟩ : ∃ z, z = T2.heap.size := ⟨_, rfl⟩
  rw [← g3] at A3 st3
  refine ownEnds.law st3 ?_
  have V_b3 : Arv Z h3 b3 k3 (.array .long) (1 : Int32) [.null] .null := (Arv.new A3 (by decide)).pad (pad_rep [] .null 1)
  have ne_oa_b3 : oa ≠ b3 := Nat.ne_of_lt (Nat.lt_of_lt_of_eq Eq2.lt g3.symm)
  have f4 := (Exa.keep E_ob Kq2)
  have ne_ob_b3 : ob ≠ b3 := Nat.ne_of_lt (Nat.lt_of_lt_of_eq f4.lt g3.symm)
  have g_b3 : n0 ≤ b3 := Nat.le_trans Z2 (Nat.le_of_eq g3.symm)
  have sz_b3 : h0.size ≤ b3 := Nat.le_trans (KK2).1 (Nat.le_of_eq g3.symm)
  have Z3 : n0 ≤ h3.size := Nat.le_trans Z2 E3.1
  have KK3 : Keep h0 h3 [oa] := (KK2).ext E3
  show ownEnds _ _ _ _ (T3.setTop (mkF m 14 #[.val (.ref oa), .val (.ref ob), .val (.int (0 : Int32)), .unset] [(.ref b3), (.ref oa)]))
  have f5 := (Exa.ext E3 Eq2)
  have f6 := (Fld.ext E3 Fc2_1)
  obtain ⟨T7, h7, X7, e7, W7, st7⟩ := putF X3 hx hZ hown (host := "") (Or.inl (wd_80 hw)) Via.refl e3 f6 f5 (Or.inl (wd_81 hw)) (wd_2 hw) (ty := (.array (.array .long))) (by decide) rfl rfl (g := (mkF m 14 #[.val (.ref oa), .val (.ref ob), .val (.int (0 : Int32)), .unset] [(.ref b3), (.ref oa)])) rfl rfl (hb hby d5_14)
  refine ownEnds.law st7 ?_
  have N7 := Fr.snoc X7 N2 g_oa
  have KK7 : Keep h0 h7 [oa] := (KK3).wr W7 (Or.inl (List.mem_of_getElem? (i := 0) rfl))
  have Z7 : n0 ≤ h7.size := by rw [W7.size]; exact Z3
  have Fw7 : Fld Z h7 oa "com/example/libreach/libreach/engine/StateStore" "pages" "[[J" (.ref b3) := Fld.same W7 f6
  show ownEnds _ _ _ _ (T7.setTop (mkF m 17 #[.val (.ref oa), .val (.ref ob), .val (.int (0 : Int32)), .unset] []))
  refine ownEnds.law (fun t k => XS.sipush X7.here hx rfl (hb hby d5_17) (XS.istoreN X7.here hx rfl (hb hby d5_20) rfl (l' := #[.val (.ref oa), .val (.ref ob), .val (.int (0 : Int32)), .val (.int (1024 : Int32))]) rfl (XS.iloadN X7.here hx rfl (hb hby d5_21) rfl (X7.ldcInt hx hown (mvT hZ (wd_82 hw)) (g := (mkF m 22 #[.val (.ref oa), .val (.ref ob), .val (.int (0 : Int32)), .val (.int (1024 : Int32))] [(.int (1024 : Int32))])) rfl (hb hby d5_22) _ k)))) ?_
  show ownEnds _ _ _ _ (T7.setTop (mkF m 24 #[.val (.ref oa), .val (.ref ob), .val (.int (0 : Int32)), .val (.int (1024 : Int32))] [(.int (1073741824 : Int32)), (.int (1024 : Int32))]))
  refine ownEnds.law (fun t => XS.icmpNo X7.here hx rfl (hb hby d5_24) rfl (tlt (by decide : (1024 : Int32) < (1073741824 : Int32))).2.1) ?_
  show ownEnds _ _ _ _ (T7.setTop (mkF m 27 #[.val (.ref oa), .val (.ref ob), .val (.int (0 : Int32)), .val (.int (1024 : Int32))] []))
  refine ownEnds.law (fun t k => XS.iloadN X7.here hx rfl (hb hby d5_27) rfl (XS.iloadN X7.here hx rfl (hb hby d5_28) rfl (XS.iconst X7.here hx rfl (hb hby d5_29) (XS.idiv X7.here hx rfl (hb hby d5_30) rfl (by decide) (XS.iconst X7.here hx rfl (hb hby d5_31) (XS.imul X7.here hx rfl (hb hby d5_32) rfl k)))))) ?_
  show ownEnds _ _ _ _ (T7.setTop (mkF m 33 #[.val (.ref oa), .val (.ref ob), .val (.int (0 : Int32)), .val (.int (1024 : Int32))] [(.int (768 : Int32)), (.int (0 : Int32))]))
  refine ownEnds.law (fun t => XS.icmpYes X7.here hx rfl (pc0 := 33) (pc' := 43) rfl (hb hby d5_33) rfl (flt (by decide : ¬ ((768 : Int32) < (0 : Int32)))).2.2.2 (by decide) (by decide)) ?_
  show ownEnds _ _ _ _ (T7.setTop (mkF m 43 #[.val (.ref oa), .val (.ref ob), .val (.int (0 : Int32)), .val (.int (1024 : Int32))] []))
  refine ownEnds.law (fun t k => XS.aloadN X7.here hx rfl (hb hby d5_43) rfl rfl (XS.iloadN X7.here hx rfl (hb hby d5_44) rfl k)) ?_
  show ownEnds _ _ _ _ (T7.setTop (mkF m 45 #[.val (.ref oa), .val (.ref ob), .val (.int (0 : Int32)), .val (.int (1024 : Int32))] [(.int (1024 : Int32)), (.ref oa)]))
  obtain ⟨T8, h8, k8, X8, e8, E8, A8, st8⟩ := newP X7 hx hZ (aty := .long) (wd_28 hw) e7 (g := (mkF m 45 #[.val (.ref oa), .val (.ref ob), .val (.int (0 : Int32)), .val (.int (1024 : Int32))] [(.int (1024 : Int32)), (.ref oa)])) rfl (hb hby d5_45) rfl (by decide) (cap := 1024) (by decide) (by decide) (by decide) (by decide)
  obtain ⟨b8, g8⟩ : ∃ z, z = h7.size := ⟨_, rfl⟩
  rw [← g8] at A8 st8
  refine ownEnds.law st8 ?_
  have V_b8 : Arv Z h8 b8 k8 .long (1024 : Int32) [] (.long (0 : Int64)) := Arv.new A8 (by decide)
  have f9 := (Exa.wr W7 f5)
  have ne_oa_b8 : oa ≠ b8 := Nat.ne_of_lt (Nat.lt_of_lt_of_eq f9.lt g8.symm)
  have f10 := (Exa.wr W7 (Exa.ext E3 f4))
  have ne_ob_b8 : ob ≠ b8 := Nat.ne_of_lt (Nat.lt_of_lt_of_eq f10.lt g8.symm)
  have f11 := (Arv.other V_b3 W7 (Ne.symm ne_oa_b3))
  have ne_b3_b8 : b3 ≠ b8 := Nat.ne_of_lt (Nat.lt_of_lt_of_eq f11.lt g8.symm)
  have g_b8 : n0 ≤ b8 := Nat.le_trans Z7 (Nat.le_of_eq g8.symm)
  have sz_b8 : h0.size ≤ b8 := Nat.le_trans (KK7).1 (Nat.le_of_eq g8.symm)
  have Z8 : n0 ≤ h8.size := Nat.le_trans Z7 E8.1
  have KK8 : Keep h0 h8 [oa] := (KK7).ext E8
  show ownEnds _ _ _ _ (T8.setTop (mkF m 47 #[.val (.ref oa), .val (.ref ob), .val (.int (0 : Int32)), .val (.int (1024 : Int32))] [(.ref b8), (.ref oa)]))
  have f12 := (Exa.ext E8 f9)
  have f13 := (Fld.ext E8 (Fld.other W7 (Fld.ext E3 Fc2_2) (Or.inr (slot_ne (Or.inl (wd_84 hw)) (Or.inl (wd_81 hw)) (by decide) (t := (.array .long)) (t' := (.array (.array .long))) (by decide) (by decide)))))
  obtain ⟨T14, h14, X14, e14, W14, st14⟩ := putF X8 hx hZ hown (host := "") (Or.inl (wd_83 hw)) Via.refl e8 f13 f12 (Or.inl (wd_84 hw)) (wd_2 hw) (ty := (.array .long)) (by decide) rfl rfl (g := (mkF m 47 #[.val (.ref oa), .val (.ref ob), .val (.int (0 : Int32)), .val (.int (1024 : Int32))] [(.ref b8), (.ref oa)])) rfl rfl (hb hby d5_47)
  refine ownEnds.law st14 ?_
  have N14 := Fr.snoc X14 N7 g_oa
  have KK14 : Keep h0 h14 [oa] := (KK8).wr W14 (Or.inl (List.mem_of_getElem? (i := 0) rfl))
  have Z14 : n0 ≤ h14.size := by rw [W14.size]; exact Z8
  have Fw14 : Fld Z h14 oa "com/example/libreach/libreach/engine/StateStore" "table" "[J" (.ref b8) := Fld.same W14 f13
  show ownEnds _ _ _ _ (T14.setTop (mkF m 50 #[.val (.ref oa), .val (.ref ob), .val (.int (0 : Int32)), .val (.int (1024 : Int32))] []))
  refine ownRetV X14 hlk hx hret (hb hby d5_50) (by decide) (by decide) ?_
  have f15 := (Exa.wr W14 f12)
  have f16 := (Fld.other W14 (Fld.ext E8 (Fld.other W7 (Fld.ext E3 Fc2_0) (Or.inr (slot_ne (Or.inl (wd_60 hw)) (Or.inl (wd_81 hw)) (by decide) (t := .int) (t' := (.array (.array .long))) (by decide) (by decide))))) (Or.inr (slot_ne (Or.inl (wd_60 hw)) (Or.inl (wd_84 hw)) (by decide) (t := .int) (t' := (.array .long)) (by decide) (by decide))))
  rw [e14]
  exact ⟨rfl, N14, KK14, f15, f16⟩
set_option maxRecDepth 65536 in
set_option maxHeartbeats 40000000 in
theorem rm4_0 (l : Launch) (Z : State) (a0 : Array Value) (hw : ∀ d ∈ tables_1, d.before a0 Z = true) (oa : Addr) (ob : Addr)  (h0 : Heap) (n0 : Nat) (Z0 : n0 ≤ h0.size) (E_oa : Exa Z h0 oa "com/example/libreach/libreach/engine/StateStore") (g_oa : n0 ≤ oa) (F_oa_layout : Fld Z h0 oa "com/example/libreach/libreach/engine/StateStore" "layout" "Lcom/example/libreach/libreach/engine/StateLayout;" .null) (F_oa_words : Fld Z h0 oa "com/example/libreach/libreach/engine/StateStore" "words" "I" (.int (0 : Int32))) (F_oa_recordWords : Fld Z h0 oa "com/example/libreach/libreach/engine/StateStore" "recordWords" "I" (.int (0 : Int32))) (F_oa_pageShift : Fld Z h0 oa "com/example/libreach/libreach/engine/StateStore" "pageShift" "I" (.int (0 : Int32))) (F_oa_pages : Fld Z h0 oa "com/example/libreach/libreach/engine/StateStore" "pages" "[[J" .null) (F_oa_table : Fld Z h0 oa "com/example/libreach/libreach/engine/StateStore" "table" "[J" .null) (E_ob : Exa Z h0 ob "com/example/libreach/libreach/engine/StateLayout") (F_ob_words : Fld Z h0 ob "com/example/libreach/libreach/engine/StateLayout" "words" "I" (.int (0 : Int32))) :
    ownMet l Z (⟨"com/example/libreach/libreach/engine/StateStore", "<init>", "(Lcom/example/libreach/libreach/engine/StateLayout;)V"⟩ : MethodName) prog_18_method_1_code 2 none [] ({ frames := 3, cells := 2, slots := 1025, locals := 48 } : Room) #[(.ref oa), (.ref ob)] h0 (fun v h L => v = none ∧ Fr n0 L ∧ Keep h0 h [oa] ∧ Exa Z h oa "com/example/libreach/libreach/engine/StateStore" ∧ Fld Z h oa "com/example/libreach/libreach/engine/StateStore" "words" "I" (.int (0 : Int32))) := by
  refine ownMet.of (plainFor_of_name pn_4) ?_
  intro p e s m below meth c T0 hx hby hml hZ hown hnm hret hlk X0 e0
  refine ownEnds.cast (ef_rm4_0 m oa ob) ?_
  have ne_oa_ob : oa ≠ ob := ne_exa E_oa E_ob (by decide)
  show ownEnds _ _ _ _ (T0.setTop (mkF m 0 #[.val (.ref oa), .val (.ref ob)] []))
  refine ownEnds.law (fun t k => XS.aloadN X0.here hx rfl (hb hby d4_0) rfl rfl (XS.aloadN X0.here hx rfl (hb hby d4_1) rfl rfl (XS.iconst X0.here hx rfl (hb hby d4_2) k))) ?_
  show ownEnds _ _ _ _ (T0.setTop (mkF m 3 #[.val (.ref oa), .val (.ref ob)] [(.int (0 : Int32)), (.ref ob), (.ref oa)]))
  obtain ⟨v1, T1, L1, X1, hQ1, st1⟩ := ownCallC X0 hx hZ hown (y := (⟨"com/example/libreach/libreach/engine/StateStore", "<init>", "(Lcom/example/libreach/libreach/engine/StateLayout;I)V"⟩ : MethodName)) rfl (a := oa) (as := [(.ref ob), (.int (0 : Int32))]) (wd_44 hw) (wd_45 hw) (wd_3 hw) (wd_46 hw) (by decide) (rm5_0 l Z a0 hw oa ob  h0 n0 Z0 E_oa g_oa F_oa_layout F_oa_words F_oa_recordWords F_oa_pageShift F_oa_pages F_oa_table E_ob F_ob_words) e0 0 (by decide) (by decide) (by decide) (by decide) (g := (mkF m 3 #[.val (.ref oa), .val (.ref ob)] [(.int (0 : Int32)), (.ref ob), (.ref oa)])) rfl (by rw [hml]; rfl) (rest := []) pd_5 rfl rfl (by show 2 * 0 + _ ≤ _; exact Nat.le_of_eq rfl) (hb hby d4_3)
  obtain ⟨rfl, Nq1, Kq1, Eq1, Fc1_0⟩ := hQ1
  have N1 := Fr.app (Fr.nil n0) Nq1
  have KK1 : Keep h0 T1.heap [oa] := Keep.trans (Keep.refl h0 [oa]) Kq1 (allS (Or.inl (List.mem_of_getElem? (i := 0) rfl)) all0)
  have Z1 : n0 ≤ T1.heap.size := Nat.le_trans Z0 Kq1.1
  refine ownEnds.law st1 ?_
  show ownEnds _ _ _ _ (T1.setTop (mkF m 6 #[.val (.ref oa), .val (.ref ob)] []))
  refine ownRetV X1 hlk hx hret (hb hby d4_6) (by decide) (by decide) ?_
  exact ⟨rfl, N1, KK1, Eq1, Fc1_0⟩
set_option maxRecDepth 65536 in
set_option maxHeartbeats 40000000 in
theorem rm6_1 (l : Launch) (Z : State) (a0 : Array Value) (hw : ∀ d ∈ tables_1, d.before a0 Z = true) (oa : Addr) (ob : Addr)  (h0 : Heap) (n0 : Nat) (Z0 : n0 ≤ h0.size) (E_oa : Exa Z h0 oa "com/example/libreach/libreach/engine/StateStore") (g_oa : n0 ≤ oa) (F_oa_layout : Fld Z h0 oa "com/example/libreach/libreach/engine/StateStore" "layout" "Lcom/example/libreach/libreach/engine/StateLayout;" .null) (F_oa_words : Fld Z h0 oa "com/example/libreach/libreach/engine/StateStore" "words" "I" (.int (0 : Int32))) (F_oa_recordWords : Fld Z h0 oa "com/example/libreach/libreach/engine/StateStore" "recordWords" "I" (.int (0 : Int32))) (F_oa_pageShift : Fld Z h0 oa "com/example/libreach/libreach/engine/StateStore" "pageShift" "I" (.int (0 : Int32))) (F_oa_pages : Fld Z h0 oa "com/example/libreach/libreach/engine/StateStore" "pages" "[[J" .null) (F_oa_table : Fld Z h0 oa "com/example/libreach/libreach/engine/StateStore" "table" "[J" .null) (E_ob : Exa Z h0 ob "com/example/libreach/libreach/engine/StateLayout") (F_ob_words : Fld Z h0 ob "com/example/libreach/libreach/engine/StateLayout" "words" "I" (.int (1 : Int32))) :
    ownMet l Z (⟨"com/example/libreach/libreach/engine/StateStore", "useLayout", "(Lcom/example/libreach/libreach/engine/StateLayout;)V"⟩ : MethodName) prog_18_method_14_code 3 none [] ({ frames := 1, cells := 0, slots := 0, locals := 16 } : Room) #[(.ref oa), (.ref ob)] h0 (fun v h L => v = none ∧ Fr n0 L ∧ Keep h0 h [oa] ∧ Exa Z h oa "com/example/libreach/libreach/engine/StateStore" ∧ Fld Z h oa "com/example/libreach/libreach/engine/StateStore" "words" "I" (.int (1 : Int32)) ∧ Fld Z h oa "com/example/libreach/libreach/engine/StateStore" "pages" "[[J" .null ∧ Fld Z h oa "com/example/libreach/libreach/engine/StateStore" "table" "[J" .null) := by
  refine ownMet.of (plainFor_of_name pn_6) ?_
  intro p e s m below meth c T0 hx hby hml hZ hown hnm hret hlk X0 e0
  refine ownEnds.cast (ef_rm6_1 m oa ob) ?_
  have ne_oa_ob : oa ≠ ob := ne_exa E_oa E_ob (by decide)
  show ownEnds _ _ _ _ (T0.setTop (mkF m 0 #[.val (.ref oa), .val (.ref ob), .unset] []))
  refine ownEnds.law (fun t k => XS.aloadN X0.here hx rfl (hb hby d6_0) rfl rfl (XS.aloadN X0.here hx rfl (hb hby d6_1) rfl rfl k)) ?_
  show ownEnds _ _ _ _ (T0.setTop (mkF m 2 #[.val (.ref oa), .val (.ref ob), .unset] [(.ref ob), (.ref oa)]))
  obtain ⟨T1, h1, X1, e1, W1, st1⟩ := putF X0 hx hZ hown (host := "") (Or.inl (wd_52 hw)) Via.refl e0 F_oa_layout E_oa (Or.inl (wd_53 hw)) (wd_2 hw) (ty := (.object "com/example/libreach/libreach/engine/StateLayout")) (by decide) rfl rfl (g := (mkF m 2 #[.val (.ref oa), .val (.ref ob), .unset] [(.ref ob), (.ref oa)])) rfl rfl (hb hby d6_2)
  refine ownEnds.law st1 ?_
  have N1 := Fr.snoc X1 (Fr.nil n0) g_oa
  have KK1 : Keep h0 h1 [oa] := (Keep.refl h0 [oa]).wr W1 (Or.inl (List.mem_of_getElem? (i := 0) rfl))
  have Z1 : n0 ≤ h1.size := by rw [W1.size]; exact Z0
  have Fw1 : Fld Z h1 oa "com/example/libreach/libreach/engine/StateStore" "layout" "Lcom/example/libreach/libreach/engine/StateLayout;" (.ref ob) := Fld.same W1 F_oa_layout
  show ownEnds _ _ _ _ (T1.setTop (mkF m 5 #[.val (.ref oa), .val (.ref ob), .unset] []))
  refine ownEnds.law (fun t k => XS.aloadN X1.here hx rfl (hb hby d6_5) rfl rfl (XS.aloadN X1.here hx rfl (hb hby d6_6) rfl rfl k)) ?_
  show ownEnds _ _ _ _ (T1.setTop (mkF m 7 #[.val (.ref oa), .val (.ref ob), .unset] [(.ref ob), (.ref oa)]))
  have f3 := (Fld.other W1 F_ob_words (Or.inl (Ne.symm ne_oa_ob)))
  have f4 := (Exa.wr W1 E_ob)
  obtain ⟨v2, T2, L2, X2, hQ2, st2⟩ := ownCallV X1 hx hZ hown (y := (⟨"com/example/libreach/libreach/engine/StateLayout", "words", "()I"⟩ : MethodName)) (z := (⟨"com/example/libreach/libreach/engine/StateLayout", "words", "()I"⟩ : MethodName)) (a := ob) (as := []) (wd_54 hw) (wd_55 hw) (notFace_of_selects (args := #[]) (mvT hZ (wd_57 hw))) (wd_57 hw) (wd_56 hw) (wd_6 hw) (wd_58 hw) (by decide) (rm7 l Z a0 hw ob (1 : Int32) h1 n0 Z1 f3) e1 f4 1 (by decide) (by decide) (by decide) (by decide) (g := (mkF m 7 #[.val (.ref oa), .val (.ref ob), .unset] [(.ref ob), (.ref oa)])) rfl (by rw [hml]; rfl) (rest := [(.ref oa)]) pd_2 rfl rfl (by show 2 * 0 + _ ≤ _; exact Nat.le_of_eq rfl) (hb hby d6_7)
  obtain ⟨rfl, rfl, e2⟩ := hQ2
  rw [List.append_nil] at X2
  refine ownEnds.law st2 ?_
  show ownEnds _ _ _ _ (T2.setTop (mkF m 10 #[.val (.ref oa), .val (.ref ob), .unset] [(.int (1 : Int32)), (.ref oa)]))
  have f5 := (Exa.wr W1 E_oa)
  have f6 := (Fld.other W1 F_oa_words (Or.inr (slot_ne (Or.inl (wd_60 hw)) (Or.inl (wd_53 hw)) (by decide) (t := .int) (t' := (.object "com/example/libreach/libreach/engine/StateLayout")) (by decide) (by decide))))
  obtain ⟨T7, h7, X7, e7, W7, st7⟩ := putF X2 hx hZ hown (host := "") (Or.inl (wd_59 hw)) Via.refl e2 f6 f5 (Or.inl (wd_60 hw)) (wd_2 hw) (ty := .int) (by decide) rfl rfl (g := (mkF m 10 #[.val (.ref oa), .val (.ref ob), .unset] [(.int (1 : Int32)), (.ref oa)])) rfl rfl (hb hby d6_10)
  refine ownEnds.law st7 ?_
  have N7 := Fr.snoc X7 N1 g_oa
  have KK7 : Keep h0 h7 [oa] := (KK1).wr W7 (Or.inl (List.mem_of_getElem? (i := 0) rfl))
  have Z7 : n0 ≤ h7.size := by rw [W7.size]; exact Z1
  have Fw7 : Fld Z h7 oa "com/example/libreach/libreach/engine/StateStore" "words" "I" (.int (1 : Int32)) := Fld.same W7 f6
  show ownEnds _ _ _ _ (T7.setTop (mkF m 13 #[.val (.ref oa), .val (.ref ob), .unset] []))
  refine ownEnds.law (fun t k => XS.aloadN X7.here hx rfl (hb hby d6_13) rfl rfl (XS.aloadN X7.here hx rfl (hb hby d6_14) rfl rfl k)) ?_
  show ownEnds _ _ _ _ (T7.setTop (mkF m 15 #[.val (.ref oa), .val (.ref ob), .unset] [(.ref oa), (.ref oa)]))
  obtain ⟨T8, X8, e8, st8⟩ := getF X7 hx hZ hown (host := "") (Or.inl (wd_59 hw)) Via.refl e7 Fw7 (g := (mkF m 15 #[.val (.ref oa), .val (.ref ob), .unset] [(.ref oa), (.ref oa)])) rfl rfl (hb hby d6_15)
  refine ownEnds.law st8 ?_
  show ownEnds _ _ _ _ (T8.setTop (mkF m 18 #[.val (.ref oa), .val (.ref ob), .unset] [(.int (1 : Int32)), (.ref oa)]))
  refine ownEnds.law (fun t k => XS.iconst X8.here hx rfl (hb hby d6_18) (XS.iadd X8.here hx rfl (hb hby d6_19) rfl k)) ?_
  show ownEnds _ _ _ _ (T8.setTop (mkF m 20 #[.val (.ref oa), .val (.ref ob), .unset] [(.int (2 : Int32)), (.ref oa)]))
  have f9 := (Exa.wr W7 f5)
  have f10 := (Fld.other W7 (Fld.other W1 F_oa_recordWords (Or.inr (slot_ne (Or.inl (wd_62 hw)) (Or.inl (wd_53 hw)) (by decide) (t := .int) (t' := (.object "com/example/libreach/libreach/engine/StateLayout")) (by decide) (by decide)))) (Or.inr (slot_ne (Or.inl (wd_62 hw)) (Or.inl (wd_60 hw)) (by decide) (t := .int) (t' := .int) (by decide) (by decide))))
  obtain ⟨T11, h11, X11, e11, W11, st11⟩ := putF X8 hx hZ hown (host := "") (Or.inl (wd_61 hw)) Via.refl e8 f10 f9 (Or.inl (wd_62 hw)) (wd_2 hw) (ty := .int) (by decide) rfl rfl (g := (mkF m 20 #[.val (.ref oa), .val (.ref ob), .unset] [(.int (2 : Int32)), (.ref oa)])) rfl rfl (hb hby d6_20)
  refine ownEnds.law st11 ?_
  have N11 := Fr.snoc X11 N7 g_oa
  have KK11 : Keep h0 h11 [oa] := (KK7).wr W11 (Or.inl (List.mem_of_getElem? (i := 0) rfl))
  have Z11 : n0 ≤ h11.size := by rw [W11.size]; exact Z7
  have Fw11 : Fld Z h11 oa "com/example/libreach/libreach/engine/StateStore" "recordWords" "I" (.int (2 : Int32)) := Fld.same W11 f10
  show ownEnds _ _ _ _ (T11.setTop (mkF m 23 #[.val (.ref oa), .val (.ref ob), .unset] []))
  refine ownEnds.law (fun t k => XS.bipush X11.here hx rfl (hb hby d6_23) (XS.aloadN X11.here hx rfl (hb hby d6_25) rfl rfl k)) ?_
  show ownEnds _ _ _ _ (T11.setTop (mkF m 26 #[.val (.ref oa), .val (.ref ob), .unset] [(.ref oa), (.int (31 : Int32))]))
  obtain ⟨T12, X12, e12, st12⟩ := getF X11 hx hZ hown (host := "") (Or.inl (wd_61 hw)) Via.refl e11 Fw11 (g := (mkF m 26 #[.val (.ref oa), .val (.ref ob), .unset] [(.ref oa), (.int (31 : Int32))])) rfl rfl (hb hby d6_26)
  refine ownEnds.law st12 ?_
  show ownEnds _ _ _ _ (T12.setTop (mkF m 29 #[.val (.ref oa), .val (.ref ob), .unset] [(.int (2 : Int32)), (.int (31 : Int32))]))
  obtain ⟨v13, T13, L13, X13, hQ13, st13⟩ := ownCallS X12 hx hZ hown (y := (⟨"java/lang/Integer", "numberOfLeadingZeros", "(I)I"⟩ : MethodName)) (as := [(.int (2 : Int32))]) (wd_63 hw) (wd_64 hw) (wd_65 hw) (wd_66 hw) (by decide) (rm8_2 l Z a0 hw h11 n0 Z11) e12 1 (by decide) (by decide) (by decide) (by decide) (g := (mkF m 29 #[.val (.ref oa), .val (.ref ob), .unset] [(.int (2 : Int32)), (.int (31 : Int32))])) rfl (by rw [hml]; rfl) (rest := [(.int (31 : Int32))]) pd_3 rfl rfl (by show 2 * 0 + _ ≤ _; exact Nat.le_of_eq rfl) (hb hby d6_29)
  obtain ⟨rfl, rfl, e13⟩ := hQ13
  rw [List.append_nil] at X13
  refine ownEnds.law st13 ?_
  show ownEnds _ _ _ _ (T13.setTop (mkF m 32 #[.val (.ref oa), .val (.ref ob), .unset] [(.int (30 : Int32)), (.int (31 : Int32))]))
  refine ownEnds.law (fun t k => XS.isub X13.here hx rfl (hb hby d6_32) rfl (XS.istoreN X13.here hx rfl (hb hby d6_33) rfl (l' := #[.val (.ref oa), .val (.ref ob), .val (.int (1 : Int32))]) rfl (XS.aloadN X13.here hx rfl (hb hby d6_34) rfl rfl (XS.iconst X13.here hx rfl (hb hby d6_35) (X13.ldcInt hx hown (mvT hZ (wd_68 hw)) (g := (mkF m 36 #[.val (.ref oa), .val (.ref ob), .val (.int (1 : Int32))] [(.int (0 : Int32)), (.ref oa)])) rfl (hb hby d6_36) _ k))))) ?_
  show ownEnds _ _ _ _ (T13.setTop (mkF m 38 #[.val (.ref oa), .val (.ref ob), .val (.int (1 : Int32))] [(.int (32768 : Int32)), (.int (0 : Int32)), (.ref oa)]))
  obtain ⟨v14, T14, L14, X14, hQ14, st14⟩ := ownCallS X13 hx hZ hown (y := (⟨"java/lang/Integer", "numberOfTrailingZeros", "(I)I"⟩ : MethodName)) (as := [(.int (32768 : Int32))]) (wd_69 hw) (wd_70 hw) (wd_65 hw) (wd_71 hw) (by decide) (rm9_32768 l Z a0 hw h11 n0 Z11) e13 2 (by decide) (by decide) (by decide) (by decide) (g := (mkF m 38 #[.val (.ref oa), .val (.ref ob), .val (.int (1 : Int32))] [(.int (32768 : Int32)), (.int (0 : Int32)), (.ref oa)])) rfl (by rw [hml]; rfl) (rest := [(.int (0 : Int32)), (.ref oa)]) pd_3 rfl rfl (by show 2 * 0 + _ ≤ _; exact Nat.le_of_eq rfl) (hb hby d6_38)
  obtain ⟨rfl, rfl, e14⟩ := hQ14
  rw [List.append_nil] at X14
  refine ownEnds.law st14 ?_
  show ownEnds _ _ _ _ (T14.setTop (mkF m 41 #[.val (.ref oa), .val (.ref ob), .val (.int (1 : Int32))] [(.int (15 : Int32)), (.int (0 : Int32)), (.ref oa)]))
  refine ownEnds.law (fun t k => XS.iloadN X14.here hx rfl (hb hby d6_41) rfl (XS.isub X14.here hx rfl (hb hby d6_42) rfl k)) ?_
  show ownEnds _ _ _ _ (T14.setTop (mkF m 43 #[.val (.ref oa), .val (.ref ob), .val (.int (1 : Int32))] [(.int (14 : Int32)), (.int (0 : Int32)), (.ref oa)]))
  obtain ⟨v15, T15, L15, X15, hQ15, st15⟩ := ownCallS X14 hx hZ hown (y := (⟨"java/lang/Math", "max", "(II)I"⟩ : MethodName)) (as := [(.int (0 : Int32)), (.int (14 : Int32))]) (wd_72 hw) (wd_73 hw) (wd_74 hw) (wd_75 hw) (by decide) (rm10 l Z a0 hw (0 : Int32) (14 : Int32) h11 n0 Z11) e14 1 (by decide) (by decide) (by decide) (by decide) (g := (mkF m 43 #[.val (.ref oa), .val (.ref ob), .val (.int (1 : Int32))] [(.int (14 : Int32)), (.int (0 : Int32)), (.ref oa)])) rfl (by rw [hml]; rfl) (rest := [(.ref oa)]) pd_0 rfl rfl (by show 2 * 0 + _ ≤ _; exact Nat.le_of_eq rfl) (hb hby d6_43)
  obtain ⟨hv15, rfl, e15⟩ := hQ15
  rw [List.append_nil] at X15
  have hw15 : v15 = some (.int (14 : Int32)) := hv15.trans (by decide)
  subst hw15
  refine ownEnds.law st15 ?_
  show ownEnds _ _ _ _ (T15.setTop (mkF m 46 #[.val (.ref oa), .val (.ref ob), .val (.int (1 : Int32))] [(.int (14 : Int32)), (.ref oa)]))
  have f16 := (Exa.wr W11 f9)
  have f17 := (Fld.other W11 (Fld.other W7 (Fld.other W1 F_oa_pageShift (Or.inr (slot_ne (Or.inl (wd_77 hw)) (Or.inl (wd_53 hw)) (by decide) (t := .int) (t' := (.object "com/example/libreach/libreach/engine/StateLayout")) (by decide) (by decide)))) (Or.inr (slot_ne (Or.inl (wd_77 hw)) (Or.inl (wd_60 hw)) (by decide) (t := .int) (t' := .int) (by decide) (by decide)))) (Or.inr (slot_ne (Or.inl (wd_77 hw)) (Or.inl (wd_62 hw)) (by decide) (t := .int) (t' := .int) (by decide) (by decide))))
  obtain ⟨T18, h18, X18, e18, W18, st18⟩ := putF X15 hx hZ hown (host := "") (Or.inl (wd_76 hw)) Via.refl e15 f17 f16 (Or.inl (wd_77 hw)) (wd_2 hw) (ty := .int) (by decide) rfl rfl (g := (mkF m 46 #[.val (.ref oa), .val (.ref ob), .val (.int (1 : Int32))] [(.int (14 : Int32)), (.ref oa)])) rfl rfl (hb hby d6_46)
  refine ownEnds.law st18 ?_
  have N18 := Fr.snoc X18 N11 g_oa
  have KK18 : Keep h0 h18 [oa] := (KK11).wr W18 (Or.inl (List.mem_of_getElem? (i := 0) rfl))
  have Z18 : n0 ≤ h18.size := by rw [W18.size]; exact Z11
  have Fw18 : Fld Z h18 oa "com/example/libreach/libreach/engine/StateStore" "pageShift" "I" (.int (14 : Int32)) := Fld.same W18 f17
  show ownEnds _ _ _ _ (T18.setTop (mkF m 49 #[.val (.ref oa), .val (.ref ob), .val (.int (1 : Int32))] []))
  refine ownRetV X18 hlk hx hret (hb hby d6_49) (by decide) (by decide) ?_
  have f19 := (Exa.wr W18 f16)
  have f20 := (Fld.other W18 (Fld.other W11 Fw7 (Or.inr (slot_ne (Or.inl (wd_60 hw)) (Or.inl (wd_62 hw)) (by decide) (t := .int) (t' := .int) (by decide) (by decide)))) (Or.inr (slot_ne (Or.inl (wd_60 hw)) (Or.inl (wd_77 hw)) (by decide) (t := .int) (t' := .int) (by decide) (by decide))))
  have f21 := (Fld.other W18 (Fld.other W11 (Fld.other W7 (Fld.other W1 F_oa_pages (Or.inr (slot_ne (Or.inl (wd_81 hw)) (Or.inl (wd_53 hw)) (by decide) (t := (.array (.array .long))) (t' := (.object "com/example/libreach/libreach/engine/StateLayout")) (by decide) (by decide)))) (Or.inr (slot_ne (Or.inl (wd_81 hw)) (Or.inl (wd_60 hw)) (by decide) (t := (.array (.array .long))) (t' := .int) (by decide) (by decide)))) (Or.inr (slot_ne (Or.inl (wd_81 hw)) (Or.inl (wd_62 hw)) (by decide) (t := (.array (.array .long))) (t' := .int) (by decide) (by decide)))) (Or.inr (slot_ne (Or.inl (wd_81 hw)) (Or.inl (wd_77 hw)) (by decide) (t := (.array (.array .long))) (t' := .int) (by decide) (by decide))))
  have f22 := (Fld.other W18 (Fld.other W11 (Fld.other W7 (Fld.other W1 F_oa_table (Or.inr (slot_ne (Or.inl (wd_84 hw)) (Or.inl (wd_53 hw)) (by decide) (t := (.array .long)) (t' := (.object "com/example/libreach/libreach/engine/StateLayout")) (by decide) (by decide)))) (Or.inr (slot_ne (Or.inl (wd_84 hw)) (Or.inl (wd_60 hw)) (by decide) (t := (.array .long)) (t' := .int) (by decide) (by decide)))) (Or.inr (slot_ne (Or.inl (wd_84 hw)) (Or.inl (wd_62 hw)) (by decide) (t := (.array .long)) (t' := .int) (by decide) (by decide)))) (Or.inr (slot_ne (Or.inl (wd_84 hw)) (Or.inl (wd_77 hw)) (by decide) (t := (.array .long)) (t' := .int) (by decide) (by decide))))
  rw [e18]
  exact ⟨rfl, N18, KK18, f19, f20, f21, f22⟩
set_option maxRecDepth 65536 in
set_option maxHeartbeats 40000000 in
theorem rm5_1 (l : Launch) (Z : State) (a0 : Array Value) (hw : ∀ d ∈ tables_1, d.before a0 Z = true) (oa : Addr) (ob : Addr)  (h0 : Heap) (n0 : Nat) (Z0 : n0 ≤ h0.size) (E_oa : Exa Z h0 oa "com/example/libreach/libreach/engine/StateStore") (g_oa : n0 ≤ oa) (F_oa_layout : Fld Z h0 oa "com/example/libreach/libreach/engine/StateStore" "layout" "Lcom/example/libreach/libreach/engine/StateLayout;" .null) (F_oa_words : Fld Z h0 oa "com/example/libreach/libreach/engine/StateStore" "words" "I" (.int (0 : Int32))) (F_oa_recordWords : Fld Z h0 oa "com/example/libreach/libreach/engine/StateStore" "recordWords" "I" (.int (0 : Int32))) (F_oa_pageShift : Fld Z h0 oa "com/example/libreach/libreach/engine/StateStore" "pageShift" "I" (.int (0 : Int32))) (F_oa_pages : Fld Z h0 oa "com/example/libreach/libreach/engine/StateStore" "pages" "[[J" .null) (F_oa_table : Fld Z h0 oa "com/example/libreach/libreach/engine/StateStore" "table" "[J" .null) (E_ob : Exa Z h0 ob "com/example/libreach/libreach/engine/StateLayout") (F_ob_words : Fld Z h0 ob "com/example/libreach/libreach/engine/StateLayout" "words" "I" (.int (1 : Int32))) :
    ownMet l Z (⟨"com/example/libreach/libreach/engine/StateStore", "<init>", "(Lcom/example/libreach/libreach/engine/StateLayout;I)V"⟩ : MethodName) prog_18_method_2_code 4 none [] ({ frames := 2, cells := 2, slots := 1025, locals := 32 } : Room) #[(.ref oa), (.ref ob), (.int (0 : Int32))] h0 (fun v h L => v = none ∧ Fr n0 L ∧ Keep h0 h [oa] ∧ Exa Z h oa "com/example/libreach/libreach/engine/StateStore" ∧ Fld Z h oa "com/example/libreach/libreach/engine/StateStore" "words" "I" (.int (1 : Int32))) := by
  refine ownMet.of (plainFor_of_name pn_5) ?_
  intro p e s m below meth c T0 hx hby hml hZ hown hnm hret hlk X0 e0
  refine ownEnds.cast (ef_rm5_1 m oa ob) ?_
  have ne_oa_ob : oa ≠ ob := ne_exa E_oa E_ob (by decide)
  show ownEnds _ _ _ _ (T0.setTop (mkF m 0 #[.val (.ref oa), .val (.ref ob), .val (.int (0 : Int32)), .unset] []))
  refine ownEnds.law (fun t k => XS.aloadN X0.here hx rfl (hb hby d5_0) rfl rfl k) ?_
  show ownEnds _ _ _ _ (T0.setTop (mkF m 1 #[.val (.ref oa), .val (.ref ob), .val (.int (0 : Int32)), .unset] [(.ref oa)]))
  obtain ⟨T1, X1, e1, st1⟩ := initO X0 hx hZ hown (wd_47 hw) (wd_11 hw) (wd_12 hw) e0 (g := (mkF m 1 #[.val (.ref oa), .val (.ref ob), .val (.int (0 : Int32)), .unset] [(.ref oa)])) rfl (by rw [hml]; rfl) rfl (hb hby d5_1) (by decide) (W := 0) (by show 2 * 0 + _ ≤ _; exact Nat.le_of_eq rfl) (by decide)
  refine ownEnds.law st1 ?_
  show ownEnds _ _ _ _ (T1.setTop (mkF m 4 #[.val (.ref oa), .val (.ref ob), .val (.int (0 : Int32)), .unset] []))
  refine ownEnds.law (fun t k => XS.aloadN X1.here hx rfl (hb hby d5_4) rfl rfl (XS.aloadN X1.here hx rfl (hb hby d5_5) rfl rfl k)) ?_
  show ownEnds _ _ _ _ (T1.setTop (mkF m 6 #[.val (.ref oa), .val (.ref ob), .val (.int (0 : Int32)), .unset] [(.ref ob), (.ref oa)]))
  obtain ⟨v2, T2, L2, X2, hQ2, st2⟩ := ownCallP X1 hx hZ hown (y := (⟨"com/example/libreach/libreach/engine/StateStore", "useLayout", "(Lcom/example/libreach/libreach/engine/StateLayout;)V"⟩ : MethodName)) (z := (⟨"com/example/libreach/libreach/engine/StateStore", "hash", "([JI)I"⟩ : MethodName)) (a := oa) (as := [(.ref ob)]) (wd_48 hw) rfl (wd_88 hw) (wd_49 hw) (wd_50 hw) (wd_3 hw) (wd_51 hw) (by decide) (rm6_1 l Z a0 hw oa ob  h0 n0 Z0 E_oa g_oa F_oa_layout F_oa_words F_oa_recordWords F_oa_pageShift F_oa_pages F_oa_table E_ob F_ob_words) e1 E_oa 0 (by decide) (by decide) (by decide) (by decide) (g := (mkF m 6 #[.val (.ref oa), .val (.ref ob), .val (.int (0 : Int32)), .unset] [(.ref ob), (.ref oa)])) rfl (by rw [hml]; rfl) (rest := []) pd_4 rfl rfl (by show 2 * 0 + _ ≤ _; exact Nat.le_of_eq rfl) (hb hby d5_6)
  obtain ⟨rfl, Nq2, Kq2, Eq2, Fc2_0, Fc2_1, Fc2_2⟩ := hQ2
  have N2 := Fr.app (Fr.nil n0) Nq2
  have KK2 : Keep h0 T2.heap [oa] := Keep.trans (Keep.refl h0 [oa]) Kq2 (allS (Or.inl (List.mem_of_getElem? (i := 0) rfl)) all0)
  have Z2 : n0 ≤ T2.heap.size := Nat.le_trans Z0 Kq2.1
  refine ownEnds.law st2 ?_
  show ownEnds _ _ _ _ (T2.setTop (mkF m 9 #[.val (.ref oa), .val (.ref ob), .val (.int (0 : Int32)), .unset] []))
  refine ownEnds.law (fun t k => XS.aloadN X2.here hx rfl (hb hby d5_9) rfl rfl (XS.iconst X2.here hx rfl (hb hby d5_10) k)) ?_
  show ownEnds _ _ _ _ (T2.setTop (mkF m 11 #[.val (.ref oa), .val (.ref ob), .val (.int (0 : Int32)), .unset] [(.int (1 : Int32)), (.ref oa)]))
  obtain ⟨T3, h3, k3, X3, e3, E3, A3, -, O3, st3⟩ := newRA X2 hx hZ hown (ty := .long) (by decide) (wd_78 hw) (wd_79 hw) rfl (g := (mkF m 11 #[.val (.ref oa), .val (.ref ob), .val (.int (0 : Int32)), .unset] [(.int (1 : Int32)), (.ref oa)])) rfl (hb hby d5_11) rfl (by decide) (cap := 1) (by decide) (by decide) (by decide) (by decide) (ad := "[[J") (by decide)
  obtain ⟨b3, g3⟩ : ∃ z, z = T2.heap.size := ⟨_, rfl⟩
  rw [← g3] at A3 st3
  refine ownEnds.law st3 ?_
  have V_b3 : Arv Z h3 b3 k3 (.array .long) (1 : Int32) [.null] .null := (Arv.new A3 (by decide)).pad (pad_rep [] .null 1)
  have ne_oa_b3 : oa ≠ b3 := Nat.ne_of_lt (Nat.lt_of_lt_of_eq Eq2.lt g3.symm)
  have f4 := (Exa.keep E_ob Kq2)
  have ne_ob_b3 : ob ≠ b3 := Nat.ne_of_lt (Nat.lt_of_lt_of_eq f4.lt g3.symm)
  have g_b3 : n0 ≤ b3 := Nat.le_trans Z2 (Nat.le_of_eq g3.symm)
  have sz_b3 : h0.size ≤ b3 := Nat.le_trans (KK2).1 (Nat.le_of_eq g3.symm)
  have Z3 : n0 ≤ h3.size := Nat.le_trans Z2 E3.1
  have KK3 : Keep h0 h3 [oa] := (KK2).ext E3
  show ownEnds _ _ _ _ (T3.setTop (mkF m 14 #[.val (.ref oa), .val (.ref ob), .val (.int (0 : Int32)), .unset] [(.ref b3), (.ref oa)]))
  have f5 := (Exa.ext E3 Eq2)
  have f6 := (Fld.ext E3 Fc2_1)
  obtain ⟨T7, h7, X7, e7, W7, st7⟩ := putF X3 hx hZ hown (host := "") (Or.inl (wd_80 hw)) Via.refl e3 f6 f5 (Or.inl (wd_81 hw)) (wd_2 hw) (ty := (.array (.array .long))) (by decide) rfl rfl (g := (mkF m 14 #[.val (.ref oa), .val (.ref ob), .val (.int (0 : Int32)), .unset] [(.ref b3), (.ref oa)])) rfl rfl (hb hby d5_14)
  refine ownEnds.law st7 ?_
  have N7 := Fr.snoc X7 N2 g_oa
  have KK7 : Keep h0 h7 [oa] := (KK3).wr W7 (Or.inl (List.mem_of_getElem? (i := 0) rfl))
  have Z7 : n0 ≤ h7.size := by rw [W7.size]; exact Z3
  have Fw7 : Fld Z h7 oa "com/example/libreach/libreach/engine/StateStore" "pages" "[[J" (.ref b3) := Fld.same W7 f6
  show ownEnds _ _ _ _ (T7.setTop (mkF m 17 #[.val (.ref oa), .val (.ref ob), .val (.int (0 : Int32)), .unset] []))
  refine ownEnds.law (fun t k => XS.sipush X7.here hx rfl (hb hby d5_17) (XS.istoreN X7.here hx rfl (hb hby d5_20) rfl (l' := #[.val (.ref oa), .val (.ref ob), .val (.int (0 : Int32)), .val (.int (1024 : Int32))]) rfl (XS.iloadN X7.here hx rfl (hb hby d5_21) rfl (X7.ldcInt hx hown (mvT hZ (wd_82 hw)) (g := (mkF m 22 #[.val (.ref oa), .val (.ref ob), .val (.int (0 : Int32)), .val (.int (1024 : Int32))] [(.int (1024 : Int32))])) rfl (hb hby d5_22) _ k)))) ?_
  show ownEnds _ _ _ _ (T7.setTop (mkF m 24 #[.val (.ref oa), .val (.ref ob), .val (.int (0 : Int32)), .val (.int (1024 : Int32))] [(.int (1073741824 : Int32)), (.int (1024 : Int32))]))
  refine ownEnds.law (fun t => XS.icmpNo X7.here hx rfl (hb hby d5_24) rfl (tlt (by decide : (1024 : Int32) < (1073741824 : Int32))).2.1) ?_
  show ownEnds _ _ _ _ (T7.setTop (mkF m 27 #[.val (.ref oa), .val (.ref ob), .val (.int (0 : Int32)), .val (.int (1024 : Int32))] []))
  refine ownEnds.law (fun t k => XS.iloadN X7.here hx rfl (hb hby d5_27) rfl (XS.iloadN X7.here hx rfl (hb hby d5_28) rfl (XS.iconst X7.here hx rfl (hb hby d5_29) (XS.idiv X7.here hx rfl (hb hby d5_30) rfl (by decide) (XS.iconst X7.here hx rfl (hb hby d5_31) (XS.imul X7.here hx rfl (hb hby d5_32) rfl k)))))) ?_
  show ownEnds _ _ _ _ (T7.setTop (mkF m 33 #[.val (.ref oa), .val (.ref ob), .val (.int (0 : Int32)), .val (.int (1024 : Int32))] [(.int (768 : Int32)), (.int (0 : Int32))]))
  refine ownEnds.law (fun t => XS.icmpYes X7.here hx rfl (pc0 := 33) (pc' := 43) rfl (hb hby d5_33) rfl (flt (by decide : ¬ ((768 : Int32) < (0 : Int32)))).2.2.2 (by decide) (by decide)) ?_
  show ownEnds _ _ _ _ (T7.setTop (mkF m 43 #[.val (.ref oa), .val (.ref ob), .val (.int (0 : Int32)), .val (.int (1024 : Int32))] []))
  refine ownEnds.law (fun t k => XS.aloadN X7.here hx rfl (hb hby d5_43) rfl rfl (XS.iloadN X7.here hx rfl (hb hby d5_44) rfl k)) ?_
  show ownEnds _ _ _ _ (T7.setTop (mkF m 45 #[.val (.ref oa), .val (.ref ob), .val (.int (0 : Int32)), .val (.int (1024 : Int32))] [(.int (1024 : Int32)), (.ref oa)]))
  obtain ⟨T8, h8, k8, X8, e8, E8, A8, st8⟩ := newP X7 hx hZ (aty := .long) (wd_28 hw) e7 (g := (mkF m 45 #[.val (.ref oa), .val (.ref ob), .val (.int (0 : Int32)), .val (.int (1024 : Int32))] [(.int (1024 : Int32)), (.ref oa)])) rfl (hb hby d5_45) rfl (by decide) (cap := 1024) (by decide) (by decide) (by decide) (by decide)
  obtain ⟨b8, g8⟩ : ∃ z, z = h7.size := ⟨_, rfl⟩
  rw [← g8] at A8 st8
  refine ownEnds.law st8 ?_
  have V_b8 : Arv Z h8 b8 k8 .long (1024 : Int32) [] (.long (0 : Int64)) := Arv.new A8 (by decide)
  have f9 := (Exa.wr W7 f5)
  have ne_oa_b8 : oa ≠ b8 := Nat.ne_of_lt (Nat.lt_of_lt_of_eq f9.lt g8.symm)
  have f10 := (Exa.wr W7 (Exa.ext E3 f4))
  have ne_ob_b8 : ob ≠ b8 := Nat.ne_of_lt (Nat.lt_of_lt_of_eq f10.lt g8.symm)
  have f11 := (Arv.other V_b3 W7 (Ne.symm ne_oa_b3))
  have ne_b3_b8 : b3 ≠ b8 := Nat.ne_of_lt (Nat.lt_of_lt_of_eq f11.lt g8.symm)
  have g_b8 : n0 ≤ b8 := Nat.le_trans Z7 (Nat.le_of_eq g8.symm)
  have sz_b8 : h0.size ≤ b8 := Nat.le_trans (KK7).1 (Nat.le_of_eq g8.symm)
  have Z8 : n0 ≤ h8.size := Nat.le_trans Z7 E8.1
  have KK8 : Keep h0 h8 [oa] := (KK7).ext E8
  show ownEnds _ _ _ _ (T8.setTop (mkF m 47 #[.val (.ref oa), .val (.ref ob), .val (.int (0 : Int32)), .val (.int (1024 : Int32))] [(.ref b8), (.ref oa)]))
  have f12 := (Exa.ext E8 f9)
  have f13 := (Fld.ext E8 (Fld.other W7 (Fld.ext E3 Fc2_2) (Or.inr (slot_ne (Or.inl (wd_84 hw)) (Or.inl (wd_81 hw)) (by decide) (t := (.array .long)) (t' := (.array (.array .long))) (by decide) (by decide)))))
  obtain ⟨T14, h14, X14, e14, W14, st14⟩ := putF X8 hx hZ hown (host := "") (Or.inl (wd_83 hw)) Via.refl e8 f13 f12 (Or.inl (wd_84 hw)) (wd_2 hw) (ty := (.array .long)) (by decide) rfl rfl (g := (mkF m 47 #[.val (.ref oa), .val (.ref ob), .val (.int (0 : Int32)), .val (.int (1024 : Int32))] [(.ref b8), (.ref oa)])) rfl rfl (hb hby d5_47)
  refine ownEnds.law st14 ?_
  have N14 := Fr.snoc X14 N7 g_oa
  have KK14 : Keep h0 h14 [oa] := (KK8).wr W14 (Or.inl (List.mem_of_getElem? (i := 0) rfl))
  have Z14 : n0 ≤ h14.size := by rw [W14.size]; exact Z8
  have Fw14 : Fld Z h14 oa "com/example/libreach/libreach/engine/StateStore" "table" "[J" (.ref b8) := Fld.same W14 f13
  show ownEnds _ _ _ _ (T14.setTop (mkF m 50 #[.val (.ref oa), .val (.ref ob), .val (.int (0 : Int32)), .val (.int (1024 : Int32))] []))
  refine ownRetV X14 hlk hx hret (hb hby d5_50) (by decide) (by decide) ?_
  have f15 := (Exa.wr W14 f12)
  have f16 := (Fld.other W14 (Fld.ext E8 (Fld.other W7 (Fld.ext E3 Fc2_0) (Or.inr (slot_ne (Or.inl (wd_60 hw)) (Or.inl (wd_81 hw)) (by decide) (t := .int) (t' := (.array (.array .long))) (by decide) (by decide))))) (Or.inr (slot_ne (Or.inl (wd_60 hw)) (Or.inl (wd_84 hw)) (by decide) (t := .int) (t' := (.array .long)) (by decide) (by decide))))
  rw [e14]
  exact ⟨rfl, N14, KK14, f15, f16⟩
set_option maxRecDepth 65536 in
set_option maxHeartbeats 40000000 in
theorem rm4_1 (l : Launch) (Z : State) (a0 : Array Value) (hw : ∀ d ∈ tables_1, d.before a0 Z = true) (oa : Addr) (ob : Addr)  (h0 : Heap) (n0 : Nat) (Z0 : n0 ≤ h0.size) (E_oa : Exa Z h0 oa "com/example/libreach/libreach/engine/StateStore") (g_oa : n0 ≤ oa) (F_oa_layout : Fld Z h0 oa "com/example/libreach/libreach/engine/StateStore" "layout" "Lcom/example/libreach/libreach/engine/StateLayout;" .null) (F_oa_words : Fld Z h0 oa "com/example/libreach/libreach/engine/StateStore" "words" "I" (.int (0 : Int32))) (F_oa_recordWords : Fld Z h0 oa "com/example/libreach/libreach/engine/StateStore" "recordWords" "I" (.int (0 : Int32))) (F_oa_pageShift : Fld Z h0 oa "com/example/libreach/libreach/engine/StateStore" "pageShift" "I" (.int (0 : Int32))) (F_oa_pages : Fld Z h0 oa "com/example/libreach/libreach/engine/StateStore" "pages" "[[J" .null) (F_oa_table : Fld Z h0 oa "com/example/libreach/libreach/engine/StateStore" "table" "[J" .null) (E_ob : Exa Z h0 ob "com/example/libreach/libreach/engine/StateLayout") (F_ob_words : Fld Z h0 ob "com/example/libreach/libreach/engine/StateLayout" "words" "I" (.int (1 : Int32))) :
    ownMet l Z (⟨"com/example/libreach/libreach/engine/StateStore", "<init>", "(Lcom/example/libreach/libreach/engine/StateLayout;)V"⟩ : MethodName) prog_18_method_1_code 2 none [] ({ frames := 3, cells := 2, slots := 1025, locals := 48 } : Room) #[(.ref oa), (.ref ob)] h0 (fun v h L => v = none ∧ Fr n0 L ∧ Keep h0 h [oa] ∧ Exa Z h oa "com/example/libreach/libreach/engine/StateStore" ∧ Fld Z h oa "com/example/libreach/libreach/engine/StateStore" "words" "I" (.int (1 : Int32))) := by
  refine ownMet.of (plainFor_of_name pn_4) ?_
  intro p e s m below meth c T0 hx hby hml hZ hown hnm hret hlk X0 e0
  refine ownEnds.cast (ef_rm4_1 m oa ob) ?_
  have ne_oa_ob : oa ≠ ob := ne_exa E_oa E_ob (by decide)
  show ownEnds _ _ _ _ (T0.setTop (mkF m 0 #[.val (.ref oa), .val (.ref ob)] []))
  refine ownEnds.law (fun t k => XS.aloadN X0.here hx rfl (hb hby d4_0) rfl rfl (XS.aloadN X0.here hx rfl (hb hby d4_1) rfl rfl (XS.iconst X0.here hx rfl (hb hby d4_2) k))) ?_
  show ownEnds _ _ _ _ (T0.setTop (mkF m 3 #[.val (.ref oa), .val (.ref ob)] [(.int (0 : Int32)), (.ref ob), (.ref oa)]))
  obtain ⟨v1, T1, L1, X1, hQ1, st1⟩ := ownCallC X0 hx hZ hown (y := (⟨"com/example/libreach/libreach/engine/StateStore", "<init>", "(Lcom/example/libreach/libreach/engine/StateLayout;I)V"⟩ : MethodName)) rfl (a := oa) (as := [(.ref ob), (.int (0 : Int32))]) (wd_44 hw) (wd_45 hw) (wd_3 hw) (wd_46 hw) (by decide) (rm5_1 l Z a0 hw oa ob  h0 n0 Z0 E_oa g_oa F_oa_layout F_oa_words F_oa_recordWords F_oa_pageShift F_oa_pages F_oa_table E_ob F_ob_words) e0 0 (by decide) (by decide) (by decide) (by decide) (g := (mkF m 3 #[.val (.ref oa), .val (.ref ob)] [(.int (0 : Int32)), (.ref ob), (.ref oa)])) rfl (by rw [hml]; rfl) (rest := []) pd_5 rfl rfl (by show 2 * 0 + _ ≤ _; exact Nat.le_of_eq rfl) (hb hby d4_3)
  obtain ⟨rfl, Nq1, Kq1, Eq1, Fc1_0⟩ := hQ1
  have N1 := Fr.app (Fr.nil n0) Nq1
  have KK1 : Keep h0 T1.heap [oa] := Keep.trans (Keep.refl h0 [oa]) Kq1 (allS (Or.inl (List.mem_of_getElem? (i := 0) rfl)) all0)
  have Z1 : n0 ≤ T1.heap.size := Nat.le_trans Z0 Kq1.1
  refine ownEnds.law st1 ?_
  show ownEnds _ _ _ _ (T1.setTop (mkF m 6 #[.val (.ref oa), .val (.ref ob)] []))
  refine ownRetV X1 hlk hx hret (hb hby d4_6) (by decide) (by decide) ?_
  exact ⟨rfl, N1, KK1, Eq1, Fc1_0⟩
set_option maxRecDepth 65536 in
set_option maxHeartbeats 40000000 in
theorem rm6_2 (l : Launch) (Z : State) (a0 : Array Value) (hw : ∀ d ∈ tables_1, d.before a0 Z = true) (oa : Addr) (ob : Addr)  (h0 : Heap) (n0 : Nat) (Z0 : n0 ≤ h0.size) (E_oa : Exa Z h0 oa "com/example/libreach/libreach/engine/StateStore") (g_oa : n0 ≤ oa) (F_oa_layout : Fld Z h0 oa "com/example/libreach/libreach/engine/StateStore" "layout" "Lcom/example/libreach/libreach/engine/StateLayout;" .null) (F_oa_words : Fld Z h0 oa "com/example/libreach/libreach/engine/StateStore" "words" "I" (.int (0 : Int32))) (F_oa_recordWords : Fld Z h0 oa "com/example/libreach/libreach/engine/StateStore" "recordWords" "I" (.int (0 : Int32))) (F_oa_pageShift : Fld Z h0 oa "com/example/libreach/libreach/engine/StateStore" "pageShift" "I" (.int (0 : Int32))) (F_oa_pages : Fld Z h0 oa "com/example/libreach/libreach/engine/StateStore" "pages" "[[J" .null) (F_oa_table : Fld Z h0 oa "com/example/libreach/libreach/engine/StateStore" "table" "[J" .null) (E_ob : Exa Z h0 ob "com/example/libreach/libreach/engine/StateLayout") (F_ob_words : Fld Z h0 ob "com/example/libreach/libreach/engine/StateLayout" "words" "I" (.int (2 : Int32))) :
    ownMet l Z (⟨"com/example/libreach/libreach/engine/StateStore", "useLayout", "(Lcom/example/libreach/libreach/engine/StateLayout;)V"⟩ : MethodName) prog_18_method_14_code 3 none [] ({ frames := 1, cells := 0, slots := 0, locals := 16 } : Room) #[(.ref oa), (.ref ob)] h0 (fun v h L => v = none ∧ Fr n0 L ∧ Keep h0 h [oa] ∧ Exa Z h oa "com/example/libreach/libreach/engine/StateStore" ∧ Fld Z h oa "com/example/libreach/libreach/engine/StateStore" "words" "I" (.int (2 : Int32)) ∧ Fld Z h oa "com/example/libreach/libreach/engine/StateStore" "pages" "[[J" .null ∧ Fld Z h oa "com/example/libreach/libreach/engine/StateStore" "table" "[J" .null) := by
  refine ownMet.of (plainFor_of_name pn_6) ?_
  intro p e s m below meth c T0 hx hby hml hZ hown hnm hret hlk X0 e0
  refine ownEnds.cast (ef_rm6_2 m oa ob) ?_
  have ne_oa_ob : oa ≠ ob := ne_exa E_oa E_ob (by decide)
  show ownEnds _ _ _ _ (T0.setTop (mkF m 0 #[.val (.ref oa), .val (.ref ob), .unset] []))
  refine ownEnds.law (fun t k => XS.aloadN X0.here hx rfl (hb hby d6_0) rfl rfl (XS.aloadN X0.here hx rfl (hb hby d6_1) rfl rfl k)) ?_
  show ownEnds _ _ _ _ (T0.setTop (mkF m 2 #[.val (.ref oa), .val (.ref ob), .unset] [(.ref ob), (.ref oa)]))
  obtain ⟨T1, h1, X1, e1, W1, st1⟩ := putF X0 hx hZ hown (host := "") (Or.inl (wd_52 hw)) Via.refl e0 F_oa_layout E_oa (Or.inl (wd_53 hw)) (wd_2 hw) (ty := (.object "com/example/libreach/libreach/engine/StateLayout")) (by decide) rfl rfl (g := (mkF m 2 #[.val (.ref oa), .val (.ref ob), .unset] [(.ref ob), (.ref oa)])) rfl rfl (hb hby d6_2)
  refine ownEnds.law st1 ?_
  have N1 := Fr.snoc X1 (Fr.nil n0) g_oa
  have KK1 : Keep h0 h1 [oa] := (Keep.refl h0 [oa]).wr W1 (Or.inl (List.mem_of_getElem? (i := 0) rfl))
  have Z1 : n0 ≤ h1.size := by rw [W1.size]; exact Z0
  have Fw1 : Fld Z h1 oa "com/example/libreach/libreach/engine/StateStore" "layout" "Lcom/example/libreach/libreach/engine/StateLayout;" (.ref ob) := Fld.same W1 F_oa_layout
  show ownEnds _ _ _ _ (T1.setTop (mkF m 5 #[.val (.ref oa), .val (.ref ob), .unset] []))
  refine ownEnds.law (fun t k => XS.aloadN X1.here hx rfl (hb hby d6_5) rfl rfl (XS.aloadN X1.here hx rfl (hb hby d6_6) rfl rfl k)) ?_
  show ownEnds _ _ _ _ (T1.setTop (mkF m 7 #[.val (.ref oa), .val (.ref ob), .unset] [(.ref ob), (.ref oa)]))
  have f3 := (Fld.other W1 F_ob_words (Or.inl (Ne.symm ne_oa_ob)))
  have f4 := (Exa.wr W1 E_ob)
  obtain ⟨v2, T2, L2, X2, hQ2, st2⟩ := ownCallV X1 hx hZ hown (y := (⟨"com/example/libreach/libreach/engine/StateLayout", "words", "()I"⟩ : MethodName)) (z := (⟨"com/example/libreach/libreach/engine/StateLayout", "words", "()I"⟩ : MethodName)) (a := ob) (as := []) (wd_54 hw) (wd_55 hw) (notFace_of_selects (args := #[]) (mvT hZ (wd_57 hw))) (wd_57 hw) (wd_56 hw) (wd_6 hw) (wd_58 hw) (by decide) (rm7 l Z a0 hw ob (2 : Int32) h1 n0 Z1 f3) e1 f4 1 (by decide) (by decide) (by decide) (by decide) (g := (mkF m 7 #[.val (.ref oa), .val (.ref ob), .unset] [(.ref ob), (.ref oa)])) rfl (by rw [hml]; rfl) (rest := [(.ref oa)]) pd_2 rfl rfl (by show 2 * 0 + _ ≤ _; exact Nat.le_of_eq rfl) (hb hby d6_7)
  obtain ⟨rfl, rfl, e2⟩ := hQ2
  rw [List.append_nil] at X2
  refine ownEnds.law st2 ?_
  show ownEnds _ _ _ _ (T2.setTop (mkF m 10 #[.val (.ref oa), .val (.ref ob), .unset] [(.int (2 : Int32)), (.ref oa)]))
  have f5 := (Exa.wr W1 E_oa)
  have f6 := (Fld.other W1 F_oa_words (Or.inr (slot_ne (Or.inl (wd_60 hw)) (Or.inl (wd_53 hw)) (by decide) (t := .int) (t' := (.object "com/example/libreach/libreach/engine/StateLayout")) (by decide) (by decide))))
  obtain ⟨T7, h7, X7, e7, W7, st7⟩ := putF X2 hx hZ hown (host := "") (Or.inl (wd_59 hw)) Via.refl e2 f6 f5 (Or.inl (wd_60 hw)) (wd_2 hw) (ty := .int) (by decide) rfl rfl (g := (mkF m 10 #[.val (.ref oa), .val (.ref ob), .unset] [(.int (2 : Int32)), (.ref oa)])) rfl rfl (hb hby d6_10)
  refine ownEnds.law st7 ?_
  have N7 := Fr.snoc X7 N1 g_oa
  have KK7 : Keep h0 h7 [oa] := (KK1).wr W7 (Or.inl (List.mem_of_getElem? (i := 0) rfl))
  have Z7 : n0 ≤ h7.size := by rw [W7.size]; exact Z1
  have Fw7 : Fld Z h7 oa "com/example/libreach/libreach/engine/StateStore" "words" "I" (.int (2 : Int32)) := Fld.same W7 f6
  show ownEnds _ _ _ _ (T7.setTop (mkF m 13 #[.val (.ref oa), .val (.ref ob), .unset] []))
  refine ownEnds.law (fun t k => XS.aloadN X7.here hx rfl (hb hby d6_13) rfl rfl (XS.aloadN X7.here hx rfl (hb hby d6_14) rfl rfl k)) ?_
  show ownEnds _ _ _ _ (T7.setTop (mkF m 15 #[.val (.ref oa), .val (.ref ob), .unset] [(.ref oa), (.ref oa)]))
  obtain ⟨T8, X8, e8, st8⟩ := getF X7 hx hZ hown (host := "") (Or.inl (wd_59 hw)) Via.refl e7 Fw7 (g := (mkF m 15 #[.val (.ref oa), .val (.ref ob), .unset] [(.ref oa), (.ref oa)])) rfl rfl (hb hby d6_15)
  refine ownEnds.law st8 ?_
  show ownEnds _ _ _ _ (T8.setTop (mkF m 18 #[.val (.ref oa), .val (.ref ob), .unset] [(.int (2 : Int32)), (.ref oa)]))
  refine ownEnds.law (fun t k => XS.iconst X8.here hx rfl (hb hby d6_18) (XS.iadd X8.here hx rfl (hb hby d6_19) rfl k)) ?_
  show ownEnds _ _ _ _ (T8.setTop (mkF m 20 #[.val (.ref oa), .val (.ref ob), .unset] [(.int (3 : Int32)), (.ref oa)]))
  have f9 := (Exa.wr W7 f5)
  have f10 := (Fld.other W7 (Fld.other W1 F_oa_recordWords (Or.inr (slot_ne (Or.inl (wd_62 hw)) (Or.inl (wd_53 hw)) (by decide) (t := .int) (t' := (.object "com/example/libreach/libreach/engine/StateLayout")) (by decide) (by decide)))) (Or.inr (slot_ne (Or.inl (wd_62 hw)) (Or.inl (wd_60 hw)) (by decide) (t := .int) (t' := .int) (by decide) (by decide))))
  obtain ⟨T11, h11, X11, e11, W11, st11⟩ := putF X8 hx hZ hown (host := "") (Or.inl (wd_61 hw)) Via.refl e8 f10 f9 (Or.inl (wd_62 hw)) (wd_2 hw) (ty := .int) (by decide) rfl rfl (g := (mkF m 20 #[.val (.ref oa), .val (.ref ob), .unset] [(.int (3 : Int32)), (.ref oa)])) rfl rfl (hb hby d6_20)
  refine ownEnds.law st11 ?_
  have N11 := Fr.snoc X11 N7 g_oa
  have KK11 : Keep h0 h11 [oa] := (KK7).wr W11 (Or.inl (List.mem_of_getElem? (i := 0) rfl))
  have Z11 : n0 ≤ h11.size := by rw [W11.size]; exact Z7
  have Fw11 : Fld Z h11 oa "com/example/libreach/libreach/engine/StateStore" "recordWords" "I" (.int (3 : Int32)) := Fld.same W11 f10
  show ownEnds _ _ _ _ (T11.setTop (mkF m 23 #[.val (.ref oa), .val (.ref ob), .unset] []))
  refine ownEnds.law (fun t k => XS.bipush X11.here hx rfl (hb hby d6_23) (XS.aloadN X11.here hx rfl (hb hby d6_25) rfl rfl k)) ?_
  show ownEnds _ _ _ _ (T11.setTop (mkF m 26 #[.val (.ref oa), .val (.ref ob), .unset] [(.ref oa), (.int (31 : Int32))]))
  obtain ⟨T12, X12, e12, st12⟩ := getF X11 hx hZ hown (host := "") (Or.inl (wd_61 hw)) Via.refl e11 Fw11 (g := (mkF m 26 #[.val (.ref oa), .val (.ref ob), .unset] [(.ref oa), (.int (31 : Int32))])) rfl rfl (hb hby d6_26)
  refine ownEnds.law st12 ?_
  show ownEnds _ _ _ _ (T12.setTop (mkF m 29 #[.val (.ref oa), .val (.ref ob), .unset] [(.int (3 : Int32)), (.int (31 : Int32))]))
  obtain ⟨v13, T13, L13, X13, hQ13, st13⟩ := ownCallS X12 hx hZ hown (y := (⟨"java/lang/Integer", "numberOfLeadingZeros", "(I)I"⟩ : MethodName)) (as := [(.int (3 : Int32))]) (wd_63 hw) (wd_64 hw) (wd_65 hw) (wd_66 hw) (by decide) (rm8_3 l Z a0 hw h11 n0 Z11) e12 1 (by decide) (by decide) (by decide) (by decide) (g := (mkF m 29 #[.val (.ref oa), .val (.ref ob), .unset] [(.int (3 : Int32)), (.int (31 : Int32))])) rfl (by rw [hml]; rfl) (rest := [(.int (31 : Int32))]) pd_3 rfl rfl (by show 2 * 0 + _ ≤ _; exact Nat.le_of_eq rfl) (hb hby d6_29)
  obtain ⟨rfl, rfl, e13⟩ := hQ13
  rw [List.append_nil] at X13
  refine ownEnds.law st13 ?_
  show ownEnds _ _ _ _ (T13.setTop (mkF m 32 #[.val (.ref oa), .val (.ref ob), .unset] [(.int (30 : Int32)), (.int (31 : Int32))]))
  refine ownEnds.law (fun t k => XS.isub X13.here hx rfl (hb hby d6_32) rfl (XS.istoreN X13.here hx rfl (hb hby d6_33) rfl (l' := #[.val (.ref oa), .val (.ref ob), .val (.int (1 : Int32))]) rfl (XS.aloadN X13.here hx rfl (hb hby d6_34) rfl rfl (XS.iconst X13.here hx rfl (hb hby d6_35) (X13.ldcInt hx hown (mvT hZ (wd_68 hw)) (g := (mkF m 36 #[.val (.ref oa), .val (.ref ob), .val (.int (1 : Int32))] [(.int (0 : Int32)), (.ref oa)])) rfl (hb hby d6_36) _ k))))) ?_
  show ownEnds _ _ _ _ (T13.setTop (mkF m 38 #[.val (.ref oa), .val (.ref ob), .val (.int (1 : Int32))] [(.int (32768 : Int32)), (.int (0 : Int32)), (.ref oa)]))
  obtain ⟨v14, T14, L14, X14, hQ14, st14⟩ := ownCallS X13 hx hZ hown (y := (⟨"java/lang/Integer", "numberOfTrailingZeros", "(I)I"⟩ : MethodName)) (as := [(.int (32768 : Int32))]) (wd_69 hw) (wd_70 hw) (wd_65 hw) (wd_71 hw) (by decide) (rm9_32768 l Z a0 hw h11 n0 Z11) e13 2 (by decide) (by decide) (by decide) (by decide) (g := (mkF m 38 #[.val (.ref oa), .val (.ref ob), .val (.int (1 : Int32))] [(.int (32768 : Int32)), (.int (0 : Int32)), (.ref oa)])) rfl (by rw [hml]; rfl) (rest := [(.int (0 : Int32)), (.ref oa)]) pd_3 rfl rfl (by show 2 * 0 + _ ≤ _; exact Nat.le_of_eq rfl) (hb hby d6_38)
  obtain ⟨rfl, rfl, e14⟩ := hQ14
  rw [List.append_nil] at X14
  refine ownEnds.law st14 ?_
  show ownEnds _ _ _ _ (T14.setTop (mkF m 41 #[.val (.ref oa), .val (.ref ob), .val (.int (1 : Int32))] [(.int (15 : Int32)), (.int (0 : Int32)), (.ref oa)]))
  refine ownEnds.law (fun t k => XS.iloadN X14.here hx rfl (hb hby d6_41) rfl (XS.isub X14.here hx rfl (hb hby d6_42) rfl k)) ?_
  show ownEnds _ _ _ _ (T14.setTop (mkF m 43 #[.val (.ref oa), .val (.ref ob), .val (.int (1 : Int32))] [(.int (14 : Int32)), (.int (0 : Int32)), (.ref oa)]))
  obtain ⟨v15, T15, L15, X15, hQ15, st15⟩ := ownCallS X14 hx hZ hown (y := (⟨"java/lang/Math", "max", "(II)I"⟩ : MethodName)) (as := [(.int (0 : Int32)), (.int (14 : Int32))]) (wd_72 hw) (wd_73 hw) (wd_74 hw) (wd_75 hw) (by decide) (rm10 l Z a0 hw (0 : Int32) (14 : Int32) h11 n0 Z11) e14 1 (by decide) (by decide) (by decide) (by decide) (g := (mkF m 43 #[.val (.ref oa), .val (.ref ob), .val (.int (1 : Int32))] [(.int (14 : Int32)), (.int (0 : Int32)), (.ref oa)])) rfl (by rw [hml]; rfl) (rest := [(.ref oa)]) pd_0 rfl rfl (by show 2 * 0 + _ ≤ _; exact Nat.le_of_eq rfl) (hb hby d6_43)
  obtain ⟨hv15, rfl, e15⟩ := hQ15
  rw [List.append_nil] at X15
  have hw15 : v15 = some (.int (14 : Int32)) := hv15.trans (by decide)
  subst hw15
  refine ownEnds.law st15 ?_
  show ownEnds _ _ _ _ (T15.setTop (mkF m 46 #[.val (.ref oa), .val (.ref ob), .val (.int (1 : Int32))] [(.int (14 : Int32)), (.ref oa)]))
  have f16 := (Exa.wr W11 f9)
  have f17 := (Fld.other W11 (Fld.other W7 (Fld.other W1 F_oa_pageShift (Or.inr (slot_ne (Or.inl (wd_77 hw)) (Or.inl (wd_53 hw)) (by decide) (t := .int) (t' := (.object "com/example/libreach/libreach/engine/StateLayout")) (by decide) (by decide)))) (Or.inr (slot_ne (Or.inl (wd_77 hw)) (Or.inl (wd_60 hw)) (by decide) (t := .int) (t' := .int) (by decide) (by decide)))) (Or.inr (slot_ne (Or.inl (wd_77 hw)) (Or.inl (wd_62 hw)) (by decide) (t := .int) (t' := .int) (by decide) (by decide))))
  obtain ⟨T18, h18, X18, e18, W18, st18⟩ := putF X15 hx hZ hown (host := "") (Or.inl (wd_76 hw)) Via.refl e15 f17 f16 (Or.inl (wd_77 hw)) (wd_2 hw) (ty := .int) (by decide) rfl rfl (g := (mkF m 46 #[.val (.ref oa), .val (.ref ob), .val (.int (1 : Int32))] [(.int (14 : Int32)), (.ref oa)])) rfl rfl (hb hby d6_46)
  refine ownEnds.law st18 ?_
  have N18 := Fr.snoc X18 N11 g_oa
  have KK18 : Keep h0 h18 [oa] := (KK11).wr W18 (Or.inl (List.mem_of_getElem? (i := 0) rfl))
  have Z18 : n0 ≤ h18.size := by rw [W18.size]; exact Z11
  have Fw18 : Fld Z h18 oa "com/example/libreach/libreach/engine/StateStore" "pageShift" "I" (.int (14 : Int32)) := Fld.same W18 f17
  show ownEnds _ _ _ _ (T18.setTop (mkF m 49 #[.val (.ref oa), .val (.ref ob), .val (.int (1 : Int32))] []))
  refine ownRetV X18 hlk hx hret (hb hby d6_49) (by decide) (by decide) ?_
  have f19 := (Exa.wr W18 f16)
  have f20 := (Fld.other W18 (Fld.other W11 Fw7 (Or.inr (slot_ne (Or.inl (wd_60 hw)) (Or.inl (wd_62 hw)) (by decide) (t := .int) (t' := .int) (by decide) (by decide)))) (Or.inr (slot_ne (Or.inl (wd_60 hw)) (Or.inl (wd_77 hw)) (by decide) (t := .int) (t' := .int) (by decide) (by decide))))
  have f21 := (Fld.other W18 (Fld.other W11 (Fld.other W7 (Fld.other W1 F_oa_pages (Or.inr (slot_ne (Or.inl (wd_81 hw)) (Or.inl (wd_53 hw)) (by decide) (t := (.array (.array .long))) (t' := (.object "com/example/libreach/libreach/engine/StateLayout")) (by decide) (by decide)))) (Or.inr (slot_ne (Or.inl (wd_81 hw)) (Or.inl (wd_60 hw)) (by decide) (t := (.array (.array .long))) (t' := .int) (by decide) (by decide)))) (Or.inr (slot_ne (Or.inl (wd_81 hw)) (Or.inl (wd_62 hw)) (by decide) (t := (.array (.array .long))) (t' := .int) (by decide) (by decide)))) (Or.inr (slot_ne (Or.inl (wd_81 hw)) (Or.inl (wd_77 hw)) (by decide) (t := (.array (.array .long))) (t' := .int) (by decide) (by decide))))
  have f22 := (Fld.other W18 (Fld.other W11 (Fld.other W7 (Fld.other W1 F_oa_table (Or.inr (slot_ne (Or.inl (wd_84 hw)) (Or.inl (wd_53 hw)) (by decide) (t := (.array .long)) (t' := (.object "com/example/libreach/libreach/engine/StateLayout")) (by decide) (by decide)))) (Or.inr (slot_ne (Or.inl (wd_84 hw)) (Or.inl (wd_60 hw)) (by decide) (t := (.array .long)) (t' := .int) (by decide) (by decide)))) (Or.inr (slot_ne (Or.inl (wd_84 hw)) (Or.inl (wd_62 hw)) (by decide) (t := (.array .long)) (t' := .int) (by decide) (by decide)))) (Or.inr (slot_ne (Or.inl (wd_84 hw)) (Or.inl (wd_77 hw)) (by decide) (t := (.array .long)) (t' := .int) (by decide) (by decide))))
  rw [e18]
  exact ⟨rfl, N18, KK18, f19, f20, f21, f22⟩
set_option maxRecDepth 65536 in
set_option maxHeartbeats 40000000 in
theorem rm5_2 (l : Launch) (Z : State) (a0 : Array Value) (hw : ∀ d ∈ tables_1, d.before a0 Z = true) (oa : Addr) (ob : Addr)  (h0 : Heap) (n0 : Nat) (Z0 : n0 ≤ h0.size) (E_oa : Exa Z h0 oa "com/example/libreach/libreach/engine/StateStore") (g_oa : n0 ≤ oa) (F_oa_layout : Fld Z h0 oa "com/example/libreach/libreach/engine/StateStore" "layout" "Lcom/example/libreach/libreach/engine/StateLayout;" .null) (F_oa_words : Fld Z h0 oa "com/example/libreach/libreach/engine/StateStore" "words" "I" (.int (0 : Int32))) (F_oa_recordWords : Fld Z h0 oa "com/example/libreach/libreach/engine/StateStore" "recordWords" "I" (.int (0 : Int32))) (F_oa_pageShift : Fld Z h0 oa "com/example/libreach/libreach/engine/StateStore" "pageShift" "I" (.int (0 : Int32))) (F_oa_pages : Fld Z h0 oa "com/example/libreach/libreach/engine/StateStore" "pages" "[[J" .null) (F_oa_table : Fld Z h0 oa "com/example/libreach/libreach/engine/StateStore" "table" "[J" .null) (E_ob : Exa Z h0 ob "com/example/libreach/libreach/engine/StateLayout") (F_ob_words : Fld Z h0 ob "com/example/libreach/libreach/engine/StateLayout" "words" "I" (.int (2 : Int32))) :
    ownMet l Z (⟨"com/example/libreach/libreach/engine/StateStore", "<init>", "(Lcom/example/libreach/libreach/engine/StateLayout;I)V"⟩ : MethodName) prog_18_method_2_code 4 none [] ({ frames := 2, cells := 2, slots := 1025, locals := 32 } : Room) #[(.ref oa), (.ref ob), (.int (0 : Int32))] h0 (fun v h L => v = none ∧ Fr n0 L ∧ Keep h0 h [oa] ∧ Exa Z h oa "com/example/libreach/libreach/engine/StateStore" ∧ Fld Z h oa "com/example/libreach/libreach/engine/StateStore" "words" "I" (.int (2 : Int32))) := by
  refine ownMet.of (plainFor_of_name pn_5) ?_
  intro p e s m below meth c T0 hx hby hml hZ hown hnm hret hlk X0 e0
  refine ownEnds.cast (ef_rm5_2 m oa ob) ?_
  have ne_oa_ob : oa ≠ ob := ne_exa E_oa E_ob (by decide)
  show ownEnds _ _ _ _ (T0.setTop (mkF m 0 #[.val (.ref oa), .val (.ref ob), .val (.int (0 : Int32)), .unset] []))
  refine ownEnds.law (fun t k => XS.aloadN X0.here hx rfl (hb hby d5_0) rfl rfl k) ?_
  show ownEnds _ _ _ _ (T0.setTop (mkF m 1 #[.val (.ref oa), .val (.ref ob), .val (.int (0 : Int32)), .unset] [(.ref oa)]))
  obtain ⟨T1, X1, e1, st1⟩ := initO X0 hx hZ hown (wd_47 hw) (wd_11 hw) (wd_12 hw) e0 (g := (mkF m 1 #[.val (.ref oa), .val (.ref ob), .val (.int (0 : Int32)), .unset] [(.ref oa)])) rfl (by rw [hml]; rfl) rfl (hb hby d5_1) (by decide) (W := 0) (by show 2 * 0 + _ ≤ _; exact Nat.le_of_eq rfl) (by decide)
  refine ownEnds.law st1 ?_
  show ownEnds _ _ _ _ (T1.setTop (mkF m 4 #[.val (.ref oa), .val (.ref ob), .val (.int (0 : Int32)), .unset] []))
  refine ownEnds.law (fun t k => XS.aloadN X1.here hx rfl (hb hby d5_4) rfl rfl (XS.aloadN X1.here hx rfl (hb hby d5_5) rfl rfl k)) ?_
  show ownEnds _ _ _ _ (T1.setTop (mkF m 6 #[.val (.ref oa), .val (.ref ob), .val (.int (0 : Int32)), .unset] [(.ref ob), (.ref oa)]))
  obtain ⟨v2, T2, L2, X2, hQ2, st2⟩ := ownCallP X1 hx hZ hown (y := (⟨"com/example/libreach/libreach/engine/StateStore", "useLayout", "(Lcom/example/libreach/libreach/engine/StateLayout;)V"⟩ : MethodName)) (z := (⟨"com/example/libreach/libreach/engine/StateStore", "hash", "([JI)I"⟩ : MethodName)) (a := oa) (as := [(.ref ob)]) (wd_48 hw) rfl (wd_88 hw) (wd_49 hw) (wd_50 hw) (wd_3 hw) (wd_51 hw) (by decide) (rm6_2 l Z a0 hw oa ob  h0 n0 Z0 E_oa g_oa F_oa_layout F_oa_words F_oa_recordWords F_oa_pageShift F_oa_pages F_oa_table E_ob F_ob_words) e1 E_oa 0 (by decide) (by decide) (by decide) (by decide) (g := (mkF m 6 #[.val (.ref oa), .val (.ref ob), .val (.int (0 : Int32)), .unset] [(.ref ob), (.ref oa)])) rfl (by rw [hml]; rfl) (rest := []) pd_4 rfl rfl (by show 2 * 0 + _ ≤ _; exact Nat.le_of_eq rfl) (hb hby d5_6)
  obtain ⟨rfl, Nq2, Kq2, Eq2, Fc2_0, Fc2_1, Fc2_2⟩ := hQ2
  have N2 := Fr.app (Fr.nil n0) Nq2
  have KK2 : Keep h0 T2.heap [oa] := Keep.trans (Keep.refl h0 [oa]) Kq2 (allS (Or.inl (List.mem_of_getElem? (i := 0) rfl)) all0)
  have Z2 : n0 ≤ T2.heap.size := Nat.le_trans Z0 Kq2.1
  refine ownEnds.law st2 ?_
  show ownEnds _ _ _ _ (T2.setTop (mkF m 9 #[.val (.ref oa), .val (.ref ob), .val (.int (0 : Int32)), .unset] []))
  refine ownEnds.law (fun t k => XS.aloadN X2.here hx rfl (hb hby d5_9) rfl rfl (XS.iconst X2.here hx rfl (hb hby d5_10) k)) ?_
  show ownEnds _ _ _ _ (T2.setTop (mkF m 11 #[.val (.ref oa), .val (.ref ob), .val (.int (0 : Int32)), .unset] [(.int (1 : Int32)), (.ref oa)]))
  obtain ⟨T3, h3, k3, X3, e3, E3, A3, -, O3, st3⟩ := newRA X2 hx hZ hown (ty := .long) (by decide) (wd_78 hw) (wd_79 hw) rfl (g := (mkF m 11 #[.val (.ref oa), .val (.ref ob), .val (.int (0 : Int32)), .unset] [(.int (1 : Int32)), (.ref oa)])) rfl (hb hby d5_11) rfl (by decide) (cap := 1) (by decide) (by decide) (by decide) (by decide) (ad := "[[J") (by decide)
  obtain ⟨b3, g3⟩ : ∃ z, z = T2.heap.size := ⟨_, rfl⟩
  rw [← g3] at A3 st3
  refine ownEnds.law st3 ?_
  have V_b3 : Arv Z h3 b3 k3 (.array .long) (1 : Int32) [.null] .null := (Arv.new A3 (by decide)).pad (pad_rep [] .null 1)
  have ne_oa_b3 : oa ≠ b3 := Nat.ne_of_lt (Nat.lt_of_lt_of_eq Eq2.lt g3.symm)
  have f4 := (Exa.keep E_ob Kq2)
  have ne_ob_b3 : ob ≠ b3 := Nat.ne_of_lt (Nat.lt_of_lt_of_eq f4.lt g3.symm)
  have g_b3 : n0 ≤ b3 := Nat.le_trans Z2 (Nat.le_of_eq g3.symm)
  have sz_b3 : h0.size ≤ b3 := Nat.le_trans (KK2).1 (Nat.le_of_eq g3.symm)
  have Z3 : n0 ≤ h3.size := Nat.le_trans Z2 E3.1
  have KK3 : Keep h0 h3 [oa] := (KK2).ext E3
  show ownEnds _ _ _ _ (T3.setTop (mkF m 14 #[.val (.ref oa), .val (.ref ob), .val (.int (0 : Int32)), .unset] [(.ref b3), (.ref oa)]))
  have f5 := (Exa.ext E3 Eq2)
  have f6 := (Fld.ext E3 Fc2_1)
  obtain ⟨T7, h7, X7, e7, W7, st7⟩ := putF X3 hx hZ hown (host := "") (Or.inl (wd_80 hw)) Via.refl e3 f6 f5 (Or.inl (wd_81 hw)) (wd_2 hw) (ty := (.array (.array .long))) (by decide) rfl rfl (g := (mkF m 14 #[.val (.ref oa), .val (.ref ob), .val (.int (0 : Int32)), .unset] [(.ref b3), (.ref oa)])) rfl rfl (hb hby d5_14)
  refine ownEnds.law st7 ?_
  have N7 := Fr.snoc X7 N2 g_oa
  have KK7 : Keep h0 h7 [oa] := (KK3).wr W7 (Or.inl (List.mem_of_getElem? (i := 0) rfl))
  have Z7 : n0 ≤ h7.size := by rw [W7.size]; exact Z3
  have Fw7 : Fld Z h7 oa "com/example/libreach/libreach/engine/StateStore" "pages" "[[J" (.ref b3) := Fld.same W7 f6
  show ownEnds _ _ _ _ (T7.setTop (mkF m 17 #[.val (.ref oa), .val (.ref ob), .val (.int (0 : Int32)), .unset] []))
  refine ownEnds.law (fun t k => XS.sipush X7.here hx rfl (hb hby d5_17) (XS.istoreN X7.here hx rfl (hb hby d5_20) rfl (l' := #[.val (.ref oa), .val (.ref ob), .val (.int (0 : Int32)), .val (.int (1024 : Int32))]) rfl (XS.iloadN X7.here hx rfl (hb hby d5_21) rfl (X7.ldcInt hx hown (mvT hZ (wd_82 hw)) (g := (mkF m 22 #[.val (.ref oa), .val (.ref ob), .val (.int (0 : Int32)), .val (.int (1024 : Int32))] [(.int (1024 : Int32))])) rfl (hb hby d5_22) _ k)))) ?_
  show ownEnds _ _ _ _ (T7.setTop (mkF m 24 #[.val (.ref oa), .val (.ref ob), .val (.int (0 : Int32)), .val (.int (1024 : Int32))] [(.int (1073741824 : Int32)), (.int (1024 : Int32))]))
  refine ownEnds.law (fun t => XS.icmpNo X7.here hx rfl (hb hby d5_24) rfl (tlt (by decide : (1024 : Int32) < (1073741824 : Int32))).2.1) ?_
  show ownEnds _ _ _ _ (T7.setTop (mkF m 27 #[.val (.ref oa), .val (.ref ob), .val (.int (0 : Int32)), .val (.int (1024 : Int32))] []))
  refine ownEnds.law (fun t k => XS.iloadN X7.here hx rfl (hb hby d5_27) rfl (XS.iloadN X7.here hx rfl (hb hby d5_28) rfl (XS.iconst X7.here hx rfl (hb hby d5_29) (XS.idiv X7.here hx rfl (hb hby d5_30) rfl (by decide) (XS.iconst X7.here hx rfl (hb hby d5_31) (XS.imul X7.here hx rfl (hb hby d5_32) rfl k)))))) ?_
  show ownEnds _ _ _ _ (T7.setTop (mkF m 33 #[.val (.ref oa), .val (.ref ob), .val (.int (0 : Int32)), .val (.int (1024 : Int32))] [(.int (768 : Int32)), (.int (0 : Int32))]))
  refine ownEnds.law (fun t => XS.icmpYes X7.here hx rfl (pc0 := 33) (pc' := 43) rfl (hb hby d5_33) rfl (flt (by decide : ¬ ((768 : Int32) < (0 : Int32)))).2.2.2 (by decide) (by decide)) ?_
  show ownEnds _ _ _ _ (T7.setTop (mkF m 43 #[.val (.ref oa), .val (.ref ob), .val (.int (0 : Int32)), .val (.int (1024 : Int32))] []))
  refine ownEnds.law (fun t k => XS.aloadN X7.here hx rfl (hb hby d5_43) rfl rfl (XS.iloadN X7.here hx rfl (hb hby d5_44) rfl k)) ?_
  show ownEnds _ _ _ _ (T7.setTop (mkF m 45 #[.val (.ref oa), .val (.ref ob), .val (.int (0 : Int32)), .val (.int (1024 : Int32))] [(.int (1024 : Int32)), (.ref oa)]))
  obtain ⟨T8, h8, k8, X8, e8, E8, A8, st8⟩ := newP X7 hx hZ (aty := .long) (wd_28 hw) e7 (g := (mkF m 45 #[.val (.ref oa), .val (.ref ob), .val (.int (0 : Int32)), .val (.int (1024 : Int32))] [(.int (1024 : Int32)), (.ref oa)])) rfl (hb hby d5_45) rfl (by decide) (cap := 1024) (by decide) (by decide) (by decide) (by decide)
  obtain ⟨b8, g8⟩ : ∃ z, z = h7.size := ⟨_, rfl⟩
  rw [← g8] at A8 st8
  refine ownEnds.law st8 ?_
  have V_b8 : Arv Z h8 b8 k8 .long (1024 : Int32) [] (.long (0 : Int64)) := Arv.new A8 (by decide)
  have f9 := (Exa.wr W7 f5)
  have ne_oa_b8 : oa ≠ b8 := Nat.ne_of_lt (Nat.lt_of_lt_of_eq f9.lt g8.symm)
  have f10 := (Exa.wr W7 (Exa.ext E3 f4))
  have ne_ob_b8 : ob ≠ b8 := Nat.ne_of_lt (Nat.lt_of_lt_of_eq f10.lt g8.symm)
  have f11 := (Arv.other V_b3 W7 (Ne.symm ne_oa_b3))
  have ne_b3_b8 : b3 ≠ b8 := Nat.ne_of_lt (Nat.lt_of_lt_of_eq f11.lt g8.symm)
  have g_b8 : n0 ≤ b8 := Nat.le_trans Z7 (Nat.le_of_eq g8.symm)
  have sz_b8 : h0.size ≤ b8 := Nat.le_trans (KK7).1 (Nat.le_of_eq g8.symm)
  have Z8 : n0 ≤ h8.size := Nat.le_trans Z7 E8.1
  have KK8 : Keep h0 h8 [oa] := (KK7).ext E8
  show ownEnds _ _ _ _ (T8.setTop (mkF m 47 #[.val (.ref oa), .val (.ref ob), .val (.int (0 : Int32)), .val (.int (1024 : Int32))] [(.ref b8), (.ref oa)]))
  have f12 := (Exa.ext E8 f9)
  have f13 := (Fld.ext E8 (Fld.other W7 (Fld.ext E3 Fc2_2) (Or.inr (slot_ne (Or.inl (wd_84 hw)) (Or.inl (wd_81 hw)) (by decide) (t := (.array .long)) (t' := (.array (.array .long))) (by decide) (by decide)))))
  obtain ⟨T14, h14, X14, e14, W14, st14⟩ := putF X8 hx hZ hown (host := "") (Or.inl (wd_83 hw)) Via.refl e8 f13 f12 (Or.inl (wd_84 hw)) (wd_2 hw) (ty := (.array .long)) (by decide) rfl rfl (g := (mkF m 47 #[.val (.ref oa), .val (.ref ob), .val (.int (0 : Int32)), .val (.int (1024 : Int32))] [(.ref b8), (.ref oa)])) rfl rfl (hb hby d5_47)
  refine ownEnds.law st14 ?_
  have N14 := Fr.snoc X14 N7 g_oa
  have KK14 : Keep h0 h14 [oa] := (KK8).wr W14 (Or.inl (List.mem_of_getElem? (i := 0) rfl))
  have Z14 : n0 ≤ h14.size := by rw [W14.size]; exact Z8
  have Fw14 : Fld Z h14 oa "com/example/libreach/libreach/engine/StateStore" "table" "[J" (.ref b8) := Fld.same W14 f13
  show ownEnds _ _ _ _ (T14.setTop (mkF m 50 #[.val (.ref oa), .val (.ref ob), .val (.int (0 : Int32)), .val (.int (1024 : Int32))] []))
  refine ownRetV X14 hlk hx hret (hb hby d5_50) (by decide) (by decide) ?_
  have f15 := (Exa.wr W14 f12)
  have f16 := (Fld.other W14 (Fld.ext E8 (Fld.other W7 (Fld.ext E3 Fc2_0) (Or.inr (slot_ne (Or.inl (wd_60 hw)) (Or.inl (wd_81 hw)) (by decide) (t := .int) (t' := (.array (.array .long))) (by decide) (by decide))))) (Or.inr (slot_ne (Or.inl (wd_60 hw)) (Or.inl (wd_84 hw)) (by decide) (t := .int) (t' := (.array .long)) (by decide) (by decide))))
  rw [e14]
  exact ⟨rfl, N14, KK14, f15, f16⟩
set_option maxRecDepth 65536 in
set_option maxHeartbeats 40000000 in
theorem rm4_2 (l : Launch) (Z : State) (a0 : Array Value) (hw : ∀ d ∈ tables_1, d.before a0 Z = true) (oa : Addr) (ob : Addr)  (h0 : Heap) (n0 : Nat) (Z0 : n0 ≤ h0.size) (E_oa : Exa Z h0 oa "com/example/libreach/libreach/engine/StateStore") (g_oa : n0 ≤ oa) (F_oa_layout : Fld Z h0 oa "com/example/libreach/libreach/engine/StateStore" "layout" "Lcom/example/libreach/libreach/engine/StateLayout;" .null) (F_oa_words : Fld Z h0 oa "com/example/libreach/libreach/engine/StateStore" "words" "I" (.int (0 : Int32))) (F_oa_recordWords : Fld Z h0 oa "com/example/libreach/libreach/engine/StateStore" "recordWords" "I" (.int (0 : Int32))) (F_oa_pageShift : Fld Z h0 oa "com/example/libreach/libreach/engine/StateStore" "pageShift" "I" (.int (0 : Int32))) (F_oa_pages : Fld Z h0 oa "com/example/libreach/libreach/engine/StateStore" "pages" "[[J" .null) (F_oa_table : Fld Z h0 oa "com/example/libreach/libreach/engine/StateStore" "table" "[J" .null) (E_ob : Exa Z h0 ob "com/example/libreach/libreach/engine/StateLayout") (F_ob_words : Fld Z h0 ob "com/example/libreach/libreach/engine/StateLayout" "words" "I" (.int (2 : Int32))) :
    ownMet l Z (⟨"com/example/libreach/libreach/engine/StateStore", "<init>", "(Lcom/example/libreach/libreach/engine/StateLayout;)V"⟩ : MethodName) prog_18_method_1_code 2 none [] ({ frames := 3, cells := 2, slots := 1025, locals := 48 } : Room) #[(.ref oa), (.ref ob)] h0 (fun v h L => v = none ∧ Fr n0 L ∧ Keep h0 h [oa] ∧ Exa Z h oa "com/example/libreach/libreach/engine/StateStore" ∧ Fld Z h oa "com/example/libreach/libreach/engine/StateStore" "words" "I" (.int (2 : Int32))) := by
  refine ownMet.of (plainFor_of_name pn_4) ?_
  intro p e s m below meth c T0 hx hby hml hZ hown hnm hret hlk X0 e0
  refine ownEnds.cast (ef_rm4_2 m oa ob) ?_
  have ne_oa_ob : oa ≠ ob := ne_exa E_oa E_ob (by decide)
  show ownEnds _ _ _ _ (T0.setTop (mkF m 0 #[.val (.ref oa), .val (.ref ob)] []))
  refine ownEnds.law (fun t k => XS.aloadN X0.here hx rfl (hb hby d4_0) rfl rfl (XS.aloadN X0.here hx rfl (hb hby d4_1) rfl rfl (XS.iconst X0.here hx rfl (hb hby d4_2) k))) ?_
  show ownEnds _ _ _ _ (T0.setTop (mkF m 3 #[.val (.ref oa), .val (.ref ob)] [(.int (0 : Int32)), (.ref ob), (.ref oa)]))
  obtain ⟨v1, T1, L1, X1, hQ1, st1⟩ := ownCallC X0 hx hZ hown (y := (⟨"com/example/libreach/libreach/engine/StateStore", "<init>", "(Lcom/example/libreach/libreach/engine/StateLayout;I)V"⟩ : MethodName)) rfl (a := oa) (as := [(.ref ob), (.int (0 : Int32))]) (wd_44 hw) (wd_45 hw) (wd_3 hw) (wd_46 hw) (by decide) (rm5_2 l Z a0 hw oa ob  h0 n0 Z0 E_oa g_oa F_oa_layout F_oa_words F_oa_recordWords F_oa_pageShift F_oa_pages F_oa_table E_ob F_ob_words) e0 0 (by decide) (by decide) (by decide) (by decide) (g := (mkF m 3 #[.val (.ref oa), .val (.ref ob)] [(.int (0 : Int32)), (.ref ob), (.ref oa)])) rfl (by rw [hml]; rfl) (rest := []) pd_5 rfl rfl (by show 2 * 0 + _ ≤ _; exact Nat.le_of_eq rfl) (hb hby d4_3)
  obtain ⟨rfl, Nq1, Kq1, Eq1, Fc1_0⟩ := hQ1
  have N1 := Fr.app (Fr.nil n0) Nq1
  have KK1 : Keep h0 T1.heap [oa] := Keep.trans (Keep.refl h0 [oa]) Kq1 (allS (Or.inl (List.mem_of_getElem? (i := 0) rfl)) all0)
  have Z1 : n0 ≤ T1.heap.size := Nat.le_trans Z0 Kq1.1
  refine ownEnds.law st1 ?_
  show ownEnds _ _ _ _ (T1.setTop (mkF m 6 #[.val (.ref oa), .val (.ref ob)] []))
  refine ownRetV X1 hlk hx hret (hb hby d4_6) (by decide) (by decide) ?_
  exact ⟨rfl, N1, KK1, Eq1, Fc1_0⟩
set_option maxRecDepth 65536 in
set_option maxHeartbeats 40000000 in
theorem rm11_0_0 (l : Launch) (Z : State) (a0 : Array Value) (hw : ∀ d ∈ tables_1, d.before a0 Z = true) (oa : Addr) (ob : Addr) (kb : ClassId) (u0 u1 u2 u3 : Int64) (h0 : Heap) (n0 : Nat) (Z0 : n0 ≤ h0.size) (Fw : Fld Z h0 oa "com/example/libreach/libreach/engine/StateStore" "words" "I" (.int (0 : Int32))) (Vb : Arv Z h0 ob kb .long (4 : Int32) [(.long u0), (.long u1), (.long u2), (.long u3)] (.long (0 : Int64))) :
    ownMet l Z (⟨"com/example/libreach/libreach/engine/StateStore", "hash", "([JI)I"⟩ : MethodName) prog_18_method_7_code 6 (some .int) [] ({ frames := 0, cells := 0, slots := 0, locals := 0 } : Room) #[(.ref oa), (.ref ob), (.int (0 : Int32))] h0 (fun v h L => v = some (.int (HE ((0 : Int32).toInt64))) ∧ L = [] ∧ h = h0) := by
  refine ownMet.of (plainFor_of_name pn_11) ?_
  intro p e s m below meth c T0 hx hby hml hZ hown hnm hret hlk X0 e0
  refine ownEnds.cast (ef_rm11_0_0 m oa ob) ?_
  show ownEnds _ _ _ _ (T0.setTop (mkF m 0 #[.val (.ref oa), .val (.ref ob), .val (.int (0 : Int32)), .unset, .unset, .unset] []))
  refine ownEnds.law (fun t k => XS.aloadN X0.here hx rfl (hb hby d11_0) rfl rfl k) ?_
  show ownEnds _ _ _ _ (T0.setTop (mkF m 1 #[.val (.ref oa), .val (.ref ob), .val (.int (0 : Int32)), .unset, .unset, .unset] [(.ref oa)]))
  obtain ⟨T1, X1, e1, st1⟩ := getF X0 hx hZ hown (host := "") (Or.inl (wd_59 hw)) Via.refl e0 Fw (g := (mkF m 1 #[.val (.ref oa), .val (.ref ob), .val (.int (0 : Int32)), .unset, .unset, .unset] [(.ref oa)])) rfl rfl (hb hby d11_1)
  refine ownEnds.law st1 ?_
  show ownEnds _ _ _ _ (T1.setTop (mkF m 4 #[.val (.ref oa), .val (.ref ob), .val (.int (0 : Int32)), .unset, .unset, .unset] [(.int (0 : Int32))]))
  refine ownEnds.law (fun t k => XS.i2l X1.here hx rfl (hb hby d11_4) rfl (XS.lstoreN X1.here hx rfl (hb hby d11_5) rfl (l' := #[.val (.ref oa), .val (.ref ob), .val (.int (0 : Int32)), .val (.long ((0 : Int32).toInt64)), .second, .unset]) rfl (XS.iconst X1.here hx rfl (hb hby d11_6) (XS.istore X1.here hx rfl (hb hby d11_7) rfl (l' := #[.val (.ref oa), .val (.ref ob), .val (.int (0 : Int32)), .val (.long ((0 : Int32).toInt64)), .second, .val (.int (0 : Int32))]) rfl (XS.iload X1.here hx rfl (hb hby d11_9) rfl (XS.aloadN X1.here hx rfl (hb hby d11_11) rfl rfl k)))))) ?_
  show ownEnds _ _ _ _ (T1.setTop (mkF m 12 #[.val (.ref oa), .val (.ref ob), .val (.int (0 : Int32)), .val (.long ((0 : Int32).toInt64)), .second, .val (.int (0 : Int32))] [(.ref oa), (.int (0 : Int32))]))
  obtain ⟨T2, X2, e2, st2⟩ := getF X1 hx hZ hown (host := "") (Or.inl (wd_59 hw)) Via.refl e1 Fw (g := (mkF m 12 #[.val (.ref oa), .val (.ref ob), .val (.int (0 : Int32)), .val (.long ((0 : Int32).toInt64)), .second, .val (.int (0 : Int32))] [(.ref oa), (.int (0 : Int32))])) rfl rfl (hb hby d11_12)
  refine ownEnds.law st2 ?_
  show ownEnds _ _ _ _ (T2.setTop (mkF m 15 #[.val (.ref oa), .val (.ref ob), .val (.int (0 : Int32)), .val (.long ((0 : Int32).toInt64)), .second, .val (.int (0 : Int32))] [(.int (0 : Int32)), (.int (0 : Int32))]))
  refine ownEnds.law (fun t => XS.icmpYes X2.here hx rfl (pc0 := 15) (pc' := 44) rfl (hb hby d11_15) rfl (flt (Int32.lt_irrefl)).2.1 (by decide) (by decide)) ?_
  show ownEnds _ _ _ _ (T2.setTop (mkF m 44 #[.val (.ref oa), .val (.ref ob), .val (.int (0 : Int32)), .val (.long ((0 : Int32).toInt64)), .second, .val (.int (0 : Int32))] []))
  refine ownEnds.law (fun t k => XS.lloadN X2.here hx rfl (hb hby d11_44) rfl (X2.ldc2Long hx hown (mvT hZ (wd_90 hw)) (g := (mkF m 45 #[.val (.ref oa), .val (.ref ob), .val (.int (0 : Int32)), .val (.long ((0 : Int32).toInt64)), .second, .val (.int (0 : Int32))] [(.long ((0 : Int32).toInt64))])) rfl (hb hby d11_45) _ (XS.lmul X2.here hx rfl (hb hby d11_48) rfl k))) ?_
  show ownEnds _ _ _ _ (T2.setTop (mkF m 49 #[.val (.ref oa), .val (.ref ob), .val (.int (0 : Int32)), .val (.long ((0 : Int32).toInt64)), .second, .val (.int (0 : Int32))] [(.long (((0 : Int32).toInt64) * (-4658895280553007687 : Int64)))]))
  obtain ⟨y3, e_y3⟩ : ∃ z : Int64, z = (((0 : Int32).toInt64) * (-4658895280553007687 : Int64)) := ⟨_, rfl⟩
  rw [← e_y3]
  show ownEnds _ _ _ _ (T2.setTop (mkF m 49 #[.val (.ref oa), .val (.ref ob), .val (.int (0 : Int32)), .val (.long ((0 : Int32).toInt64)), .second, .val (.int (0 : Int32))] [(.long y3)]))
  refine ownEnds.law (fun t k => XS.lstoreN X2.here hx rfl (hb hby d11_49) rfl (l' := #[.val (.ref oa), .val (.ref ob), .val (.int (0 : Int32)), .val (.long y3), .second, .val (.int (0 : Int32))]) rfl (XS.lloadN X2.here hx rfl (hb hby d11_50) rfl (XS.lloadN X2.here hx rfl (hb hby d11_51) rfl (XS.bipush X2.here hx rfl (hb hby d11_52) (XS.lushr X2.here hx rfl (hb hby d11_54) rfl (XS.lxor X2.here hx rfl (hb hby d11_55) rfl k)))))) ?_
  show ownEnds _ _ _ _ (T2.setTop (mkF m 56 #[.val (.ref oa), .val (.ref ob), .val (.int (0 : Int32)), .val (.long y3), .second, .val (.int (0 : Int32))] [(.long (y3 ^^^ ((y3.toUInt64 >>> ((32 : Int32) &&& 0x3f).toInt64.toUInt64).toInt64)))]))
  obtain ⟨y4, e_y4⟩ : ∃ z : Int64, z = (y3 ^^^ ((y3.toUInt64 >>> ((32 : Int32) &&& 0x3f).toInt64.toUInt64).toInt64)) := ⟨_, rfl⟩
  rw [← e_y4]
  show ownEnds _ _ _ _ (T2.setTop (mkF m 56 #[.val (.ref oa), .val (.ref ob), .val (.int (0 : Int32)), .val (.long y3), .second, .val (.int (0 : Int32))] [(.long y4)]))
  refine ownEnds.law (fun t k => XS.lstoreN X2.here hx rfl (hb hby d11_56) rfl (l' := #[.val (.ref oa), .val (.ref ob), .val (.int (0 : Int32)), .val (.long y4), .second, .val (.int (0 : Int32))]) rfl (XS.lloadN X2.here hx rfl (hb hby d11_57) rfl (XS.l2i X2.here hx rfl (hb hby d11_58) rfl k))) ?_
  show ownEnds _ _ _ _ (T2.setTop (mkF m 59 #[.val (.ref oa), .val (.ref ob), .val (.int (0 : Int32)), .val (.long y4), .second, .val (.int (0 : Int32))] [(.int (y4.toInt32))]))
  refine ownRetI X2 hlk hx hret (hb hby d11_59) (by decide) (by decide) ?_
  exact ⟨by subst_vars; rfl, rfl, e2⟩
set_option maxRecDepth 65536 in
set_option maxHeartbeats 40000000 in
theorem rm11_0_1 (l : Launch) (Z : State) (a0 : Array Value) (hw : ∀ d ∈ tables_1, d.before a0 Z = true) (oa : Addr) (ob : Addr) (kb : ClassId) (u0 u1 u2 u3 : Int64) (h0 : Heap) (n0 : Nat) (Z0 : n0 ≤ h0.size) (Fw : Fld Z h0 oa "com/example/libreach/libreach/engine/StateStore" "words" "I" (.int (0 : Int32))) (Vb : Arv Z h0 ob kb .long (4 : Int32) [(.long u0), (.long u1), (.long u2), (.long u3)] (.long (0 : Int64))) :
    ownMet l Z (⟨"com/example/libreach/libreach/engine/StateStore", "hash", "([JI)I"⟩ : MethodName) prog_18_method_7_code 6 (some .int) [] ({ frames := 0, cells := 0, slots := 0, locals := 0 } : Room) #[(.ref oa), (.ref ob), (.int (1 : Int32))] h0 (fun v h L => v = some (.int (HE ((0 : Int32).toInt64))) ∧ L = [] ∧ h = h0) := by
  refine ownMet.of (plainFor_of_name pn_11) ?_
  intro p e s m below meth c T0 hx hby hml hZ hown hnm hret hlk X0 e0
  refine ownEnds.cast (ef_rm11_0_1 m oa ob) ?_
  show ownEnds _ _ _ _ (T0.setTop (mkF m 0 #[.val (.ref oa), .val (.ref ob), .val (.int (1 : Int32)), .unset, .unset, .unset] []))
  refine ownEnds.law (fun t k => XS.aloadN X0.here hx rfl (hb hby d11_0) rfl rfl k) ?_
  show ownEnds _ _ _ _ (T0.setTop (mkF m 1 #[.val (.ref oa), .val (.ref ob), .val (.int (1 : Int32)), .unset, .unset, .unset] [(.ref oa)]))
  obtain ⟨T1, X1, e1, st1⟩ := getF X0 hx hZ hown (host := "") (Or.inl (wd_59 hw)) Via.refl e0 Fw (g := (mkF m 1 #[.val (.ref oa), .val (.ref ob), .val (.int (1 : Int32)), .unset, .unset, .unset] [(.ref oa)])) rfl rfl (hb hby d11_1)
  refine ownEnds.law st1 ?_
  show ownEnds _ _ _ _ (T1.setTop (mkF m 4 #[.val (.ref oa), .val (.ref ob), .val (.int (1 : Int32)), .unset, .unset, .unset] [(.int (0 : Int32))]))
  refine ownEnds.law (fun t k => XS.i2l X1.here hx rfl (hb hby d11_4) rfl (XS.lstoreN X1.here hx rfl (hb hby d11_5) rfl (l' := #[.val (.ref oa), .val (.ref ob), .val (.int (1 : Int32)), .val (.long ((0 : Int32).toInt64)), .second, .unset]) rfl (XS.iconst X1.here hx rfl (hb hby d11_6) (XS.istore X1.here hx rfl (hb hby d11_7) rfl (l' := #[.val (.ref oa), .val (.ref ob), .val (.int (1 : Int32)), .val (.long ((0 : Int32).toInt64)), .second, .val (.int (0 : Int32))]) rfl (XS.iload X1.here hx rfl (hb hby d11_9) rfl (XS.aloadN X1.here hx rfl (hb hby d11_11) rfl rfl k)))))) ?_
  show ownEnds _ _ _ _ (T1.setTop (mkF m 12 #[.val (.ref oa), .val (.ref ob), .val (.int (1 : Int32)), .val (.long ((0 : Int32).toInt64)), .second, .val (.int (0 : Int32))] [(.ref oa), (.int (0 : Int32))]))
  obtain ⟨T2, X2, e2, st2⟩ := getF X1 hx hZ hown (host := "") (Or.inl (wd_59 hw)) Via.refl e1 Fw (g := (mkF m 12 #[.val (.ref oa), .val (.ref ob), .val (.int (1 : Int32)), .val (.long ((0 : Int32).toInt64)), .second, .val (.int (0 : Int32))] [(.ref oa), (.int (0 : Int32))])) rfl rfl (hb hby d11_12)
  refine ownEnds.law st2 ?_
  show ownEnds _ _ _ _ (T2.setTop (mkF m 15 #[.val (.ref oa), .val (.ref ob), .val (.int (1 : Int32)), .val (.long ((0 : Int32).toInt64)), .second, .val (.int (0 : Int32))] [(.int (0 : Int32)), (.int (0 : Int32))]))
  refine ownEnds.law (fun t => XS.icmpYes X2.here hx rfl (pc0 := 15) (pc' := 44) rfl (hb hby d11_15) rfl (flt (Int32.lt_irrefl)).2.1 (by decide) (by decide)) ?_
  show ownEnds _ _ _ _ (T2.setTop (mkF m 44 #[.val (.ref oa), .val (.ref ob), .val (.int (1 : Int32)), .val (.long ((0 : Int32).toInt64)), .second, .val (.int (0 : Int32))] []))
  refine ownEnds.law (fun t k => XS.lloadN X2.here hx rfl (hb hby d11_44) rfl (X2.ldc2Long hx hown (mvT hZ (wd_90 hw)) (g := (mkF m 45 #[.val (.ref oa), .val (.ref ob), .val (.int (1 : Int32)), .val (.long ((0 : Int32).toInt64)), .second, .val (.int (0 : Int32))] [(.long ((0 : Int32).toInt64))])) rfl (hb hby d11_45) _ (XS.lmul X2.here hx rfl (hb hby d11_48) rfl k))) ?_
  show ownEnds _ _ _ _ (T2.setTop (mkF m 49 #[.val (.ref oa), .val (.ref ob), .val (.int (1 : Int32)), .val (.long ((0 : Int32).toInt64)), .second, .val (.int (0 : Int32))] [(.long (((0 : Int32).toInt64) * (-4658895280553007687 : Int64)))]))
  obtain ⟨y3, e_y3⟩ : ∃ z : Int64, z = (((0 : Int32).toInt64) * (-4658895280553007687 : Int64)) := ⟨_, rfl⟩
  rw [← e_y3]
  show ownEnds _ _ _ _ (T2.setTop (mkF m 49 #[.val (.ref oa), .val (.ref ob), .val (.int (1 : Int32)), .val (.long ((0 : Int32).toInt64)), .second, .val (.int (0 : Int32))] [(.long y3)]))
  refine ownEnds.law (fun t k => XS.lstoreN X2.here hx rfl (hb hby d11_49) rfl (l' := #[.val (.ref oa), .val (.ref ob), .val (.int (1 : Int32)), .val (.long y3), .second, .val (.int (0 : Int32))]) rfl (XS.lloadN X2.here hx rfl (hb hby d11_50) rfl (XS.lloadN X2.here hx rfl (hb hby d11_51) rfl (XS.bipush X2.here hx rfl (hb hby d11_52) (XS.lushr X2.here hx rfl (hb hby d11_54) rfl (XS.lxor X2.here hx rfl (hb hby d11_55) rfl k)))))) ?_
  show ownEnds _ _ _ _ (T2.setTop (mkF m 56 #[.val (.ref oa), .val (.ref ob), .val (.int (1 : Int32)), .val (.long y3), .second, .val (.int (0 : Int32))] [(.long (y3 ^^^ ((y3.toUInt64 >>> ((32 : Int32) &&& 0x3f).toInt64.toUInt64).toInt64)))]))
  obtain ⟨y4, e_y4⟩ : ∃ z : Int64, z = (y3 ^^^ ((y3.toUInt64 >>> ((32 : Int32) &&& 0x3f).toInt64.toUInt64).toInt64)) := ⟨_, rfl⟩
  rw [← e_y4]
  show ownEnds _ _ _ _ (T2.setTop (mkF m 56 #[.val (.ref oa), .val (.ref ob), .val (.int (1 : Int32)), .val (.long y3), .second, .val (.int (0 : Int32))] [(.long y4)]))
  refine ownEnds.law (fun t k => XS.lstoreN X2.here hx rfl (hb hby d11_56) rfl (l' := #[.val (.ref oa), .val (.ref ob), .val (.int (1 : Int32)), .val (.long y4), .second, .val (.int (0 : Int32))]) rfl (XS.lloadN X2.here hx rfl (hb hby d11_57) rfl (XS.l2i X2.here hx rfl (hb hby d11_58) rfl k))) ?_
  show ownEnds _ _ _ _ (T2.setTop (mkF m 59 #[.val (.ref oa), .val (.ref ob), .val (.int (1 : Int32)), .val (.long y4), .second, .val (.int (0 : Int32))] [(.int (y4.toInt32))]))
  refine ownRetI X2 hlk hx hret (hb hby d11_59) (by decide) (by decide) ?_
  exact ⟨by subst_vars; rfl, rfl, e2⟩
set_option maxRecDepth 65536 in
set_option maxHeartbeats 40000000 in
theorem rm11_0_2 (l : Launch) (Z : State) (a0 : Array Value) (hw : ∀ d ∈ tables_1, d.before a0 Z = true) (oa : Addr) (ob : Addr) (kb : ClassId) (u0 u1 u2 u3 : Int64) (h0 : Heap) (n0 : Nat) (Z0 : n0 ≤ h0.size) (Fw : Fld Z h0 oa "com/example/libreach/libreach/engine/StateStore" "words" "I" (.int (0 : Int32))) (Vb : Arv Z h0 ob kb .long (4 : Int32) [(.long u0), (.long u1), (.long u2), (.long u3)] (.long (0 : Int64))) :
    ownMet l Z (⟨"com/example/libreach/libreach/engine/StateStore", "hash", "([JI)I"⟩ : MethodName) prog_18_method_7_code 6 (some .int) [] ({ frames := 0, cells := 0, slots := 0, locals := 0 } : Room) #[(.ref oa), (.ref ob), (.int (2 : Int32))] h0 (fun v h L => v = some (.int (HE ((0 : Int32).toInt64))) ∧ L = [] ∧ h = h0) := by
  refine ownMet.of (plainFor_of_name pn_11) ?_
  intro p e s m below meth c T0 hx hby hml hZ hown hnm hret hlk X0 e0
  refine ownEnds.cast (ef_rm11_0_2 m oa ob) ?_
  show ownEnds _ _ _ _ (T0.setTop (mkF m 0 #[.val (.ref oa), .val (.ref ob), .val (.int (2 : Int32)), .unset, .unset, .unset] []))
  refine ownEnds.law (fun t k => XS.aloadN X0.here hx rfl (hb hby d11_0) rfl rfl k) ?_
  show ownEnds _ _ _ _ (T0.setTop (mkF m 1 #[.val (.ref oa), .val (.ref ob), .val (.int (2 : Int32)), .unset, .unset, .unset] [(.ref oa)]))
  obtain ⟨T1, X1, e1, st1⟩ := getF X0 hx hZ hown (host := "") (Or.inl (wd_59 hw)) Via.refl e0 Fw (g := (mkF m 1 #[.val (.ref oa), .val (.ref ob), .val (.int (2 : Int32)), .unset, .unset, .unset] [(.ref oa)])) rfl rfl (hb hby d11_1)
  refine ownEnds.law st1 ?_
  show ownEnds _ _ _ _ (T1.setTop (mkF m 4 #[.val (.ref oa), .val (.ref ob), .val (.int (2 : Int32)), .unset, .unset, .unset] [(.int (0 : Int32))]))
  refine ownEnds.law (fun t k => XS.i2l X1.here hx rfl (hb hby d11_4) rfl (XS.lstoreN X1.here hx rfl (hb hby d11_5) rfl (l' := #[.val (.ref oa), .val (.ref ob), .val (.int (2 : Int32)), .val (.long ((0 : Int32).toInt64)), .second, .unset]) rfl (XS.iconst X1.here hx rfl (hb hby d11_6) (XS.istore X1.here hx rfl (hb hby d11_7) rfl (l' := #[.val (.ref oa), .val (.ref ob), .val (.int (2 : Int32)), .val (.long ((0 : Int32).toInt64)), .second, .val (.int (0 : Int32))]) rfl (XS.iload X1.here hx rfl (hb hby d11_9) rfl (XS.aloadN X1.here hx rfl (hb hby d11_11) rfl rfl k)))))) ?_
  show ownEnds _ _ _ _ (T1.setTop (mkF m 12 #[.val (.ref oa), .val (.ref ob), .val (.int (2 : Int32)), .val (.long ((0 : Int32).toInt64)), .second, .val (.int (0 : Int32))] [(.ref oa), (.int (0 : Int32))]))
  obtain ⟨T2, X2, e2, st2⟩ := getF X1 hx hZ hown (host := "") (Or.inl (wd_59 hw)) Via.refl e1 Fw (g := (mkF m 12 #[.val (.ref oa), .val (.ref ob), .val (.int (2 : Int32)), .val (.long ((0 : Int32).toInt64)), .second, .val (.int (0 : Int32))] [(.ref oa), (.int (0 : Int32))])) rfl rfl (hb hby d11_12)
  refine ownEnds.law st2 ?_
  show ownEnds _ _ _ _ (T2.setTop (mkF m 15 #[.val (.ref oa), .val (.ref ob), .val (.int (2 : Int32)), .val (.long ((0 : Int32).toInt64)), .second, .val (.int (0 : Int32))] [(.int (0 : Int32)), (.int (0 : Int32))]))
  refine ownEnds.law (fun t => XS.icmpYes X2.here hx rfl (pc0 := 15) (pc' := 44) rfl (hb hby d11_15) rfl (flt (Int32.lt_irrefl)).2.1 (by decide) (by decide)) ?_
  show ownEnds _ _ _ _ (T2.setTop (mkF m 44 #[.val (.ref oa), .val (.ref ob), .val (.int (2 : Int32)), .val (.long ((0 : Int32).toInt64)), .second, .val (.int (0 : Int32))] []))
  refine ownEnds.law (fun t k => XS.lloadN X2.here hx rfl (hb hby d11_44) rfl (X2.ldc2Long hx hown (mvT hZ (wd_90 hw)) (g := (mkF m 45 #[.val (.ref oa), .val (.ref ob), .val (.int (2 : Int32)), .val (.long ((0 : Int32).toInt64)), .second, .val (.int (0 : Int32))] [(.long ((0 : Int32).toInt64))])) rfl (hb hby d11_45) _ (XS.lmul X2.here hx rfl (hb hby d11_48) rfl k))) ?_
  show ownEnds _ _ _ _ (T2.setTop (mkF m 49 #[.val (.ref oa), .val (.ref ob), .val (.int (2 : Int32)), .val (.long ((0 : Int32).toInt64)), .second, .val (.int (0 : Int32))] [(.long (((0 : Int32).toInt64) * (-4658895280553007687 : Int64)))]))
  obtain ⟨y3, e_y3⟩ : ∃ z : Int64, z = (((0 : Int32).toInt64) * (-4658895280553007687 : Int64)) := ⟨_, rfl⟩
  rw [← e_y3]
  show ownEnds _ _ _ _ (T2.setTop (mkF m 49 #[.val (.ref oa), .val (.ref ob), .val (.int (2 : Int32)), .val (.long ((0 : Int32).toInt64)), .second, .val (.int (0 : Int32))] [(.long y3)]))
  refine ownEnds.law (fun t k => XS.lstoreN X2.here hx rfl (hb hby d11_49) rfl (l' := #[.val (.ref oa), .val (.ref ob), .val (.int (2 : Int32)), .val (.long y3), .second, .val (.int (0 : Int32))]) rfl (XS.lloadN X2.here hx rfl (hb hby d11_50) rfl (XS.lloadN X2.here hx rfl (hb hby d11_51) rfl (XS.bipush X2.here hx rfl (hb hby d11_52) (XS.lushr X2.here hx rfl (hb hby d11_54) rfl (XS.lxor X2.here hx rfl (hb hby d11_55) rfl k)))))) ?_
  show ownEnds _ _ _ _ (T2.setTop (mkF m 56 #[.val (.ref oa), .val (.ref ob), .val (.int (2 : Int32)), .val (.long y3), .second, .val (.int (0 : Int32))] [(.long (y3 ^^^ ((y3.toUInt64 >>> ((32 : Int32) &&& 0x3f).toInt64.toUInt64).toInt64)))]))
  obtain ⟨y4, e_y4⟩ : ∃ z : Int64, z = (y3 ^^^ ((y3.toUInt64 >>> ((32 : Int32) &&& 0x3f).toInt64.toUInt64).toInt64)) := ⟨_, rfl⟩
  rw [← e_y4]
  show ownEnds _ _ _ _ (T2.setTop (mkF m 56 #[.val (.ref oa), .val (.ref ob), .val (.int (2 : Int32)), .val (.long y3), .second, .val (.int (0 : Int32))] [(.long y4)]))
  refine ownEnds.law (fun t k => XS.lstoreN X2.here hx rfl (hb hby d11_56) rfl (l' := #[.val (.ref oa), .val (.ref ob), .val (.int (2 : Int32)), .val (.long y4), .second, .val (.int (0 : Int32))]) rfl (XS.lloadN X2.here hx rfl (hb hby d11_57) rfl (XS.l2i X2.here hx rfl (hb hby d11_58) rfl k))) ?_
  show ownEnds _ _ _ _ (T2.setTop (mkF m 59 #[.val (.ref oa), .val (.ref ob), .val (.int (2 : Int32)), .val (.long y4), .second, .val (.int (0 : Int32))] [(.int (y4.toInt32))]))
  refine ownRetI X2 hlk hx hret (hb hby d11_59) (by decide) (by decide) ?_
  exact ⟨by subst_vars; rfl, rfl, e2⟩
set_option maxRecDepth 65536 in
set_option maxHeartbeats 40000000 in
theorem rm11_1_0 (l : Launch) (Z : State) (a0 : Array Value) (hw : ∀ d ∈ tables_1, d.before a0 Z = true) (oa : Addr) (ob : Addr) (kb : ClassId) (u0 u1 u2 u3 : Int64) (h0 : Heap) (n0 : Nat) (Z0 : n0 ≤ h0.size) (Fw : Fld Z h0 oa "com/example/libreach/libreach/engine/StateStore" "words" "I" (.int (1 : Int32))) (Vb : Arv Z h0 ob kb .long (4 : Int32) [(.long u0), (.long u1), (.long u2), (.long u3)] (.long (0 : Int64))) :
    ownMet l Z (⟨"com/example/libreach/libreach/engine/StateStore", "hash", "([JI)I"⟩ : MethodName) prog_18_method_7_code 6 (some .int) [] ({ frames := 0, cells := 0, slots := 0, locals := 0 } : Room) #[(.ref oa), (.ref ob), (.int (0 : Int32))] h0 (fun v h L => v = some (.int (HE (HS ((1 : Int32).toInt64) u0))) ∧ L = [] ∧ h = h0) := by
  refine ownMet.of (plainFor_of_name pn_11) ?_
  intro p e s m below meth c T0 hx hby hml hZ hown hnm hret hlk X0 e0
  refine ownEnds.cast (ef_rm11_1_0 m oa ob) ?_
  show ownEnds _ _ _ _ (T0.setTop (mkF m 0 #[.val (.ref oa), .val (.ref ob), .val (.int (0 : Int32)), .unset, .unset, .unset] []))
  refine ownEnds.law (fun t k => XS.aloadN X0.here hx rfl (hb hby d11_0) rfl rfl k) ?_
  show ownEnds _ _ _ _ (T0.setTop (mkF m 1 #[.val (.ref oa), .val (.ref ob), .val (.int (0 : Int32)), .unset, .unset, .unset] [(.ref oa)]))
  obtain ⟨T1, X1, e1, st1⟩ := getF X0 hx hZ hown (host := "") (Or.inl (wd_59 hw)) Via.refl e0 Fw (g := (mkF m 1 #[.val (.ref oa), .val (.ref ob), .val (.int (0 : Int32)), .unset, .unset, .unset] [(.ref oa)])) rfl rfl (hb hby d11_1)
  refine ownEnds.law st1 ?_
  show ownEnds _ _ _ _ (T1.setTop (mkF m 4 #[.val (.ref oa), .val (.ref ob), .val (.int (0 : Int32)), .unset, .unset, .unset] [(.int (1 : Int32))]))
  refine ownEnds.law (fun t k => XS.i2l X1.here hx rfl (hb hby d11_4) rfl (XS.lstoreN X1.here hx rfl (hb hby d11_5) rfl (l' := #[.val (.ref oa), .val (.ref ob), .val (.int (0 : Int32)), .val (.long ((1 : Int32).toInt64)), .second, .unset]) rfl (XS.iconst X1.here hx rfl (hb hby d11_6) (XS.istore X1.here hx rfl (hb hby d11_7) rfl (l' := #[.val (.ref oa), .val (.ref ob), .val (.int (0 : Int32)), .val (.long ((1 : Int32).toInt64)), .second, .val (.int (0 : Int32))]) rfl (XS.iload X1.here hx rfl (hb hby d11_9) rfl (XS.aloadN X1.here hx rfl (hb hby d11_11) rfl rfl k)))))) ?_
  show ownEnds _ _ _ _ (T1.setTop (mkF m 12 #[.val (.ref oa), .val (.ref ob), .val (.int (0 : Int32)), .val (.long ((1 : Int32).toInt64)), .second, .val (.int (0 : Int32))] [(.ref oa), (.int (0 : Int32))]))
  obtain ⟨T2, X2, e2, st2⟩ := getF X1 hx hZ hown (host := "") (Or.inl (wd_59 hw)) Via.refl e1 Fw (g := (mkF m 12 #[.val (.ref oa), .val (.ref ob), .val (.int (0 : Int32)), .val (.long ((1 : Int32).toInt64)), .second, .val (.int (0 : Int32))] [(.ref oa), (.int (0 : Int32))])) rfl rfl (hb hby d11_12)
  refine ownEnds.law st2 ?_
  show ownEnds _ _ _ _ (T2.setTop (mkF m 15 #[.val (.ref oa), .val (.ref ob), .val (.int (0 : Int32)), .val (.long ((1 : Int32).toInt64)), .second, .val (.int (0 : Int32))] [(.int (1 : Int32)), (.int (0 : Int32))]))
  refine ownEnds.law (fun t => XS.icmpNo X2.here hx rfl (hb hby d11_15) rfl (tlt (by decide : (0 : Int32) < (1 : Int32))).2.1) ?_
  show ownEnds _ _ _ _ (T2.setTop (mkF m 18 #[.val (.ref oa), .val (.ref ob), .val (.int (0 : Int32)), .val (.long ((1 : Int32).toInt64)), .second, .val (.int (0 : Int32))] []))
  refine ownEnds.law (fun t k => XS.lloadN X2.here hx rfl (hb hby d11_18) rfl (XS.aloadN X2.here hx rfl (hb hby d11_19) rfl rfl (XS.iloadN X2.here hx rfl (hb hby d11_20) rfl (XS.iload X2.here hx rfl (hb hby d11_21) rfl (XS.iadd X2.here hx rfl (hb hby d11_23) rfl k))))) ?_
  show ownEnds _ _ _ _ (T2.setTop (mkF m 24 #[.val (.ref oa), .val (.ref ob), .val (.int (0 : Int32)), .val (.long ((1 : Int32).toInt64)), .second, .val (.int (0 : Int32))] [(.int (0 : Int32)), (.ref ob), (.long ((1 : Int32).toInt64))]))
  obtain ⟨cl3, Ar3, q3, S3, N3, H3, G3⟩ := id Vb
  have hi3 := inb_of (j := (0 : Int32)) S3 ⟨by decide, by decide⟩
  have hv3 : cl3.slots[((0 : Int32)).toNatClampNeg]? = some (.long u0) := H3.at hi3 rfl
  refine ownEnds.law (fun t k => X2.laload hx (j := (0 : Int32)) (v := (.long u0)) (by rw [e2]; exact Ar3.1) (State.isArrayOf_alike hZ.alike Ar3.2.1) Ar3.2.2 hi3 hv3 (g := (mkF m 24 #[.val (.ref oa), .val (.ref ob), .val (.int (0 : Int32)), .val (.long ((1 : Int32).toInt64)), .second, .val (.int (0 : Int32))] [(.int (0 : Int32)), (.ref ob), (.long ((1 : Int32).toInt64))])) rfl rfl (hb hby d11_24) _ (XS.lxor X2.here hx rfl (hb hby d11_25) rfl (X2.ldc2Long hx hown (mvT hZ (wd_92 hw)) (g := (mkF m 26 #[.val (.ref oa), .val (.ref ob), .val (.int (0 : Int32)), .val (.long ((1 : Int32).toInt64)), .second, .val (.int (0 : Int32))] [(.long (((1 : Int32).toInt64) ^^^ u0))])) rfl (hb hby d11_26) _ (XS.lmul X2.here hx rfl (hb hby d11_29) rfl k)))) ?_
  show ownEnds _ _ _ _ (T2.setTop (mkF m 30 #[.val (.ref oa), .val (.ref ob), .val (.int (0 : Int32)), .val (.long ((1 : Int32).toInt64)), .second, .val (.int (0 : Int32))] [(.long ((((1 : Int32).toInt64) ^^^ u0) * (-7046029254386353131 : Int64)))]))
  obtain ⟨y4, e_y4⟩ : ∃ z : Int64, z = ((((1 : Int32).toInt64) ^^^ u0) * (-7046029254386353131 : Int64)) := ⟨_, rfl⟩
  rw [← e_y4]
  show ownEnds _ _ _ _ (T2.setTop (mkF m 30 #[.val (.ref oa), .val (.ref ob), .val (.int (0 : Int32)), .val (.long ((1 : Int32).toInt64)), .second, .val (.int (0 : Int32))] [(.long y4)]))
  refine ownEnds.law (fun t k => XS.lstoreN X2.here hx rfl (hb hby d11_30) rfl (l' := #[.val (.ref oa), .val (.ref ob), .val (.int (0 : Int32)), .val (.long y4), .second, .val (.int (0 : Int32))]) rfl (XS.lloadN X2.here hx rfl (hb hby d11_31) rfl (XS.lloadN X2.here hx rfl (hb hby d11_32) rfl (XS.bipush X2.here hx rfl (hb hby d11_33) (XS.lushr X2.here hx rfl (hb hby d11_35) rfl (XS.lxor X2.here hx rfl (hb hby d11_36) rfl k)))))) ?_
  show ownEnds _ _ _ _ (T2.setTop (mkF m 37 #[.val (.ref oa), .val (.ref ob), .val (.int (0 : Int32)), .val (.long y4), .second, .val (.int (0 : Int32))] [(.long (y4 ^^^ ((y4.toUInt64 >>> ((29 : Int32) &&& 0x3f).toInt64.toUInt64).toInt64)))]))
  obtain ⟨y5, e_y5⟩ : ∃ z : Int64, z = (y4 ^^^ ((y4.toUInt64 >>> ((29 : Int32) &&& 0x3f).toInt64.toUInt64).toInt64)) := ⟨_, rfl⟩
  rw [← e_y5]
  show ownEnds _ _ _ _ (T2.setTop (mkF m 37 #[.val (.ref oa), .val (.ref ob), .val (.int (0 : Int32)), .val (.long y4), .second, .val (.int (0 : Int32))] [(.long y5)]))
  refine ownEnds.law (fun t k => XS.lstoreN X2.here hx rfl (hb hby d11_37) rfl (l' := #[.val (.ref oa), .val (.ref ob), .val (.int (0 : Int32)), .val (.long y5), .second, .val (.int (0 : Int32))]) rfl (XS.iinc X2.here hx rfl (hb hby d11_38) rfl (l' := #[.val (.ref oa), .val (.ref ob), .val (.int (0 : Int32)), .val (.long y5), .second, .val (.int (1 : Int32))]) rfl (XS.goto X2.here hx rfl (pc0 := 41) (pc' := 9) rfl (hb hby d11_41) (by decide) (by decide) (XS.iload X2.here hx rfl (hb hby d11_9) rfl (XS.aloadN X2.here hx rfl (hb hby d11_11) rfl rfl k))))) ?_
  show ownEnds _ _ _ _ (T2.setTop (mkF m 12 #[.val (.ref oa), .val (.ref ob), .val (.int (0 : Int32)), .val (.long y5), .second, .val (.int (1 : Int32))] [(.ref oa), (.int (1 : Int32))]))
  obtain ⟨T6, X6, e6, st6⟩ := getF X2 hx hZ hown (host := "") (Or.inl (wd_59 hw)) Via.refl e2 Fw (g := (mkF m 12 #[.val (.ref oa), .val (.ref ob), .val (.int (0 : Int32)), .val (.long y5), .second, .val (.int (1 : Int32))] [(.ref oa), (.int (1 : Int32))])) rfl rfl (hb hby d11_12)
  refine ownEnds.law st6 ?_
  show ownEnds _ _ _ _ (T6.setTop (mkF m 15 #[.val (.ref oa), .val (.ref ob), .val (.int (0 : Int32)), .val (.long y5), .second, .val (.int (1 : Int32))] [(.int (1 : Int32)), (.int (1 : Int32))]))
  refine ownEnds.law (fun t => XS.icmpYes X6.here hx rfl (pc0 := 15) (pc' := 44) rfl (hb hby d11_15) rfl (flt (Int32.lt_irrefl)).2.1 (by decide) (by decide)) ?_
  show ownEnds _ _ _ _ (T6.setTop (mkF m 44 #[.val (.ref oa), .val (.ref ob), .val (.int (0 : Int32)), .val (.long y5), .second, .val (.int (1 : Int32))] []))
  refine ownEnds.law (fun t k => XS.lloadN X6.here hx rfl (hb hby d11_44) rfl (X6.ldc2Long hx hown (mvT hZ (wd_90 hw)) (g := (mkF m 45 #[.val (.ref oa), .val (.ref ob), .val (.int (0 : Int32)), .val (.long y5), .second, .val (.int (1 : Int32))] [(.long y5)])) rfl (hb hby d11_45) _ (XS.lmul X6.here hx rfl (hb hby d11_48) rfl k))) ?_
  show ownEnds _ _ _ _ (T6.setTop (mkF m 49 #[.val (.ref oa), .val (.ref ob), .val (.int (0 : Int32)), .val (.long y5), .second, .val (.int (1 : Int32))] [(.long (y5 * (-4658895280553007687 : Int64)))]))
  obtain ⟨y7, e_y7⟩ : ∃ z : Int64, z = (y5 * (-4658895280553007687 : Int64)) := ⟨_, rfl⟩
  rw [← e_y7]
  show ownEnds _ _ _ _ (T6.setTop (mkF m 49 #[.val (.ref oa), .val (.ref ob), .val (.int (0 : Int32)), .val (.long y5), .second, .val (.int (1 : Int32))] [(.long y7)]))
  refine ownEnds.law (fun t k => XS.lstoreN X6.here hx rfl (hb hby d11_49) rfl (l' := #[.val (.ref oa), .val (.ref ob), .val (.int (0 : Int32)), .val (.long y7), .second, .val (.int (1 : Int32))]) rfl (XS.lloadN X6.here hx rfl (hb hby d11_50) rfl (XS.lloadN X6.here hx rfl (hb hby d11_51) rfl (XS.bipush X6.here hx rfl (hb hby d11_52) (XS.lushr X6.here hx rfl (hb hby d11_54) rfl (XS.lxor X6.here hx rfl (hb hby d11_55) rfl k)))))) ?_
  show ownEnds _ _ _ _ (T6.setTop (mkF m 56 #[.val (.ref oa), .val (.ref ob), .val (.int (0 : Int32)), .val (.long y7), .second, .val (.int (1 : Int32))] [(.long (y7 ^^^ ((y7.toUInt64 >>> ((32 : Int32) &&& 0x3f).toInt64.toUInt64).toInt64)))]))
  obtain ⟨y8, e_y8⟩ : ∃ z : Int64, z = (y7 ^^^ ((y7.toUInt64 >>> ((32 : Int32) &&& 0x3f).toInt64.toUInt64).toInt64)) := ⟨_, rfl⟩
  rw [← e_y8]
  show ownEnds _ _ _ _ (T6.setTop (mkF m 56 #[.val (.ref oa), .val (.ref ob), .val (.int (0 : Int32)), .val (.long y7), .second, .val (.int (1 : Int32))] [(.long y8)]))
  refine ownEnds.law (fun t k => XS.lstoreN X6.here hx rfl (hb hby d11_56) rfl (l' := #[.val (.ref oa), .val (.ref ob), .val (.int (0 : Int32)), .val (.long y8), .second, .val (.int (1 : Int32))]) rfl (XS.lloadN X6.here hx rfl (hb hby d11_57) rfl (XS.l2i X6.here hx rfl (hb hby d11_58) rfl k))) ?_
  show ownEnds _ _ _ _ (T6.setTop (mkF m 59 #[.val (.ref oa), .val (.ref ob), .val (.int (0 : Int32)), .val (.long y8), .second, .val (.int (1 : Int32))] [(.int (y8.toInt32))]))
  refine ownRetI X6 hlk hx hret (hb hby d11_59) (by decide) (by decide) ?_
  exact ⟨by subst_vars; rfl, rfl, e6⟩
set_option maxRecDepth 65536 in
set_option maxHeartbeats 40000000 in
theorem rm11_1_1 (l : Launch) (Z : State) (a0 : Array Value) (hw : ∀ d ∈ tables_1, d.before a0 Z = true) (oa : Addr) (ob : Addr) (kb : ClassId) (u0 u1 u2 u3 : Int64) (h0 : Heap) (n0 : Nat) (Z0 : n0 ≤ h0.size) (Fw : Fld Z h0 oa "com/example/libreach/libreach/engine/StateStore" "words" "I" (.int (1 : Int32))) (Vb : Arv Z h0 ob kb .long (4 : Int32) [(.long u0), (.long u1), (.long u2), (.long u3)] (.long (0 : Int64))) :
    ownMet l Z (⟨"com/example/libreach/libreach/engine/StateStore", "hash", "([JI)I"⟩ : MethodName) prog_18_method_7_code 6 (some .int) [] ({ frames := 0, cells := 0, slots := 0, locals := 0 } : Room) #[(.ref oa), (.ref ob), (.int (1 : Int32))] h0 (fun v h L => v = some (.int (HE (HS ((1 : Int32).toInt64) u1))) ∧ L = [] ∧ h = h0) := by
  refine ownMet.of (plainFor_of_name pn_11) ?_
  intro p e s m below meth c T0 hx hby hml hZ hown hnm hret hlk X0 e0
  refine ownEnds.cast (ef_rm11_1_1 m oa ob) ?_
  show ownEnds _ _ _ _ (T0.setTop (mkF m 0 #[.val (.ref oa), .val (.ref ob), .val (.int (1 : Int32)), .unset, .unset, .unset] []))
  refine ownEnds.law (fun t k => XS.aloadN X0.here hx rfl (hb hby d11_0) rfl rfl k) ?_
  show ownEnds _ _ _ _ (T0.setTop (mkF m 1 #[.val (.ref oa), .val (.ref ob), .val (.int (1 : Int32)), .unset, .unset, .unset] [(.ref oa)]))
  obtain ⟨T1, X1, e1, st1⟩ := getF X0 hx hZ hown (host := "") (Or.inl (wd_59 hw)) Via.refl e0 Fw (g := (mkF m 1 #[.val (.ref oa), .val (.ref ob), .val (.int (1 : Int32)), .unset, .unset, .unset] [(.ref oa)])) rfl rfl (hb hby d11_1)
  refine ownEnds.law st1 ?_
  show ownEnds _ _ _ _ (T1.setTop (mkF m 4 #[.val (.ref oa), .val (.ref ob), .val (.int (1 : Int32)), .unset, .unset, .unset] [(.int (1 : Int32))]))
  refine ownEnds.law (fun t k => XS.i2l X1.here hx rfl (hb hby d11_4) rfl (XS.lstoreN X1.here hx rfl (hb hby d11_5) rfl (l' := #[.val (.ref oa), .val (.ref ob), .val (.int (1 : Int32)), .val (.long ((1 : Int32).toInt64)), .second, .unset]) rfl (XS.iconst X1.here hx rfl (hb hby d11_6) (XS.istore X1.here hx rfl (hb hby d11_7) rfl (l' := #[.val (.ref oa), .val (.ref ob), .val (.int (1 : Int32)), .val (.long ((1 : Int32).toInt64)), .second, .val (.int (0 : Int32))]) rfl (XS.iload X1.here hx rfl (hb hby d11_9) rfl (XS.aloadN X1.here hx rfl (hb hby d11_11) rfl rfl k)))))) ?_
  show ownEnds _ _ _ _ (T1.setTop (mkF m 12 #[.val (.ref oa), .val (.ref ob), .val (.int (1 : Int32)), .val (.long ((1 : Int32).toInt64)), .second, .val (.int (0 : Int32))] [(.ref oa), (.int (0 : Int32))]))
  obtain ⟨T2, X2, e2, st2⟩ := getF X1 hx hZ hown (host := "") (Or.inl (wd_59 hw)) Via.refl e1 Fw (g := (mkF m 12 #[.val (.ref oa), .val (.ref ob), .val (.int (1 : Int32)), .val (.long ((1 : Int32).toInt64)), .second, .val (.int (0 : Int32))] [(.ref oa), (.int (0 : Int32))])) rfl rfl (hb hby d11_12)
  refine ownEnds.law st2 ?_
  show ownEnds _ _ _ _ (T2.setTop (mkF m 15 #[.val (.ref oa), .val (.ref ob), .val (.int (1 : Int32)), .val (.long ((1 : Int32).toInt64)), .second, .val (.int (0 : Int32))] [(.int (1 : Int32)), (.int (0 : Int32))]))
  refine ownEnds.law (fun t => XS.icmpNo X2.here hx rfl (hb hby d11_15) rfl (tlt (by decide : (0 : Int32) < (1 : Int32))).2.1) ?_
  show ownEnds _ _ _ _ (T2.setTop (mkF m 18 #[.val (.ref oa), .val (.ref ob), .val (.int (1 : Int32)), .val (.long ((1 : Int32).toInt64)), .second, .val (.int (0 : Int32))] []))
  refine ownEnds.law (fun t k => XS.lloadN X2.here hx rfl (hb hby d11_18) rfl (XS.aloadN X2.here hx rfl (hb hby d11_19) rfl rfl (XS.iloadN X2.here hx rfl (hb hby d11_20) rfl (XS.iload X2.here hx rfl (hb hby d11_21) rfl (XS.iadd X2.here hx rfl (hb hby d11_23) rfl k))))) ?_
  show ownEnds _ _ _ _ (T2.setTop (mkF m 24 #[.val (.ref oa), .val (.ref ob), .val (.int (1 : Int32)), .val (.long ((1 : Int32).toInt64)), .second, .val (.int (0 : Int32))] [(.int (1 : Int32)), (.ref ob), (.long ((1 : Int32).toInt64))]))
  obtain ⟨cl3, Ar3, q3, S3, N3, H3, G3⟩ := id Vb
  have hi3 := inb_of (j := (1 : Int32)) S3 ⟨by decide, by decide⟩
  have hv3 : cl3.slots[((1 : Int32)).toNatClampNeg]? = some (.long u1) := H3.at hi3 rfl
  refine ownEnds.law (fun t k => X2.laload hx (j := (1 : Int32)) (v := (.long u1)) (by rw [e2]; exact Ar3.1) (State.isArrayOf_alike hZ.alike Ar3.2.1) Ar3.2.2 hi3 hv3 (g := (mkF m 24 #[.val (.ref oa), .val (.ref ob), .val (.int (1 : Int32)), .val (.long ((1 : Int32).toInt64)), .second, .val (.int (0 : Int32))] [(.int (1 : Int32)), (.ref ob), (.long ((1 : Int32).toInt64))])) rfl rfl (hb hby d11_24) _ (XS.lxor X2.here hx rfl (hb hby d11_25) rfl (X2.ldc2Long hx hown (mvT hZ (wd_92 hw)) (g := (mkF m 26 #[.val (.ref oa), .val (.ref ob), .val (.int (1 : Int32)), .val (.long ((1 : Int32).toInt64)), .second, .val (.int (0 : Int32))] [(.long (((1 : Int32).toInt64) ^^^ u1))])) rfl (hb hby d11_26) _ (XS.lmul X2.here hx rfl (hb hby d11_29) rfl k)))) ?_
  show ownEnds _ _ _ _ (T2.setTop (mkF m 30 #[.val (.ref oa), .val (.ref ob), .val (.int (1 : Int32)), .val (.long ((1 : Int32).toInt64)), .second, .val (.int (0 : Int32))] [(.long ((((1 : Int32).toInt64) ^^^ u1) * (-7046029254386353131 : Int64)))]))
  obtain ⟨y4, e_y4⟩ : ∃ z : Int64, z = ((((1 : Int32).toInt64) ^^^ u1) * (-7046029254386353131 : Int64)) := ⟨_, rfl⟩
  rw [← e_y4]
  show ownEnds _ _ _ _ (T2.setTop (mkF m 30 #[.val (.ref oa), .val (.ref ob), .val (.int (1 : Int32)), .val (.long ((1 : Int32).toInt64)), .second, .val (.int (0 : Int32))] [(.long y4)]))
  refine ownEnds.law (fun t k => XS.lstoreN X2.here hx rfl (hb hby d11_30) rfl (l' := #[.val (.ref oa), .val (.ref ob), .val (.int (1 : Int32)), .val (.long y4), .second, .val (.int (0 : Int32))]) rfl (XS.lloadN X2.here hx rfl (hb hby d11_31) rfl (XS.lloadN X2.here hx rfl (hb hby d11_32) rfl (XS.bipush X2.here hx rfl (hb hby d11_33) (XS.lushr X2.here hx rfl (hb hby d11_35) rfl (XS.lxor X2.here hx rfl (hb hby d11_36) rfl k)))))) ?_
  show ownEnds _ _ _ _ (T2.setTop (mkF m 37 #[.val (.ref oa), .val (.ref ob), .val (.int (1 : Int32)), .val (.long y4), .second, .val (.int (0 : Int32))] [(.long (y4 ^^^ ((y4.toUInt64 >>> ((29 : Int32) &&& 0x3f).toInt64.toUInt64).toInt64)))]))
  obtain ⟨y5, e_y5⟩ : ∃ z : Int64, z = (y4 ^^^ ((y4.toUInt64 >>> ((29 : Int32) &&& 0x3f).toInt64.toUInt64).toInt64)) := ⟨_, rfl⟩
  rw [← e_y5]
  show ownEnds _ _ _ _ (T2.setTop (mkF m 37 #[.val (.ref oa), .val (.ref ob), .val (.int (1 : Int32)), .val (.long y4), .second, .val (.int (0 : Int32))] [(.long y5)]))
  refine ownEnds.law (fun t k => XS.lstoreN X2.here hx rfl (hb hby d11_37) rfl (l' := #[.val (.ref oa), .val (.ref ob), .val (.int (1 : Int32)), .val (.long y5), .second, .val (.int (0 : Int32))]) rfl (XS.iinc X2.here hx rfl (hb hby d11_38) rfl (l' := #[.val (.ref oa), .val (.ref ob), .val (.int (1 : Int32)), .val (.long y5), .second, .val (.int (1 : Int32))]) rfl (XS.goto X2.here hx rfl (pc0 := 41) (pc' := 9) rfl (hb hby d11_41) (by decide) (by decide) (XS.iload X2.here hx rfl (hb hby d11_9) rfl (XS.aloadN X2.here hx rfl (hb hby d11_11) rfl rfl k))))) ?_
  show ownEnds _ _ _ _ (T2.setTop (mkF m 12 #[.val (.ref oa), .val (.ref ob), .val (.int (1 : Int32)), .val (.long y5), .second, .val (.int (1 : Int32))] [(.ref oa), (.int (1 : Int32))]))
  obtain ⟨T6, X6, e6, st6⟩ := getF X2 hx hZ hown (host := "") (Or.inl (wd_59 hw)) Via.refl e2 Fw (g := (mkF m 12 #[.val (.ref oa), .val (.ref ob), .val (.int (1 : Int32)), .val (.long y5), .second, .val (.int (1 : Int32))] [(.ref oa), (.int (1 : Int32))])) rfl rfl (hb hby d11_12)
  refine ownEnds.law st6 ?_
  show ownEnds _ _ _ _ (T6.setTop (mkF m 15 #[.val (.ref oa), .val (.ref ob), .val (.int (1 : Int32)), .val (.long y5), .second, .val (.int (1 : Int32))] [(.int (1 : Int32)), (.int (1 : Int32))]))
  refine ownEnds.law (fun t => XS.icmpYes X6.here hx rfl (pc0 := 15) (pc' := 44) rfl (hb hby d11_15) rfl (flt (Int32.lt_irrefl)).2.1 (by decide) (by decide)) ?_
  show ownEnds _ _ _ _ (T6.setTop (mkF m 44 #[.val (.ref oa), .val (.ref ob), .val (.int (1 : Int32)), .val (.long y5), .second, .val (.int (1 : Int32))] []))
  refine ownEnds.law (fun t k => XS.lloadN X6.here hx rfl (hb hby d11_44) rfl (X6.ldc2Long hx hown (mvT hZ (wd_90 hw)) (g := (mkF m 45 #[.val (.ref oa), .val (.ref ob), .val (.int (1 : Int32)), .val (.long y5), .second, .val (.int (1 : Int32))] [(.long y5)])) rfl (hb hby d11_45) _ (XS.lmul X6.here hx rfl (hb hby d11_48) rfl k))) ?_
  show ownEnds _ _ _ _ (T6.setTop (mkF m 49 #[.val (.ref oa), .val (.ref ob), .val (.int (1 : Int32)), .val (.long y5), .second, .val (.int (1 : Int32))] [(.long (y5 * (-4658895280553007687 : Int64)))]))
  obtain ⟨y7, e_y7⟩ : ∃ z : Int64, z = (y5 * (-4658895280553007687 : Int64)) := ⟨_, rfl⟩
  rw [← e_y7]
  show ownEnds _ _ _ _ (T6.setTop (mkF m 49 #[.val (.ref oa), .val (.ref ob), .val (.int (1 : Int32)), .val (.long y5), .second, .val (.int (1 : Int32))] [(.long y7)]))
  refine ownEnds.law (fun t k => XS.lstoreN X6.here hx rfl (hb hby d11_49) rfl (l' := #[.val (.ref oa), .val (.ref ob), .val (.int (1 : Int32)), .val (.long y7), .second, .val (.int (1 : Int32))]) rfl (XS.lloadN X6.here hx rfl (hb hby d11_50) rfl (XS.lloadN X6.here hx rfl (hb hby d11_51) rfl (XS.bipush X6.here hx rfl (hb hby d11_52) (XS.lushr X6.here hx rfl (hb hby d11_54) rfl (XS.lxor X6.here hx rfl (hb hby d11_55) rfl k)))))) ?_
  show ownEnds _ _ _ _ (T6.setTop (mkF m 56 #[.val (.ref oa), .val (.ref ob), .val (.int (1 : Int32)), .val (.long y7), .second, .val (.int (1 : Int32))] [(.long (y7 ^^^ ((y7.toUInt64 >>> ((32 : Int32) &&& 0x3f).toInt64.toUInt64).toInt64)))]))
  obtain ⟨y8, e_y8⟩ : ∃ z : Int64, z = (y7 ^^^ ((y7.toUInt64 >>> ((32 : Int32) &&& 0x3f).toInt64.toUInt64).toInt64)) := ⟨_, rfl⟩
  rw [← e_y8]
  show ownEnds _ _ _ _ (T6.setTop (mkF m 56 #[.val (.ref oa), .val (.ref ob), .val (.int (1 : Int32)), .val (.long y7), .second, .val (.int (1 : Int32))] [(.long y8)]))
  refine ownEnds.law (fun t k => XS.lstoreN X6.here hx rfl (hb hby d11_56) rfl (l' := #[.val (.ref oa), .val (.ref ob), .val (.int (1 : Int32)), .val (.long y8), .second, .val (.int (1 : Int32))]) rfl (XS.lloadN X6.here hx rfl (hb hby d11_57) rfl (XS.l2i X6.here hx rfl (hb hby d11_58) rfl k))) ?_
  show ownEnds _ _ _ _ (T6.setTop (mkF m 59 #[.val (.ref oa), .val (.ref ob), .val (.int (1 : Int32)), .val (.long y8), .second, .val (.int (1 : Int32))] [(.int (y8.toInt32))]))
  refine ownRetI X6 hlk hx hret (hb hby d11_59) (by decide) (by decide) ?_
  exact ⟨by subst_vars; rfl, rfl, e6⟩
set_option maxRecDepth 65536 in
set_option maxHeartbeats 40000000 in
theorem rm11_1_2 (l : Launch) (Z : State) (a0 : Array Value) (hw : ∀ d ∈ tables_1, d.before a0 Z = true) (oa : Addr) (ob : Addr) (kb : ClassId) (u0 u1 u2 u3 : Int64) (h0 : Heap) (n0 : Nat) (Z0 : n0 ≤ h0.size) (Fw : Fld Z h0 oa "com/example/libreach/libreach/engine/StateStore" "words" "I" (.int (1 : Int32))) (Vb : Arv Z h0 ob kb .long (4 : Int32) [(.long u0), (.long u1), (.long u2), (.long u3)] (.long (0 : Int64))) :
    ownMet l Z (⟨"com/example/libreach/libreach/engine/StateStore", "hash", "([JI)I"⟩ : MethodName) prog_18_method_7_code 6 (some .int) [] ({ frames := 0, cells := 0, slots := 0, locals := 0 } : Room) #[(.ref oa), (.ref ob), (.int (2 : Int32))] h0 (fun v h L => v = some (.int (HE (HS ((1 : Int32).toInt64) u2))) ∧ L = [] ∧ h = h0) := by
  refine ownMet.of (plainFor_of_name pn_11) ?_
  intro p e s m below meth c T0 hx hby hml hZ hown hnm hret hlk X0 e0
  refine ownEnds.cast (ef_rm11_1_2 m oa ob) ?_
  show ownEnds _ _ _ _ (T0.setTop (mkF m 0 #[.val (.ref oa), .val (.ref ob), .val (.int (2 : Int32)), .unset, .unset, .unset] []))
  refine ownEnds.law (fun t k => XS.aloadN X0.here hx rfl (hb hby d11_0) rfl rfl k) ?_
  show ownEnds _ _ _ _ (T0.setTop (mkF m 1 #[.val (.ref oa), .val (.ref ob), .val (.int (2 : Int32)), .unset, .unset, .unset] [(.ref oa)]))
  obtain ⟨T1, X1, e1, st1⟩ := getF X0 hx hZ hown (host := "") (Or.inl (wd_59 hw)) Via.refl e0 Fw (g := (mkF m 1 #[.val (.ref oa), .val (.ref ob), .val (.int (2 : Int32)), .unset, .unset, .unset] [(.ref oa)])) rfl rfl (hb hby d11_1)
  refine ownEnds.law st1 ?_
  show ownEnds _ _ _ _ (T1.setTop (mkF m 4 #[.val (.ref oa), .val (.ref ob), .val (.int (2 : Int32)), .unset, .unset, .unset] [(.int (1 : Int32))]))
  refine ownEnds.law (fun t k => XS.i2l X1.here hx rfl (hb hby d11_4) rfl (XS.lstoreN X1.here hx rfl (hb hby d11_5) rfl (l' := #[.val (.ref oa), .val (.ref ob), .val (.int (2 : Int32)), .val (.long ((1 : Int32).toInt64)), .second, .unset]) rfl (XS.iconst X1.here hx rfl (hb hby d11_6) (XS.istore X1.here hx rfl (hb hby d11_7) rfl (l' := #[.val (.ref oa), .val (.ref ob), .val (.int (2 : Int32)), .val (.long ((1 : Int32).toInt64)), .second, .val (.int (0 : Int32))]) rfl (XS.iload X1.here hx rfl (hb hby d11_9) rfl (XS.aloadN X1.here hx rfl (hb hby d11_11) rfl rfl k)))))) ?_
  show ownEnds _ _ _ _ (T1.setTop (mkF m 12 #[.val (.ref oa), .val (.ref ob), .val (.int (2 : Int32)), .val (.long ((1 : Int32).toInt64)), .second, .val (.int (0 : Int32))] [(.ref oa), (.int (0 : Int32))]))
  obtain ⟨T2, X2, e2, st2⟩ := getF X1 hx hZ hown (host := "") (Or.inl (wd_59 hw)) Via.refl e1 Fw (g := (mkF m 12 #[.val (.ref oa), .val (.ref ob), .val (.int (2 : Int32)), .val (.long ((1 : Int32).toInt64)), .second, .val (.int (0 : Int32))] [(.ref oa), (.int (0 : Int32))])) rfl rfl (hb hby d11_12)
  refine ownEnds.law st2 ?_
  show ownEnds _ _ _ _ (T2.setTop (mkF m 15 #[.val (.ref oa), .val (.ref ob), .val (.int (2 : Int32)), .val (.long ((1 : Int32).toInt64)), .second, .val (.int (0 : Int32))] [(.int (1 : Int32)), (.int (0 : Int32))]))
  refine ownEnds.law (fun t => XS.icmpNo X2.here hx rfl (hb hby d11_15) rfl (tlt (by decide : (0 : Int32) < (1 : Int32))).2.1) ?_
  show ownEnds _ _ _ _ (T2.setTop (mkF m 18 #[.val (.ref oa), .val (.ref ob), .val (.int (2 : Int32)), .val (.long ((1 : Int32).toInt64)), .second, .val (.int (0 : Int32))] []))
  refine ownEnds.law (fun t k => XS.lloadN X2.here hx rfl (hb hby d11_18) rfl (XS.aloadN X2.here hx rfl (hb hby d11_19) rfl rfl (XS.iloadN X2.here hx rfl (hb hby d11_20) rfl (XS.iload X2.here hx rfl (hb hby d11_21) rfl (XS.iadd X2.here hx rfl (hb hby d11_23) rfl k))))) ?_
  show ownEnds _ _ _ _ (T2.setTop (mkF m 24 #[.val (.ref oa), .val (.ref ob), .val (.int (2 : Int32)), .val (.long ((1 : Int32).toInt64)), .second, .val (.int (0 : Int32))] [(.int (2 : Int32)), (.ref ob), (.long ((1 : Int32).toInt64))]))
  obtain ⟨cl3, Ar3, q3, S3, N3, H3, G3⟩ := id Vb
  have hi3 := inb_of (j := (2 : Int32)) S3 ⟨by decide, by decide⟩
  have hv3 : cl3.slots[((2 : Int32)).toNatClampNeg]? = some (.long u2) := H3.at hi3 rfl
  refine ownEnds.law (fun t k => X2.laload hx (j := (2 : Int32)) (v := (.long u2)) (by rw [e2]; exact Ar3.1) (State.isArrayOf_alike hZ.alike Ar3.2.1) Ar3.2.2 hi3 hv3 (g := (mkF m 24 #[.val (.ref oa), .val (.ref ob), .val (.int (2 : Int32)), .val (.long ((1 : Int32).toInt64)), .second, .val (.int (0 : Int32))] [(.int (2 : Int32)), (.ref ob), (.long ((1 : Int32).toInt64))])) rfl rfl (hb hby d11_24) _ (XS.lxor X2.here hx rfl (hb hby d11_25) rfl (X2.ldc2Long hx hown (mvT hZ (wd_92 hw)) (g := (mkF m 26 #[.val (.ref oa), .val (.ref ob), .val (.int (2 : Int32)), .val (.long ((1 : Int32).toInt64)), .second, .val (.int (0 : Int32))] [(.long (((1 : Int32).toInt64) ^^^ u2))])) rfl (hb hby d11_26) _ (XS.lmul X2.here hx rfl (hb hby d11_29) rfl k)))) ?_
  show ownEnds _ _ _ _ (T2.setTop (mkF m 30 #[.val (.ref oa), .val (.ref ob), .val (.int (2 : Int32)), .val (.long ((1 : Int32).toInt64)), .second, .val (.int (0 : Int32))] [(.long ((((1 : Int32).toInt64) ^^^ u2) * (-7046029254386353131 : Int64)))]))
  obtain ⟨y4, e_y4⟩ : ∃ z : Int64, z = ((((1 : Int32).toInt64) ^^^ u2) * (-7046029254386353131 : Int64)) := ⟨_, rfl⟩
  rw [← e_y4]
  show ownEnds _ _ _ _ (T2.setTop (mkF m 30 #[.val (.ref oa), .val (.ref ob), .val (.int (2 : Int32)), .val (.long ((1 : Int32).toInt64)), .second, .val (.int (0 : Int32))] [(.long y4)]))
  refine ownEnds.law (fun t k => XS.lstoreN X2.here hx rfl (hb hby d11_30) rfl (l' := #[.val (.ref oa), .val (.ref ob), .val (.int (2 : Int32)), .val (.long y4), .second, .val (.int (0 : Int32))]) rfl (XS.lloadN X2.here hx rfl (hb hby d11_31) rfl (XS.lloadN X2.here hx rfl (hb hby d11_32) rfl (XS.bipush X2.here hx rfl (hb hby d11_33) (XS.lushr X2.here hx rfl (hb hby d11_35) rfl (XS.lxor X2.here hx rfl (hb hby d11_36) rfl k)))))) ?_
  show ownEnds _ _ _ _ (T2.setTop (mkF m 37 #[.val (.ref oa), .val (.ref ob), .val (.int (2 : Int32)), .val (.long y4), .second, .val (.int (0 : Int32))] [(.long (y4 ^^^ ((y4.toUInt64 >>> ((29 : Int32) &&& 0x3f).toInt64.toUInt64).toInt64)))]))
  obtain ⟨y5, e_y5⟩ : ∃ z : Int64, z = (y4 ^^^ ((y4.toUInt64 >>> ((29 : Int32) &&& 0x3f).toInt64.toUInt64).toInt64)) := ⟨_, rfl⟩
  rw [← e_y5]
  show ownEnds _ _ _ _ (T2.setTop (mkF m 37 #[.val (.ref oa), .val (.ref ob), .val (.int (2 : Int32)), .val (.long y4), .second, .val (.int (0 : Int32))] [(.long y5)]))
  refine ownEnds.law (fun t k => XS.lstoreN X2.here hx rfl (hb hby d11_37) rfl (l' := #[.val (.ref oa), .val (.ref ob), .val (.int (2 : Int32)), .val (.long y5), .second, .val (.int (0 : Int32))]) rfl (XS.iinc X2.here hx rfl (hb hby d11_38) rfl (l' := #[.val (.ref oa), .val (.ref ob), .val (.int (2 : Int32)), .val (.long y5), .second, .val (.int (1 : Int32))]) rfl (XS.goto X2.here hx rfl (pc0 := 41) (pc' := 9) rfl (hb hby d11_41) (by decide) (by decide) (XS.iload X2.here hx rfl (hb hby d11_9) rfl (XS.aloadN X2.here hx rfl (hb hby d11_11) rfl rfl k))))) ?_
  show ownEnds _ _ _ _ (T2.setTop (mkF m 12 #[.val (.ref oa), .val (.ref ob), .val (.int (2 : Int32)), .val (.long y5), .second, .val (.int (1 : Int32))] [(.ref oa), (.int (1 : Int32))]))
  obtain ⟨T6, X6, e6, st6⟩ := getF X2 hx hZ hown (host := "") (Or.inl (wd_59 hw)) Via.refl e2 Fw (g := (mkF m 12 #[.val (.ref oa), .val (.ref ob), .val (.int (2 : Int32)), .val (.long y5), .second, .val (.int (1 : Int32))] [(.ref oa), (.int (1 : Int32))])) rfl rfl (hb hby d11_12)
  refine ownEnds.law st6 ?_
  show ownEnds _ _ _ _ (T6.setTop (mkF m 15 #[.val (.ref oa), .val (.ref ob), .val (.int (2 : Int32)), .val (.long y5), .second, .val (.int (1 : Int32))] [(.int (1 : Int32)), (.int (1 : Int32))]))
  refine ownEnds.law (fun t => XS.icmpYes X6.here hx rfl (pc0 := 15) (pc' := 44) rfl (hb hby d11_15) rfl (flt (Int32.lt_irrefl)).2.1 (by decide) (by decide)) ?_
  show ownEnds _ _ _ _ (T6.setTop (mkF m 44 #[.val (.ref oa), .val (.ref ob), .val (.int (2 : Int32)), .val (.long y5), .second, .val (.int (1 : Int32))] []))
  refine ownEnds.law (fun t k => XS.lloadN X6.here hx rfl (hb hby d11_44) rfl (X6.ldc2Long hx hown (mvT hZ (wd_90 hw)) (g := (mkF m 45 #[.val (.ref oa), .val (.ref ob), .val (.int (2 : Int32)), .val (.long y5), .second, .val (.int (1 : Int32))] [(.long y5)])) rfl (hb hby d11_45) _ (XS.lmul X6.here hx rfl (hb hby d11_48) rfl k))) ?_
  show ownEnds _ _ _ _ (T6.setTop (mkF m 49 #[.val (.ref oa), .val (.ref ob), .val (.int (2 : Int32)), .val (.long y5), .second, .val (.int (1 : Int32))] [(.long (y5 * (-4658895280553007687 : Int64)))]))
  obtain ⟨y7, e_y7⟩ : ∃ z : Int64, z = (y5 * (-4658895280553007687 : Int64)) := ⟨_, rfl⟩
  rw [← e_y7]
  show ownEnds _ _ _ _ (T6.setTop (mkF m 49 #[.val (.ref oa), .val (.ref ob), .val (.int (2 : Int32)), .val (.long y5), .second, .val (.int (1 : Int32))] [(.long y7)]))
  refine ownEnds.law (fun t k => XS.lstoreN X6.here hx rfl (hb hby d11_49) rfl (l' := #[.val (.ref oa), .val (.ref ob), .val (.int (2 : Int32)), .val (.long y7), .second, .val (.int (1 : Int32))]) rfl (XS.lloadN X6.here hx rfl (hb hby d11_50) rfl (XS.lloadN X6.here hx rfl (hb hby d11_51) rfl (XS.bipush X6.here hx rfl (hb hby d11_52) (XS.lushr X6.here hx rfl (hb hby d11_54) rfl (XS.lxor X6.here hx rfl (hb hby d11_55) rfl k)))))) ?_
  show ownEnds _ _ _ _ (T6.setTop (mkF m 56 #[.val (.ref oa), .val (.ref ob), .val (.int (2 : Int32)), .val (.long y7), .second, .val (.int (1 : Int32))] [(.long (y7 ^^^ ((y7.toUInt64 >>> ((32 : Int32) &&& 0x3f).toInt64.toUInt64).toInt64)))]))
  obtain ⟨y8, e_y8⟩ : ∃ z : Int64, z = (y7 ^^^ ((y7.toUInt64 >>> ((32 : Int32) &&& 0x3f).toInt64.toUInt64).toInt64)) := ⟨_, rfl⟩
  rw [← e_y8]
  show ownEnds _ _ _ _ (T6.setTop (mkF m 56 #[.val (.ref oa), .val (.ref ob), .val (.int (2 : Int32)), .val (.long y7), .second, .val (.int (1 : Int32))] [(.long y8)]))
  refine ownEnds.law (fun t k => XS.lstoreN X6.here hx rfl (hb hby d11_56) rfl (l' := #[.val (.ref oa), .val (.ref ob), .val (.int (2 : Int32)), .val (.long y8), .second, .val (.int (1 : Int32))]) rfl (XS.lloadN X6.here hx rfl (hb hby d11_57) rfl (XS.l2i X6.here hx rfl (hb hby d11_58) rfl k))) ?_
  show ownEnds _ _ _ _ (T6.setTop (mkF m 59 #[.val (.ref oa), .val (.ref ob), .val (.int (2 : Int32)), .val (.long y8), .second, .val (.int (1 : Int32))] [(.int (y8.toInt32))]))
  refine ownRetI X6 hlk hx hret (hb hby d11_59) (by decide) (by decide) ?_
  exact ⟨by subst_vars; rfl, rfl, e6⟩
set_option maxRecDepth 65536 in
set_option maxHeartbeats 40000000 in
theorem rm11_2_0 (l : Launch) (Z : State) (a0 : Array Value) (hw : ∀ d ∈ tables_1, d.before a0 Z = true) (oa : Addr) (ob : Addr) (kb : ClassId) (u0 u1 u2 u3 : Int64) (h0 : Heap) (n0 : Nat) (Z0 : n0 ≤ h0.size) (Fw : Fld Z h0 oa "com/example/libreach/libreach/engine/StateStore" "words" "I" (.int (2 : Int32))) (Vb : Arv Z h0 ob kb .long (4 : Int32) [(.long u0), (.long u1), (.long u2), (.long u3)] (.long (0 : Int64))) :
    ownMet l Z (⟨"com/example/libreach/libreach/engine/StateStore", "hash", "([JI)I"⟩ : MethodName) prog_18_method_7_code 6 (some .int) [] ({ frames := 0, cells := 0, slots := 0, locals := 0 } : Room) #[(.ref oa), (.ref ob), (.int (0 : Int32))] h0 (fun v h L => v = some (.int (HE (HS (HS ((2 : Int32).toInt64) u0) u1))) ∧ L = [] ∧ h = h0) := by
  refine ownMet.of (plainFor_of_name pn_11) ?_
  intro p e s m below meth c T0 hx hby hml hZ hown hnm hret hlk X0 e0
  refine ownEnds.cast (ef_rm11_2_0 m oa ob) ?_
  show ownEnds _ _ _ _ (T0.setTop (mkF m 0 #[.val (.ref oa), .val (.ref ob), .val (.int (0 : Int32)), .unset, .unset, .unset] []))
  refine ownEnds.law (fun t k => XS.aloadN X0.here hx rfl (hb hby d11_0) rfl rfl k) ?_
  show ownEnds _ _ _ _ (T0.setTop (mkF m 1 #[.val (.ref oa), .val (.ref ob), .val (.int (0 : Int32)), .unset, .unset, .unset] [(.ref oa)]))
  obtain ⟨T1, X1, e1, st1⟩ := getF X0 hx hZ hown (host := "") (Or.inl (wd_59 hw)) Via.refl e0 Fw (g := (mkF m 1 #[.val (.ref oa), .val (.ref ob), .val (.int (0 : Int32)), .unset, .unset, .unset] [(.ref oa)])) rfl rfl (hb hby d11_1)
  refine ownEnds.law st1 ?_
  show ownEnds _ _ _ _ (T1.setTop (mkF m 4 #[.val (.ref oa), .val (.ref ob), .val (.int (0 : Int32)), .unset, .unset, .unset] [(.int (2 : Int32))]))
  refine ownEnds.law (fun t k => XS.i2l X1.here hx rfl (hb hby d11_4) rfl (XS.lstoreN X1.here hx rfl (hb hby d11_5) rfl (l' := #[.val (.ref oa), .val (.ref ob), .val (.int (0 : Int32)), .val (.long ((2 : Int32).toInt64)), .second, .unset]) rfl (XS.iconst X1.here hx rfl (hb hby d11_6) (XS.istore X1.here hx rfl (hb hby d11_7) rfl (l' := #[.val (.ref oa), .val (.ref ob), .val (.int (0 : Int32)), .val (.long ((2 : Int32).toInt64)), .second, .val (.int (0 : Int32))]) rfl (XS.iload X1.here hx rfl (hb hby d11_9) rfl (XS.aloadN X1.here hx rfl (hb hby d11_11) rfl rfl k)))))) ?_
  show ownEnds _ _ _ _ (T1.setTop (mkF m 12 #[.val (.ref oa), .val (.ref ob), .val (.int (0 : Int32)), .val (.long ((2 : Int32).toInt64)), .second, .val (.int (0 : Int32))] [(.ref oa), (.int (0 : Int32))]))
  obtain ⟨T2, X2, e2, st2⟩ := getF X1 hx hZ hown (host := "") (Or.inl (wd_59 hw)) Via.refl e1 Fw (g := (mkF m 12 #[.val (.ref oa), .val (.ref ob), .val (.int (0 : Int32)), .val (.long ((2 : Int32).toInt64)), .second, .val (.int (0 : Int32))] [(.ref oa), (.int (0 : Int32))])) rfl rfl (hb hby d11_12)
  refine ownEnds.law st2 ?_
  show ownEnds _ _ _ _ (T2.setTop (mkF m 15 #[.val (.ref oa), .val (.ref ob), .val (.int (0 : Int32)), .val (.long ((2 : Int32).toInt64)), .second, .val (.int (0 : Int32))] [(.int (2 : Int32)), (.int (0 : Int32))]))
  refine ownEnds.law (fun t => XS.icmpNo X2.here hx rfl (hb hby d11_15) rfl (tlt (by decide : (0 : Int32) < (2 : Int32))).2.1) ?_
  show ownEnds _ _ _ _ (T2.setTop (mkF m 18 #[.val (.ref oa), .val (.ref ob), .val (.int (0 : Int32)), .val (.long ((2 : Int32).toInt64)), .second, .val (.int (0 : Int32))] []))
  refine ownEnds.law (fun t k => XS.lloadN X2.here hx rfl (hb hby d11_18) rfl (XS.aloadN X2.here hx rfl (hb hby d11_19) rfl rfl (XS.iloadN X2.here hx rfl (hb hby d11_20) rfl (XS.iload X2.here hx rfl (hb hby d11_21) rfl (XS.iadd X2.here hx rfl (hb hby d11_23) rfl k))))) ?_
  show ownEnds _ _ _ _ (T2.setTop (mkF m 24 #[.val (.ref oa), .val (.ref ob), .val (.int (0 : Int32)), .val (.long ((2 : Int32).toInt64)), .second, .val (.int (0 : Int32))] [(.int (0 : Int32)), (.ref ob), (.long ((2 : Int32).toInt64))]))
  obtain ⟨cl3, Ar3, q3, S3, N3, H3, G3⟩ := id Vb
  have hi3 := inb_of (j := (0 : Int32)) S3 ⟨by decide, by decide⟩
  have hv3 : cl3.slots[((0 : Int32)).toNatClampNeg]? = some (.long u0) := H3.at hi3 rfl
  refine ownEnds.law (fun t k => X2.laload hx (j := (0 : Int32)) (v := (.long u0)) (by rw [e2]; exact Ar3.1) (State.isArrayOf_alike hZ.alike Ar3.2.1) Ar3.2.2 hi3 hv3 (g := (mkF m 24 #[.val (.ref oa), .val (.ref ob), .val (.int (0 : Int32)), .val (.long ((2 : Int32).toInt64)), .second, .val (.int (0 : Int32))] [(.int (0 : Int32)), (.ref ob), (.long ((2 : Int32).toInt64))])) rfl rfl (hb hby d11_24) _ (XS.lxor X2.here hx rfl (hb hby d11_25) rfl (X2.ldc2Long hx hown (mvT hZ (wd_92 hw)) (g := (mkF m 26 #[.val (.ref oa), .val (.ref ob), .val (.int (0 : Int32)), .val (.long ((2 : Int32).toInt64)), .second, .val (.int (0 : Int32))] [(.long (((2 : Int32).toInt64) ^^^ u0))])) rfl (hb hby d11_26) _ (XS.lmul X2.here hx rfl (hb hby d11_29) rfl k)))) ?_
  show ownEnds _ _ _ _ (T2.setTop (mkF m 30 #[.val (.ref oa), .val (.ref ob), .val (.int (0 : Int32)), .val (.long ((2 : Int32).toInt64)), .second, .val (.int (0 : Int32))] [(.long ((((2 : Int32).toInt64) ^^^ u0) * (-7046029254386353131 : Int64)))]))
  obtain ⟨y4, e_y4⟩ : ∃ z : Int64, z = ((((2 : Int32).toInt64) ^^^ u0) * (-7046029254386353131 : Int64)) := ⟨_, rfl⟩
  rw [← e_y4]
  show ownEnds _ _ _ _ (T2.setTop (mkF m 30 #[.val (.ref oa), .val (.ref ob), .val (.int (0 : Int32)), .val (.long ((2 : Int32).toInt64)), .second, .val (.int (0 : Int32))] [(.long y4)]))
  refine ownEnds.law (fun t k => XS.lstoreN X2.here hx rfl (hb hby d11_30) rfl (l' := #[.val (.ref oa), .val (.ref ob), .val (.int (0 : Int32)), .val (.long y4), .second, .val (.int (0 : Int32))]) rfl (XS.lloadN X2.here hx rfl (hb hby d11_31) rfl (XS.lloadN X2.here hx rfl (hb hby d11_32) rfl (XS.bipush X2.here hx rfl (hb hby d11_33) (XS.lushr X2.here hx rfl (hb hby d11_35) rfl (XS.lxor X2.here hx rfl (hb hby d11_36) rfl k)))))) ?_
  show ownEnds _ _ _ _ (T2.setTop (mkF m 37 #[.val (.ref oa), .val (.ref ob), .val (.int (0 : Int32)), .val (.long y4), .second, .val (.int (0 : Int32))] [(.long (y4 ^^^ ((y4.toUInt64 >>> ((29 : Int32) &&& 0x3f).toInt64.toUInt64).toInt64)))]))
  obtain ⟨y5, e_y5⟩ : ∃ z : Int64, z = (y4 ^^^ ((y4.toUInt64 >>> ((29 : Int32) &&& 0x3f).toInt64.toUInt64).toInt64)) := ⟨_, rfl⟩
  rw [← e_y5]
  show ownEnds _ _ _ _ (T2.setTop (mkF m 37 #[.val (.ref oa), .val (.ref ob), .val (.int (0 : Int32)), .val (.long y4), .second, .val (.int (0 : Int32))] [(.long y5)]))
  refine ownEnds.law (fun t k => XS.lstoreN X2.here hx rfl (hb hby d11_37) rfl (l' := #[.val (.ref oa), .val (.ref ob), .val (.int (0 : Int32)), .val (.long y5), .second, .val (.int (0 : Int32))]) rfl (XS.iinc X2.here hx rfl (hb hby d11_38) rfl (l' := #[.val (.ref oa), .val (.ref ob), .val (.int (0 : Int32)), .val (.long y5), .second, .val (.int (1 : Int32))]) rfl (XS.goto X2.here hx rfl (pc0 := 41) (pc' := 9) rfl (hb hby d11_41) (by decide) (by decide) (XS.iload X2.here hx rfl (hb hby d11_9) rfl (XS.aloadN X2.here hx rfl (hb hby d11_11) rfl rfl k))))) ?_
  show ownEnds _ _ _ _ (T2.setTop (mkF m 12 #[.val (.ref oa), .val (.ref ob), .val (.int (0 : Int32)), .val (.long y5), .second, .val (.int (1 : Int32))] [(.ref oa), (.int (1 : Int32))]))
  obtain ⟨T6, X6, e6, st6⟩ := getF X2 hx hZ hown (host := "") (Or.inl (wd_59 hw)) Via.refl e2 Fw (g := (mkF m 12 #[.val (.ref oa), .val (.ref ob), .val (.int (0 : Int32)), .val (.long y5), .second, .val (.int (1 : Int32))] [(.ref oa), (.int (1 : Int32))])) rfl rfl (hb hby d11_12)
  refine ownEnds.law st6 ?_
  show ownEnds _ _ _ _ (T6.setTop (mkF m 15 #[.val (.ref oa), .val (.ref ob), .val (.int (0 : Int32)), .val (.long y5), .second, .val (.int (1 : Int32))] [(.int (2 : Int32)), (.int (1 : Int32))]))
  refine ownEnds.law (fun t => XS.icmpNo X6.here hx rfl (hb hby d11_15) rfl (tlt (by decide : (1 : Int32) < (2 : Int32))).2.1) ?_
  show ownEnds _ _ _ _ (T6.setTop (mkF m 18 #[.val (.ref oa), .val (.ref ob), .val (.int (0 : Int32)), .val (.long y5), .second, .val (.int (1 : Int32))] []))
  refine ownEnds.law (fun t k => XS.lloadN X6.here hx rfl (hb hby d11_18) rfl (XS.aloadN X6.here hx rfl (hb hby d11_19) rfl rfl (XS.iloadN X6.here hx rfl (hb hby d11_20) rfl (XS.iload X6.here hx rfl (hb hby d11_21) rfl (XS.iadd X6.here hx rfl (hb hby d11_23) rfl k))))) ?_
  show ownEnds _ _ _ _ (T6.setTop (mkF m 24 #[.val (.ref oa), .val (.ref ob), .val (.int (0 : Int32)), .val (.long y5), .second, .val (.int (1 : Int32))] [(.int (1 : Int32)), (.ref ob), (.long y5)]))
  obtain ⟨cl7, Ar7, q7, S7, N7, H7, G7⟩ := id Vb
  have hi7 := inb_of (j := (1 : Int32)) S7 ⟨by decide, by decide⟩
  have hv7 : cl7.slots[((1 : Int32)).toNatClampNeg]? = some (.long u1) := H7.at hi7 rfl
  refine ownEnds.law (fun t k => X6.laload hx (j := (1 : Int32)) (v := (.long u1)) (by rw [e6]; exact Ar7.1) (State.isArrayOf_alike hZ.alike Ar7.2.1) Ar7.2.2 hi7 hv7 (g := (mkF m 24 #[.val (.ref oa), .val (.ref ob), .val (.int (0 : Int32)), .val (.long y5), .second, .val (.int (1 : Int32))] [(.int (1 : Int32)), (.ref ob), (.long y5)])) rfl rfl (hb hby d11_24) _ (XS.lxor X6.here hx rfl (hb hby d11_25) rfl (X6.ldc2Long hx hown (mvT hZ (wd_92 hw)) (g := (mkF m 26 #[.val (.ref oa), .val (.ref ob), .val (.int (0 : Int32)), .val (.long y5), .second, .val (.int (1 : Int32))] [(.long (y5 ^^^ u1))])) rfl (hb hby d11_26) _ (XS.lmul X6.here hx rfl (hb hby d11_29) rfl k)))) ?_
  show ownEnds _ _ _ _ (T6.setTop (mkF m 30 #[.val (.ref oa), .val (.ref ob), .val (.int (0 : Int32)), .val (.long y5), .second, .val (.int (1 : Int32))] [(.long ((y5 ^^^ u1) * (-7046029254386353131 : Int64)))]))
  obtain ⟨y8, e_y8⟩ : ∃ z : Int64, z = ((y5 ^^^ u1) * (-7046029254386353131 : Int64)) := ⟨_, rfl⟩
  rw [← e_y8]
  show ownEnds _ _ _ _ (T6.setTop (mkF m 30 #[.val (.ref oa), .val (.ref ob), .val (.int (0 : Int32)), .val (.long y5), .second, .val (.int (1 : Int32))] [(.long y8)]))
  refine ownEnds.law (fun t k => XS.lstoreN X6.here hx rfl (hb hby d11_30) rfl (l' := #[.val (.ref oa), .val (.ref ob), .val (.int (0 : Int32)), .val (.long y8), .second, .val (.int (1 : Int32))]) rfl (XS.lloadN X6.here hx rfl (hb hby d11_31) rfl (XS.lloadN X6.here hx rfl (hb hby d11_32) rfl (XS.bipush X6.here hx rfl (hb hby d11_33) (XS.lushr X6.here hx rfl (hb hby d11_35) rfl (XS.lxor X6.here hx rfl (hb hby d11_36) rfl k)))))) ?_
  show ownEnds _ _ _ _ (T6.setTop (mkF m 37 #[.val (.ref oa), .val (.ref ob), .val (.int (0 : Int32)), .val (.long y8), .second, .val (.int (1 : Int32))] [(.long (y8 ^^^ ((y8.toUInt64 >>> ((29 : Int32) &&& 0x3f).toInt64.toUInt64).toInt64)))]))
  obtain ⟨y9, e_y9⟩ : ∃ z : Int64, z = (y8 ^^^ ((y8.toUInt64 >>> ((29 : Int32) &&& 0x3f).toInt64.toUInt64).toInt64)) := ⟨_, rfl⟩
  rw [← e_y9]
  show ownEnds _ _ _ _ (T6.setTop (mkF m 37 #[.val (.ref oa), .val (.ref ob), .val (.int (0 : Int32)), .val (.long y8), .second, .val (.int (1 : Int32))] [(.long y9)]))
  refine ownEnds.law (fun t k => XS.lstoreN X6.here hx rfl (hb hby d11_37) rfl (l' := #[.val (.ref oa), .val (.ref ob), .val (.int (0 : Int32)), .val (.long y9), .second, .val (.int (1 : Int32))]) rfl (XS.iinc X6.here hx rfl (hb hby d11_38) rfl (l' := #[.val (.ref oa), .val (.ref ob), .val (.int (0 : Int32)), .val (.long y9), .second, .val (.int (2 : Int32))]) rfl (XS.goto X6.here hx rfl (pc0 := 41) (pc' := 9) rfl (hb hby d11_41) (by decide) (by decide) (XS.iload X6.here hx rfl (hb hby d11_9) rfl (XS.aloadN X6.here hx rfl (hb hby d11_11) rfl rfl k))))) ?_
  show ownEnds _ _ _ _ (T6.setTop (mkF m 12 #[.val (.ref oa), .val (.ref ob), .val (.int (0 : Int32)), .val (.long y9), .second, .val (.int (2 : Int32))] [(.ref oa), (.int (2 : Int32))]))
  obtain ⟨T10, X10, e10, st10⟩ := getF X6 hx hZ hown (host := "") (Or.inl (wd_59 hw)) Via.refl e6 Fw (g := (mkF m 12 #[.val (.ref oa), .val (.ref ob), .val (.int (0 : Int32)), .val (.long y9), .second, .val (.int (2 : Int32))] [(.ref oa), (.int (2 : Int32))])) rfl rfl (hb hby d11_12)
  refine ownEnds.law st10 ?_
  show ownEnds _ _ _ _ (T10.setTop (mkF m 15 #[.val (.ref oa), .val (.ref ob), .val (.int (0 : Int32)), .val (.long y9), .second, .val (.int (2 : Int32))] [(.int (2 : Int32)), (.int (2 : Int32))]))
  refine ownEnds.law (fun t => XS.icmpYes X10.here hx rfl (pc0 := 15) (pc' := 44) rfl (hb hby d11_15) rfl (flt (Int32.lt_irrefl)).2.1 (by decide) (by decide)) ?_
  show ownEnds _ _ _ _ (T10.setTop (mkF m 44 #[.val (.ref oa), .val (.ref ob), .val (.int (0 : Int32)), .val (.long y9), .second, .val (.int (2 : Int32))] []))
  refine ownEnds.law (fun t k => XS.lloadN X10.here hx rfl (hb hby d11_44) rfl (X10.ldc2Long hx hown (mvT hZ (wd_90 hw)) (g := (mkF m 45 #[.val (.ref oa), .val (.ref ob), .val (.int (0 : Int32)), .val (.long y9), .second, .val (.int (2 : Int32))] [(.long y9)])) rfl (hb hby d11_45) _ (XS.lmul X10.here hx rfl (hb hby d11_48) rfl k))) ?_
  show ownEnds _ _ _ _ (T10.setTop (mkF m 49 #[.val (.ref oa), .val (.ref ob), .val (.int (0 : Int32)), .val (.long y9), .second, .val (.int (2 : Int32))] [(.long (y9 * (-4658895280553007687 : Int64)))]))
  obtain ⟨y11, e_y11⟩ : ∃ z : Int64, z = (y9 * (-4658895280553007687 : Int64)) := ⟨_, rfl⟩
  rw [← e_y11]
  show ownEnds _ _ _ _ (T10.setTop (mkF m 49 #[.val (.ref oa), .val (.ref ob), .val (.int (0 : Int32)), .val (.long y9), .second, .val (.int (2 : Int32))] [(.long y11)]))
  refine ownEnds.law (fun t k => XS.lstoreN X10.here hx rfl (hb hby d11_49) rfl (l' := #[.val (.ref oa), .val (.ref ob), .val (.int (0 : Int32)), .val (.long y11), .second, .val (.int (2 : Int32))]) rfl (XS.lloadN X10.here hx rfl (hb hby d11_50) rfl (XS.lloadN X10.here hx rfl (hb hby d11_51) rfl (XS.bipush X10.here hx rfl (hb hby d11_52) (XS.lushr X10.here hx rfl (hb hby d11_54) rfl (XS.lxor X10.here hx rfl (hb hby d11_55) rfl k)))))) ?_
  show ownEnds _ _ _ _ (T10.setTop (mkF m 56 #[.val (.ref oa), .val (.ref ob), .val (.int (0 : Int32)), .val (.long y11), .second, .val (.int (2 : Int32))] [(.long (y11 ^^^ ((y11.toUInt64 >>> ((32 : Int32) &&& 0x3f).toInt64.toUInt64).toInt64)))]))
  obtain ⟨y12, e_y12⟩ : ∃ z : Int64, z = (y11 ^^^ ((y11.toUInt64 >>> ((32 : Int32) &&& 0x3f).toInt64.toUInt64).toInt64)) := ⟨_, rfl⟩
  rw [← e_y12]
  show ownEnds _ _ _ _ (T10.setTop (mkF m 56 #[.val (.ref oa), .val (.ref ob), .val (.int (0 : Int32)), .val (.long y11), .second, .val (.int (2 : Int32))] [(.long y12)]))
  refine ownEnds.law (fun t k => XS.lstoreN X10.here hx rfl (hb hby d11_56) rfl (l' := #[.val (.ref oa), .val (.ref ob), .val (.int (0 : Int32)), .val (.long y12), .second, .val (.int (2 : Int32))]) rfl (XS.lloadN X10.here hx rfl (hb hby d11_57) rfl (XS.l2i X10.here hx rfl (hb hby d11_58) rfl k))) ?_
  show ownEnds _ _ _ _ (T10.setTop (mkF m 59 #[.val (.ref oa), .val (.ref ob), .val (.int (0 : Int32)), .val (.long y12), .second, .val (.int (2 : Int32))] [(.int (y12.toInt32))]))
  refine ownRetI X10 hlk hx hret (hb hby d11_59) (by decide) (by decide) ?_
  exact ⟨by subst_vars; rfl, rfl, e10⟩
set_option maxRecDepth 65536 in
set_option maxHeartbeats 40000000 in
theorem rm11_2_1 (l : Launch) (Z : State) (a0 : Array Value) (hw : ∀ d ∈ tables_1, d.before a0 Z = true) (oa : Addr) (ob : Addr) (kb : ClassId) (u0 u1 u2 u3 : Int64) (h0 : Heap) (n0 : Nat) (Z0 : n0 ≤ h0.size) (Fw : Fld Z h0 oa "com/example/libreach/libreach/engine/StateStore" "words" "I" (.int (2 : Int32))) (Vb : Arv Z h0 ob kb .long (4 : Int32) [(.long u0), (.long u1), (.long u2), (.long u3)] (.long (0 : Int64))) :
    ownMet l Z (⟨"com/example/libreach/libreach/engine/StateStore", "hash", "([JI)I"⟩ : MethodName) prog_18_method_7_code 6 (some .int) [] ({ frames := 0, cells := 0, slots := 0, locals := 0 } : Room) #[(.ref oa), (.ref ob), (.int (1 : Int32))] h0 (fun v h L => v = some (.int (HE (HS (HS ((2 : Int32).toInt64) u1) u2))) ∧ L = [] ∧ h = h0) := by
  refine ownMet.of (plainFor_of_name pn_11) ?_
  intro p e s m below meth c T0 hx hby hml hZ hown hnm hret hlk X0 e0
  refine ownEnds.cast (ef_rm11_2_1 m oa ob) ?_
  show ownEnds _ _ _ _ (T0.setTop (mkF m 0 #[.val (.ref oa), .val (.ref ob), .val (.int (1 : Int32)), .unset, .unset, .unset] []))
  refine ownEnds.law (fun t k => XS.aloadN X0.here hx rfl (hb hby d11_0) rfl rfl k) ?_
  show ownEnds _ _ _ _ (T0.setTop (mkF m 1 #[.val (.ref oa), .val (.ref ob), .val (.int (1 : Int32)), .unset, .unset, .unset] [(.ref oa)]))
  obtain ⟨T1, X1, e1, st1⟩ := getF X0 hx hZ hown (host := "") (Or.inl (wd_59 hw)) Via.refl e0 Fw (g := (mkF m 1 #[.val (.ref oa), .val (.ref ob), .val (.int (1 : Int32)), .unset, .unset, .unset] [(.ref oa)])) rfl rfl (hb hby d11_1)
  refine ownEnds.law st1 ?_
  show ownEnds _ _ _ _ (T1.setTop (mkF m 4 #[.val (.ref oa), .val (.ref ob), .val (.int (1 : Int32)), .unset, .unset, .unset] [(.int (2 : Int32))]))
  refine ownEnds.law (fun t k => XS.i2l X1.here hx rfl (hb hby d11_4) rfl (XS.lstoreN X1.here hx rfl (hb hby d11_5) rfl (l' := #[.val (.ref oa), .val (.ref ob), .val (.int (1 : Int32)), .val (.long ((2 : Int32).toInt64)), .second, .unset]) rfl (XS.iconst X1.here hx rfl (hb hby d11_6) (XS.istore X1.here hx rfl (hb hby d11_7) rfl (l' := #[.val (.ref oa), .val (.ref ob), .val (.int (1 : Int32)), .val (.long ((2 : Int32).toInt64)), .second, .val (.int (0 : Int32))]) rfl (XS.iload X1.here hx rfl (hb hby d11_9) rfl (XS.aloadN X1.here hx rfl (hb hby d11_11) rfl rfl k)))))) ?_
  show ownEnds _ _ _ _ (T1.setTop (mkF m 12 #[.val (.ref oa), .val (.ref ob), .val (.int (1 : Int32)), .val (.long ((2 : Int32).toInt64)), .second, .val (.int (0 : Int32))] [(.ref oa), (.int (0 : Int32))]))
  obtain ⟨T2, X2, e2, st2⟩ := getF X1 hx hZ hown (host := "") (Or.inl (wd_59 hw)) Via.refl e1 Fw (g := (mkF m 12 #[.val (.ref oa), .val (.ref ob), .val (.int (1 : Int32)), .val (.long ((2 : Int32).toInt64)), .second, .val (.int (0 : Int32))] [(.ref oa), (.int (0 : Int32))])) rfl rfl (hb hby d11_12)
  refine ownEnds.law st2 ?_
  show ownEnds _ _ _ _ (T2.setTop (mkF m 15 #[.val (.ref oa), .val (.ref ob), .val (.int (1 : Int32)), .val (.long ((2 : Int32).toInt64)), .second, .val (.int (0 : Int32))] [(.int (2 : Int32)), (.int (0 : Int32))]))
  refine ownEnds.law (fun t => XS.icmpNo X2.here hx rfl (hb hby d11_15) rfl (tlt (by decide : (0 : Int32) < (2 : Int32))).2.1) ?_
  show ownEnds _ _ _ _ (T2.setTop (mkF m 18 #[.val (.ref oa), .val (.ref ob), .val (.int (1 : Int32)), .val (.long ((2 : Int32).toInt64)), .second, .val (.int (0 : Int32))] []))
  refine ownEnds.law (fun t k => XS.lloadN X2.here hx rfl (hb hby d11_18) rfl (XS.aloadN X2.here hx rfl (hb hby d11_19) rfl rfl (XS.iloadN X2.here hx rfl (hb hby d11_20) rfl (XS.iload X2.here hx rfl (hb hby d11_21) rfl (XS.iadd X2.here hx rfl (hb hby d11_23) rfl k))))) ?_
  show ownEnds _ _ _ _ (T2.setTop (mkF m 24 #[.val (.ref oa), .val (.ref ob), .val (.int (1 : Int32)), .val (.long ((2 : Int32).toInt64)), .second, .val (.int (0 : Int32))] [(.int (1 : Int32)), (.ref ob), (.long ((2 : Int32).toInt64))]))
  obtain ⟨cl3, Ar3, q3, S3, N3, H3, G3⟩ := id Vb
  have hi3 := inb_of (j := (1 : Int32)) S3 ⟨by decide, by decide⟩
  have hv3 : cl3.slots[((1 : Int32)).toNatClampNeg]? = some (.long u1) := H3.at hi3 rfl
  refine ownEnds.law (fun t k => X2.laload hx (j := (1 : Int32)) (v := (.long u1)) (by rw [e2]; exact Ar3.1) (State.isArrayOf_alike hZ.alike Ar3.2.1) Ar3.2.2 hi3 hv3 (g := (mkF m 24 #[.val (.ref oa), .val (.ref ob), .val (.int (1 : Int32)), .val (.long ((2 : Int32).toInt64)), .second, .val (.int (0 : Int32))] [(.int (1 : Int32)), (.ref ob), (.long ((2 : Int32).toInt64))])) rfl rfl (hb hby d11_24) _ (XS.lxor X2.here hx rfl (hb hby d11_25) rfl (X2.ldc2Long hx hown (mvT hZ (wd_92 hw)) (g := (mkF m 26 #[.val (.ref oa), .val (.ref ob), .val (.int (1 : Int32)), .val (.long ((2 : Int32).toInt64)), .second, .val (.int (0 : Int32))] [(.long (((2 : Int32).toInt64) ^^^ u1))])) rfl (hb hby d11_26) _ (XS.lmul X2.here hx rfl (hb hby d11_29) rfl k)))) ?_
  show ownEnds _ _ _ _ (T2.setTop (mkF m 30 #[.val (.ref oa), .val (.ref ob), .val (.int (1 : Int32)), .val (.long ((2 : Int32).toInt64)), .second, .val (.int (0 : Int32))] [(.long ((((2 : Int32).toInt64) ^^^ u1) * (-7046029254386353131 : Int64)))]))
  obtain ⟨y4, e_y4⟩ : ∃ z : Int64, z = ((((2 : Int32).toInt64) ^^^ u1) * (-7046029254386353131 : Int64)) := ⟨_, rfl⟩
  rw [← e_y4]
  show ownEnds _ _ _ _ (T2.setTop (mkF m 30 #[.val (.ref oa), .val (.ref ob), .val (.int (1 : Int32)), .val (.long ((2 : Int32).toInt64)), .second, .val (.int (0 : Int32))] [(.long y4)]))
  refine ownEnds.law (fun t k => XS.lstoreN X2.here hx rfl (hb hby d11_30) rfl (l' := #[.val (.ref oa), .val (.ref ob), .val (.int (1 : Int32)), .val (.long y4), .second, .val (.int (0 : Int32))]) rfl (XS.lloadN X2.here hx rfl (hb hby d11_31) rfl (XS.lloadN X2.here hx rfl (hb hby d11_32) rfl (XS.bipush X2.here hx rfl (hb hby d11_33) (XS.lushr X2.here hx rfl (hb hby d11_35) rfl (XS.lxor X2.here hx rfl (hb hby d11_36) rfl k)))))) ?_
  show ownEnds _ _ _ _ (T2.setTop (mkF m 37 #[.val (.ref oa), .val (.ref ob), .val (.int (1 : Int32)), .val (.long y4), .second, .val (.int (0 : Int32))] [(.long (y4 ^^^ ((y4.toUInt64 >>> ((29 : Int32) &&& 0x3f).toInt64.toUInt64).toInt64)))]))
  obtain ⟨y5, e_y5⟩ : ∃ z : Int64, z = (y4 ^^^ ((y4.toUInt64 >>> ((29 : Int32) &&& 0x3f).toInt64.toUInt64).toInt64)) := ⟨_, rfl⟩
  rw [← e_y5]
  show ownEnds _ _ _ _ (T2.setTop (mkF m 37 #[.val (.ref oa), .val (.ref ob), .val (.int (1 : Int32)), .val (.long y4), .second, .val (.int (0 : Int32))] [(.long y5)]))
  refine ownEnds.law (fun t k => XS.lstoreN X2.here hx rfl (hb hby d11_37) rfl (l' := #[.val (.ref oa), .val (.ref ob), .val (.int (1 : Int32)), .val (.long y5), .second, .val (.int (0 : Int32))]) rfl (XS.iinc X2.here hx rfl (hb hby d11_38) rfl (l' := #[.val (.ref oa), .val (.ref ob), .val (.int (1 : Int32)), .val (.long y5), .second, .val (.int (1 : Int32))]) rfl (XS.goto X2.here hx rfl (pc0 := 41) (pc' := 9) rfl (hb hby d11_41) (by decide) (by decide) (XS.iload X2.here hx rfl (hb hby d11_9) rfl (XS.aloadN X2.here hx rfl (hb hby d11_11) rfl rfl k))))) ?_
  show ownEnds _ _ _ _ (T2.setTop (mkF m 12 #[.val (.ref oa), .val (.ref ob), .val (.int (1 : Int32)), .val (.long y5), .second, .val (.int (1 : Int32))] [(.ref oa), (.int (1 : Int32))]))
  obtain ⟨T6, X6, e6, st6⟩ := getF X2 hx hZ hown (host := "") (Or.inl (wd_59 hw)) Via.refl e2 Fw (g := (mkF m 12 #[.val (.ref oa), .val (.ref ob), .val (.int (1 : Int32)), .val (.long y5), .second, .val (.int (1 : Int32))] [(.ref oa), (.int (1 : Int32))])) rfl rfl (hb hby d11_12)
  refine ownEnds.law st6 ?_
  show ownEnds _ _ _ _ (T6.setTop (mkF m 15 #[.val (.ref oa), .val (.ref ob), .val (.int (1 : Int32)), .val (.long y5), .second, .val (.int (1 : Int32))] [(.int (2 : Int32)), (.int (1 : Int32))]))
  refine ownEnds.law (fun t => XS.icmpNo X6.here hx rfl (hb hby d11_15) rfl (tlt (by decide : (1 : Int32) < (2 : Int32))).2.1) ?_
  show ownEnds _ _ _ _ (T6.setTop (mkF m 18 #[.val (.ref oa), .val (.ref ob), .val (.int (1 : Int32)), .val (.long y5), .second, .val (.int (1 : Int32))] []))
  refine ownEnds.law (fun t k => XS.lloadN X6.here hx rfl (hb hby d11_18) rfl (XS.aloadN X6.here hx rfl (hb hby d11_19) rfl rfl (XS.iloadN X6.here hx rfl (hb hby d11_20) rfl (XS.iload X6.here hx rfl (hb hby d11_21) rfl (XS.iadd X6.here hx rfl (hb hby d11_23) rfl k))))) ?_
  show ownEnds _ _ _ _ (T6.setTop (mkF m 24 #[.val (.ref oa), .val (.ref ob), .val (.int (1 : Int32)), .val (.long y5), .second, .val (.int (1 : Int32))] [(.int (2 : Int32)), (.ref ob), (.long y5)]))
  obtain ⟨cl7, Ar7, q7, S7, N7, H7, G7⟩ := id Vb
  have hi7 := inb_of (j := (2 : Int32)) S7 ⟨by decide, by decide⟩
  have hv7 : cl7.slots[((2 : Int32)).toNatClampNeg]? = some (.long u2) := H7.at hi7 rfl
  refine ownEnds.law (fun t k => X6.laload hx (j := (2 : Int32)) (v := (.long u2)) (by rw [e6]; exact Ar7.1) (State.isArrayOf_alike hZ.alike Ar7.2.1) Ar7.2.2 hi7 hv7 (g := (mkF m 24 #[.val (.ref oa), .val (.ref ob), .val (.int (1 : Int32)), .val (.long y5), .second, .val (.int (1 : Int32))] [(.int (2 : Int32)), (.ref ob), (.long y5)])) rfl rfl (hb hby d11_24) _ (XS.lxor X6.here hx rfl (hb hby d11_25) rfl (X6.ldc2Long hx hown (mvT hZ (wd_92 hw)) (g := (mkF m 26 #[.val (.ref oa), .val (.ref ob), .val (.int (1 : Int32)), .val (.long y5), .second, .val (.int (1 : Int32))] [(.long (y5 ^^^ u2))])) rfl (hb hby d11_26) _ (XS.lmul X6.here hx rfl (hb hby d11_29) rfl k)))) ?_
  show ownEnds _ _ _ _ (T6.setTop (mkF m 30 #[.val (.ref oa), .val (.ref ob), .val (.int (1 : Int32)), .val (.long y5), .second, .val (.int (1 : Int32))] [(.long ((y5 ^^^ u2) * (-7046029254386353131 : Int64)))]))
  obtain ⟨y8, e_y8⟩ : ∃ z : Int64, z = ((y5 ^^^ u2) * (-7046029254386353131 : Int64)) := ⟨_, rfl⟩
  rw [← e_y8]
  show ownEnds _ _ _ _ (T6.setTop (mkF m 30 #[.val (.ref oa), .val (.ref ob), .val (.int (1 : Int32)), .val (.long y5), .second, .val (.int (1 : Int32))] [(.long y8)]))
  refine ownEnds.law (fun t k => XS.lstoreN X6.here hx rfl (hb hby d11_30) rfl (l' := #[.val (.ref oa), .val (.ref ob), .val (.int (1 : Int32)), .val (.long y8), .second, .val (.int (1 : Int32))]) rfl (XS.lloadN X6.here hx rfl (hb hby d11_31) rfl (XS.lloadN X6.here hx rfl (hb hby d11_32) rfl (XS.bipush X6.here hx rfl (hb hby d11_33) (XS.lushr X6.here hx rfl (hb hby d11_35) rfl (XS.lxor X6.here hx rfl (hb hby d11_36) rfl k)))))) ?_
  show ownEnds _ _ _ _ (T6.setTop (mkF m 37 #[.val (.ref oa), .val (.ref ob), .val (.int (1 : Int32)), .val (.long y8), .second, .val (.int (1 : Int32))] [(.long (y8 ^^^ ((y8.toUInt64 >>> ((29 : Int32) &&& 0x3f).toInt64.toUInt64).toInt64)))]))
  obtain ⟨y9, e_y9⟩ : ∃ z : Int64, z = (y8 ^^^ ((y8.toUInt64 >>> ((29 : Int32) &&& 0x3f).toInt64.toUInt64).toInt64)) := ⟨_, rfl⟩
  rw [← e_y9]
  show ownEnds _ _ _ _ (T6.setTop (mkF m 37 #[.val (.ref oa), .val (.ref ob), .val (.int (1 : Int32)), .val (.long y8), .second, .val (.int (1 : Int32))] [(.long y9)]))
  refine ownEnds.law (fun t k => XS.lstoreN X6.here hx rfl (hb hby d11_37) rfl (l' := #[.val (.ref oa), .val (.ref ob), .val (.int (1 : Int32)), .val (.long y9), .second, .val (.int (1 : Int32))]) rfl (XS.iinc X6.here hx rfl (hb hby d11_38) rfl (l' := #[.val (.ref oa), .val (.ref ob), .val (.int (1 : Int32)), .val (.long y9), .second, .val (.int (2 : Int32))]) rfl (XS.goto X6.here hx rfl (pc0 := 41) (pc' := 9) rfl (hb hby d11_41) (by decide) (by decide) (XS.iload X6.here hx rfl (hb hby d11_9) rfl (XS.aloadN X6.here hx rfl (hb hby d11_11) rfl rfl k))))) ?_
  show ownEnds _ _ _ _ (T6.setTop (mkF m 12 #[.val (.ref oa), .val (.ref ob), .val (.int (1 : Int32)), .val (.long y9), .second, .val (.int (2 : Int32))] [(.ref oa), (.int (2 : Int32))]))
  obtain ⟨T10, X10, e10, st10⟩ := getF X6 hx hZ hown (host := "") (Or.inl (wd_59 hw)) Via.refl e6 Fw (g := (mkF m 12 #[.val (.ref oa), .val (.ref ob), .val (.int (1 : Int32)), .val (.long y9), .second, .val (.int (2 : Int32))] [(.ref oa), (.int (2 : Int32))])) rfl rfl (hb hby d11_12)
  refine ownEnds.law st10 ?_
  show ownEnds _ _ _ _ (T10.setTop (mkF m 15 #[.val (.ref oa), .val (.ref ob), .val (.int (1 : Int32)), .val (.long y9), .second, .val (.int (2 : Int32))] [(.int (2 : Int32)), (.int (2 : Int32))]))
  refine ownEnds.law (fun t => XS.icmpYes X10.here hx rfl (pc0 := 15) (pc' := 44) rfl (hb hby d11_15) rfl (flt (Int32.lt_irrefl)).2.1 (by decide) (by decide)) ?_
  show ownEnds _ _ _ _ (T10.setTop (mkF m 44 #[.val (.ref oa), .val (.ref ob), .val (.int (1 : Int32)), .val (.long y9), .second, .val (.int (2 : Int32))] []))
  refine ownEnds.law (fun t k => XS.lloadN X10.here hx rfl (hb hby d11_44) rfl (X10.ldc2Long hx hown (mvT hZ (wd_90 hw)) (g := (mkF m 45 #[.val (.ref oa), .val (.ref ob), .val (.int (1 : Int32)), .val (.long y9), .second, .val (.int (2 : Int32))] [(.long y9)])) rfl (hb hby d11_45) _ (XS.lmul X10.here hx rfl (hb hby d11_48) rfl k))) ?_
  show ownEnds _ _ _ _ (T10.setTop (mkF m 49 #[.val (.ref oa), .val (.ref ob), .val (.int (1 : Int32)), .val (.long y9), .second, .val (.int (2 : Int32))] [(.long (y9 * (-4658895280553007687 : Int64)))]))
  obtain ⟨y11, e_y11⟩ : ∃ z : Int64, z = (y9 * (-4658895280553007687 : Int64)) := ⟨_, rfl⟩
  rw [← e_y11]
  show ownEnds _ _ _ _ (T10.setTop (mkF m 49 #[.val (.ref oa), .val (.ref ob), .val (.int (1 : Int32)), .val (.long y9), .second, .val (.int (2 : Int32))] [(.long y11)]))
  refine ownEnds.law (fun t k => XS.lstoreN X10.here hx rfl (hb hby d11_49) rfl (l' := #[.val (.ref oa), .val (.ref ob), .val (.int (1 : Int32)), .val (.long y11), .second, .val (.int (2 : Int32))]) rfl (XS.lloadN X10.here hx rfl (hb hby d11_50) rfl (XS.lloadN X10.here hx rfl (hb hby d11_51) rfl (XS.bipush X10.here hx rfl (hb hby d11_52) (XS.lushr X10.here hx rfl (hb hby d11_54) rfl (XS.lxor X10.here hx rfl (hb hby d11_55) rfl k)))))) ?_
  show ownEnds _ _ _ _ (T10.setTop (mkF m 56 #[.val (.ref oa), .val (.ref ob), .val (.int (1 : Int32)), .val (.long y11), .second, .val (.int (2 : Int32))] [(.long (y11 ^^^ ((y11.toUInt64 >>> ((32 : Int32) &&& 0x3f).toInt64.toUInt64).toInt64)))]))
  obtain ⟨y12, e_y12⟩ : ∃ z : Int64, z = (y11 ^^^ ((y11.toUInt64 >>> ((32 : Int32) &&& 0x3f).toInt64.toUInt64).toInt64)) := ⟨_, rfl⟩
  rw [← e_y12]
  show ownEnds _ _ _ _ (T10.setTop (mkF m 56 #[.val (.ref oa), .val (.ref ob), .val (.int (1 : Int32)), .val (.long y11), .second, .val (.int (2 : Int32))] [(.long y12)]))
  refine ownEnds.law (fun t k => XS.lstoreN X10.here hx rfl (hb hby d11_56) rfl (l' := #[.val (.ref oa), .val (.ref ob), .val (.int (1 : Int32)), .val (.long y12), .second, .val (.int (2 : Int32))]) rfl (XS.lloadN X10.here hx rfl (hb hby d11_57) rfl (XS.l2i X10.here hx rfl (hb hby d11_58) rfl k))) ?_
  show ownEnds _ _ _ _ (T10.setTop (mkF m 59 #[.val (.ref oa), .val (.ref ob), .val (.int (1 : Int32)), .val (.long y12), .second, .val (.int (2 : Int32))] [(.int (y12.toInt32))]))
  refine ownRetI X10 hlk hx hret (hb hby d11_59) (by decide) (by decide) ?_
  exact ⟨by subst_vars; rfl, rfl, e10⟩
set_option maxRecDepth 65536 in
set_option maxHeartbeats 40000000 in
theorem rm11_2_2 (l : Launch) (Z : State) (a0 : Array Value) (hw : ∀ d ∈ tables_1, d.before a0 Z = true) (oa : Addr) (ob : Addr) (kb : ClassId) (u0 u1 u2 u3 : Int64) (h0 : Heap) (n0 : Nat) (Z0 : n0 ≤ h0.size) (Fw : Fld Z h0 oa "com/example/libreach/libreach/engine/StateStore" "words" "I" (.int (2 : Int32))) (Vb : Arv Z h0 ob kb .long (4 : Int32) [(.long u0), (.long u1), (.long u2), (.long u3)] (.long (0 : Int64))) :
    ownMet l Z (⟨"com/example/libreach/libreach/engine/StateStore", "hash", "([JI)I"⟩ : MethodName) prog_18_method_7_code 6 (some .int) [] ({ frames := 0, cells := 0, slots := 0, locals := 0 } : Room) #[(.ref oa), (.ref ob), (.int (2 : Int32))] h0 (fun v h L => v = some (.int (HE (HS (HS ((2 : Int32).toInt64) u2) u3))) ∧ L = [] ∧ h = h0) := by
  refine ownMet.of (plainFor_of_name pn_11) ?_
  intro p e s m below meth c T0 hx hby hml hZ hown hnm hret hlk X0 e0
  refine ownEnds.cast (ef_rm11_2_2 m oa ob) ?_
  show ownEnds _ _ _ _ (T0.setTop (mkF m 0 #[.val (.ref oa), .val (.ref ob), .val (.int (2 : Int32)), .unset, .unset, .unset] []))
  refine ownEnds.law (fun t k => XS.aloadN X0.here hx rfl (hb hby d11_0) rfl rfl k) ?_
  show ownEnds _ _ _ _ (T0.setTop (mkF m 1 #[.val (.ref oa), .val (.ref ob), .val (.int (2 : Int32)), .unset, .unset, .unset] [(.ref oa)]))
  obtain ⟨T1, X1, e1, st1⟩ := getF X0 hx hZ hown (host := "") (Or.inl (wd_59 hw)) Via.refl e0 Fw (g := (mkF m 1 #[.val (.ref oa), .val (.ref ob), .val (.int (2 : Int32)), .unset, .unset, .unset] [(.ref oa)])) rfl rfl (hb hby d11_1)
  refine ownEnds.law st1 ?_
  show ownEnds _ _ _ _ (T1.setTop (mkF m 4 #[.val (.ref oa), .val (.ref ob), .val (.int (2 : Int32)), .unset, .unset, .unset] [(.int (2 : Int32))]))
  refine ownEnds.law (fun t k => XS.i2l X1.here hx rfl (hb hby d11_4) rfl (XS.lstoreN X1.here hx rfl (hb hby d11_5) rfl (l' := #[.val (.ref oa), .val (.ref ob), .val (.int (2 : Int32)), .val (.long ((2 : Int32).toInt64)), .second, .unset]) rfl (XS.iconst X1.here hx rfl (hb hby d11_6) (XS.istore X1.here hx rfl (hb hby d11_7) rfl (l' := #[.val (.ref oa), .val (.ref ob), .val (.int (2 : Int32)), .val (.long ((2 : Int32).toInt64)), .second, .val (.int (0 : Int32))]) rfl (XS.iload X1.here hx rfl (hb hby d11_9) rfl (XS.aloadN X1.here hx rfl (hb hby d11_11) rfl rfl k)))))) ?_
  show ownEnds _ _ _ _ (T1.setTop (mkF m 12 #[.val (.ref oa), .val (.ref ob), .val (.int (2 : Int32)), .val (.long ((2 : Int32).toInt64)), .second, .val (.int (0 : Int32))] [(.ref oa), (.int (0 : Int32))]))
  obtain ⟨T2, X2, e2, st2⟩ := getF X1 hx hZ hown (host := "") (Or.inl (wd_59 hw)) Via.refl e1 Fw (g := (mkF m 12 #[.val (.ref oa), .val (.ref ob), .val (.int (2 : Int32)), .val (.long ((2 : Int32).toInt64)), .second, .val (.int (0 : Int32))] [(.ref oa), (.int (0 : Int32))])) rfl rfl (hb hby d11_12)
  refine ownEnds.law st2 ?_
  show ownEnds _ _ _ _ (T2.setTop (mkF m 15 #[.val (.ref oa), .val (.ref ob), .val (.int (2 : Int32)), .val (.long ((2 : Int32).toInt64)), .second, .val (.int (0 : Int32))] [(.int (2 : Int32)), (.int (0 : Int32))]))
  refine ownEnds.law (fun t => XS.icmpNo X2.here hx rfl (hb hby d11_15) rfl (tlt (by decide : (0 : Int32) < (2 : Int32))).2.1) ?_
  show ownEnds _ _ _ _ (T2.setTop (mkF m 18 #[.val (.ref oa), .val (.ref ob), .val (.int (2 : Int32)), .val (.long ((2 : Int32).toInt64)), .second, .val (.int (0 : Int32))] []))
  refine ownEnds.law (fun t k => XS.lloadN X2.here hx rfl (hb hby d11_18) rfl (XS.aloadN X2.here hx rfl (hb hby d11_19) rfl rfl (XS.iloadN X2.here hx rfl (hb hby d11_20) rfl (XS.iload X2.here hx rfl (hb hby d11_21) rfl (XS.iadd X2.here hx rfl (hb hby d11_23) rfl k))))) ?_
  show ownEnds _ _ _ _ (T2.setTop (mkF m 24 #[.val (.ref oa), .val (.ref ob), .val (.int (2 : Int32)), .val (.long ((2 : Int32).toInt64)), .second, .val (.int (0 : Int32))] [(.int (2 : Int32)), (.ref ob), (.long ((2 : Int32).toInt64))]))
  obtain ⟨cl3, Ar3, q3, S3, N3, H3, G3⟩ := id Vb
  have hi3 := inb_of (j := (2 : Int32)) S3 ⟨by decide, by decide⟩
  have hv3 : cl3.slots[((2 : Int32)).toNatClampNeg]? = some (.long u2) := H3.at hi3 rfl
  refine ownEnds.law (fun t k => X2.laload hx (j := (2 : Int32)) (v := (.long u2)) (by rw [e2]; exact Ar3.1) (State.isArrayOf_alike hZ.alike Ar3.2.1) Ar3.2.2 hi3 hv3 (g := (mkF m 24 #[.val (.ref oa), .val (.ref ob), .val (.int (2 : Int32)), .val (.long ((2 : Int32).toInt64)), .second, .val (.int (0 : Int32))] [(.int (2 : Int32)), (.ref ob), (.long ((2 : Int32).toInt64))])) rfl rfl (hb hby d11_24) _ (XS.lxor X2.here hx rfl (hb hby d11_25) rfl (X2.ldc2Long hx hown (mvT hZ (wd_92 hw)) (g := (mkF m 26 #[.val (.ref oa), .val (.ref ob), .val (.int (2 : Int32)), .val (.long ((2 : Int32).toInt64)), .second, .val (.int (0 : Int32))] [(.long (((2 : Int32).toInt64) ^^^ u2))])) rfl (hb hby d11_26) _ (XS.lmul X2.here hx rfl (hb hby d11_29) rfl k)))) ?_
  show ownEnds _ _ _ _ (T2.setTop (mkF m 30 #[.val (.ref oa), .val (.ref ob), .val (.int (2 : Int32)), .val (.long ((2 : Int32).toInt64)), .second, .val (.int (0 : Int32))] [(.long ((((2 : Int32).toInt64) ^^^ u2) * (-7046029254386353131 : Int64)))]))
  obtain ⟨y4, e_y4⟩ : ∃ z : Int64, z = ((((2 : Int32).toInt64) ^^^ u2) * (-7046029254386353131 : Int64)) := ⟨_, rfl⟩
  rw [← e_y4]
  show ownEnds _ _ _ _ (T2.setTop (mkF m 30 #[.val (.ref oa), .val (.ref ob), .val (.int (2 : Int32)), .val (.long ((2 : Int32).toInt64)), .second, .val (.int (0 : Int32))] [(.long y4)]))
  refine ownEnds.law (fun t k => XS.lstoreN X2.here hx rfl (hb hby d11_30) rfl (l' := #[.val (.ref oa), .val (.ref ob), .val (.int (2 : Int32)), .val (.long y4), .second, .val (.int (0 : Int32))]) rfl (XS.lloadN X2.here hx rfl (hb hby d11_31) rfl (XS.lloadN X2.here hx rfl (hb hby d11_32) rfl (XS.bipush X2.here hx rfl (hb hby d11_33) (XS.lushr X2.here hx rfl (hb hby d11_35) rfl (XS.lxor X2.here hx rfl (hb hby d11_36) rfl k)))))) ?_
  show ownEnds _ _ _ _ (T2.setTop (mkF m 37 #[.val (.ref oa), .val (.ref ob), .val (.int (2 : Int32)), .val (.long y4), .second, .val (.int (0 : Int32))] [(.long (y4 ^^^ ((y4.toUInt64 >>> ((29 : Int32) &&& 0x3f).toInt64.toUInt64).toInt64)))]))
  obtain ⟨y5, e_y5⟩ : ∃ z : Int64, z = (y4 ^^^ ((y4.toUInt64 >>> ((29 : Int32) &&& 0x3f).toInt64.toUInt64).toInt64)) := ⟨_, rfl⟩
  rw [← e_y5]
  show ownEnds _ _ _ _ (T2.setTop (mkF m 37 #[.val (.ref oa), .val (.ref ob), .val (.int (2 : Int32)), .val (.long y4), .second, .val (.int (0 : Int32))] [(.long y5)]))
  refine ownEnds.law (fun t k => XS.lstoreN X2.here hx rfl (hb hby d11_37) rfl (l' := #[.val (.ref oa), .val (.ref ob), .val (.int (2 : Int32)), .val (.long y5), .second, .val (.int (0 : Int32))]) rfl (XS.iinc X2.here hx rfl (hb hby d11_38) rfl (l' := #[.val (.ref oa), .val (.ref ob), .val (.int (2 : Int32)), .val (.long y5), .second, .val (.int (1 : Int32))]) rfl (XS.goto X2.here hx rfl (pc0 := 41) (pc' := 9) rfl (hb hby d11_41) (by decide) (by decide) (XS.iload X2.here hx rfl (hb hby d11_9) rfl (XS.aloadN X2.here hx rfl (hb hby d11_11) rfl rfl k))))) ?_
  show ownEnds _ _ _ _ (T2.setTop (mkF m 12 #[.val (.ref oa), .val (.ref ob), .val (.int (2 : Int32)), .val (.long y5), .second, .val (.int (1 : Int32))] [(.ref oa), (.int (1 : Int32))]))
  obtain ⟨T6, X6, e6, st6⟩ := getF X2 hx hZ hown (host := "") (Or.inl (wd_59 hw)) Via.refl e2 Fw (g := (mkF m 12 #[.val (.ref oa), .val (.ref ob), .val (.int (2 : Int32)), .val (.long y5), .second, .val (.int (1 : Int32))] [(.ref oa), (.int (1 : Int32))])) rfl rfl (hb hby d11_12)
  refine ownEnds.law st6 ?_
  show ownEnds _ _ _ _ (T6.setTop (mkF m 15 #[.val (.ref oa), .val (.ref ob), .val (.int (2 : Int32)), .val (.long y5), .second, .val (.int (1 : Int32))] [(.int (2 : Int32)), (.int (1 : Int32))]))
  refine ownEnds.law (fun t => XS.icmpNo X6.here hx rfl (hb hby d11_15) rfl (tlt (by decide : (1 : Int32) < (2 : Int32))).2.1) ?_
  show ownEnds _ _ _ _ (T6.setTop (mkF m 18 #[.val (.ref oa), .val (.ref ob), .val (.int (2 : Int32)), .val (.long y5), .second, .val (.int (1 : Int32))] []))
  refine ownEnds.law (fun t k => XS.lloadN X6.here hx rfl (hb hby d11_18) rfl (XS.aloadN X6.here hx rfl (hb hby d11_19) rfl rfl (XS.iloadN X6.here hx rfl (hb hby d11_20) rfl (XS.iload X6.here hx rfl (hb hby d11_21) rfl (XS.iadd X6.here hx rfl (hb hby d11_23) rfl k))))) ?_
  show ownEnds _ _ _ _ (T6.setTop (mkF m 24 #[.val (.ref oa), .val (.ref ob), .val (.int (2 : Int32)), .val (.long y5), .second, .val (.int (1 : Int32))] [(.int (3 : Int32)), (.ref ob), (.long y5)]))
  obtain ⟨cl7, Ar7, q7, S7, N7, H7, G7⟩ := id Vb
  have hi7 := inb_of (j := (3 : Int32)) S7 ⟨by decide, by decide⟩
  have hv7 : cl7.slots[((3 : Int32)).toNatClampNeg]? = some (.long u3) := H7.at hi7 rfl
  refine ownEnds.law (fun t k => X6.laload hx (j := (3 : Int32)) (v := (.long u3)) (by rw [e6]; exact Ar7.1) (State.isArrayOf_alike hZ.alike Ar7.2.1) Ar7.2.2 hi7 hv7 (g := (mkF m 24 #[.val (.ref oa), .val (.ref ob), .val (.int (2 : Int32)), .val (.long y5), .second, .val (.int (1 : Int32))] [(.int (3 : Int32)), (.ref ob), (.long y5)])) rfl rfl (hb hby d11_24) _ (XS.lxor X6.here hx rfl (hb hby d11_25) rfl (X6.ldc2Long hx hown (mvT hZ (wd_92 hw)) (g := (mkF m 26 #[.val (.ref oa), .val (.ref ob), .val (.int (2 : Int32)), .val (.long y5), .second, .val (.int (1 : Int32))] [(.long (y5 ^^^ u3))])) rfl (hb hby d11_26) _ (XS.lmul X6.here hx rfl (hb hby d11_29) rfl k)))) ?_
  show ownEnds _ _ _ _ (T6.setTop (mkF m 30 #[.val (.ref oa), .val (.ref ob), .val (.int (2 : Int32)), .val (.long y5), .second, .val (.int (1 : Int32))] [(.long ((y5 ^^^ u3) * (-7046029254386353131 : Int64)))]))
  obtain ⟨y8, e_y8⟩ : ∃ z : Int64, z = ((y5 ^^^ u3) * (-7046029254386353131 : Int64)) := ⟨_, rfl⟩
  rw [← e_y8]
  show ownEnds _ _ _ _ (T6.setTop (mkF m 30 #[.val (.ref oa), .val (.ref ob), .val (.int (2 : Int32)), .val (.long y5), .second, .val (.int (1 : Int32))] [(.long y8)]))
  refine ownEnds.law (fun t k => XS.lstoreN X6.here hx rfl (hb hby d11_30) rfl (l' := #[.val (.ref oa), .val (.ref ob), .val (.int (2 : Int32)), .val (.long y8), .second, .val (.int (1 : Int32))]) rfl (XS.lloadN X6.here hx rfl (hb hby d11_31) rfl (XS.lloadN X6.here hx rfl (hb hby d11_32) rfl (XS.bipush X6.here hx rfl (hb hby d11_33) (XS.lushr X6.here hx rfl (hb hby d11_35) rfl (XS.lxor X6.here hx rfl (hb hby d11_36) rfl k)))))) ?_
  show ownEnds _ _ _ _ (T6.setTop (mkF m 37 #[.val (.ref oa), .val (.ref ob), .val (.int (2 : Int32)), .val (.long y8), .second, .val (.int (1 : Int32))] [(.long (y8 ^^^ ((y8.toUInt64 >>> ((29 : Int32) &&& 0x3f).toInt64.toUInt64).toInt64)))]))
  obtain ⟨y9, e_y9⟩ : ∃ z : Int64, z = (y8 ^^^ ((y8.toUInt64 >>> ((29 : Int32) &&& 0x3f).toInt64.toUInt64).toInt64)) := ⟨_, rfl⟩
  rw [← e_y9]
  show ownEnds _ _ _ _ (T6.setTop (mkF m 37 #[.val (.ref oa), .val (.ref ob), .val (.int (2 : Int32)), .val (.long y8), .second, .val (.int (1 : Int32))] [(.long y9)]))
  refine ownEnds.law (fun t k => XS.lstoreN X6.here hx rfl (hb hby d11_37) rfl (l' := #[.val (.ref oa), .val (.ref ob), .val (.int (2 : Int32)), .val (.long y9), .second, .val (.int (1 : Int32))]) rfl (XS.iinc X6.here hx rfl (hb hby d11_38) rfl (l' := #[.val (.ref oa), .val (.ref ob), .val (.int (2 : Int32)), .val (.long y9), .second, .val (.int (2 : Int32))]) rfl (XS.goto X6.here hx rfl (pc0 := 41) (pc' := 9) rfl (hb hby d11_41) (by decide) (by decide) (XS.iload X6.here hx rfl (hb hby d11_9) rfl (XS.aloadN X6.here hx rfl (hb hby d11_11) rfl rfl k))))) ?_
  show ownEnds _ _ _ _ (T6.setTop (mkF m 12 #[.val (.ref oa), .val (.ref ob), .val (.int (2 : Int32)), .val (.long y9), .second, .val (.int (2 : Int32))] [(.ref oa), (.int (2 : Int32))]))
  obtain ⟨T10, X10, e10, st10⟩ := getF X6 hx hZ hown (host := "") (Or.inl (wd_59 hw)) Via.refl e6 Fw (g := (mkF m 12 #[.val (.ref oa), .val (.ref ob), .val (.int (2 : Int32)), .val (.long y9), .second, .val (.int (2 : Int32))] [(.ref oa), (.int (2 : Int32))])) rfl rfl (hb hby d11_12)
  refine ownEnds.law st10 ?_
  show ownEnds _ _ _ _ (T10.setTop (mkF m 15 #[.val (.ref oa), .val (.ref ob), .val (.int (2 : Int32)), .val (.long y9), .second, .val (.int (2 : Int32))] [(.int (2 : Int32)), (.int (2 : Int32))]))
  refine ownEnds.law (fun t => XS.icmpYes X10.here hx rfl (pc0 := 15) (pc' := 44) rfl (hb hby d11_15) rfl (flt (Int32.lt_irrefl)).2.1 (by decide) (by decide)) ?_
  show ownEnds _ _ _ _ (T10.setTop (mkF m 44 #[.val (.ref oa), .val (.ref ob), .val (.int (2 : Int32)), .val (.long y9), .second, .val (.int (2 : Int32))] []))
  refine ownEnds.law (fun t k => XS.lloadN X10.here hx rfl (hb hby d11_44) rfl (X10.ldc2Long hx hown (mvT hZ (wd_90 hw)) (g := (mkF m 45 #[.val (.ref oa), .val (.ref ob), .val (.int (2 : Int32)), .val (.long y9), .second, .val (.int (2 : Int32))] [(.long y9)])) rfl (hb hby d11_45) _ (XS.lmul X10.here hx rfl (hb hby d11_48) rfl k))) ?_
  show ownEnds _ _ _ _ (T10.setTop (mkF m 49 #[.val (.ref oa), .val (.ref ob), .val (.int (2 : Int32)), .val (.long y9), .second, .val (.int (2 : Int32))] [(.long (y9 * (-4658895280553007687 : Int64)))]))
  obtain ⟨y11, e_y11⟩ : ∃ z : Int64, z = (y9 * (-4658895280553007687 : Int64)) := ⟨_, rfl⟩
  rw [← e_y11]
  show ownEnds _ _ _ _ (T10.setTop (mkF m 49 #[.val (.ref oa), .val (.ref ob), .val (.int (2 : Int32)), .val (.long y9), .second, .val (.int (2 : Int32))] [(.long y11)]))
  refine ownEnds.law (fun t k => XS.lstoreN X10.here hx rfl (hb hby d11_49) rfl (l' := #[.val (.ref oa), .val (.ref ob), .val (.int (2 : Int32)), .val (.long y11), .second, .val (.int (2 : Int32))]) rfl (XS.lloadN X10.here hx rfl (hb hby d11_50) rfl (XS.lloadN X10.here hx rfl (hb hby d11_51) rfl (XS.bipush X10.here hx rfl (hb hby d11_52) (XS.lushr X10.here hx rfl (hb hby d11_54) rfl (XS.lxor X10.here hx rfl (hb hby d11_55) rfl k)))))) ?_
  show ownEnds _ _ _ _ (T10.setTop (mkF m 56 #[.val (.ref oa), .val (.ref ob), .val (.int (2 : Int32)), .val (.long y11), .second, .val (.int (2 : Int32))] [(.long (y11 ^^^ ((y11.toUInt64 >>> ((32 : Int32) &&& 0x3f).toInt64.toUInt64).toInt64)))]))
  obtain ⟨y12, e_y12⟩ : ∃ z : Int64, z = (y11 ^^^ ((y11.toUInt64 >>> ((32 : Int32) &&& 0x3f).toInt64.toUInt64).toInt64)) := ⟨_, rfl⟩
  rw [← e_y12]
  show ownEnds _ _ _ _ (T10.setTop (mkF m 56 #[.val (.ref oa), .val (.ref ob), .val (.int (2 : Int32)), .val (.long y11), .second, .val (.int (2 : Int32))] [(.long y12)]))
  refine ownEnds.law (fun t k => XS.lstoreN X10.here hx rfl (hb hby d11_56) rfl (l' := #[.val (.ref oa), .val (.ref ob), .val (.int (2 : Int32)), .val (.long y12), .second, .val (.int (2 : Int32))]) rfl (XS.lloadN X10.here hx rfl (hb hby d11_57) rfl (XS.l2i X10.here hx rfl (hb hby d11_58) rfl k))) ?_
  show ownEnds _ _ _ _ (T10.setTop (mkF m 59 #[.val (.ref oa), .val (.ref ob), .val (.int (2 : Int32)), .val (.long y12), .second, .val (.int (2 : Int32))] [(.int (y12.toInt32))]))
  refine ownRetI X10 hlk hx hret (hb hby d11_59) (by decide) (by decide) ?_
  exact ⟨by subst_vars; rfl, rfl, e10⟩
set_option maxRecDepth 65536 in
set_option maxHeartbeats 40000000 in
theorem rm0 (l : Launch) (Z : State) (a0 : Array Value) (hw : ∀ d ∈ tables_1, d.before a0 Z = true) (xf : Int32) (qs0 : Int64) (qs1 : Int64) (qg1 : Int64) (qg2 : Int64) (xp : Int32)  (h0 : Heap) (n0 : Nat) (Z0 : n0 ≤ h0.size)  :
    ownMet l Z x code maxLocals ret tables_1 room_1 #[(.int xf), (.long qs0), (.long qs1), (.long qg1), (.long qg2), (.int xp)] h0 (fun v h L => v = some (.int 1) ∧ Fr n0 L) := by
  refine ownMet.of (plainFor_of_name pn_0) ?_
  intro p e s m below meth c T0 hx hby hml hZ hown hnm hret hlk X0 e0
  have hown : s.vm.findClass "com/example/libreach/libreach/engine/StateStoreHashPinLaw" = some m.cls := hown
  have hml : c.maxLocals = 19 := hml
  have hret : meth.sig.returnType = some .boolean := hret
  refine ownEnds.cast (ef_rm0 m xf qs0 qs1 qg1 qg2 xp) ?_
  show ownEnds _ _ _ _ (T0.setTop (mkF m 0 #[.val (.int xf), .val (.long qs0), .second, .val (.long qs1), .second, .val (.long qg1), .second, .val (.long qg2), .second, .val (.int xp), .unset, .unset, .unset, .unset, .unset, .unset, .unset, .unset, .unset] []))
  refine ownEnds.law (fun t k => XS.iloadN X0.here hx rfl (hb hby at_0) rfl (XS.iconst X0.here hx rfl (hb hby at_1) (XS.iand X0.here hx rfl (hb hby at_2) rfl (XS.istore X0.here hx rfl (hb hby at_3) rfl (l' := #[.val (.int xf), .val (.long qs0), .second, .val (.long qs1), .second, .val (.long qg1), .second, .val (.long qg2), .second, .val (.int xp), .val (.int (xf &&& (3 : Int32))), .unset, .unset, .unset, .unset, .unset, .unset, .unset, .unset]) rfl (XS.iload X0.here hx rfl (hb hby at_5) rfl k))))) ?_
  show ownEnds _ _ _ _ (T0.setTop (mkF m 7 #[.val (.int xf), .val (.long qs0), .second, .val (.long qs1), .second, .val (.long qg1), .second, .val (.long qg2), .second, .val (.int xp), .val (.int (xf &&& (3 : Int32))), .unset, .unset, .unset, .unset, .unset, .unset, .unset, .unset] [(.int (xf &&& (3 : Int32)))]))
  by_cases hc7 : (xf &&& (3 : Int32)) = (0 : Int32)
  · refine ownEnds.law (fun t => XS.ifNo X0.here hx rfl (hb hby at_7) rfl ((if0 _ _).trans (teq hc7).2)) ?_
    show ownEnds _ _ _ _ (T0.setTop (mkF m 10 #[.val (.int xf), .val (.long qs0), .second, .val (.long qs1), .second, .val (.long qg1), .second, .val (.long qg2), .second, .val (.int xp), .val (.int (xf &&& (3 : Int32))), .unset, .unset, .unset, .unset, .unset, .unset, .unset, .unset] []))
    refine ownEnds.law (fun t k => XS.iconst X0.here hx rfl (hb hby at_10) k) ?_
    show ownEnds _ _ _ _ (T0.setTop (mkF m 11 #[.val (.int xf), .val (.long qs0), .second, .val (.long qs1), .second, .val (.long qg1), .second, .val (.long qg2), .second, .val (.int xp), .val (.int (xf &&& (3 : Int32))), .unset, .unset, .unset, .unset, .unset, .unset, .unset, .unset] [(.int (0 : Int32))]))
    obtain ⟨T1, h1, k1, X1, e1, E1, A1, Ax1, st1⟩ := newPE X0 hx hZ (aty := .int) (wd_0 hw) e0 (g := (mkF m 11 #[.val (.int xf), .val (.long qs0), .second, .val (.long qs1), .second, .val (.long qg1), .second, .val (.long qg2), .second, .val (.int xp), .val (.int (xf &&& (3 : Int32))), .unset, .unset, .unset, .unset, .unset, .unset, .unset, .unset] [(.int (0 : Int32))])) rfl (hb hby at_11) rfl (by decide) (cap := 0) (by decide) (by decide) (by decide) (by decide) (ad := "[I") (by decide)
    obtain ⟨b1, g1⟩ : ∃ z, z = h0.size := ⟨_, rfl⟩
    rw [← g1] at A1 st1 Ax1
    refine ownEnds.law st1 ?_
    have V_b1 : Arv Z h1 b1 k1 .int (0 : Int32) [] (.int (0 : Int32)) := Arv.new A1 (by decide)
    have g_b1 : n0 ≤ b1 := Nat.le_trans Z0 (Nat.le_of_eq g1.symm)
    have Z1 : n0 ≤ h1.size := Nat.le_trans Z0 E1.1
    show ownEnds _ _ _ _ (T1.setTop (mkF m 13 #[.val (.int xf), .val (.long qs0), .second, .val (.long qs1), .second, .val (.long qg1), .second, .val (.long qg2), .second, .val (.int xp), .val (.int (xf &&& (3 : Int32))), .unset, .unset, .unset, .unset, .unset, .unset, .unset, .unset] [(.ref b1)]))
    refine ownEnds.law (fun t k => XS.astore X1.here hx rfl (hb hby at_13) rfl rfl (l' := #[.val (.int xf), .val (.long qs0), .second, .val (.long qs1), .second, .val (.long qg1), .second, .val (.long qg2), .second, .val (.int xp), .val (.int (xf &&& (3 : Int32))), .val (.ref b1), .unset, .unset, .unset, .unset, .unset, .unset, .unset]) rfl (XS.goto X1.here hx rfl (pc0 := 15) (pc' := 57) rfl (hb hby at_15) (by decide) (by decide) (XS.iload X1.here hx rfl (hb hby at_57) rfl (XS.iconst X1.here hx rfl (hb hby at_59) k)))) ?_
    show ownEnds _ _ _ _ (T1.setTop (mkF m 60 #[.val (.int xf), .val (.long qs0), .second, .val (.long qs1), .second, .val (.long qg1), .second, .val (.long qg2), .second, .val (.int xp), .val (.int (xf &&& (3 : Int32))), .val (.ref b1), .unset, .unset, .unset, .unset, .unset, .unset, .unset] [(.int (2 : Int32)), (.int (xf &&& (3 : Int32)))]))
    have hc60 : (xf &&& (3 : Int32)) < (2 : Int32) := by rw [hc7]; decide
    refine ownEnds.law (fun t => XS.icmpYes X1.here hx rfl (pc0 := 60) (pc' := 67) rfl (hb hby at_60) rfl (tlt hc60).1 (by decide) (by decide)) ?_
    show ownEnds _ _ _ _ (T1.setTop (mkF m 67 #[.val (.int xf), .val (.long qs0), .second, .val (.long qs1), .second, .val (.long qg1), .second, .val (.long qg2), .second, .val (.int xp), .val (.int (xf &&& (3 : Int32))), .val (.ref b1), .unset, .unset, .unset, .unset, .unset, .unset, .unset] []))
    refine ownEnds.law (fun t k => XS.iconst X1.here hx rfl (hb hby at_67) (XS.istore X1.here hx rfl (hb hby at_68) rfl (l' := #[.val (.int xf), .val (.long qs0), .second, .val (.long qs1), .second, .val (.long qg1), .second, .val (.long qg2), .second, .val (.int xp), .val (.int (xf &&& (3 : Int32))), .val (.ref b1), .val (.int (0 : Int32)), .unset, .unset, .unset, .unset, .unset, .unset]) rfl k)) ?_
    show ownEnds _ _ _ _ (T1.setTop (mkF m 70 #[.val (.int xf), .val (.long qs0), .second, .val (.long qs1), .second, .val (.long qg1), .second, .val (.long qg2), .second, .val (.int xp), .val (.int (xf &&& (3 : Int32))), .val (.ref b1), .val (.int (0 : Int32)), .unset, .unset, .unset, .unset, .unset, .unset] []))
    obtain ⟨T2, h2, X2, e2, E2, A2, D2, -, st2⟩ := newO X1 hx hZ hown (wd_1 hw) (wd_2 hw) (wd_3 hw) e1 (g := (mkF m 70 #[.val (.int xf), .val (.long qs0), .second, .val (.long qs1), .second, .val (.long qg1), .second, .val (.long qg2), .second, .val (.int xp), .val (.int (xf &&& (3 : Int32))), .val (.ref b1), .val (.int (0 : Int32)), .unset, .unset, .unset, .unset, .unset, .unset] [])) rfl (hb hby at_70) (by decide) (by decide)
    obtain ⟨b2, g2⟩ : ∃ z, z = h1.size := ⟨_, rfl⟩
    rw [← g2] at A2 D2 st2
    refine ownEnds.law st2 ?_
    have ne_b1_b2 : b1 ≠ b2 := Nat.ne_of_lt (Nat.lt_of_lt_of_eq V_b1.lt g2.symm)
    have g_b2 : n0 ≤ b2 := Nat.le_trans Z1 (Nat.le_of_eq g2.symm)
    have Z2 : n0 ≤ h2.size := Nat.le_trans Z1 E2.1
    have F3 : Fld Z h2 b2 "com/example/libreach/libreach/engine/StateStore" "layout" "Lcom/example/libreach/libreach/engine/StateLayout;" .null := D2 (Or.inl (wd_53 hw)) (ty := (.object "com/example/libreach/libreach/engine/StateLayout")) (by decide)
    have F4 : Fld Z h2 b2 "com/example/libreach/libreach/engine/StateStore" "words" "I" (.int (0 : Int32)) := D2 (Or.inl (wd_60 hw)) (ty := .int) (by decide)
    have F5 : Fld Z h2 b2 "com/example/libreach/libreach/engine/StateStore" "recordWords" "I" (.int (0 : Int32)) := D2 (Or.inl (wd_62 hw)) (ty := .int) (by decide)
    have F6 : Fld Z h2 b2 "com/example/libreach/libreach/engine/StateStore" "pageShift" "I" (.int (0 : Int32)) := D2 (Or.inl (wd_77 hw)) (ty := .int) (by decide)
    have F7 : Fld Z h2 b2 "com/example/libreach/libreach/engine/StateStore" "pages" "[[J" .null := D2 (Or.inl (wd_81 hw)) (ty := (.array (.array .long))) (by decide)
    have F8 : Fld Z h2 b2 "com/example/libreach/libreach/engine/StateStore" "table" "[J" .null := D2 (Or.inl (wd_84 hw)) (ty := (.array .long)) (by decide)
    show ownEnds _ _ _ _ (T2.setTop (mkF m 73 #[.val (.int xf), .val (.long qs0), .second, .val (.long qs1), .second, .val (.long qg1), .second, .val (.long qg2), .second, .val (.int xp), .val (.int (xf &&& (3 : Int32))), .val (.ref b1), .val (.int (0 : Int32)), .unset, .unset, .unset, .unset, .unset, .unset] [(.ref b2)]))
    refine ownEnds.law (fun t k => XS.dup X2.here hx rfl (hb hby at_73) rfl rfl k) ?_
    show ownEnds _ _ _ _ (T2.setTop (mkF m 74 #[.val (.int xf), .val (.long qs0), .second, .val (.long qs1), .second, .val (.long qg1), .second, .val (.long qg2), .second, .val (.int xp), .val (.int (xf &&& (3 : Int32))), .val (.ref b1), .val (.int (0 : Int32)), .unset, .unset, .unset, .unset, .unset, .unset] [(.ref b2), (.ref b2)]))
    obtain ⟨T9, h9, X9, e9, E9, A9, D9, -, st9⟩ := newO X2 hx hZ hown (wd_4 hw) (wd_5 hw) (wd_6 hw) e2 (g := (mkF m 74 #[.val (.int xf), .val (.long qs0), .second, .val (.long qs1), .second, .val (.long qg1), .second, .val (.long qg2), .second, .val (.int xp), .val (.int (xf &&& (3 : Int32))), .val (.ref b1), .val (.int (0 : Int32)), .unset, .unset, .unset, .unset, .unset, .unset] [(.ref b2), (.ref b2)])) rfl (hb hby at_74) (by decide) (by decide)
    obtain ⟨b9, g9⟩ : ∃ z, z = h2.size := ⟨_, rfl⟩
    rw [← g9] at A9 D9 st9
    refine ownEnds.law st9 ?_
    have f10 := (Arv.ext V_b1 E2)
    have ne_b1_b9 : b1 ≠ b9 := Nat.ne_of_lt (Nat.lt_of_lt_of_eq f10.lt g9.symm)
    have ne_b2_b9 : b2 ≠ b9 := Nat.ne_of_lt (Nat.lt_of_lt_of_eq A2.lt g9.symm)
    have g_b9 : n0 ≤ b9 := Nat.le_trans Z2 (Nat.le_of_eq g9.symm)
    have Z9 : n0 ≤ h9.size := Nat.le_trans Z2 E9.1
    have F11 : Fld Z h9 b9 "com/example/libreach/libreach/engine/StateLayout" "widths" "[I" .null := D9 (Or.inr (wd_23 hw)) (ty := (.array .int)) (by decide)
    have F12 : Fld Z h9 b9 "com/example/libreach/libreach/engine/StateLayout" "word" "[I" .null := D9 (Or.inr (wd_25 hw)) (ty := (.array .int)) (by decide)
    have F13 : Fld Z h9 b9 "com/example/libreach/libreach/engine/StateLayout" "shift" "[I" .null := D9 (Or.inr (wd_27 hw)) (ty := (.array .int)) (by decide)
    have F14 : Fld Z h9 b9 "com/example/libreach/libreach/engine/StateLayout" "largest" "[J" .null := D9 (Or.inr (wd_30 hw)) (ty := (.array .long)) (by decide)
    have F15 : Fld Z h9 b9 "com/example/libreach/libreach/engine/StateLayout" "words" "I" (.int (0 : Int32)) := D9 (Or.inr (wd_32 hw)) (ty := .int) (by decide)
    have F16 : Fld Z h9 b9 "com/example/libreach/libreach/engine/StateLayout" "runs" "[I" .null := D9 (Or.inr (wd_40 hw)) (ty := (.array .int)) (by decide)
    show ownEnds _ _ _ _ (T9.setTop (mkF m 77 #[.val (.int xf), .val (.long qs0), .second, .val (.long qs1), .second, .val (.long qg1), .second, .val (.long qg2), .second, .val (.int xp), .val (.int (xf &&& (3 : Int32))), .val (.ref b1), .val (.int (0 : Int32)), .unset, .unset, .unset, .unset, .unset, .unset] [(.ref b9), (.ref b2), (.ref b2)]))
    refine ownEnds.law (fun t k => XS.dup X9.here hx rfl (hb hby at_77) rfl rfl (XS.aload X9.here hx rfl (hb hby at_78) rfl rfl k)) ?_
    show ownEnds _ _ _ _ (T9.setTop (mkF m 80 #[.val (.int xf), .val (.long qs0), .second, .val (.long qs1), .second, .val (.long qg1), .second, .val (.long qg2), .second, .val (.int xp), .val (.int (xf &&& (3 : Int32))), .val (.ref b1), .val (.int (0 : Int32)), .unset, .unset, .unset, .unset, .unset, .unset] [(.ref b1), (.ref b9), (.ref b9), (.ref b2), (.ref b2)]))
    have f18 := (Exa.ext E9 (Exa.ext E2 Ax1))
    have f19 := (Arv.ext f10 E9)
    obtain ⟨v17, T17, L17, X17, hQ17, st17⟩ := ownCallC X9 hx hZ hown (y := (⟨"com/example/libreach/libreach/engine/StateLayout", "<init>", "([I)V"⟩ : MethodName)) rfl (a := b9) (as := [(.ref b1)]) (wd_7 hw) (wd_8 hw) (wd_6 hw) (wd_9 hw) (by decide) (rm1_0 l Z a0 hw b9 b1 k1 h9 n0 Z9 A9 g_b9 F11 F12 F13 F14 F15 F16 f18 f19) e9 3 (by decide) (by decide) (by decide) (by decide) (g := (mkF m 80 #[.val (.int xf), .val (.long qs0), .second, .val (.long qs1), .second, .val (.long qg1), .second, .val (.long qg2), .second, .val (.int xp), .val (.int (xf &&& (3 : Int32))), .val (.ref b1), .val (.int (0 : Int32)), .unset, .unset, .unset, .unset, .unset, .unset] [(.ref b1), (.ref b9), (.ref b9), (.ref b2), (.ref b2)])) rfl (by rw [hml]; rfl) (rest := [(.ref b9), (.ref b2), (.ref b2)]) pd_6 rfl rfl (by show 2 * 0 + _ ≤ _; exact Nat.le_of_eq rfl) (hb hby at_80)
    obtain ⟨rfl, Nq17, Kq17, Eq17, Fc17_0⟩ := hQ17
    have N17 := Fr.app (Fr.nil n0) Nq17
    have Z17 : n0 ≤ T17.heap.size := Nat.le_trans Z9 Kq17.1
    refine ownEnds.law st17 ?_
    show ownEnds _ _ _ _ (T17.setTop (mkF m 83 #[.val (.int xf), .val (.long qs0), .second, .val (.long qs1), .second, .val (.long qg1), .second, .val (.long qg2), .second, .val (.int xp), .val (.int (xf &&& (3 : Int32))), .val (.ref b1), .val (.int (0 : Int32)), .unset, .unset, .unset, .unset, .unset, .unset] [(.ref b9), (.ref b2), (.ref b2)]))
    have f21 := (Exa.keep (Exa.ext E9 A2) Kq17)
    have f22 := (Fld.keep (Fld.ext E9 F3) Kq17 (ninS ne_b2_b9 nin0))
    have f23 := (Fld.keep (Fld.ext E9 F4) Kq17 (ninS ne_b2_b9 nin0))
    have f24 := (Fld.keep (Fld.ext E9 F5) Kq17 (ninS ne_b2_b9 nin0))
    have f25 := (Fld.keep (Fld.ext E9 F6) Kq17 (ninS ne_b2_b9 nin0))
    have f26 := (Fld.keep (Fld.ext E9 F7) Kq17 (ninS ne_b2_b9 nin0))
    have f27 := (Fld.keep (Fld.ext E9 F8) Kq17 (ninS ne_b2_b9 nin0))
    obtain ⟨v20, T20, L20, X20, hQ20, st20⟩ := ownCallC X17 hx hZ hown (y := (⟨"com/example/libreach/libreach/engine/StateStore", "<init>", "(Lcom/example/libreach/libreach/engine/StateLayout;)V"⟩ : MethodName)) rfl (a := b2) (as := [(.ref b9)]) (wd_41 hw) (wd_42 hw) (wd_3 hw) (wd_43 hw) (by decide) (rm4_0 l Z a0 hw b2 b9  T17.heap n0 Z17 f21 g_b2 f22 f23 f24 f25 f26 f27 Eq17 Fc17_0) rfl 1 (by decide) (by decide) (by decide) (by decide) (g := (mkF m 83 #[.val (.int xf), .val (.long qs0), .second, .val (.long qs1), .second, .val (.long qg1), .second, .val (.long qg2), .second, .val (.int xp), .val (.int (xf &&& (3 : Int32))), .val (.ref b1), .val (.int (0 : Int32)), .unset, .unset, .unset, .unset, .unset, .unset] [(.ref b9), (.ref b2), (.ref b2)])) rfl (by rw [hml]; rfl) (rest := [(.ref b2)]) pd_4 rfl rfl (by show 2 * 0 + _ ≤ _; exact Nat.le_of_eq rfl) (hb hby at_83)
    obtain ⟨rfl, Nq20, Kq20, Eq20, Fc20_0⟩ := hQ20
    have N20 := Fr.app N17 Nq20
    have Z20 : n0 ≤ T20.heap.size := Nat.le_trans Z17 Kq20.1
    refine ownEnds.law st20 ?_
    show ownEnds _ _ _ _ (T20.setTop (mkF m 86 #[.val (.int xf), .val (.long qs0), .second, .val (.long qs1), .second, .val (.long qg1), .second, .val (.long qg2), .second, .val (.int xp), .val (.int (xf &&& (3 : Int32))), .val (.ref b1), .val (.int (0 : Int32)), .unset, .unset, .unset, .unset, .unset, .unset] [(.ref b2)]))
    refine ownEnds.law (fun t k => XS.astore X20.here hx rfl (hb hby at_86) rfl rfl (l' := #[.val (.int xf), .val (.long qs0), .second, .val (.long qs1), .second, .val (.long qg1), .second, .val (.long qg2), .second, .val (.int xp), .val (.int (xf &&& (3 : Int32))), .val (.ref b1), .val (.int (0 : Int32)), .val (.ref b2), .unset, .unset, .unset, .unset, .unset]) rfl (XS.iconst X20.here hx rfl (hb hby at_88) k)) ?_
    show ownEnds _ _ _ _ (T20.setTop (mkF m 89 #[.val (.int xf), .val (.long qs0), .second, .val (.long qs1), .second, .val (.long qg1), .second, .val (.long qg2), .second, .val (.int xp), .val (.int (xf &&& (3 : Int32))), .val (.ref b1), .val (.int (0 : Int32)), .val (.ref b2), .unset, .unset, .unset, .unset, .unset] [(.int (4 : Int32))]))
    obtain ⟨T28, h28, k28, X28, e28, E28, A28, st28⟩ := newP X20 hx hZ (aty := .long) (wd_28 hw) rfl (g := (mkF m 89 #[.val (.int xf), .val (.long qs0), .second, .val (.long qs1), .second, .val (.long qg1), .second, .val (.long qg2), .second, .val (.int xp), .val (.int (xf &&& (3 : Int32))), .val (.ref b1), .val (.int (0 : Int32)), .val (.ref b2), .unset, .unset, .unset, .unset, .unset] [(.int (4 : Int32))])) rfl (hb hby at_89) rfl (by decide) (cap := 4) (by decide) (by decide) (by decide) (by decide)
    obtain ⟨b28, g28⟩ : ∃ z, z = T20.heap.size := ⟨_, rfl⟩
    rw [← g28] at A28 st28
    refine ownEnds.law st28 ?_
    have V_b28 : Arv Z h28 b28 k28 .long (4 : Int32) [(.long (0 : Int64)), (.long (0 : Int64)), (.long (0 : Int64)), (.long (0 : Int64))] (.long (0 : Int64)) := (Arv.new A28 (by decide)).pad (pad_rep [] (.long (0 : Int64)) 4)
    have f29 := (Arv.keep (Arv.keep f19 Kq17 (ninS ne_b1_b9 nin0)) Kq20 (ninS ne_b1_b2 nin0))
    have ne_b1_b28 : b1 ≠ b28 := Nat.ne_of_lt (Nat.lt_of_lt_of_eq f29.lt g28.symm)
    have ne_b2_b28 : b2 ≠ b28 := Nat.ne_of_lt (Nat.lt_of_lt_of_eq Eq20.lt g28.symm)
    have f30 := (Exa.keep Eq17 Kq20)
    have ne_b9_b28 : b9 ≠ b28 := Nat.ne_of_lt (Nat.lt_of_lt_of_eq f30.lt g28.symm)
    have g_b28 : n0 ≤ b28 := Nat.le_trans Z20 (Nat.le_of_eq g28.symm)
    have Z28 : n0 ≤ h28.size := Nat.le_trans Z20 E28.1
    show ownEnds _ _ _ _ (T28.setTop (mkF m 91 #[.val (.int xf), .val (.long qs0), .second, .val (.long qs1), .second, .val (.long qg1), .second, .val (.long qg2), .second, .val (.int xp), .val (.int (xf &&& (3 : Int32))), .val (.ref b1), .val (.int (0 : Int32)), .val (.ref b2), .unset, .unset, .unset, .unset, .unset] [(.ref b28)]))
    refine ownEnds.law (fun t k => XS.dup X28.here hx rfl (hb hby at_91) rfl rfl (XS.iconst X28.here hx rfl (hb hby at_92) (XS.lload X28.here hx rfl (hb hby at_93) rfl k))) ?_
    show ownEnds _ _ _ _ (T28.setTop (mkF m 95 #[.val (.int xf), .val (.long qs0), .second, .val (.long qs1), .second, .val (.long qg1), .second, .val (.long qg2), .second, .val (.int xp), .val (.int (xf &&& (3 : Int32))), .val (.ref b1), .val (.int (0 : Int32)), .val (.ref b2), .unset, .unset, .unset, .unset, .unset] [(.long qg1), (.int (0 : Int32)), (.ref b28), (.ref b28)]))
    obtain ⟨cl31, Ar31, q31, S31, N31, H31, G31⟩ := id V_b28
    obtain ⟨T31, h31, X31, e31, W31, st31⟩ := stJ X28 hx hZ e28 Ar31 (j := (0 : Int32)) (inb_of S31 ⟨by decide, by decide⟩) (g := (mkF m 95 #[.val (.int xf), .val (.long qs0), .second, .val (.long qs1), .second, .val (.long qg1), .second, .val (.long qg2), .second, .val (.int xp), .val (.int (xf &&& (3 : Int32))), .val (.ref b1), .val (.int (0 : Int32)), .val (.ref b2), .unset, .unset, .unset, .unset, .unset] [(.long qg1), (.int (0 : Int32)), (.ref b28), (.ref b28)])) rfl rfl (hb hby at_95)
    refine ownEnds.law st31 ?_
    have V31 : Arv Z h31 b28 k28 .long (4 : Int32) [(.long qg1), (.long (0 : Int64)), (.long (0 : Int64)), (.long (0 : Int64))] (.long (0 : Int64)) := Arv.set Ar31 q31 S31 N31 H31 G31 rfl W31 0 rfl (Nat.le_of_ble_eq_true rfl)
    have N31 := Fr.snoc X31 N20 g_b28
    have Z31 : n0 ≤ h31.size := by rw [W31.size]; exact Z28
    show ownEnds _ _ _ _ (T31.setTop (mkF m 96 #[.val (.int xf), .val (.long qs0), .second, .val (.long qs1), .second, .val (.long qg1), .second, .val (.long qg2), .second, .val (.int xp), .val (.int (xf &&& (3 : Int32))), .val (.ref b1), .val (.int (0 : Int32)), .val (.ref b2), .unset, .unset, .unset, .unset, .unset] [(.ref b28)]))
    refine ownEnds.law (fun t k => XS.dup X31.here hx rfl (hb hby at_96) rfl rfl (XS.iconst X31.here hx rfl (hb hby at_97) (XS.lloadN X31.here hx rfl (hb hby at_98) rfl k))) ?_
    show ownEnds _ _ _ _ (T31.setTop (mkF m 99 #[.val (.int xf), .val (.long qs0), .second, .val (.long qs1), .second, .val (.long qg1), .second, .val (.long qg2), .second, .val (.int xp), .val (.int (xf &&& (3 : Int32))), .val (.ref b1), .val (.int (0 : Int32)), .val (.ref b2), .unset, .unset, .unset, .unset, .unset] [(.long qs0), (.int (1 : Int32)), (.ref b28), (.ref b28)]))
    obtain ⟨cl32, Ar32, q32, S32, N32, H32, G32⟩ := id V31
    obtain ⟨T32, h32, X32, e32, W32, st32⟩ := stJ X31 hx hZ e31 Ar32 (j := (1 : Int32)) (inb_of S32 ⟨by decide, by decide⟩) (g := (mkF m 99 #[.val (.int xf), .val (.long qs0), .second, .val (.long qs1), .second, .val (.long qg1), .second, .val (.long qg2), .second, .val (.int xp), .val (.int (xf &&& (3 : Int32))), .val (.ref b1), .val (.int (0 : Int32)), .val (.ref b2), .unset, .unset, .unset, .unset, .unset] [(.long qs0), (.int (1 : Int32)), (.ref b28), (.ref b28)])) rfl rfl (hb hby at_99)
    refine ownEnds.law st32 ?_
    have V32 : Arv Z h32 b28 k28 .long (4 : Int32) [(.long qg1), (.long qs0), (.long (0 : Int64)), (.long (0 : Int64))] (.long (0 : Int64)) := Arv.set Ar32 q32 S32 N32 H32 G32 rfl W32 1 rfl (Nat.le_of_ble_eq_true rfl)
    have N32 := Fr.snoc X32 N31 g_b28
    have Z32 : n0 ≤ h32.size := by rw [W32.size]; exact Z31
    show ownEnds _ _ _ _ (T32.setTop (mkF m 100 #[.val (.int xf), .val (.long qs0), .second, .val (.long qs1), .second, .val (.long qg1), .second, .val (.long qg2), .second, .val (.int xp), .val (.int (xf &&& (3 : Int32))), .val (.ref b1), .val (.int (0 : Int32)), .val (.ref b2), .unset, .unset, .unset, .unset, .unset] [(.ref b28)]))
    refine ownEnds.law (fun t k => XS.dup X32.here hx rfl (hb hby at_100) rfl rfl (XS.iconst X32.here hx rfl (hb hby at_101) (XS.lloadN X32.here hx rfl (hb hby at_102) rfl k))) ?_
    show ownEnds _ _ _ _ (T32.setTop (mkF m 103 #[.val (.int xf), .val (.long qs0), .second, .val (.long qs1), .second, .val (.long qg1), .second, .val (.long qg2), .second, .val (.int xp), .val (.int (xf &&& (3 : Int32))), .val (.ref b1), .val (.int (0 : Int32)), .val (.ref b2), .unset, .unset, .unset, .unset, .unset] [(.long qs1), (.int (2 : Int32)), (.ref b28), (.ref b28)]))
    obtain ⟨cl33, Ar33, q33, S33, N33, H33, G33⟩ := id V32
    obtain ⟨T33, h33, X33, e33, W33, st33⟩ := stJ X32 hx hZ e32 Ar33 (j := (2 : Int32)) (inb_of S33 ⟨by decide, by decide⟩) (g := (mkF m 103 #[.val (.int xf), .val (.long qs0), .second, .val (.long qs1), .second, .val (.long qg1), .second, .val (.long qg2), .second, .val (.int xp), .val (.int (xf &&& (3 : Int32))), .val (.ref b1), .val (.int (0 : Int32)), .val (.ref b2), .unset, .unset, .unset, .unset, .unset] [(.long qs1), (.int (2 : Int32)), (.ref b28), (.ref b28)])) rfl rfl (hb hby at_103)
    refine ownEnds.law st33 ?_
    have V33 : Arv Z h33 b28 k28 .long (4 : Int32) [(.long qg1), (.long qs0), (.long qs1), (.long (0 : Int64))] (.long (0 : Int64)) := Arv.set Ar33 q33 S33 N33 H33 G33 rfl W33 2 rfl (Nat.le_of_ble_eq_true rfl)
    have N33 := Fr.snoc X33 N32 g_b28
    have Z33 : n0 ≤ h33.size := by rw [W33.size]; exact Z32
    show ownEnds _ _ _ _ (T33.setTop (mkF m 104 #[.val (.int xf), .val (.long qs0), .second, .val (.long qs1), .second, .val (.long qg1), .second, .val (.long qg2), .second, .val (.int xp), .val (.int (xf &&& (3 : Int32))), .val (.ref b1), .val (.int (0 : Int32)), .val (.ref b2), .unset, .unset, .unset, .unset, .unset] [(.ref b28)]))
    refine ownEnds.law (fun t k => XS.dup X33.here hx rfl (hb hby at_104) rfl rfl (XS.iconst X33.here hx rfl (hb hby at_105) (XS.lload X33.here hx rfl (hb hby at_106) rfl k))) ?_
    show ownEnds _ _ _ _ (T33.setTop (mkF m 108 #[.val (.int xf), .val (.long qs0), .second, .val (.long qs1), .second, .val (.long qg1), .second, .val (.long qg2), .second, .val (.int xp), .val (.int (xf &&& (3 : Int32))), .val (.ref b1), .val (.int (0 : Int32)), .val (.ref b2), .unset, .unset, .unset, .unset, .unset] [(.long qg2), (.int (3 : Int32)), (.ref b28), (.ref b28)]))
    obtain ⟨cl34, Ar34, q34, S34, N34, H34, G34⟩ := id V33
    obtain ⟨T34, h34, X34, e34, W34, st34⟩ := stJ X33 hx hZ e33 Ar34 (j := (3 : Int32)) (inb_of S34 ⟨by decide, by decide⟩) (g := (mkF m 108 #[.val (.int xf), .val (.long qs0), .second, .val (.long qs1), .second, .val (.long qg1), .second, .val (.long qg2), .second, .val (.int xp), .val (.int (xf &&& (3 : Int32))), .val (.ref b1), .val (.int (0 : Int32)), .val (.ref b2), .unset, .unset, .unset, .unset, .unset] [(.long qg2), (.int (3 : Int32)), (.ref b28), (.ref b28)])) rfl rfl (hb hby at_108)
    refine ownEnds.law st34 ?_
    have V34 : Arv Z h34 b28 k28 .long (4 : Int32) [(.long qg1), (.long qs0), (.long qs1), (.long qg2)] (.long (0 : Int64)) := Arv.set Ar34 q34 S34 N34 H34 G34 rfl W34 3 rfl (Nat.le_of_ble_eq_true rfl)
    have N34 := Fr.snoc X34 N33 g_b28
    have Z34 : n0 ≤ h34.size := by rw [W34.size]; exact Z33
    show ownEnds _ _ _ _ (T34.setTop (mkF m 109 #[.val (.int xf), .val (.long qs0), .second, .val (.long qs1), .second, .val (.long qg1), .second, .val (.long qg2), .second, .val (.int xp), .val (.int (xf &&& (3 : Int32))), .val (.ref b1), .val (.int (0 : Int32)), .val (.ref b2), .unset, .unset, .unset, .unset, .unset] [(.ref b28)]))
    refine ownEnds.law (fun t k => XS.astore X34.here hx rfl (hb hby at_109) rfl rfl (l' := #[.val (.int xf), .val (.long qs0), .second, .val (.long qs1), .second, .val (.long qg1), .second, .val (.long qg2), .second, .val (.int xp), .val (.int (xf &&& (3 : Int32))), .val (.ref b1), .val (.int (0 : Int32)), .val (.ref b2), .val (.ref b28), .unset, .unset, .unset, .unset]) rfl (XS.iload X34.here hx rfl (hb hby at_111) rfl k)) ?_
    show ownEnds _ _ _ _ (T34.setTop (mkF m 113 #[.val (.int xf), .val (.long qs0), .second, .val (.long qs1), .second, .val (.long qg1), .second, .val (.long qg2), .second, .val (.int xp), .val (.int (xf &&& (3 : Int32))), .val (.ref b1), .val (.int (0 : Int32)), .val (.ref b2), .val (.ref b28), .unset, .unset, .unset, .unset] [(.int (0 : Int32))]))
    refine ownEnds.law (fun t => XS.ifYes X34.here hx rfl (pc0 := 113) (pc' := 120) rfl (hb hby at_113) rfl ((if0 _ _).trans (teq (rfl : (0 : Int32) = (0 : Int32))).1) (by decide) (by decide)) ?_
    show ownEnds _ _ _ _ (T34.setTop (mkF m 120 #[.val (.int xf), .val (.long qs0), .second, .val (.long qs1), .second, .val (.long qg1), .second, .val (.long qg2), .second, .val (.int xp), .val (.int (xf &&& (3 : Int32))), .val (.ref b1), .val (.int (0 : Int32)), .val (.ref b2), .val (.ref b28), .unset, .unset, .unset, .unset] []))
    refine ownEnds.law (fun t k => XS.lload X34.here hx rfl (hb hby at_120) rfl (XS.lstore X34.here hx rfl (hb hby at_122) rfl (l' := #[.val (.int xf), .val (.long qs0), .second, .val (.long qs1), .second, .val (.long qg1), .second, .val (.long qg2), .second, .val (.int xp), .val (.int (xf &&& (3 : Int32))), .val (.ref b1), .val (.int (0 : Int32)), .val (.ref b2), .val (.ref b28), .val (.long qg1), .second, .unset, .unset]) rfl (XS.iload X34.here hx rfl (hb hby at_124) rfl (XS.iconst X34.here hx rfl (hb hby at_126) (XS.iand X34.here hx rfl (hb hby at_127) rfl k))))) ?_
    show ownEnds _ _ _ _ (T34.setTop (mkF m 128 #[.val (.int xf), .val (.long qs0), .second, .val (.long qs1), .second, .val (.long qg1), .second, .val (.long qg2), .second, .val (.int xp), .val (.int (xf &&& (3 : Int32))), .val (.ref b1), .val (.int (0 : Int32)), .val (.ref b2), .val (.ref b28), .val (.long qg1), .second, .unset, .unset] [(.int (xp &&& (1 : Int32)))]))
    by_cases hc128 : (xp &&& (1 : Int32)) = (0 : Int32)
    · refine ownEnds.law (fun t => XS.ifNo X34.here hx rfl (hb hby at_128) rfl ((if0 _ _).trans (teq hc128).2)) ?_
      show ownEnds _ _ _ _ (T34.setTop (mkF m 131 #[.val (.int xf), .val (.long qs0), .second, .val (.long qs1), .second, .val (.long qg1), .second, .val (.long qg2), .second, .val (.int xp), .val (.int (xf &&& (3 : Int32))), .val (.ref b1), .val (.int (0 : Int32)), .val (.ref b2), .val (.ref b28), .val (.long qg1), .second, .unset, .unset] []))
      refine ownEnds.law (fun t k => XS.iconst X34.here hx rfl (hb hby at_131) k) ?_
      show ownEnds _ _ _ _ (T34.setTop (mkF m 132 #[.val (.int xf), .val (.long qs0), .second, .val (.long qs1), .second, .val (.long qg1), .second, .val (.long qg2), .second, .val (.int xp), .val (.int (xf &&& (3 : Int32))), .val (.ref b1), .val (.int (0 : Int32)), .val (.ref b2), .val (.ref b28), .val (.long qg1), .second, .unset, .unset] [(.int (4 : Int32))]))
      obtain ⟨T35, h35, k35, X35, e35, E35, A35, st35⟩ := newP X34 hx hZ (aty := .long) (wd_28 hw) e34 (g := (mkF m 132 #[.val (.int xf), .val (.long qs0), .second, .val (.long qs1), .second, .val (.long qg1), .second, .val (.long qg2), .second, .val (.int xp), .val (.int (xf &&& (3 : Int32))), .val (.ref b1), .val (.int (0 : Int32)), .val (.ref b2), .val (.ref b28), .val (.long qg1), .second, .unset, .unset] [(.int (4 : Int32))])) rfl (hb hby at_132) rfl (by decide) (cap := 4) (by decide) (by decide) (by decide) (by decide)
      obtain ⟨b35, g35⟩ : ∃ z, z = h34.size := ⟨_, rfl⟩
      rw [← g35] at A35 st35
      refine ownEnds.law st35 ?_
      have V_b35 : Arv Z h35 b35 k35 .long (4 : Int32) [(.long (0 : Int64)), (.long (0 : Int64)), (.long (0 : Int64)), (.long (0 : Int64))] (.long (0 : Int64)) := (Arv.new A35 (by decide)).pad (pad_rep [] (.long (0 : Int64)) 4)
      have f36 := (Arv.other (Arv.other (Arv.other (Arv.other (Arv.ext f29 E28) W31 ne_b1_b28) W32 ne_b1_b28) W33 ne_b1_b28) W34 ne_b1_b28)
      have ne_b1_b35 : b1 ≠ b35 := Nat.ne_of_lt (Nat.lt_of_lt_of_eq f36.lt g35.symm)
      have f37 := (Exa.wr W34 (Exa.wr W33 (Exa.wr W32 (Exa.wr W31 (Exa.ext E28 Eq20)))))
      have ne_b2_b35 : b2 ≠ b35 := Nat.ne_of_lt (Nat.lt_of_lt_of_eq f37.lt g35.symm)
      have f38 := (Exa.wr W34 (Exa.wr W33 (Exa.wr W32 (Exa.wr W31 (Exa.ext E28 f30)))))
      have ne_b9_b35 : b9 ≠ b35 := Nat.ne_of_lt (Nat.lt_of_lt_of_eq f38.lt g35.symm)
      have ne_b28_b35 : b28 ≠ b35 := Nat.ne_of_lt (Nat.lt_of_lt_of_eq V34.lt g35.symm)
      have g_b35 : n0 ≤ b35 := Nat.le_trans Z34 (Nat.le_of_eq g35.symm)
      have Z35 : n0 ≤ h35.size := Nat.le_trans Z34 E35.1
      show ownEnds _ _ _ _ (T35.setTop (mkF m 134 #[.val (.int xf), .val (.long qs0), .second, .val (.long qs1), .second, .val (.long qg1), .second, .val (.long qg2), .second, .val (.int xp), .val (.int (xf &&& (3 : Int32))), .val (.ref b1), .val (.int (0 : Int32)), .val (.ref b2), .val (.ref b28), .val (.long qg1), .second, .unset, .unset] [(.ref b35)]))
      refine ownEnds.law (fun t k => XS.dup X35.here hx rfl (hb hby at_134) rfl rfl (XS.iconst X35.here hx rfl (hb hby at_135) (XS.lloadN X35.here hx rfl (hb hby at_136) rfl k))) ?_
      show ownEnds _ _ _ _ (T35.setTop (mkF m 137 #[.val (.int xf), .val (.long qs0), .second, .val (.long qs1), .second, .val (.long qg1), .second, .val (.long qg2), .second, .val (.int xp), .val (.int (xf &&& (3 : Int32))), .val (.ref b1), .val (.int (0 : Int32)), .val (.ref b2), .val (.ref b28), .val (.long qg1), .second, .unset, .unset] [(.long qs0), (.int (0 : Int32)), (.ref b35), (.ref b35)]))
      obtain ⟨cl39, Ar39, q39, S39, N39, H39, G39⟩ := id V_b35
      obtain ⟨T39, h39, X39, e39, W39, st39⟩ := stJ X35 hx hZ e35 Ar39 (j := (0 : Int32)) (inb_of S39 ⟨by decide, by decide⟩) (g := (mkF m 137 #[.val (.int xf), .val (.long qs0), .second, .val (.long qs1), .second, .val (.long qg1), .second, .val (.long qg2), .second, .val (.int xp), .val (.int (xf &&& (3 : Int32))), .val (.ref b1), .val (.int (0 : Int32)), .val (.ref b2), .val (.ref b28), .val (.long qg1), .second, .unset, .unset] [(.long qs0), (.int (0 : Int32)), (.ref b35), (.ref b35)])) rfl rfl (hb hby at_137)
      refine ownEnds.law st39 ?_
      have V39 : Arv Z h39 b35 k35 .long (4 : Int32) [(.long qs0), (.long (0 : Int64)), (.long (0 : Int64)), (.long (0 : Int64))] (.long (0 : Int64)) := Arv.set Ar39 q39 S39 N39 H39 G39 rfl W39 0 rfl (Nat.le_of_ble_eq_true rfl)
      have N39 := Fr.snoc X39 N34 g_b35
      have Z39 : n0 ≤ h39.size := by rw [W39.size]; exact Z35
      show ownEnds _ _ _ _ (T39.setTop (mkF m 138 #[.val (.int xf), .val (.long qs0), .second, .val (.long qs1), .second, .val (.long qg1), .second, .val (.long qg2), .second, .val (.int xp), .val (.int (xf &&& (3 : Int32))), .val (.ref b1), .val (.int (0 : Int32)), .val (.ref b2), .val (.ref b28), .val (.long qg1), .second, .unset, .unset] [(.ref b35)]))
      refine ownEnds.law (fun t k => XS.dup X39.here hx rfl (hb hby at_138) rfl rfl (XS.iconst X39.here hx rfl (hb hby at_139) (XS.lload X39.here hx rfl (hb hby at_140) rfl k))) ?_
      show ownEnds _ _ _ _ (T39.setTop (mkF m 142 #[.val (.int xf), .val (.long qs0), .second, .val (.long qs1), .second, .val (.long qg1), .second, .val (.long qg2), .second, .val (.int xp), .val (.int (xf &&& (3 : Int32))), .val (.ref b1), .val (.int (0 : Int32)), .val (.ref b2), .val (.ref b28), .val (.long qg1), .second, .unset, .unset] [(.long qg1), (.int (1 : Int32)), (.ref b35), (.ref b35)]))
      obtain ⟨cl40, Ar40, q40, S40, N40, H40, G40⟩ := id V39
      obtain ⟨T40, h40, X40, e40, W40, st40⟩ := stJ X39 hx hZ e39 Ar40 (j := (1 : Int32)) (inb_of S40 ⟨by decide, by decide⟩) (g := (mkF m 142 #[.val (.int xf), .val (.long qs0), .second, .val (.long qs1), .second, .val (.long qg1), .second, .val (.long qg2), .second, .val (.int xp), .val (.int (xf &&& (3 : Int32))), .val (.ref b1), .val (.int (0 : Int32)), .val (.ref b2), .val (.ref b28), .val (.long qg1), .second, .unset, .unset] [(.long qg1), (.int (1 : Int32)), (.ref b35), (.ref b35)])) rfl rfl (hb hby at_142)
      refine ownEnds.law st40 ?_
      have V40 : Arv Z h40 b35 k35 .long (4 : Int32) [(.long qs0), (.long qg1), (.long (0 : Int64)), (.long (0 : Int64))] (.long (0 : Int64)) := Arv.set Ar40 q40 S40 N40 H40 G40 rfl W40 1 rfl (Nat.le_of_ble_eq_true rfl)
      have N40 := Fr.snoc X40 N39 g_b35
      have Z40 : n0 ≤ h40.size := by rw [W40.size]; exact Z39
      show ownEnds _ _ _ _ (T40.setTop (mkF m 143 #[.val (.int xf), .val (.long qs0), .second, .val (.long qs1), .second, .val (.long qg1), .second, .val (.long qg2), .second, .val (.int xp), .val (.int (xf &&& (3 : Int32))), .val (.ref b1), .val (.int (0 : Int32)), .val (.ref b2), .val (.ref b28), .val (.long qg1), .second, .unset, .unset] [(.ref b35)]))
      refine ownEnds.law (fun t k => XS.dup X40.here hx rfl (hb hby at_143) rfl rfl (XS.iconst X40.here hx rfl (hb hby at_144) (XS.lload X40.here hx rfl (hb hby at_145) rfl k))) ?_
      show ownEnds _ _ _ _ (T40.setTop (mkF m 147 #[.val (.int xf), .val (.long qs0), .second, .val (.long qs1), .second, .val (.long qg1), .second, .val (.long qg2), .second, .val (.int xp), .val (.int (xf &&& (3 : Int32))), .val (.ref b1), .val (.int (0 : Int32)), .val (.ref b2), .val (.ref b28), .val (.long qg1), .second, .unset, .unset] [(.long qg2), (.int (2 : Int32)), (.ref b35), (.ref b35)]))
      obtain ⟨cl41, Ar41, q41, S41, N41, H41, G41⟩ := id V40
      obtain ⟨T41, h41, X41, e41, W41, st41⟩ := stJ X40 hx hZ e40 Ar41 (j := (2 : Int32)) (inb_of S41 ⟨by decide, by decide⟩) (g := (mkF m 147 #[.val (.int xf), .val (.long qs0), .second, .val (.long qs1), .second, .val (.long qg1), .second, .val (.long qg2), .second, .val (.int xp), .val (.int (xf &&& (3 : Int32))), .val (.ref b1), .val (.int (0 : Int32)), .val (.ref b2), .val (.ref b28), .val (.long qg1), .second, .unset, .unset] [(.long qg2), (.int (2 : Int32)), (.ref b35), (.ref b35)])) rfl rfl (hb hby at_147)
      refine ownEnds.law st41 ?_
      have V41 : Arv Z h41 b35 k35 .long (4 : Int32) [(.long qs0), (.long qg1), (.long qg2), (.long (0 : Int64))] (.long (0 : Int64)) := Arv.set Ar41 q41 S41 N41 H41 G41 rfl W41 2 rfl (Nat.le_of_ble_eq_true rfl)
      have N41 := Fr.snoc X41 N40 g_b35
      have Z41 : n0 ≤ h41.size := by rw [W41.size]; exact Z40
      show ownEnds _ _ _ _ (T41.setTop (mkF m 148 #[.val (.int xf), .val (.long qs0), .second, .val (.long qs1), .second, .val (.long qg1), .second, .val (.long qg2), .second, .val (.int xp), .val (.int (xf &&& (3 : Int32))), .val (.ref b1), .val (.int (0 : Int32)), .val (.ref b2), .val (.ref b28), .val (.long qg1), .second, .unset, .unset] [(.ref b35)]))
      refine ownEnds.law (fun t k => XS.dup X41.here hx rfl (hb hby at_148) rfl rfl (XS.iconst X41.here hx rfl (hb hby at_149) (XS.lload X41.here hx rfl (hb hby at_150) rfl k))) ?_
      show ownEnds _ _ _ _ (T41.setTop (mkF m 152 #[.val (.int xf), .val (.long qs0), .second, .val (.long qs1), .second, .val (.long qg1), .second, .val (.long qg2), .second, .val (.int xp), .val (.int (xf &&& (3 : Int32))), .val (.ref b1), .val (.int (0 : Int32)), .val (.ref b2), .val (.ref b28), .val (.long qg1), .second, .unset, .unset] [(.long qg1), (.int (3 : Int32)), (.ref b35), (.ref b35)]))
      obtain ⟨cl42, Ar42, q42, S42, N42, H42, G42⟩ := id V41
      obtain ⟨T42, h42, X42, e42, W42, st42⟩ := stJ X41 hx hZ e41 Ar42 (j := (3 : Int32)) (inb_of S42 ⟨by decide, by decide⟩) (g := (mkF m 152 #[.val (.int xf), .val (.long qs0), .second, .val (.long qs1), .second, .val (.long qg1), .second, .val (.long qg2), .second, .val (.int xp), .val (.int (xf &&& (3 : Int32))), .val (.ref b1), .val (.int (0 : Int32)), .val (.ref b2), .val (.ref b28), .val (.long qg1), .second, .unset, .unset] [(.long qg1), (.int (3 : Int32)), (.ref b35), (.ref b35)])) rfl rfl (hb hby at_152)
      refine ownEnds.law st42 ?_
      have V42 : Arv Z h42 b35 k35 .long (4 : Int32) [(.long qs0), (.long qg1), (.long qg2), (.long qg1)] (.long (0 : Int64)) := Arv.set Ar42 q42 S42 N42 H42 G42 rfl W42 3 rfl (Nat.le_of_ble_eq_true rfl)
      have N42 := Fr.snoc X42 N41 g_b35
      have Z42 : n0 ≤ h42.size := by rw [W42.size]; exact Z41
      show ownEnds _ _ _ _ (T42.setTop (mkF m 153 #[.val (.int xf), .val (.long qs0), .second, .val (.long qs1), .second, .val (.long qg1), .second, .val (.long qg2), .second, .val (.int xp), .val (.int (xf &&& (3 : Int32))), .val (.ref b1), .val (.int (0 : Int32)), .val (.ref b2), .val (.ref b28), .val (.long qg1), .second, .unset, .unset] [(.ref b35)]))
      refine ownEnds.law (fun t k => XS.astore X42.here hx rfl (hb hby at_153) rfl rfl (l' := #[.val (.int xf), .val (.long qs0), .second, .val (.long qs1), .second, .val (.long qg1), .second, .val (.long qg2), .second, .val (.int xp), .val (.int (xf &&& (3 : Int32))), .val (.ref b1), .val (.int (0 : Int32)), .val (.ref b2), .val (.ref b28), .val (.long qg1), .second, .val (.ref b35), .unset]) rfl (XS.iconst X42.here hx rfl (hb hby at_155) (XS.istore X42.here hx rfl (hb hby at_156) rfl (l' := #[.val (.int xf), .val (.long qs0), .second, .val (.long qs1), .second, .val (.long qg1), .second, .val (.long qg2), .second, .val (.int xp), .val (.int (xf &&& (3 : Int32))), .val (.ref b1), .val (.int (0 : Int32)), .val (.ref b2), .val (.ref b28), .val (.long qg1), .second, .val (.ref b35), .val (.int (0 : Int32))]) rfl (XS.goto X42.here hx rfl (pc0 := 158) (pc' := 188) rfl (hb hby at_158) (by decide) (by decide) (XS.aload X42.here hx rfl (hb hby at_188) rfl rfl (XS.aload X42.here hx rfl (hb hby at_190) rfl rfl (XS.iconst X42.here hx rfl (hb hby at_192) k))))))) ?_
      show ownEnds _ _ _ _ (T42.setTop (mkF m 193 #[.val (.int xf), .val (.long qs0), .second, .val (.long qs1), .second, .val (.long qg1), .second, .val (.long qg2), .second, .val (.int xp), .val (.int (xf &&& (3 : Int32))), .val (.ref b1), .val (.int (0 : Int32)), .val (.ref b2), .val (.ref b28), .val (.long qg1), .second, .val (.ref b35), .val (.int (0 : Int32))] [(.int (1 : Int32)), (.ref b28), (.ref b2)]))
      have f44 := (Fld.other W42 (Fld.other W41 (Fld.other W40 (Fld.other W39 (Fld.ext E35 (Fld.other W34 (Fld.other W33 (Fld.other W32 (Fld.other W31 (Fld.ext E28 Fc20_0) (Or.inl ne_b2_b28)) (Or.inl ne_b2_b28)) (Or.inl ne_b2_b28)) (Or.inl ne_b2_b28))) (Or.inl ne_b2_b35)) (Or.inl ne_b2_b35)) (Or.inl ne_b2_b35)) (Or.inl ne_b2_b35))
      have f45 := (Arv.other (Arv.other (Arv.other (Arv.other (Arv.ext V34 E35) W39 ne_b28_b35) W40 ne_b28_b35) W41 ne_b28_b35) W42 ne_b28_b35)
      have f46 := (Exa.wr W42 (Exa.wr W41 (Exa.wr W40 (Exa.wr W39 (Exa.ext E35 f37)))))
      obtain ⟨v43, T43, L43, X43, hQ43, st43⟩ := ownCallV X42 hx hZ hown (y := (⟨"com/example/libreach/libreach/engine/StateStore", "hash", "([JI)I"⟩ : MethodName)) (z := (⟨"com/example/libreach/libreach/engine/StateStore", "hash", "([JI)I"⟩ : MethodName)) (a := b2) (as := [(.ref b28), (.int (1 : Int32))]) (wd_85 hw) (wd_86 hw) (notFace_of_selects (args := #[]) (mvT hZ (wd_88 hw))) (wd_88 hw) (wd_87 hw) (wd_3 hw) (wd_89 hw) (by decide) (rm11_0_1 l Z a0 hw b2 b28 k28 qg1 qs0 qs1 qg2 h42 n0 Z42 f44 f45) e42 f46 0 (by decide) (by decide) (by decide) (by decide) (g := (mkF m 193 #[.val (.int xf), .val (.long qs0), .second, .val (.long qs1), .second, .val (.long qg1), .second, .val (.long qg2), .second, .val (.int xp), .val (.int (xf &&& (3 : Int32))), .val (.ref b1), .val (.int (0 : Int32)), .val (.ref b2), .val (.ref b28), .val (.long qg1), .second, .val (.ref b35), .val (.int (0 : Int32))] [(.int (1 : Int32)), (.ref b28), (.ref b2)])) rfl (by rw [hml]; rfl) (rest := []) pd_7 rfl rfl (by show 2 * 0 + _ ≤ _; exact Nat.le_of_eq rfl) (hb hby at_193)
      obtain ⟨rfl, rfl, e43⟩ := hQ43
      rw [List.append_nil] at X43
      refine ownEnds.law st43 ?_
      show ownEnds _ _ _ _ (T43.setTop (mkF m 196 #[.val (.int xf), .val (.long qs0), .second, .val (.long qs1), .second, .val (.long qg1), .second, .val (.long qg2), .second, .val (.int xp), .val (.int (xf &&& (3 : Int32))), .val (.ref b1), .val (.int (0 : Int32)), .val (.ref b2), .val (.ref b28), .val (.long qg1), .second, .val (.ref b35), .val (.int (0 : Int32))] [(.int (HE ((0 : Int32).toInt64)))]))
      refine ownEnds.law (fun t k => XS.aload X43.here hx rfl (hb hby at_196) rfl rfl (XS.aload X43.here hx rfl (hb hby at_198) rfl rfl (XS.iload X43.here hx rfl (hb hby at_200) rfl k))) ?_
      show ownEnds _ _ _ _ (T43.setTop (mkF m 202 #[.val (.int xf), .val (.long qs0), .second, .val (.long qs1), .second, .val (.long qg1), .second, .val (.long qg2), .second, .val (.int xp), .val (.int (xf &&& (3 : Int32))), .val (.ref b1), .val (.int (0 : Int32)), .val (.ref b2), .val (.ref b28), .val (.long qg1), .second, .val (.ref b35), .val (.int (0 : Int32))] [(.int (0 : Int32)), (.ref b35), (.ref b2), (.int (HE ((0 : Int32).toInt64)))]))
      obtain ⟨v47, T47, L47, X47, hQ47, st47⟩ := ownCallV X43 hx hZ hown (y := (⟨"com/example/libreach/libreach/engine/StateStore", "hash", "([JI)I"⟩ : MethodName)) (z := (⟨"com/example/libreach/libreach/engine/StateStore", "hash", "([JI)I"⟩ : MethodName)) (a := b2) (as := [(.ref b35), (.int (0 : Int32))]) (wd_85 hw) (wd_86 hw) (notFace_of_selects (args := #[]) (mvT hZ (wd_88 hw))) (wd_88 hw) (wd_87 hw) (wd_3 hw) (wd_89 hw) (by decide) (rm11_0_0 l Z a0 hw b2 b35 k35 qs0 qg1 qg2 qg1 h42 n0 Z42 f44 V42) e43 f46 1 (by decide) (by decide) (by decide) (by decide) (g := (mkF m 202 #[.val (.int xf), .val (.long qs0), .second, .val (.long qs1), .second, .val (.long qg1), .second, .val (.long qg2), .second, .val (.int xp), .val (.int (xf &&& (3 : Int32))), .val (.ref b1), .val (.int (0 : Int32)), .val (.ref b2), .val (.ref b28), .val (.long qg1), .second, .val (.ref b35), .val (.int (0 : Int32))] [(.int (0 : Int32)), (.ref b35), (.ref b2), (.int (HE ((0 : Int32).toInt64)))])) rfl (by rw [hml]; rfl) (rest := [(.int (HE ((0 : Int32).toInt64)))]) pd_7 rfl rfl (by show 2 * 0 + _ ≤ _; exact Nat.le_of_eq rfl) (hb hby at_202)
      obtain ⟨rfl, rfl, e47⟩ := hQ47
      rw [List.append_nil] at X47
      refine ownEnds.law st47 ?_
      show ownEnds _ _ _ _ (T47.setTop (mkF m 205 #[.val (.int xf), .val (.long qs0), .second, .val (.long qs1), .second, .val (.long qg1), .second, .val (.long qg2), .second, .val (.int xp), .val (.int (xf &&& (3 : Int32))), .val (.ref b1), .val (.int (0 : Int32)), .val (.ref b2), .val (.ref b28), .val (.long qg1), .second, .val (.ref b35), .val (.int (0 : Int32))] [(.int (HE ((0 : Int32).toInt64))), (.int (HE ((0 : Int32).toInt64)))]))
      refine ownEnds.law (fun t => XS.icmpNo X47.here hx rfl (hb hby at_205) rfl (teq (rfl : (HE ((0 : Int32).toInt64)) = (HE ((0 : Int32).toInt64)))).2) ?_
      show ownEnds _ _ _ _ (T47.setTop (mkF m 208 #[.val (.int xf), .val (.long qs0), .second, .val (.long qs1), .second, .val (.long qg1), .second, .val (.long qg2), .second, .val (.int xp), .val (.int (xf &&& (3 : Int32))), .val (.ref b1), .val (.int (0 : Int32)), .val (.ref b2), .val (.ref b28), .val (.long qg1), .second, .val (.ref b35), .val (.int (0 : Int32))] []))
      refine ownEnds.law (fun t k => XS.iconst X47.here hx rfl (hb hby at_208) (XS.goto X47.here hx rfl (pc0 := 209) (pc' := 213) rfl (hb hby at_209) (by decide) (by decide) k)) ?_
      show ownEnds _ _ _ _ (T47.setTop (mkF m 213 #[.val (.int xf), .val (.long qs0), .second, .val (.long qs1), .second, .val (.long qg1), .second, .val (.long qg2), .second, .val (.int xp), .val (.int (xf &&& (3 : Int32))), .val (.ref b1), .val (.int (0 : Int32)), .val (.ref b2), .val (.ref b28), .val (.long qg1), .second, .val (.ref b35), .val (.int (0 : Int32))] [(.int (1 : Int32))]))
      refine ownRetN X47 hlk hx (t := .boolean) hret (by simp) (hb hby at_213) (by decide) (by decide) ?_
      exact ⟨rfl, N42⟩
    · refine ownEnds.law (fun t => XS.ifYes X34.here hx rfl (pc0 := 128) (pc' := 161) rfl (hb hby at_128) rfl ((if0 _ _).trans (feq hc128).2) (by decide) (by decide)) ?_
      show ownEnds _ _ _ _ (T34.setTop (mkF m 161 #[.val (.int xf), .val (.long qs0), .second, .val (.long qs1), .second, .val (.long qg1), .second, .val (.long qg2), .second, .val (.int xp), .val (.int (xf &&& (3 : Int32))), .val (.ref b1), .val (.int (0 : Int32)), .val (.ref b2), .val (.ref b28), .val (.long qg1), .second, .unset, .unset] []))
      refine ownEnds.law (fun t k => XS.iconst X34.here hx rfl (hb hby at_161) k) ?_
      show ownEnds _ _ _ _ (T34.setTop (mkF m 162 #[.val (.int xf), .val (.long qs0), .second, .val (.long qs1), .second, .val (.long qg1), .second, .val (.long qg2), .second, .val (.int xp), .val (.int (xf &&& (3 : Int32))), .val (.ref b1), .val (.int (0 : Int32)), .val (.ref b2), .val (.ref b28), .val (.long qg1), .second, .unset, .unset] [(.int (4 : Int32))]))
      obtain ⟨T48, h48, k48, X48, e48, E48, A48, st48⟩ := newP X34 hx hZ (aty := .long) (wd_28 hw) e34 (g := (mkF m 162 #[.val (.int xf), .val (.long qs0), .second, .val (.long qs1), .second, .val (.long qg1), .second, .val (.long qg2), .second, .val (.int xp), .val (.int (xf &&& (3 : Int32))), .val (.ref b1), .val (.int (0 : Int32)), .val (.ref b2), .val (.ref b28), .val (.long qg1), .second, .unset, .unset] [(.int (4 : Int32))])) rfl (hb hby at_162) rfl (by decide) (cap := 4) (by decide) (by decide) (by decide) (by decide)
      obtain ⟨b48, g48⟩ : ∃ z, z = h34.size := ⟨_, rfl⟩
      rw [← g48] at A48 st48
      refine ownEnds.law st48 ?_
      have V_b48 : Arv Z h48 b48 k48 .long (4 : Int32) [(.long (0 : Int64)), (.long (0 : Int64)), (.long (0 : Int64)), (.long (0 : Int64))] (.long (0 : Int64)) := (Arv.new A48 (by decide)).pad (pad_rep [] (.long (0 : Int64)) 4)
      have f49 := (Arv.other (Arv.other (Arv.other (Arv.other (Arv.ext f29 E28) W31 ne_b1_b28) W32 ne_b1_b28) W33 ne_b1_b28) W34 ne_b1_b28)
      have ne_b1_b48 : b1 ≠ b48 := Nat.ne_of_lt (Nat.lt_of_lt_of_eq f49.lt g48.symm)
      have f50 := (Exa.wr W34 (Exa.wr W33 (Exa.wr W32 (Exa.wr W31 (Exa.ext E28 Eq20)))))
      have ne_b2_b48 : b2 ≠ b48 := Nat.ne_of_lt (Nat.lt_of_lt_of_eq f50.lt g48.symm)
      have f51 := (Exa.wr W34 (Exa.wr W33 (Exa.wr W32 (Exa.wr W31 (Exa.ext E28 f30)))))
      have ne_b9_b48 : b9 ≠ b48 := Nat.ne_of_lt (Nat.lt_of_lt_of_eq f51.lt g48.symm)
      have ne_b28_b48 : b28 ≠ b48 := Nat.ne_of_lt (Nat.lt_of_lt_of_eq V34.lt g48.symm)
      have g_b48 : n0 ≤ b48 := Nat.le_trans Z34 (Nat.le_of_eq g48.symm)
      have Z48 : n0 ≤ h48.size := Nat.le_trans Z34 E48.1
      show ownEnds _ _ _ _ (T48.setTop (mkF m 164 #[.val (.int xf), .val (.long qs0), .second, .val (.long qs1), .second, .val (.long qg1), .second, .val (.long qg2), .second, .val (.int xp), .val (.int (xf &&& (3 : Int32))), .val (.ref b1), .val (.int (0 : Int32)), .val (.ref b2), .val (.ref b28), .val (.long qg1), .second, .unset, .unset] [(.ref b48)]))
      refine ownEnds.law (fun t k => XS.dup X48.here hx rfl (hb hby at_164) rfl rfl (XS.iconst X48.here hx rfl (hb hby at_165) (XS.lload X48.here hx rfl (hb hby at_166) rfl k))) ?_
      show ownEnds _ _ _ _ (T48.setTop (mkF m 168 #[.val (.int xf), .val (.long qs0), .second, .val (.long qs1), .second, .val (.long qg1), .second, .val (.long qg2), .second, .val (.int xp), .val (.int (xf &&& (3 : Int32))), .val (.ref b1), .val (.int (0 : Int32)), .val (.ref b2), .val (.ref b28), .val (.long qg1), .second, .unset, .unset] [(.long qg2), (.int (0 : Int32)), (.ref b48), (.ref b48)]))
      obtain ⟨cl52, Ar52, q52, S52, N52, H52, G52⟩ := id V_b48
      obtain ⟨T52, h52, X52, e52, W52, st52⟩ := stJ X48 hx hZ e48 Ar52 (j := (0 : Int32)) (inb_of S52 ⟨by decide, by decide⟩) (g := (mkF m 168 #[.val (.int xf), .val (.long qs0), .second, .val (.long qs1), .second, .val (.long qg1), .second, .val (.long qg2), .second, .val (.int xp), .val (.int (xf &&& (3 : Int32))), .val (.ref b1), .val (.int (0 : Int32)), .val (.ref b2), .val (.ref b28), .val (.long qg1), .second, .unset, .unset] [(.long qg2), (.int (0 : Int32)), (.ref b48), (.ref b48)])) rfl rfl (hb hby at_168)
      refine ownEnds.law st52 ?_
      have V52 : Arv Z h52 b48 k48 .long (4 : Int32) [(.long qg2), (.long (0 : Int64)), (.long (0 : Int64)), (.long (0 : Int64))] (.long (0 : Int64)) := Arv.set Ar52 q52 S52 N52 H52 G52 rfl W52 0 rfl (Nat.le_of_ble_eq_true rfl)
      have N52 := Fr.snoc X52 N34 g_b48
      have Z52 : n0 ≤ h52.size := by rw [W52.size]; exact Z48
      show ownEnds _ _ _ _ (T52.setTop (mkF m 169 #[.val (.int xf), .val (.long qs0), .second, .val (.long qs1), .second, .val (.long qg1), .second, .val (.long qg2), .second, .val (.int xp), .val (.int (xf &&& (3 : Int32))), .val (.ref b1), .val (.int (0 : Int32)), .val (.ref b2), .val (.ref b28), .val (.long qg1), .second, .unset, .unset] [(.ref b48)]))
      refine ownEnds.law (fun t k => XS.dup X52.here hx rfl (hb hby at_169) rfl rfl (XS.iconst X52.here hx rfl (hb hby at_170) (XS.lload X52.here hx rfl (hb hby at_171) rfl k))) ?_
      show ownEnds _ _ _ _ (T52.setTop (mkF m 173 #[.val (.int xf), .val (.long qs0), .second, .val (.long qs1), .second, .val (.long qg1), .second, .val (.long qg2), .second, .val (.int xp), .val (.int (xf &&& (3 : Int32))), .val (.ref b1), .val (.int (0 : Int32)), .val (.ref b2), .val (.ref b28), .val (.long qg1), .second, .unset, .unset] [(.long qg1), (.int (1 : Int32)), (.ref b48), (.ref b48)]))
      obtain ⟨cl53, Ar53, q53, S53, N53, H53, G53⟩ := id V52
      obtain ⟨T53, h53, X53, e53, W53, st53⟩ := stJ X52 hx hZ e52 Ar53 (j := (1 : Int32)) (inb_of S53 ⟨by decide, by decide⟩) (g := (mkF m 173 #[.val (.int xf), .val (.long qs0), .second, .val (.long qs1), .second, .val (.long qg1), .second, .val (.long qg2), .second, .val (.int xp), .val (.int (xf &&& (3 : Int32))), .val (.ref b1), .val (.int (0 : Int32)), .val (.ref b2), .val (.ref b28), .val (.long qg1), .second, .unset, .unset] [(.long qg1), (.int (1 : Int32)), (.ref b48), (.ref b48)])) rfl rfl (hb hby at_173)
      refine ownEnds.law st53 ?_
      have V53 : Arv Z h53 b48 k48 .long (4 : Int32) [(.long qg2), (.long qg1), (.long (0 : Int64)), (.long (0 : Int64))] (.long (0 : Int64)) := Arv.set Ar53 q53 S53 N53 H53 G53 rfl W53 1 rfl (Nat.le_of_ble_eq_true rfl)
      have N53 := Fr.snoc X53 N52 g_b48
      have Z53 : n0 ≤ h53.size := by rw [W53.size]; exact Z52
      show ownEnds _ _ _ _ (T53.setTop (mkF m 174 #[.val (.int xf), .val (.long qs0), .second, .val (.long qs1), .second, .val (.long qg1), .second, .val (.long qg2), .second, .val (.int xp), .val (.int (xf &&& (3 : Int32))), .val (.ref b1), .val (.int (0 : Int32)), .val (.ref b2), .val (.ref b28), .val (.long qg1), .second, .unset, .unset] [(.ref b48)]))
      refine ownEnds.law (fun t k => XS.dup X53.here hx rfl (hb hby at_174) rfl rfl (XS.iconst X53.here hx rfl (hb hby at_175) (XS.lloadN X53.here hx rfl (hb hby at_176) rfl k))) ?_
      show ownEnds _ _ _ _ (T53.setTop (mkF m 177 #[.val (.int xf), .val (.long qs0), .second, .val (.long qs1), .second, .val (.long qg1), .second, .val (.long qg2), .second, .val (.int xp), .val (.int (xf &&& (3 : Int32))), .val (.ref b1), .val (.int (0 : Int32)), .val (.ref b2), .val (.ref b28), .val (.long qg1), .second, .unset, .unset] [(.long qs0), (.int (2 : Int32)), (.ref b48), (.ref b48)]))
      obtain ⟨cl54, Ar54, q54, S54, N54, H54, G54⟩ := id V53
      obtain ⟨T54, h54, X54, e54, W54, st54⟩ := stJ X53 hx hZ e53 Ar54 (j := (2 : Int32)) (inb_of S54 ⟨by decide, by decide⟩) (g := (mkF m 177 #[.val (.int xf), .val (.long qs0), .second, .val (.long qs1), .second, .val (.long qg1), .second, .val (.long qg2), .second, .val (.int xp), .val (.int (xf &&& (3 : Int32))), .val (.ref b1), .val (.int (0 : Int32)), .val (.ref b2), .val (.ref b28), .val (.long qg1), .second, .unset, .unset] [(.long qs0), (.int (2 : Int32)), (.ref b48), (.ref b48)])) rfl rfl (hb hby at_177)
      refine ownEnds.law st54 ?_
      have V54 : Arv Z h54 b48 k48 .long (4 : Int32) [(.long qg2), (.long qg1), (.long qs0), (.long (0 : Int64))] (.long (0 : Int64)) := Arv.set Ar54 q54 S54 N54 H54 G54 rfl W54 2 rfl (Nat.le_of_ble_eq_true rfl)
      have N54 := Fr.snoc X54 N53 g_b48
      have Z54 : n0 ≤ h54.size := by rw [W54.size]; exact Z53
      show ownEnds _ _ _ _ (T54.setTop (mkF m 178 #[.val (.int xf), .val (.long qs0), .second, .val (.long qs1), .second, .val (.long qg1), .second, .val (.long qg2), .second, .val (.int xp), .val (.int (xf &&& (3 : Int32))), .val (.ref b1), .val (.int (0 : Int32)), .val (.ref b2), .val (.ref b28), .val (.long qg1), .second, .unset, .unset] [(.ref b48)]))
      refine ownEnds.law (fun t k => XS.dup X54.here hx rfl (hb hby at_178) rfl rfl (XS.iconst X54.here hx rfl (hb hby at_179) (XS.lload X54.here hx rfl (hb hby at_180) rfl k))) ?_
      show ownEnds _ _ _ _ (T54.setTop (mkF m 182 #[.val (.int xf), .val (.long qs0), .second, .val (.long qs1), .second, .val (.long qg1), .second, .val (.long qg2), .second, .val (.int xp), .val (.int (xf &&& (3 : Int32))), .val (.ref b1), .val (.int (0 : Int32)), .val (.ref b2), .val (.ref b28), .val (.long qg1), .second, .unset, .unset] [(.long qg1), (.int (3 : Int32)), (.ref b48), (.ref b48)]))
      obtain ⟨cl55, Ar55, q55, S55, N55, H55, G55⟩ := id V54
      obtain ⟨T55, h55, X55, e55, W55, st55⟩ := stJ X54 hx hZ e54 Ar55 (j := (3 : Int32)) (inb_of S55 ⟨by decide, by decide⟩) (g := (mkF m 182 #[.val (.int xf), .val (.long qs0), .second, .val (.long qs1), .second, .val (.long qg1), .second, .val (.long qg2), .second, .val (.int xp), .val (.int (xf &&& (3 : Int32))), .val (.ref b1), .val (.int (0 : Int32)), .val (.ref b2), .val (.ref b28), .val (.long qg1), .second, .unset, .unset] [(.long qg1), (.int (3 : Int32)), (.ref b48), (.ref b48)])) rfl rfl (hb hby at_182)
      refine ownEnds.law st55 ?_
      have V55 : Arv Z h55 b48 k48 .long (4 : Int32) [(.long qg2), (.long qg1), (.long qs0), (.long qg1)] (.long (0 : Int64)) := Arv.set Ar55 q55 S55 N55 H55 G55 rfl W55 3 rfl (Nat.le_of_ble_eq_true rfl)
      have N55 := Fr.snoc X55 N54 g_b48
      have Z55 : n0 ≤ h55.size := by rw [W55.size]; exact Z54
      show ownEnds _ _ _ _ (T55.setTop (mkF m 183 #[.val (.int xf), .val (.long qs0), .second, .val (.long qs1), .second, .val (.long qg1), .second, .val (.long qg2), .second, .val (.int xp), .val (.int (xf &&& (3 : Int32))), .val (.ref b1), .val (.int (0 : Int32)), .val (.ref b2), .val (.ref b28), .val (.long qg1), .second, .unset, .unset] [(.ref b48)]))
      refine ownEnds.law (fun t k => XS.astore X55.here hx rfl (hb hby at_183) rfl rfl (l' := #[.val (.int xf), .val (.long qs0), .second, .val (.long qs1), .second, .val (.long qg1), .second, .val (.long qg2), .second, .val (.int xp), .val (.int (xf &&& (3 : Int32))), .val (.ref b1), .val (.int (0 : Int32)), .val (.ref b2), .val (.ref b28), .val (.long qg1), .second, .val (.ref b48), .unset]) rfl (XS.iconst X55.here hx rfl (hb hby at_185) (XS.istore X55.here hx rfl (hb hby at_186) rfl (l' := #[.val (.int xf), .val (.long qs0), .second, .val (.long qs1), .second, .val (.long qg1), .second, .val (.long qg2), .second, .val (.int xp), .val (.int (xf &&& (3 : Int32))), .val (.ref b1), .val (.int (0 : Int32)), .val (.ref b2), .val (.ref b28), .val (.long qg1), .second, .val (.ref b48), .val (.int (2 : Int32))]) rfl (XS.aload X55.here hx rfl (hb hby at_188) rfl rfl (XS.aload X55.here hx rfl (hb hby at_190) rfl rfl (XS.iconst X55.here hx rfl (hb hby at_192) k)))))) ?_
      show ownEnds _ _ _ _ (T55.setTop (mkF m 193 #[.val (.int xf), .val (.long qs0), .second, .val (.long qs1), .second, .val (.long qg1), .second, .val (.long qg2), .second, .val (.int xp), .val (.int (xf &&& (3 : Int32))), .val (.ref b1), .val (.int (0 : Int32)), .val (.ref b2), .val (.ref b28), .val (.long qg1), .second, .val (.ref b48), .val (.int (2 : Int32))] [(.int (1 : Int32)), (.ref b28), (.ref b2)]))
      have f57 := (Fld.other W55 (Fld.other W54 (Fld.other W53 (Fld.other W52 (Fld.ext E48 (Fld.other W34 (Fld.other W33 (Fld.other W32 (Fld.other W31 (Fld.ext E28 Fc20_0) (Or.inl ne_b2_b28)) (Or.inl ne_b2_b28)) (Or.inl ne_b2_b28)) (Or.inl ne_b2_b28))) (Or.inl ne_b2_b48)) (Or.inl ne_b2_b48)) (Or.inl ne_b2_b48)) (Or.inl ne_b2_b48))
      have f58 := (Arv.other (Arv.other (Arv.other (Arv.other (Arv.ext V34 E48) W52 ne_b28_b48) W53 ne_b28_b48) W54 ne_b28_b48) W55 ne_b28_b48)
      have f59 := (Exa.wr W55 (Exa.wr W54 (Exa.wr W53 (Exa.wr W52 (Exa.ext E48 f50)))))
      obtain ⟨v56, T56, L56, X56, hQ56, st56⟩ := ownCallV X55 hx hZ hown (y := (⟨"com/example/libreach/libreach/engine/StateStore", "hash", "([JI)I"⟩ : MethodName)) (z := (⟨"com/example/libreach/libreach/engine/StateStore", "hash", "([JI)I"⟩ : MethodName)) (a := b2) (as := [(.ref b28), (.int (1 : Int32))]) (wd_85 hw) (wd_86 hw) (notFace_of_selects (args := #[]) (mvT hZ (wd_88 hw))) (wd_88 hw) (wd_87 hw) (wd_3 hw) (wd_89 hw) (by decide) (rm11_0_1 l Z a0 hw b2 b28 k28 qg1 qs0 qs1 qg2 h55 n0 Z55 f57 f58) e55 f59 0 (by decide) (by decide) (by decide) (by decide) (g := (mkF m 193 #[.val (.int xf), .val (.long qs0), .second, .val (.long qs1), .second, .val (.long qg1), .second, .val (.long qg2), .second, .val (.int xp), .val (.int (xf &&& (3 : Int32))), .val (.ref b1), .val (.int (0 : Int32)), .val (.ref b2), .val (.ref b28), .val (.long qg1), .second, .val (.ref b48), .val (.int (2 : Int32))] [(.int (1 : Int32)), (.ref b28), (.ref b2)])) rfl (by rw [hml]; rfl) (rest := []) pd_7 rfl rfl (by show 2 * 0 + _ ≤ _; exact Nat.le_of_eq rfl) (hb hby at_193)
      obtain ⟨rfl, rfl, e56⟩ := hQ56
      rw [List.append_nil] at X56
      refine ownEnds.law st56 ?_
      show ownEnds _ _ _ _ (T56.setTop (mkF m 196 #[.val (.int xf), .val (.long qs0), .second, .val (.long qs1), .second, .val (.long qg1), .second, .val (.long qg2), .second, .val (.int xp), .val (.int (xf &&& (3 : Int32))), .val (.ref b1), .val (.int (0 : Int32)), .val (.ref b2), .val (.ref b28), .val (.long qg1), .second, .val (.ref b48), .val (.int (2 : Int32))] [(.int (HE ((0 : Int32).toInt64)))]))
      refine ownEnds.law (fun t k => XS.aload X56.here hx rfl (hb hby at_196) rfl rfl (XS.aload X56.here hx rfl (hb hby at_198) rfl rfl (XS.iload X56.here hx rfl (hb hby at_200) rfl k))) ?_
      show ownEnds _ _ _ _ (T56.setTop (mkF m 202 #[.val (.int xf), .val (.long qs0), .second, .val (.long qs1), .second, .val (.long qg1), .second, .val (.long qg2), .second, .val (.int xp), .val (.int (xf &&& (3 : Int32))), .val (.ref b1), .val (.int (0 : Int32)), .val (.ref b2), .val (.ref b28), .val (.long qg1), .second, .val (.ref b48), .val (.int (2 : Int32))] [(.int (2 : Int32)), (.ref b48), (.ref b2), (.int (HE ((0 : Int32).toInt64)))]))
      obtain ⟨v60, T60, L60, X60, hQ60, st60⟩ := ownCallV X56 hx hZ hown (y := (⟨"com/example/libreach/libreach/engine/StateStore", "hash", "([JI)I"⟩ : MethodName)) (z := (⟨"com/example/libreach/libreach/engine/StateStore", "hash", "([JI)I"⟩ : MethodName)) (a := b2) (as := [(.ref b48), (.int (2 : Int32))]) (wd_85 hw) (wd_86 hw) (notFace_of_selects (args := #[]) (mvT hZ (wd_88 hw))) (wd_88 hw) (wd_87 hw) (wd_3 hw) (wd_89 hw) (by decide) (rm11_0_2 l Z a0 hw b2 b48 k48 qg2 qg1 qs0 qg1 h55 n0 Z55 f57 V55) e56 f59 1 (by decide) (by decide) (by decide) (by decide) (g := (mkF m 202 #[.val (.int xf), .val (.long qs0), .second, .val (.long qs1), .second, .val (.long qg1), .second, .val (.long qg2), .second, .val (.int xp), .val (.int (xf &&& (3 : Int32))), .val (.ref b1), .val (.int (0 : Int32)), .val (.ref b2), .val (.ref b28), .val (.long qg1), .second, .val (.ref b48), .val (.int (2 : Int32))] [(.int (2 : Int32)), (.ref b48), (.ref b2), (.int (HE ((0 : Int32).toInt64)))])) rfl (by rw [hml]; rfl) (rest := [(.int (HE ((0 : Int32).toInt64)))]) pd_7 rfl rfl (by show 2 * 0 + _ ≤ _; exact Nat.le_of_eq rfl) (hb hby at_202)
      obtain ⟨rfl, rfl, e60⟩ := hQ60
      rw [List.append_nil] at X60
      refine ownEnds.law st60 ?_
      show ownEnds _ _ _ _ (T60.setTop (mkF m 205 #[.val (.int xf), .val (.long qs0), .second, .val (.long qs1), .second, .val (.long qg1), .second, .val (.long qg2), .second, .val (.int xp), .val (.int (xf &&& (3 : Int32))), .val (.ref b1), .val (.int (0 : Int32)), .val (.ref b2), .val (.ref b28), .val (.long qg1), .second, .val (.ref b48), .val (.int (2 : Int32))] [(.int (HE ((0 : Int32).toInt64))), (.int (HE ((0 : Int32).toInt64)))]))
      refine ownEnds.law (fun t => XS.icmpNo X60.here hx rfl (hb hby at_205) rfl (teq (rfl : (HE ((0 : Int32).toInt64)) = (HE ((0 : Int32).toInt64)))).2) ?_
      show ownEnds _ _ _ _ (T60.setTop (mkF m 208 #[.val (.int xf), .val (.long qs0), .second, .val (.long qs1), .second, .val (.long qg1), .second, .val (.long qg2), .second, .val (.int xp), .val (.int (xf &&& (3 : Int32))), .val (.ref b1), .val (.int (0 : Int32)), .val (.ref b2), .val (.ref b28), .val (.long qg1), .second, .val (.ref b48), .val (.int (2 : Int32))] []))
      refine ownEnds.law (fun t k => XS.iconst X60.here hx rfl (hb hby at_208) (XS.goto X60.here hx rfl (pc0 := 209) (pc' := 213) rfl (hb hby at_209) (by decide) (by decide) k)) ?_
      show ownEnds _ _ _ _ (T60.setTop (mkF m 213 #[.val (.int xf), .val (.long qs0), .second, .val (.long qs1), .second, .val (.long qg1), .second, .val (.long qg2), .second, .val (.int xp), .val (.int (xf &&& (3 : Int32))), .val (.ref b1), .val (.int (0 : Int32)), .val (.ref b2), .val (.ref b28), .val (.long qg1), .second, .val (.ref b48), .val (.int (2 : Int32))] [(.int (1 : Int32))]))
      refine ownRetN X60 hlk hx (t := .boolean) hret (by simp) (hb hby at_213) (by decide) (by decide) ?_
      exact ⟨rfl, N55⟩
  · refine ownEnds.law (fun t => XS.ifYes X0.here hx rfl (pc0 := 7) (pc' := 18) rfl (hb hby at_7) rfl ((if0 _ _).trans (feq hc7).2) (by decide) (by decide)) ?_
    show ownEnds _ _ _ _ (T0.setTop (mkF m 18 #[.val (.int xf), .val (.long qs0), .second, .val (.long qs1), .second, .val (.long qg1), .second, .val (.long qg2), .second, .val (.int xp), .val (.int (xf &&& (3 : Int32))), .unset, .unset, .unset, .unset, .unset, .unset, .unset, .unset] []))
    refine ownEnds.law (fun t k => XS.iload X0.here hx rfl (hb hby at_18) rfl (XS.iconst X0.here hx rfl (hb hby at_20) k)) ?_
    show ownEnds _ _ _ _ (T0.setTop (mkF m 21 #[.val (.int xf), .val (.long qs0), .second, .val (.long qs1), .second, .val (.long qg1), .second, .val (.long qg2), .second, .val (.int xp), .val (.int (xf &&& (3 : Int32))), .unset, .unset, .unset, .unset, .unset, .unset, .unset, .unset] [(.int (1 : Int32)), (.int (xf &&& (3 : Int32)))]))
    by_cases hc21 : (xf &&& (3 : Int32)) = (1 : Int32)
    · refine ownEnds.law (fun t => XS.icmpNo X0.here hx rfl (hb hby at_21) rfl (teq hc21).2) ?_
      show ownEnds _ _ _ _ (T0.setTop (mkF m 24 #[.val (.int xf), .val (.long qs0), .second, .val (.long qs1), .second, .val (.long qg1), .second, .val (.long qg2), .second, .val (.int xp), .val (.int (xf &&& (3 : Int32))), .unset, .unset, .unset, .unset, .unset, .unset, .unset, .unset] []))
      refine ownEnds.law (fun t k => XS.iconst X0.here hx rfl (hb hby at_24) k) ?_
      show ownEnds _ _ _ _ (T0.setTop (mkF m 25 #[.val (.int xf), .val (.long qs0), .second, .val (.long qs1), .second, .val (.long qg1), .second, .val (.long qg2), .second, .val (.int xp), .val (.int (xf &&& (3 : Int32))), .unset, .unset, .unset, .unset, .unset, .unset, .unset, .unset] [(.int (2 : Int32))]))
      obtain ⟨T61, h61, k61, X61, e61, E61, A61, Ax61, st61⟩ := newPE X0 hx hZ (aty := .int) (wd_0 hw) e0 (g := (mkF m 25 #[.val (.int xf), .val (.long qs0), .second, .val (.long qs1), .second, .val (.long qg1), .second, .val (.long qg2), .second, .val (.int xp), .val (.int (xf &&& (3 : Int32))), .unset, .unset, .unset, .unset, .unset, .unset, .unset, .unset] [(.int (2 : Int32))])) rfl (hb hby at_25) rfl (by decide) (cap := 2) (by decide) (by decide) (by decide) (by decide) (ad := "[I") (by decide)
      obtain ⟨b61, g61⟩ : ∃ z, z = h0.size := ⟨_, rfl⟩
      rw [← g61] at A61 st61 Ax61
      refine ownEnds.law st61 ?_
      have V_b61 : Arv Z h61 b61 k61 .int (2 : Int32) [(.int (0 : Int32)), (.int (0 : Int32))] (.int (0 : Int32)) := (Arv.new A61 (by decide)).pad (pad_rep [] (.int (0 : Int32)) 2)
      have g_b61 : n0 ≤ b61 := Nat.le_trans Z0 (Nat.le_of_eq g61.symm)
      have Z61 : n0 ≤ h61.size := Nat.le_trans Z0 E61.1
      show ownEnds _ _ _ _ (T61.setTop (mkF m 27 #[.val (.int xf), .val (.long qs0), .second, .val (.long qs1), .second, .val (.long qg1), .second, .val (.long qg2), .second, .val (.int xp), .val (.int (xf &&& (3 : Int32))), .unset, .unset, .unset, .unset, .unset, .unset, .unset, .unset] [(.ref b61)]))
      refine ownEnds.law (fun t k => XS.dup X61.here hx rfl (hb hby at_27) rfl rfl (XS.iconst X61.here hx rfl (hb hby at_28) (XS.bipush X61.here hx rfl (hb hby at_29) k))) ?_
      show ownEnds _ _ _ _ (T61.setTop (mkF m 31 #[.val (.int xf), .val (.long qs0), .second, .val (.long qs1), .second, .val (.long qg1), .second, .val (.long qg2), .second, .val (.int xp), .val (.int (xf &&& (3 : Int32))), .unset, .unset, .unset, .unset, .unset, .unset, .unset, .unset] [(.int (32 : Int32)), (.int (0 : Int32)), (.ref b61), (.ref b61)]))
      obtain ⟨cl62, Ar62, q62, S62, N62, H62, G62⟩ := id V_b61
      obtain ⟨T62, h62, X62, e62, W62, st62⟩ := stI X61 hx hZ e61 Ar62 (j := (0 : Int32)) (inb_of S62 ⟨by decide, by decide⟩) (g := (mkF m 31 #[.val (.int xf), .val (.long qs0), .second, .val (.long qs1), .second, .val (.long qg1), .second, .val (.long qg2), .second, .val (.int xp), .val (.int (xf &&& (3 : Int32))), .unset, .unset, .unset, .unset, .unset, .unset, .unset, .unset] [(.int (32 : Int32)), (.int (0 : Int32)), (.ref b61), (.ref b61)])) rfl rfl (hb hby at_31)
      refine ownEnds.law st62 ?_
      have V62 : Arv Z h62 b61 k61 .int (2 : Int32) [(.int (32 : Int32)), (.int (0 : Int32))] (.int (0 : Int32)) := Arv.set Ar62 q62 S62 N62 H62 G62 rfl W62 0 rfl (Nat.le_of_ble_eq_true rfl)
      have N62 := Fr.snoc X62 (Fr.nil n0) g_b61
      have Z62 : n0 ≤ h62.size := by rw [W62.size]; exact Z61
      show ownEnds _ _ _ _ (T62.setTop (mkF m 32 #[.val (.int xf), .val (.long qs0), .second, .val (.long qs1), .second, .val (.long qg1), .second, .val (.long qg2), .second, .val (.int xp), .val (.int (xf &&& (3 : Int32))), .unset, .unset, .unset, .unset, .unset, .unset, .unset, .unset] [(.ref b61)]))
      refine ownEnds.law (fun t k => XS.dup X62.here hx rfl (hb hby at_32) rfl rfl (XS.iconst X62.here hx rfl (hb hby at_33) (XS.bipush X62.here hx rfl (hb hby at_34) k))) ?_
      show ownEnds _ _ _ _ (T62.setTop (mkF m 36 #[.val (.int xf), .val (.long qs0), .second, .val (.long qs1), .second, .val (.long qg1), .second, .val (.long qg2), .second, .val (.int xp), .val (.int (xf &&& (3 : Int32))), .unset, .unset, .unset, .unset, .unset, .unset, .unset, .unset] [(.int (32 : Int32)), (.int (1 : Int32)), (.ref b61), (.ref b61)]))
      obtain ⟨cl63, Ar63, q63, S63, N63, H63, G63⟩ := id V62
      obtain ⟨T63, h63, X63, e63, W63, st63⟩ := stI X62 hx hZ e62 Ar63 (j := (1 : Int32)) (inb_of S63 ⟨by decide, by decide⟩) (g := (mkF m 36 #[.val (.int xf), .val (.long qs0), .second, .val (.long qs1), .second, .val (.long qg1), .second, .val (.long qg2), .second, .val (.int xp), .val (.int (xf &&& (3 : Int32))), .unset, .unset, .unset, .unset, .unset, .unset, .unset, .unset] [(.int (32 : Int32)), (.int (1 : Int32)), (.ref b61), (.ref b61)])) rfl rfl (hb hby at_36)
      refine ownEnds.law st63 ?_
      have V63 : Arv Z h63 b61 k61 .int (2 : Int32) [(.int (32 : Int32)), (.int (32 : Int32))] (.int (0 : Int32)) := Arv.set Ar63 q63 S63 N63 H63 G63 rfl W63 1 rfl (Nat.le_of_ble_eq_true rfl)
      have N63 := Fr.snoc X63 N62 g_b61
      have Z63 : n0 ≤ h63.size := by rw [W63.size]; exact Z62
      show ownEnds _ _ _ _ (T63.setTop (mkF m 37 #[.val (.int xf), .val (.long qs0), .second, .val (.long qs1), .second, .val (.long qg1), .second, .val (.long qg2), .second, .val (.int xp), .val (.int (xf &&& (3 : Int32))), .unset, .unset, .unset, .unset, .unset, .unset, .unset, .unset] [(.ref b61)]))
      refine ownEnds.law (fun t k => XS.astore X63.here hx rfl (hb hby at_37) rfl rfl (l' := #[.val (.int xf), .val (.long qs0), .second, .val (.long qs1), .second, .val (.long qg1), .second, .val (.long qg2), .second, .val (.int xp), .val (.int (xf &&& (3 : Int32))), .val (.ref b61), .unset, .unset, .unset, .unset, .unset, .unset, .unset]) rfl (XS.goto X63.here hx rfl (pc0 := 39) (pc' := 57) rfl (hb hby at_39) (by decide) (by decide) (XS.iload X63.here hx rfl (hb hby at_57) rfl (XS.iconst X63.here hx rfl (hb hby at_59) k)))) ?_
      show ownEnds _ _ _ _ (T63.setTop (mkF m 60 #[.val (.int xf), .val (.long qs0), .second, .val (.long qs1), .second, .val (.long qg1), .second, .val (.long qg2), .second, .val (.int xp), .val (.int (xf &&& (3 : Int32))), .val (.ref b61), .unset, .unset, .unset, .unset, .unset, .unset, .unset] [(.int (2 : Int32)), (.int (xf &&& (3 : Int32)))]))
      have hc60 : (xf &&& (3 : Int32)) < (2 : Int32) := by rw [hc21]; decide
      refine ownEnds.law (fun t => XS.icmpYes X63.here hx rfl (pc0 := 60) (pc' := 67) rfl (hb hby at_60) rfl (tlt hc60).1 (by decide) (by decide)) ?_
      show ownEnds _ _ _ _ (T63.setTop (mkF m 67 #[.val (.int xf), .val (.long qs0), .second, .val (.long qs1), .second, .val (.long qg1), .second, .val (.long qg2), .second, .val (.int xp), .val (.int (xf &&& (3 : Int32))), .val (.ref b61), .unset, .unset, .unset, .unset, .unset, .unset, .unset] []))
      refine ownEnds.law (fun t k => XS.iconst X63.here hx rfl (hb hby at_67) (XS.istore X63.here hx rfl (hb hby at_68) rfl (l' := #[.val (.int xf), .val (.long qs0), .second, .val (.long qs1), .second, .val (.long qg1), .second, .val (.long qg2), .second, .val (.int xp), .val (.int (xf &&& (3 : Int32))), .val (.ref b61), .val (.int (0 : Int32)), .unset, .unset, .unset, .unset, .unset, .unset]) rfl k)) ?_
      show ownEnds _ _ _ _ (T63.setTop (mkF m 70 #[.val (.int xf), .val (.long qs0), .second, .val (.long qs1), .second, .val (.long qg1), .second, .val (.long qg2), .second, .val (.int xp), .val (.int (xf &&& (3 : Int32))), .val (.ref b61), .val (.int (0 : Int32)), .unset, .unset, .unset, .unset, .unset, .unset] []))
      obtain ⟨T64, h64, X64, e64, E64, A64, D64, -, st64⟩ := newO X63 hx hZ hown (wd_1 hw) (wd_2 hw) (wd_3 hw) e63 (g := (mkF m 70 #[.val (.int xf), .val (.long qs0), .second, .val (.long qs1), .second, .val (.long qg1), .second, .val (.long qg2), .second, .val (.int xp), .val (.int (xf &&& (3 : Int32))), .val (.ref b61), .val (.int (0 : Int32)), .unset, .unset, .unset, .unset, .unset, .unset] [])) rfl (hb hby at_70) (by decide) (by decide)
      obtain ⟨b64, g64⟩ : ∃ z, z = h63.size := ⟨_, rfl⟩
      rw [← g64] at A64 D64 st64
      refine ownEnds.law st64 ?_
      have ne_b61_b64 : b61 ≠ b64 := Nat.ne_of_lt (Nat.lt_of_lt_of_eq V63.lt g64.symm)
      have g_b64 : n0 ≤ b64 := Nat.le_trans Z63 (Nat.le_of_eq g64.symm)
      have Z64 : n0 ≤ h64.size := Nat.le_trans Z63 E64.1
      have F65 : Fld Z h64 b64 "com/example/libreach/libreach/engine/StateStore" "layout" "Lcom/example/libreach/libreach/engine/StateLayout;" .null := D64 (Or.inl (wd_53 hw)) (ty := (.object "com/example/libreach/libreach/engine/StateLayout")) (by decide)
      have F66 : Fld Z h64 b64 "com/example/libreach/libreach/engine/StateStore" "words" "I" (.int (0 : Int32)) := D64 (Or.inl (wd_60 hw)) (ty := .int) (by decide)
      have F67 : Fld Z h64 b64 "com/example/libreach/libreach/engine/StateStore" "recordWords" "I" (.int (0 : Int32)) := D64 (Or.inl (wd_62 hw)) (ty := .int) (by decide)
      have F68 : Fld Z h64 b64 "com/example/libreach/libreach/engine/StateStore" "pageShift" "I" (.int (0 : Int32)) := D64 (Or.inl (wd_77 hw)) (ty := .int) (by decide)
      have F69 : Fld Z h64 b64 "com/example/libreach/libreach/engine/StateStore" "pages" "[[J" .null := D64 (Or.inl (wd_81 hw)) (ty := (.array (.array .long))) (by decide)
      have F70 : Fld Z h64 b64 "com/example/libreach/libreach/engine/StateStore" "table" "[J" .null := D64 (Or.inl (wd_84 hw)) (ty := (.array .long)) (by decide)
      show ownEnds _ _ _ _ (T64.setTop (mkF m 73 #[.val (.int xf), .val (.long qs0), .second, .val (.long qs1), .second, .val (.long qg1), .second, .val (.long qg2), .second, .val (.int xp), .val (.int (xf &&& (3 : Int32))), .val (.ref b61), .val (.int (0 : Int32)), .unset, .unset, .unset, .unset, .unset, .unset] [(.ref b64)]))
      refine ownEnds.law (fun t k => XS.dup X64.here hx rfl (hb hby at_73) rfl rfl k) ?_
      show ownEnds _ _ _ _ (T64.setTop (mkF m 74 #[.val (.int xf), .val (.long qs0), .second, .val (.long qs1), .second, .val (.long qg1), .second, .val (.long qg2), .second, .val (.int xp), .val (.int (xf &&& (3 : Int32))), .val (.ref b61), .val (.int (0 : Int32)), .unset, .unset, .unset, .unset, .unset, .unset] [(.ref b64), (.ref b64)]))
      obtain ⟨T71, h71, X71, e71, E71, A71, D71, -, st71⟩ := newO X64 hx hZ hown (wd_4 hw) (wd_5 hw) (wd_6 hw) e64 (g := (mkF m 74 #[.val (.int xf), .val (.long qs0), .second, .val (.long qs1), .second, .val (.long qg1), .second, .val (.long qg2), .second, .val (.int xp), .val (.int (xf &&& (3 : Int32))), .val (.ref b61), .val (.int (0 : Int32)), .unset, .unset, .unset, .unset, .unset, .unset] [(.ref b64), (.ref b64)])) rfl (hb hby at_74) (by decide) (by decide)
      obtain ⟨b71, g71⟩ : ∃ z, z = h64.size := ⟨_, rfl⟩
      rw [← g71] at A71 D71 st71
      refine ownEnds.law st71 ?_
      have f72 := (Arv.ext V63 E64)
      have ne_b61_b71 : b61 ≠ b71 := Nat.ne_of_lt (Nat.lt_of_lt_of_eq f72.lt g71.symm)
      have ne_b64_b71 : b64 ≠ b71 := Nat.ne_of_lt (Nat.lt_of_lt_of_eq A64.lt g71.symm)
      have g_b71 : n0 ≤ b71 := Nat.le_trans Z64 (Nat.le_of_eq g71.symm)
      have Z71 : n0 ≤ h71.size := Nat.le_trans Z64 E71.1
      have F73 : Fld Z h71 b71 "com/example/libreach/libreach/engine/StateLayout" "widths" "[I" .null := D71 (Or.inr (wd_23 hw)) (ty := (.array .int)) (by decide)
      have F74 : Fld Z h71 b71 "com/example/libreach/libreach/engine/StateLayout" "word" "[I" .null := D71 (Or.inr (wd_25 hw)) (ty := (.array .int)) (by decide)
      have F75 : Fld Z h71 b71 "com/example/libreach/libreach/engine/StateLayout" "shift" "[I" .null := D71 (Or.inr (wd_27 hw)) (ty := (.array .int)) (by decide)
      have F76 : Fld Z h71 b71 "com/example/libreach/libreach/engine/StateLayout" "largest" "[J" .null := D71 (Or.inr (wd_30 hw)) (ty := (.array .long)) (by decide)
      have F77 : Fld Z h71 b71 "com/example/libreach/libreach/engine/StateLayout" "words" "I" (.int (0 : Int32)) := D71 (Or.inr (wd_32 hw)) (ty := .int) (by decide)
      have F78 : Fld Z h71 b71 "com/example/libreach/libreach/engine/StateLayout" "runs" "[I" .null := D71 (Or.inr (wd_40 hw)) (ty := (.array .int)) (by decide)
      show ownEnds _ _ _ _ (T71.setTop (mkF m 77 #[.val (.int xf), .val (.long qs0), .second, .val (.long qs1), .second, .val (.long qg1), .second, .val (.long qg2), .second, .val (.int xp), .val (.int (xf &&& (3 : Int32))), .val (.ref b61), .val (.int (0 : Int32)), .unset, .unset, .unset, .unset, .unset, .unset] [(.ref b71), (.ref b64), (.ref b64)]))
      refine ownEnds.law (fun t k => XS.dup X71.here hx rfl (hb hby at_77) rfl rfl (XS.aload X71.here hx rfl (hb hby at_78) rfl rfl k)) ?_
      show ownEnds _ _ _ _ (T71.setTop (mkF m 80 #[.val (.int xf), .val (.long qs0), .second, .val (.long qs1), .second, .val (.long qg1), .second, .val (.long qg2), .second, .val (.int xp), .val (.int (xf &&& (3 : Int32))), .val (.ref b61), .val (.int (0 : Int32)), .unset, .unset, .unset, .unset, .unset, .unset] [(.ref b61), (.ref b71), (.ref b71), (.ref b64), (.ref b64)]))
      have f80 := (Exa.ext E71 (Exa.ext E64 (Exa.wr W63 (Exa.wr W62 Ax61))))
      have f81 := (Arv.ext f72 E71)
      obtain ⟨v79, T79, L79, X79, hQ79, st79⟩ := ownCallC X71 hx hZ hown (y := (⟨"com/example/libreach/libreach/engine/StateLayout", "<init>", "([I)V"⟩ : MethodName)) rfl (a := b71) (as := [(.ref b61)]) (wd_7 hw) (wd_8 hw) (wd_6 hw) (wd_9 hw) (by decide) (rm1_1 l Z a0 hw b71 b61 k61 h71 n0 Z71 A71 g_b71 F73 F74 F75 F76 F77 F78 f80 f81) e71 3 (by decide) (by decide) (by decide) (by decide) (g := (mkF m 80 #[.val (.int xf), .val (.long qs0), .second, .val (.long qs1), .second, .val (.long qg1), .second, .val (.long qg2), .second, .val (.int xp), .val (.int (xf &&& (3 : Int32))), .val (.ref b61), .val (.int (0 : Int32)), .unset, .unset, .unset, .unset, .unset, .unset] [(.ref b61), (.ref b71), (.ref b71), (.ref b64), (.ref b64)])) rfl (by rw [hml]; rfl) (rest := [(.ref b71), (.ref b64), (.ref b64)]) pd_6 rfl rfl (by show 2 * 0 + _ ≤ _; exact Nat.le_of_eq rfl) (hb hby at_80)
      obtain ⟨rfl, Nq79, Kq79, Eq79, Fc79_0⟩ := hQ79
      have N79 := Fr.app N63 Nq79
      have Z79 : n0 ≤ T79.heap.size := Nat.le_trans Z71 Kq79.1
      refine ownEnds.law st79 ?_
      show ownEnds _ _ _ _ (T79.setTop (mkF m 83 #[.val (.int xf), .val (.long qs0), .second, .val (.long qs1), .second, .val (.long qg1), .second, .val (.long qg2), .second, .val (.int xp), .val (.int (xf &&& (3 : Int32))), .val (.ref b61), .val (.int (0 : Int32)), .unset, .unset, .unset, .unset, .unset, .unset] [(.ref b71), (.ref b64), (.ref b64)]))
      have f83 := (Exa.keep (Exa.ext E71 A64) Kq79)
      have f84 := (Fld.keep (Fld.ext E71 F65) Kq79 (ninS ne_b64_b71 nin0))
      have f85 := (Fld.keep (Fld.ext E71 F66) Kq79 (ninS ne_b64_b71 nin0))
      have f86 := (Fld.keep (Fld.ext E71 F67) Kq79 (ninS ne_b64_b71 nin0))
      have f87 := (Fld.keep (Fld.ext E71 F68) Kq79 (ninS ne_b64_b71 nin0))
      have f88 := (Fld.keep (Fld.ext E71 F69) Kq79 (ninS ne_b64_b71 nin0))
      have f89 := (Fld.keep (Fld.ext E71 F70) Kq79 (ninS ne_b64_b71 nin0))
      obtain ⟨v82, T82, L82, X82, hQ82, st82⟩ := ownCallC X79 hx hZ hown (y := (⟨"com/example/libreach/libreach/engine/StateStore", "<init>", "(Lcom/example/libreach/libreach/engine/StateLayout;)V"⟩ : MethodName)) rfl (a := b64) (as := [(.ref b71)]) (wd_41 hw) (wd_42 hw) (wd_3 hw) (wd_43 hw) (by decide) (rm4_1 l Z a0 hw b64 b71  T79.heap n0 Z79 f83 g_b64 f84 f85 f86 f87 f88 f89 Eq79 Fc79_0) rfl 1 (by decide) (by decide) (by decide) (by decide) (g := (mkF m 83 #[.val (.int xf), .val (.long qs0), .second, .val (.long qs1), .second, .val (.long qg1), .second, .val (.long qg2), .second, .val (.int xp), .val (.int (xf &&& (3 : Int32))), .val (.ref b61), .val (.int (0 : Int32)), .unset, .unset, .unset, .unset, .unset, .unset] [(.ref b71), (.ref b64), (.ref b64)])) rfl (by rw [hml]; rfl) (rest := [(.ref b64)]) pd_4 rfl rfl (by show 2 * 0 + _ ≤ _; exact Nat.le_of_eq rfl) (hb hby at_83)
      obtain ⟨rfl, Nq82, Kq82, Eq82, Fc82_0⟩ := hQ82
      have N82 := Fr.app N79 Nq82
      have Z82 : n0 ≤ T82.heap.size := Nat.le_trans Z79 Kq82.1
      refine ownEnds.law st82 ?_
      show ownEnds _ _ _ _ (T82.setTop (mkF m 86 #[.val (.int xf), .val (.long qs0), .second, .val (.long qs1), .second, .val (.long qg1), .second, .val (.long qg2), .second, .val (.int xp), .val (.int (xf &&& (3 : Int32))), .val (.ref b61), .val (.int (0 : Int32)), .unset, .unset, .unset, .unset, .unset, .unset] [(.ref b64)]))
      refine ownEnds.law (fun t k => XS.astore X82.here hx rfl (hb hby at_86) rfl rfl (l' := #[.val (.int xf), .val (.long qs0), .second, .val (.long qs1), .second, .val (.long qg1), .second, .val (.long qg2), .second, .val (.int xp), .val (.int (xf &&& (3 : Int32))), .val (.ref b61), .val (.int (0 : Int32)), .val (.ref b64), .unset, .unset, .unset, .unset, .unset]) rfl (XS.iconst X82.here hx rfl (hb hby at_88) k)) ?_
      show ownEnds _ _ _ _ (T82.setTop (mkF m 89 #[.val (.int xf), .val (.long qs0), .second, .val (.long qs1), .second, .val (.long qg1), .second, .val (.long qg2), .second, .val (.int xp), .val (.int (xf &&& (3 : Int32))), .val (.ref b61), .val (.int (0 : Int32)), .val (.ref b64), .unset, .unset, .unset, .unset, .unset] [(.int (4 : Int32))]))
      obtain ⟨T90, h90, k90, X90, e90, E90, A90, st90⟩ := newP X82 hx hZ (aty := .long) (wd_28 hw) rfl (g := (mkF m 89 #[.val (.int xf), .val (.long qs0), .second, .val (.long qs1), .second, .val (.long qg1), .second, .val (.long qg2), .second, .val (.int xp), .val (.int (xf &&& (3 : Int32))), .val (.ref b61), .val (.int (0 : Int32)), .val (.ref b64), .unset, .unset, .unset, .unset, .unset] [(.int (4 : Int32))])) rfl (hb hby at_89) rfl (by decide) (cap := 4) (by decide) (by decide) (by decide) (by decide)
      obtain ⟨b90, g90⟩ : ∃ z, z = T82.heap.size := ⟨_, rfl⟩
      rw [← g90] at A90 st90
      refine ownEnds.law st90 ?_
      have V_b90 : Arv Z h90 b90 k90 .long (4 : Int32) [(.long (0 : Int64)), (.long (0 : Int64)), (.long (0 : Int64)), (.long (0 : Int64))] (.long (0 : Int64)) := (Arv.new A90 (by decide)).pad (pad_rep [] (.long (0 : Int64)) 4)
      have f91 := (Arv.keep (Arv.keep f81 Kq79 (ninS ne_b61_b71 nin0)) Kq82 (ninS ne_b61_b64 nin0))
      have ne_b61_b90 : b61 ≠ b90 := Nat.ne_of_lt (Nat.lt_of_lt_of_eq f91.lt g90.symm)
      have ne_b64_b90 : b64 ≠ b90 := Nat.ne_of_lt (Nat.lt_of_lt_of_eq Eq82.lt g90.symm)
      have f92 := (Exa.keep Eq79 Kq82)
      have ne_b71_b90 : b71 ≠ b90 := Nat.ne_of_lt (Nat.lt_of_lt_of_eq f92.lt g90.symm)
      have g_b90 : n0 ≤ b90 := Nat.le_trans Z82 (Nat.le_of_eq g90.symm)
      have Z90 : n0 ≤ h90.size := Nat.le_trans Z82 E90.1
      show ownEnds _ _ _ _ (T90.setTop (mkF m 91 #[.val (.int xf), .val (.long qs0), .second, .val (.long qs1), .second, .val (.long qg1), .second, .val (.long qg2), .second, .val (.int xp), .val (.int (xf &&& (3 : Int32))), .val (.ref b61), .val (.int (0 : Int32)), .val (.ref b64), .unset, .unset, .unset, .unset, .unset] [(.ref b90)]))
      refine ownEnds.law (fun t k => XS.dup X90.here hx rfl (hb hby at_91) rfl rfl (XS.iconst X90.here hx rfl (hb hby at_92) (XS.lload X90.here hx rfl (hb hby at_93) rfl k))) ?_
      show ownEnds _ _ _ _ (T90.setTop (mkF m 95 #[.val (.int xf), .val (.long qs0), .second, .val (.long qs1), .second, .val (.long qg1), .second, .val (.long qg2), .second, .val (.int xp), .val (.int (xf &&& (3 : Int32))), .val (.ref b61), .val (.int (0 : Int32)), .val (.ref b64), .unset, .unset, .unset, .unset, .unset] [(.long qg1), (.int (0 : Int32)), (.ref b90), (.ref b90)]))
      obtain ⟨cl93, Ar93, q93, S93, N93, H93, G93⟩ := id V_b90
      obtain ⟨T93, h93, X93, e93, W93, st93⟩ := stJ X90 hx hZ e90 Ar93 (j := (0 : Int32)) (inb_of S93 ⟨by decide, by decide⟩) (g := (mkF m 95 #[.val (.int xf), .val (.long qs0), .second, .val (.long qs1), .second, .val (.long qg1), .second, .val (.long qg2), .second, .val (.int xp), .val (.int (xf &&& (3 : Int32))), .val (.ref b61), .val (.int (0 : Int32)), .val (.ref b64), .unset, .unset, .unset, .unset, .unset] [(.long qg1), (.int (0 : Int32)), (.ref b90), (.ref b90)])) rfl rfl (hb hby at_95)
      refine ownEnds.law st93 ?_
      have V93 : Arv Z h93 b90 k90 .long (4 : Int32) [(.long qg1), (.long (0 : Int64)), (.long (0 : Int64)), (.long (0 : Int64))] (.long (0 : Int64)) := Arv.set Ar93 q93 S93 N93 H93 G93 rfl W93 0 rfl (Nat.le_of_ble_eq_true rfl)
      have N93 := Fr.snoc X93 N82 g_b90
      have Z93 : n0 ≤ h93.size := by rw [W93.size]; exact Z90
      show ownEnds _ _ _ _ (T93.setTop (mkF m 96 #[.val (.int xf), .val (.long qs0), .second, .val (.long qs1), .second, .val (.long qg1), .second, .val (.long qg2), .second, .val (.int xp), .val (.int (xf &&& (3 : Int32))), .val (.ref b61), .val (.int (0 : Int32)), .val (.ref b64), .unset, .unset, .unset, .unset, .unset] [(.ref b90)]))
      refine ownEnds.law (fun t k => XS.dup X93.here hx rfl (hb hby at_96) rfl rfl (XS.iconst X93.here hx rfl (hb hby at_97) (XS.lloadN X93.here hx rfl (hb hby at_98) rfl k))) ?_
      show ownEnds _ _ _ _ (T93.setTop (mkF m 99 #[.val (.int xf), .val (.long qs0), .second, .val (.long qs1), .second, .val (.long qg1), .second, .val (.long qg2), .second, .val (.int xp), .val (.int (xf &&& (3 : Int32))), .val (.ref b61), .val (.int (0 : Int32)), .val (.ref b64), .unset, .unset, .unset, .unset, .unset] [(.long qs0), (.int (1 : Int32)), (.ref b90), (.ref b90)]))
      obtain ⟨cl94, Ar94, q94, S94, N94, H94, G94⟩ := id V93
      obtain ⟨T94, h94, X94, e94, W94, st94⟩ := stJ X93 hx hZ e93 Ar94 (j := (1 : Int32)) (inb_of S94 ⟨by decide, by decide⟩) (g := (mkF m 99 #[.val (.int xf), .val (.long qs0), .second, .val (.long qs1), .second, .val (.long qg1), .second, .val (.long qg2), .second, .val (.int xp), .val (.int (xf &&& (3 : Int32))), .val (.ref b61), .val (.int (0 : Int32)), .val (.ref b64), .unset, .unset, .unset, .unset, .unset] [(.long qs0), (.int (1 : Int32)), (.ref b90), (.ref b90)])) rfl rfl (hb hby at_99)
      refine ownEnds.law st94 ?_
      have V94 : Arv Z h94 b90 k90 .long (4 : Int32) [(.long qg1), (.long qs0), (.long (0 : Int64)), (.long (0 : Int64))] (.long (0 : Int64)) := Arv.set Ar94 q94 S94 N94 H94 G94 rfl W94 1 rfl (Nat.le_of_ble_eq_true rfl)
      have N94 := Fr.snoc X94 N93 g_b90
      have Z94 : n0 ≤ h94.size := by rw [W94.size]; exact Z93
      show ownEnds _ _ _ _ (T94.setTop (mkF m 100 #[.val (.int xf), .val (.long qs0), .second, .val (.long qs1), .second, .val (.long qg1), .second, .val (.long qg2), .second, .val (.int xp), .val (.int (xf &&& (3 : Int32))), .val (.ref b61), .val (.int (0 : Int32)), .val (.ref b64), .unset, .unset, .unset, .unset, .unset] [(.ref b90)]))
      refine ownEnds.law (fun t k => XS.dup X94.here hx rfl (hb hby at_100) rfl rfl (XS.iconst X94.here hx rfl (hb hby at_101) (XS.lloadN X94.here hx rfl (hb hby at_102) rfl k))) ?_
      show ownEnds _ _ _ _ (T94.setTop (mkF m 103 #[.val (.int xf), .val (.long qs0), .second, .val (.long qs1), .second, .val (.long qg1), .second, .val (.long qg2), .second, .val (.int xp), .val (.int (xf &&& (3 : Int32))), .val (.ref b61), .val (.int (0 : Int32)), .val (.ref b64), .unset, .unset, .unset, .unset, .unset] [(.long qs1), (.int (2 : Int32)), (.ref b90), (.ref b90)]))
      obtain ⟨cl95, Ar95, q95, S95, N95, H95, G95⟩ := id V94
      obtain ⟨T95, h95, X95, e95, W95, st95⟩ := stJ X94 hx hZ e94 Ar95 (j := (2 : Int32)) (inb_of S95 ⟨by decide, by decide⟩) (g := (mkF m 103 #[.val (.int xf), .val (.long qs0), .second, .val (.long qs1), .second, .val (.long qg1), .second, .val (.long qg2), .second, .val (.int xp), .val (.int (xf &&& (3 : Int32))), .val (.ref b61), .val (.int (0 : Int32)), .val (.ref b64), .unset, .unset, .unset, .unset, .unset] [(.long qs1), (.int (2 : Int32)), (.ref b90), (.ref b90)])) rfl rfl (hb hby at_103)
      refine ownEnds.law st95 ?_
      have V95 : Arv Z h95 b90 k90 .long (4 : Int32) [(.long qg1), (.long qs0), (.long qs1), (.long (0 : Int64))] (.long (0 : Int64)) := Arv.set Ar95 q95 S95 N95 H95 G95 rfl W95 2 rfl (Nat.le_of_ble_eq_true rfl)
      have N95 := Fr.snoc X95 N94 g_b90
      have Z95 : n0 ≤ h95.size := by rw [W95.size]; exact Z94
      show ownEnds _ _ _ _ (T95.setTop (mkF m 104 #[.val (.int xf), .val (.long qs0), .second, .val (.long qs1), .second, .val (.long qg1), .second, .val (.long qg2), .second, .val (.int xp), .val (.int (xf &&& (3 : Int32))), .val (.ref b61), .val (.int (0 : Int32)), .val (.ref b64), .unset, .unset, .unset, .unset, .unset] [(.ref b90)]))
      refine ownEnds.law (fun t k => XS.dup X95.here hx rfl (hb hby at_104) rfl rfl (XS.iconst X95.here hx rfl (hb hby at_105) (XS.lload X95.here hx rfl (hb hby at_106) rfl k))) ?_
      show ownEnds _ _ _ _ (T95.setTop (mkF m 108 #[.val (.int xf), .val (.long qs0), .second, .val (.long qs1), .second, .val (.long qg1), .second, .val (.long qg2), .second, .val (.int xp), .val (.int (xf &&& (3 : Int32))), .val (.ref b61), .val (.int (0 : Int32)), .val (.ref b64), .unset, .unset, .unset, .unset, .unset] [(.long qg2), (.int (3 : Int32)), (.ref b90), (.ref b90)]))
      obtain ⟨cl96, Ar96, q96, S96, N96, H96, G96⟩ := id V95
      obtain ⟨T96, h96, X96, e96, W96, st96⟩ := stJ X95 hx hZ e95 Ar96 (j := (3 : Int32)) (inb_of S96 ⟨by decide, by decide⟩) (g := (mkF m 108 #[.val (.int xf), .val (.long qs0), .second, .val (.long qs1), .second, .val (.long qg1), .second, .val (.long qg2), .second, .val (.int xp), .val (.int (xf &&& (3 : Int32))), .val (.ref b61), .val (.int (0 : Int32)), .val (.ref b64), .unset, .unset, .unset, .unset, .unset] [(.long qg2), (.int (3 : Int32)), (.ref b90), (.ref b90)])) rfl rfl (hb hby at_108)
      refine ownEnds.law st96 ?_
      have V96 : Arv Z h96 b90 k90 .long (4 : Int32) [(.long qg1), (.long qs0), (.long qs1), (.long qg2)] (.long (0 : Int64)) := Arv.set Ar96 q96 S96 N96 H96 G96 rfl W96 3 rfl (Nat.le_of_ble_eq_true rfl)
      have N96 := Fr.snoc X96 N95 g_b90
      have Z96 : n0 ≤ h96.size := by rw [W96.size]; exact Z95
      show ownEnds _ _ _ _ (T96.setTop (mkF m 109 #[.val (.int xf), .val (.long qs0), .second, .val (.long qs1), .second, .val (.long qg1), .second, .val (.long qg2), .second, .val (.int xp), .val (.int (xf &&& (3 : Int32))), .val (.ref b61), .val (.int (0 : Int32)), .val (.ref b64), .unset, .unset, .unset, .unset, .unset] [(.ref b90)]))
      refine ownEnds.law (fun t k => XS.astore X96.here hx rfl (hb hby at_109) rfl rfl (l' := #[.val (.int xf), .val (.long qs0), .second, .val (.long qs1), .second, .val (.long qg1), .second, .val (.long qg2), .second, .val (.int xp), .val (.int (xf &&& (3 : Int32))), .val (.ref b61), .val (.int (0 : Int32)), .val (.ref b64), .val (.ref b90), .unset, .unset, .unset, .unset]) rfl (XS.iload X96.here hx rfl (hb hby at_111) rfl k)) ?_
      show ownEnds _ _ _ _ (T96.setTop (mkF m 113 #[.val (.int xf), .val (.long qs0), .second, .val (.long qs1), .second, .val (.long qg1), .second, .val (.long qg2), .second, .val (.int xp), .val (.int (xf &&& (3 : Int32))), .val (.ref b61), .val (.int (0 : Int32)), .val (.ref b64), .val (.ref b90), .unset, .unset, .unset, .unset] [(.int (0 : Int32))]))
      refine ownEnds.law (fun t => XS.ifYes X96.here hx rfl (pc0 := 113) (pc' := 120) rfl (hb hby at_113) rfl ((if0 _ _).trans (teq (rfl : (0 : Int32) = (0 : Int32))).1) (by decide) (by decide)) ?_
      show ownEnds _ _ _ _ (T96.setTop (mkF m 120 #[.val (.int xf), .val (.long qs0), .second, .val (.long qs1), .second, .val (.long qg1), .second, .val (.long qg2), .second, .val (.int xp), .val (.int (xf &&& (3 : Int32))), .val (.ref b61), .val (.int (0 : Int32)), .val (.ref b64), .val (.ref b90), .unset, .unset, .unset, .unset] []))
      refine ownEnds.law (fun t k => XS.lload X96.here hx rfl (hb hby at_120) rfl (XS.lstore X96.here hx rfl (hb hby at_122) rfl (l' := #[.val (.int xf), .val (.long qs0), .second, .val (.long qs1), .second, .val (.long qg1), .second, .val (.long qg2), .second, .val (.int xp), .val (.int (xf &&& (3 : Int32))), .val (.ref b61), .val (.int (0 : Int32)), .val (.ref b64), .val (.ref b90), .val (.long qg1), .second, .unset, .unset]) rfl (XS.iload X96.here hx rfl (hb hby at_124) rfl (XS.iconst X96.here hx rfl (hb hby at_126) (XS.iand X96.here hx rfl (hb hby at_127) rfl k))))) ?_
      show ownEnds _ _ _ _ (T96.setTop (mkF m 128 #[.val (.int xf), .val (.long qs0), .second, .val (.long qs1), .second, .val (.long qg1), .second, .val (.long qg2), .second, .val (.int xp), .val (.int (xf &&& (3 : Int32))), .val (.ref b61), .val (.int (0 : Int32)), .val (.ref b64), .val (.ref b90), .val (.long qg1), .second, .unset, .unset] [(.int (xp &&& (1 : Int32)))]))
      by_cases hc128 : (xp &&& (1 : Int32)) = (0 : Int32)
      · refine ownEnds.law (fun t => XS.ifNo X96.here hx rfl (hb hby at_128) rfl ((if0 _ _).trans (teq hc128).2)) ?_
        show ownEnds _ _ _ _ (T96.setTop (mkF m 131 #[.val (.int xf), .val (.long qs0), .second, .val (.long qs1), .second, .val (.long qg1), .second, .val (.long qg2), .second, .val (.int xp), .val (.int (xf &&& (3 : Int32))), .val (.ref b61), .val (.int (0 : Int32)), .val (.ref b64), .val (.ref b90), .val (.long qg1), .second, .unset, .unset] []))
        refine ownEnds.law (fun t k => XS.iconst X96.here hx rfl (hb hby at_131) k) ?_
        show ownEnds _ _ _ _ (T96.setTop (mkF m 132 #[.val (.int xf), .val (.long qs0), .second, .val (.long qs1), .second, .val (.long qg1), .second, .val (.long qg2), .second, .val (.int xp), .val (.int (xf &&& (3 : Int32))), .val (.ref b61), .val (.int (0 : Int32)), .val (.ref b64), .val (.ref b90), .val (.long qg1), .second, .unset, .unset] [(.int (4 : Int32))]))
        obtain ⟨T97, h97, k97, X97, e97, E97, A97, st97⟩ := newP X96 hx hZ (aty := .long) (wd_28 hw) e96 (g := (mkF m 132 #[.val (.int xf), .val (.long qs0), .second, .val (.long qs1), .second, .val (.long qg1), .second, .val (.long qg2), .second, .val (.int xp), .val (.int (xf &&& (3 : Int32))), .val (.ref b61), .val (.int (0 : Int32)), .val (.ref b64), .val (.ref b90), .val (.long qg1), .second, .unset, .unset] [(.int (4 : Int32))])) rfl (hb hby at_132) rfl (by decide) (cap := 4) (by decide) (by decide) (by decide) (by decide)
        obtain ⟨b97, g97⟩ : ∃ z, z = h96.size := ⟨_, rfl⟩
        rw [← g97] at A97 st97
        refine ownEnds.law st97 ?_
        have V_b97 : Arv Z h97 b97 k97 .long (4 : Int32) [(.long (0 : Int64)), (.long (0 : Int64)), (.long (0 : Int64)), (.long (0 : Int64))] (.long (0 : Int64)) := (Arv.new A97 (by decide)).pad (pad_rep [] (.long (0 : Int64)) 4)
        have f98 := (Arv.other (Arv.other (Arv.other (Arv.other (Arv.ext f91 E90) W93 ne_b61_b90) W94 ne_b61_b90) W95 ne_b61_b90) W96 ne_b61_b90)
        have ne_b61_b97 : b61 ≠ b97 := Nat.ne_of_lt (Nat.lt_of_lt_of_eq f98.lt g97.symm)
        have f99 := (Exa.wr W96 (Exa.wr W95 (Exa.wr W94 (Exa.wr W93 (Exa.ext E90 Eq82)))))
        have ne_b64_b97 : b64 ≠ b97 := Nat.ne_of_lt (Nat.lt_of_lt_of_eq f99.lt g97.symm)
        have f100 := (Exa.wr W96 (Exa.wr W95 (Exa.wr W94 (Exa.wr W93 (Exa.ext E90 f92)))))
        have ne_b71_b97 : b71 ≠ b97 := Nat.ne_of_lt (Nat.lt_of_lt_of_eq f100.lt g97.symm)
        have ne_b90_b97 : b90 ≠ b97 := Nat.ne_of_lt (Nat.lt_of_lt_of_eq V96.lt g97.symm)
        have g_b97 : n0 ≤ b97 := Nat.le_trans Z96 (Nat.le_of_eq g97.symm)
        have Z97 : n0 ≤ h97.size := Nat.le_trans Z96 E97.1
        show ownEnds _ _ _ _ (T97.setTop (mkF m 134 #[.val (.int xf), .val (.long qs0), .second, .val (.long qs1), .second, .val (.long qg1), .second, .val (.long qg2), .second, .val (.int xp), .val (.int (xf &&& (3 : Int32))), .val (.ref b61), .val (.int (0 : Int32)), .val (.ref b64), .val (.ref b90), .val (.long qg1), .second, .unset, .unset] [(.ref b97)]))
        refine ownEnds.law (fun t k => XS.dup X97.here hx rfl (hb hby at_134) rfl rfl (XS.iconst X97.here hx rfl (hb hby at_135) (XS.lloadN X97.here hx rfl (hb hby at_136) rfl k))) ?_
        show ownEnds _ _ _ _ (T97.setTop (mkF m 137 #[.val (.int xf), .val (.long qs0), .second, .val (.long qs1), .second, .val (.long qg1), .second, .val (.long qg2), .second, .val (.int xp), .val (.int (xf &&& (3 : Int32))), .val (.ref b61), .val (.int (0 : Int32)), .val (.ref b64), .val (.ref b90), .val (.long qg1), .second, .unset, .unset] [(.long qs0), (.int (0 : Int32)), (.ref b97), (.ref b97)]))
        obtain ⟨cl101, Ar101, q101, S101, N101, H101, G101⟩ := id V_b97
        obtain ⟨T101, h101, X101, e101, W101, st101⟩ := stJ X97 hx hZ e97 Ar101 (j := (0 : Int32)) (inb_of S101 ⟨by decide, by decide⟩) (g := (mkF m 137 #[.val (.int xf), .val (.long qs0), .second, .val (.long qs1), .second, .val (.long qg1), .second, .val (.long qg2), .second, .val (.int xp), .val (.int (xf &&& (3 : Int32))), .val (.ref b61), .val (.int (0 : Int32)), .val (.ref b64), .val (.ref b90), .val (.long qg1), .second, .unset, .unset] [(.long qs0), (.int (0 : Int32)), (.ref b97), (.ref b97)])) rfl rfl (hb hby at_137)
        refine ownEnds.law st101 ?_
        have V101 : Arv Z h101 b97 k97 .long (4 : Int32) [(.long qs0), (.long (0 : Int64)), (.long (0 : Int64)), (.long (0 : Int64))] (.long (0 : Int64)) := Arv.set Ar101 q101 S101 N101 H101 G101 rfl W101 0 rfl (Nat.le_of_ble_eq_true rfl)
        have N101 := Fr.snoc X101 N96 g_b97
        have Z101 : n0 ≤ h101.size := by rw [W101.size]; exact Z97
        show ownEnds _ _ _ _ (T101.setTop (mkF m 138 #[.val (.int xf), .val (.long qs0), .second, .val (.long qs1), .second, .val (.long qg1), .second, .val (.long qg2), .second, .val (.int xp), .val (.int (xf &&& (3 : Int32))), .val (.ref b61), .val (.int (0 : Int32)), .val (.ref b64), .val (.ref b90), .val (.long qg1), .second, .unset, .unset] [(.ref b97)]))
        refine ownEnds.law (fun t k => XS.dup X101.here hx rfl (hb hby at_138) rfl rfl (XS.iconst X101.here hx rfl (hb hby at_139) (XS.lload X101.here hx rfl (hb hby at_140) rfl k))) ?_
        show ownEnds _ _ _ _ (T101.setTop (mkF m 142 #[.val (.int xf), .val (.long qs0), .second, .val (.long qs1), .second, .val (.long qg1), .second, .val (.long qg2), .second, .val (.int xp), .val (.int (xf &&& (3 : Int32))), .val (.ref b61), .val (.int (0 : Int32)), .val (.ref b64), .val (.ref b90), .val (.long qg1), .second, .unset, .unset] [(.long qg1), (.int (1 : Int32)), (.ref b97), (.ref b97)]))
        obtain ⟨cl102, Ar102, q102, S102, N102, H102, G102⟩ := id V101
        obtain ⟨T102, h102, X102, e102, W102, st102⟩ := stJ X101 hx hZ e101 Ar102 (j := (1 : Int32)) (inb_of S102 ⟨by decide, by decide⟩) (g := (mkF m 142 #[.val (.int xf), .val (.long qs0), .second, .val (.long qs1), .second, .val (.long qg1), .second, .val (.long qg2), .second, .val (.int xp), .val (.int (xf &&& (3 : Int32))), .val (.ref b61), .val (.int (0 : Int32)), .val (.ref b64), .val (.ref b90), .val (.long qg1), .second, .unset, .unset] [(.long qg1), (.int (1 : Int32)), (.ref b97), (.ref b97)])) rfl rfl (hb hby at_142)
        refine ownEnds.law st102 ?_
        have V102 : Arv Z h102 b97 k97 .long (4 : Int32) [(.long qs0), (.long qg1), (.long (0 : Int64)), (.long (0 : Int64))] (.long (0 : Int64)) := Arv.set Ar102 q102 S102 N102 H102 G102 rfl W102 1 rfl (Nat.le_of_ble_eq_true rfl)
        have N102 := Fr.snoc X102 N101 g_b97
        have Z102 : n0 ≤ h102.size := by rw [W102.size]; exact Z101
        show ownEnds _ _ _ _ (T102.setTop (mkF m 143 #[.val (.int xf), .val (.long qs0), .second, .val (.long qs1), .second, .val (.long qg1), .second, .val (.long qg2), .second, .val (.int xp), .val (.int (xf &&& (3 : Int32))), .val (.ref b61), .val (.int (0 : Int32)), .val (.ref b64), .val (.ref b90), .val (.long qg1), .second, .unset, .unset] [(.ref b97)]))
        refine ownEnds.law (fun t k => XS.dup X102.here hx rfl (hb hby at_143) rfl rfl (XS.iconst X102.here hx rfl (hb hby at_144) (XS.lload X102.here hx rfl (hb hby at_145) rfl k))) ?_
        show ownEnds _ _ _ _ (T102.setTop (mkF m 147 #[.val (.int xf), .val (.long qs0), .second, .val (.long qs1), .second, .val (.long qg1), .second, .val (.long qg2), .second, .val (.int xp), .val (.int (xf &&& (3 : Int32))), .val (.ref b61), .val (.int (0 : Int32)), .val (.ref b64), .val (.ref b90), .val (.long qg1), .second, .unset, .unset] [(.long qg2), (.int (2 : Int32)), (.ref b97), (.ref b97)]))
        obtain ⟨cl103, Ar103, q103, S103, N103, H103, G103⟩ := id V102
        obtain ⟨T103, h103, X103, e103, W103, st103⟩ := stJ X102 hx hZ e102 Ar103 (j := (2 : Int32)) (inb_of S103 ⟨by decide, by decide⟩) (g := (mkF m 147 #[.val (.int xf), .val (.long qs0), .second, .val (.long qs1), .second, .val (.long qg1), .second, .val (.long qg2), .second, .val (.int xp), .val (.int (xf &&& (3 : Int32))), .val (.ref b61), .val (.int (0 : Int32)), .val (.ref b64), .val (.ref b90), .val (.long qg1), .second, .unset, .unset] [(.long qg2), (.int (2 : Int32)), (.ref b97), (.ref b97)])) rfl rfl (hb hby at_147)
        refine ownEnds.law st103 ?_
        have V103 : Arv Z h103 b97 k97 .long (4 : Int32) [(.long qs0), (.long qg1), (.long qg2), (.long (0 : Int64))] (.long (0 : Int64)) := Arv.set Ar103 q103 S103 N103 H103 G103 rfl W103 2 rfl (Nat.le_of_ble_eq_true rfl)
        have N103 := Fr.snoc X103 N102 g_b97
        have Z103 : n0 ≤ h103.size := by rw [W103.size]; exact Z102
        show ownEnds _ _ _ _ (T103.setTop (mkF m 148 #[.val (.int xf), .val (.long qs0), .second, .val (.long qs1), .second, .val (.long qg1), .second, .val (.long qg2), .second, .val (.int xp), .val (.int (xf &&& (3 : Int32))), .val (.ref b61), .val (.int (0 : Int32)), .val (.ref b64), .val (.ref b90), .val (.long qg1), .second, .unset, .unset] [(.ref b97)]))
        refine ownEnds.law (fun t k => XS.dup X103.here hx rfl (hb hby at_148) rfl rfl (XS.iconst X103.here hx rfl (hb hby at_149) (XS.lload X103.here hx rfl (hb hby at_150) rfl k))) ?_
        show ownEnds _ _ _ _ (T103.setTop (mkF m 152 #[.val (.int xf), .val (.long qs0), .second, .val (.long qs1), .second, .val (.long qg1), .second, .val (.long qg2), .second, .val (.int xp), .val (.int (xf &&& (3 : Int32))), .val (.ref b61), .val (.int (0 : Int32)), .val (.ref b64), .val (.ref b90), .val (.long qg1), .second, .unset, .unset] [(.long qg1), (.int (3 : Int32)), (.ref b97), (.ref b97)]))
        obtain ⟨cl104, Ar104, q104, S104, N104, H104, G104⟩ := id V103
        obtain ⟨T104, h104, X104, e104, W104, st104⟩ := stJ X103 hx hZ e103 Ar104 (j := (3 : Int32)) (inb_of S104 ⟨by decide, by decide⟩) (g := (mkF m 152 #[.val (.int xf), .val (.long qs0), .second, .val (.long qs1), .second, .val (.long qg1), .second, .val (.long qg2), .second, .val (.int xp), .val (.int (xf &&& (3 : Int32))), .val (.ref b61), .val (.int (0 : Int32)), .val (.ref b64), .val (.ref b90), .val (.long qg1), .second, .unset, .unset] [(.long qg1), (.int (3 : Int32)), (.ref b97), (.ref b97)])) rfl rfl (hb hby at_152)
        refine ownEnds.law st104 ?_
        have V104 : Arv Z h104 b97 k97 .long (4 : Int32) [(.long qs0), (.long qg1), (.long qg2), (.long qg1)] (.long (0 : Int64)) := Arv.set Ar104 q104 S104 N104 H104 G104 rfl W104 3 rfl (Nat.le_of_ble_eq_true rfl)
        have N104 := Fr.snoc X104 N103 g_b97
        have Z104 : n0 ≤ h104.size := by rw [W104.size]; exact Z103
        show ownEnds _ _ _ _ (T104.setTop (mkF m 153 #[.val (.int xf), .val (.long qs0), .second, .val (.long qs1), .second, .val (.long qg1), .second, .val (.long qg2), .second, .val (.int xp), .val (.int (xf &&& (3 : Int32))), .val (.ref b61), .val (.int (0 : Int32)), .val (.ref b64), .val (.ref b90), .val (.long qg1), .second, .unset, .unset] [(.ref b97)]))
        refine ownEnds.law (fun t k => XS.astore X104.here hx rfl (hb hby at_153) rfl rfl (l' := #[.val (.int xf), .val (.long qs0), .second, .val (.long qs1), .second, .val (.long qg1), .second, .val (.long qg2), .second, .val (.int xp), .val (.int (xf &&& (3 : Int32))), .val (.ref b61), .val (.int (0 : Int32)), .val (.ref b64), .val (.ref b90), .val (.long qg1), .second, .val (.ref b97), .unset]) rfl (XS.iconst X104.here hx rfl (hb hby at_155) (XS.istore X104.here hx rfl (hb hby at_156) rfl (l' := #[.val (.int xf), .val (.long qs0), .second, .val (.long qs1), .second, .val (.long qg1), .second, .val (.long qg2), .second, .val (.int xp), .val (.int (xf &&& (3 : Int32))), .val (.ref b61), .val (.int (0 : Int32)), .val (.ref b64), .val (.ref b90), .val (.long qg1), .second, .val (.ref b97), .val (.int (0 : Int32))]) rfl (XS.goto X104.here hx rfl (pc0 := 158) (pc' := 188) rfl (hb hby at_158) (by decide) (by decide) (XS.aload X104.here hx rfl (hb hby at_188) rfl rfl (XS.aload X104.here hx rfl (hb hby at_190) rfl rfl (XS.iconst X104.here hx rfl (hb hby at_192) k))))))) ?_
        show ownEnds _ _ _ _ (T104.setTop (mkF m 193 #[.val (.int xf), .val (.long qs0), .second, .val (.long qs1), .second, .val (.long qg1), .second, .val (.long qg2), .second, .val (.int xp), .val (.int (xf &&& (3 : Int32))), .val (.ref b61), .val (.int (0 : Int32)), .val (.ref b64), .val (.ref b90), .val (.long qg1), .second, .val (.ref b97), .val (.int (0 : Int32))] [(.int (1 : Int32)), (.ref b90), (.ref b64)]))
        have f106 := (Fld.other W104 (Fld.other W103 (Fld.other W102 (Fld.other W101 (Fld.ext E97 (Fld.other W96 (Fld.other W95 (Fld.other W94 (Fld.other W93 (Fld.ext E90 Fc82_0) (Or.inl ne_b64_b90)) (Or.inl ne_b64_b90)) (Or.inl ne_b64_b90)) (Or.inl ne_b64_b90))) (Or.inl ne_b64_b97)) (Or.inl ne_b64_b97)) (Or.inl ne_b64_b97)) (Or.inl ne_b64_b97))
        have f107 := (Arv.other (Arv.other (Arv.other (Arv.other (Arv.ext V96 E97) W101 ne_b90_b97) W102 ne_b90_b97) W103 ne_b90_b97) W104 ne_b90_b97)
        have f108 := (Exa.wr W104 (Exa.wr W103 (Exa.wr W102 (Exa.wr W101 (Exa.ext E97 f99)))))
        obtain ⟨v105, T105, L105, X105, hQ105, st105⟩ := ownCallV X104 hx hZ hown (y := (⟨"com/example/libreach/libreach/engine/StateStore", "hash", "([JI)I"⟩ : MethodName)) (z := (⟨"com/example/libreach/libreach/engine/StateStore", "hash", "([JI)I"⟩ : MethodName)) (a := b64) (as := [(.ref b90), (.int (1 : Int32))]) (wd_85 hw) (wd_86 hw) (notFace_of_selects (args := #[]) (mvT hZ (wd_88 hw))) (wd_88 hw) (wd_87 hw) (wd_3 hw) (wd_89 hw) (by decide) (rm11_1_1 l Z a0 hw b64 b90 k90 qg1 qs0 qs1 qg2 h104 n0 Z104 f106 f107) e104 f108 0 (by decide) (by decide) (by decide) (by decide) (g := (mkF m 193 #[.val (.int xf), .val (.long qs0), .second, .val (.long qs1), .second, .val (.long qg1), .second, .val (.long qg2), .second, .val (.int xp), .val (.int (xf &&& (3 : Int32))), .val (.ref b61), .val (.int (0 : Int32)), .val (.ref b64), .val (.ref b90), .val (.long qg1), .second, .val (.ref b97), .val (.int (0 : Int32))] [(.int (1 : Int32)), (.ref b90), (.ref b64)])) rfl (by rw [hml]; rfl) (rest := []) pd_7 rfl rfl (by show 2 * 0 + _ ≤ _; exact Nat.le_of_eq rfl) (hb hby at_193)
        obtain ⟨rfl, rfl, e105⟩ := hQ105
        rw [List.append_nil] at X105
        refine ownEnds.law st105 ?_
        show ownEnds _ _ _ _ (T105.setTop (mkF m 196 #[.val (.int xf), .val (.long qs0), .second, .val (.long qs1), .second, .val (.long qg1), .second, .val (.long qg2), .second, .val (.int xp), .val (.int (xf &&& (3 : Int32))), .val (.ref b61), .val (.int (0 : Int32)), .val (.ref b64), .val (.ref b90), .val (.long qg1), .second, .val (.ref b97), .val (.int (0 : Int32))] [(.int (HE (HS ((1 : Int32).toInt64) qs0)))]))
        refine ownEnds.law (fun t k => XS.aload X105.here hx rfl (hb hby at_196) rfl rfl (XS.aload X105.here hx rfl (hb hby at_198) rfl rfl (XS.iload X105.here hx rfl (hb hby at_200) rfl k))) ?_
        show ownEnds _ _ _ _ (T105.setTop (mkF m 202 #[.val (.int xf), .val (.long qs0), .second, .val (.long qs1), .second, .val (.long qg1), .second, .val (.long qg2), .second, .val (.int xp), .val (.int (xf &&& (3 : Int32))), .val (.ref b61), .val (.int (0 : Int32)), .val (.ref b64), .val (.ref b90), .val (.long qg1), .second, .val (.ref b97), .val (.int (0 : Int32))] [(.int (0 : Int32)), (.ref b97), (.ref b64), (.int (HE (HS ((1 : Int32).toInt64) qs0)))]))
        obtain ⟨v109, T109, L109, X109, hQ109, st109⟩ := ownCallV X105 hx hZ hown (y := (⟨"com/example/libreach/libreach/engine/StateStore", "hash", "([JI)I"⟩ : MethodName)) (z := (⟨"com/example/libreach/libreach/engine/StateStore", "hash", "([JI)I"⟩ : MethodName)) (a := b64) (as := [(.ref b97), (.int (0 : Int32))]) (wd_85 hw) (wd_86 hw) (notFace_of_selects (args := #[]) (mvT hZ (wd_88 hw))) (wd_88 hw) (wd_87 hw) (wd_3 hw) (wd_89 hw) (by decide) (rm11_1_0 l Z a0 hw b64 b97 k97 qs0 qg1 qg2 qg1 h104 n0 Z104 f106 V104) e105 f108 1 (by decide) (by decide) (by decide) (by decide) (g := (mkF m 202 #[.val (.int xf), .val (.long qs0), .second, .val (.long qs1), .second, .val (.long qg1), .second, .val (.long qg2), .second, .val (.int xp), .val (.int (xf &&& (3 : Int32))), .val (.ref b61), .val (.int (0 : Int32)), .val (.ref b64), .val (.ref b90), .val (.long qg1), .second, .val (.ref b97), .val (.int (0 : Int32))] [(.int (0 : Int32)), (.ref b97), (.ref b64), (.int (HE (HS ((1 : Int32).toInt64) qs0)))])) rfl (by rw [hml]; rfl) (rest := [(.int (HE (HS ((1 : Int32).toInt64) qs0)))]) pd_7 rfl rfl (by show 2 * 0 + _ ≤ _; exact Nat.le_of_eq rfl) (hb hby at_202)
        obtain ⟨rfl, rfl, e109⟩ := hQ109
        rw [List.append_nil] at X109
        refine ownEnds.law st109 ?_
        show ownEnds _ _ _ _ (T109.setTop (mkF m 205 #[.val (.int xf), .val (.long qs0), .second, .val (.long qs1), .second, .val (.long qg1), .second, .val (.long qg2), .second, .val (.int xp), .val (.int (xf &&& (3 : Int32))), .val (.ref b61), .val (.int (0 : Int32)), .val (.ref b64), .val (.ref b90), .val (.long qg1), .second, .val (.ref b97), .val (.int (0 : Int32))] [(.int (HE (HS ((1 : Int32).toInt64) qs0))), (.int (HE (HS ((1 : Int32).toInt64) qs0)))]))
        refine ownEnds.law (fun t => XS.icmpNo X109.here hx rfl (hb hby at_205) rfl (teq (rfl : (HE (HS ((1 : Int32).toInt64) qs0)) = (HE (HS ((1 : Int32).toInt64) qs0)))).2) ?_
        show ownEnds _ _ _ _ (T109.setTop (mkF m 208 #[.val (.int xf), .val (.long qs0), .second, .val (.long qs1), .second, .val (.long qg1), .second, .val (.long qg2), .second, .val (.int xp), .val (.int (xf &&& (3 : Int32))), .val (.ref b61), .val (.int (0 : Int32)), .val (.ref b64), .val (.ref b90), .val (.long qg1), .second, .val (.ref b97), .val (.int (0 : Int32))] []))
        refine ownEnds.law (fun t k => XS.iconst X109.here hx rfl (hb hby at_208) (XS.goto X109.here hx rfl (pc0 := 209) (pc' := 213) rfl (hb hby at_209) (by decide) (by decide) k)) ?_
        show ownEnds _ _ _ _ (T109.setTop (mkF m 213 #[.val (.int xf), .val (.long qs0), .second, .val (.long qs1), .second, .val (.long qg1), .second, .val (.long qg2), .second, .val (.int xp), .val (.int (xf &&& (3 : Int32))), .val (.ref b61), .val (.int (0 : Int32)), .val (.ref b64), .val (.ref b90), .val (.long qg1), .second, .val (.ref b97), .val (.int (0 : Int32))] [(.int (1 : Int32))]))
        refine ownRetN X109 hlk hx (t := .boolean) hret (by simp) (hb hby at_213) (by decide) (by decide) ?_
        exact ⟨rfl, N104⟩
      · refine ownEnds.law (fun t => XS.ifYes X96.here hx rfl (pc0 := 128) (pc' := 161) rfl (hb hby at_128) rfl ((if0 _ _).trans (feq hc128).2) (by decide) (by decide)) ?_
        show ownEnds _ _ _ _ (T96.setTop (mkF m 161 #[.val (.int xf), .val (.long qs0), .second, .val (.long qs1), .second, .val (.long qg1), .second, .val (.long qg2), .second, .val (.int xp), .val (.int (xf &&& (3 : Int32))), .val (.ref b61), .val (.int (0 : Int32)), .val (.ref b64), .val (.ref b90), .val (.long qg1), .second, .unset, .unset] []))
        refine ownEnds.law (fun t k => XS.iconst X96.here hx rfl (hb hby at_161) k) ?_
        show ownEnds _ _ _ _ (T96.setTop (mkF m 162 #[.val (.int xf), .val (.long qs0), .second, .val (.long qs1), .second, .val (.long qg1), .second, .val (.long qg2), .second, .val (.int xp), .val (.int (xf &&& (3 : Int32))), .val (.ref b61), .val (.int (0 : Int32)), .val (.ref b64), .val (.ref b90), .val (.long qg1), .second, .unset, .unset] [(.int (4 : Int32))]))
        obtain ⟨T110, h110, k110, X110, e110, E110, A110, st110⟩ := newP X96 hx hZ (aty := .long) (wd_28 hw) e96 (g := (mkF m 162 #[.val (.int xf), .val (.long qs0), .second, .val (.long qs1), .second, .val (.long qg1), .second, .val (.long qg2), .second, .val (.int xp), .val (.int (xf &&& (3 : Int32))), .val (.ref b61), .val (.int (0 : Int32)), .val (.ref b64), .val (.ref b90), .val (.long qg1), .second, .unset, .unset] [(.int (4 : Int32))])) rfl (hb hby at_162) rfl (by decide) (cap := 4) (by decide) (by decide) (by decide) (by decide)
        obtain ⟨b110, g110⟩ : ∃ z, z = h96.size := ⟨_, rfl⟩
        rw [← g110] at A110 st110
        refine ownEnds.law st110 ?_
        have V_b110 : Arv Z h110 b110 k110 .long (4 : Int32) [(.long (0 : Int64)), (.long (0 : Int64)), (.long (0 : Int64)), (.long (0 : Int64))] (.long (0 : Int64)) := (Arv.new A110 (by decide)).pad (pad_rep [] (.long (0 : Int64)) 4)
        have f111 := (Arv.other (Arv.other (Arv.other (Arv.other (Arv.ext f91 E90) W93 ne_b61_b90) W94 ne_b61_b90) W95 ne_b61_b90) W96 ne_b61_b90)
        have ne_b61_b110 : b61 ≠ b110 := Nat.ne_of_lt (Nat.lt_of_lt_of_eq f111.lt g110.symm)
        have f112 := (Exa.wr W96 (Exa.wr W95 (Exa.wr W94 (Exa.wr W93 (Exa.ext E90 Eq82)))))
        have ne_b64_b110 : b64 ≠ b110 := Nat.ne_of_lt (Nat.lt_of_lt_of_eq f112.lt g110.symm)
        have f113 := (Exa.wr W96 (Exa.wr W95 (Exa.wr W94 (Exa.wr W93 (Exa.ext E90 f92)))))
        have ne_b71_b110 : b71 ≠ b110 := Nat.ne_of_lt (Nat.lt_of_lt_of_eq f113.lt g110.symm)
        have ne_b90_b110 : b90 ≠ b110 := Nat.ne_of_lt (Nat.lt_of_lt_of_eq V96.lt g110.symm)
        have g_b110 : n0 ≤ b110 := Nat.le_trans Z96 (Nat.le_of_eq g110.symm)
        have Z110 : n0 ≤ h110.size := Nat.le_trans Z96 E110.1
        show ownEnds _ _ _ _ (T110.setTop (mkF m 164 #[.val (.int xf), .val (.long qs0), .second, .val (.long qs1), .second, .val (.long qg1), .second, .val (.long qg2), .second, .val (.int xp), .val (.int (xf &&& (3 : Int32))), .val (.ref b61), .val (.int (0 : Int32)), .val (.ref b64), .val (.ref b90), .val (.long qg1), .second, .unset, .unset] [(.ref b110)]))
        refine ownEnds.law (fun t k => XS.dup X110.here hx rfl (hb hby at_164) rfl rfl (XS.iconst X110.here hx rfl (hb hby at_165) (XS.lload X110.here hx rfl (hb hby at_166) rfl k))) ?_
        show ownEnds _ _ _ _ (T110.setTop (mkF m 168 #[.val (.int xf), .val (.long qs0), .second, .val (.long qs1), .second, .val (.long qg1), .second, .val (.long qg2), .second, .val (.int xp), .val (.int (xf &&& (3 : Int32))), .val (.ref b61), .val (.int (0 : Int32)), .val (.ref b64), .val (.ref b90), .val (.long qg1), .second, .unset, .unset] [(.long qg2), (.int (0 : Int32)), (.ref b110), (.ref b110)]))
        obtain ⟨cl114, Ar114, q114, S114, N114, H114, G114⟩ := id V_b110
        obtain ⟨T114, h114, X114, e114, W114, st114⟩ := stJ X110 hx hZ e110 Ar114 (j := (0 : Int32)) (inb_of S114 ⟨by decide, by decide⟩) (g := (mkF m 168 #[.val (.int xf), .val (.long qs0), .second, .val (.long qs1), .second, .val (.long qg1), .second, .val (.long qg2), .second, .val (.int xp), .val (.int (xf &&& (3 : Int32))), .val (.ref b61), .val (.int (0 : Int32)), .val (.ref b64), .val (.ref b90), .val (.long qg1), .second, .unset, .unset] [(.long qg2), (.int (0 : Int32)), (.ref b110), (.ref b110)])) rfl rfl (hb hby at_168)
        refine ownEnds.law st114 ?_
        have V114 : Arv Z h114 b110 k110 .long (4 : Int32) [(.long qg2), (.long (0 : Int64)), (.long (0 : Int64)), (.long (0 : Int64))] (.long (0 : Int64)) := Arv.set Ar114 q114 S114 N114 H114 G114 rfl W114 0 rfl (Nat.le_of_ble_eq_true rfl)
        have N114 := Fr.snoc X114 N96 g_b110
        have Z114 : n0 ≤ h114.size := by rw [W114.size]; exact Z110
        show ownEnds _ _ _ _ (T114.setTop (mkF m 169 #[.val (.int xf), .val (.long qs0), .second, .val (.long qs1), .second, .val (.long qg1), .second, .val (.long qg2), .second, .val (.int xp), .val (.int (xf &&& (3 : Int32))), .val (.ref b61), .val (.int (0 : Int32)), .val (.ref b64), .val (.ref b90), .val (.long qg1), .second, .unset, .unset] [(.ref b110)]))
        refine ownEnds.law (fun t k => XS.dup X114.here hx rfl (hb hby at_169) rfl rfl (XS.iconst X114.here hx rfl (hb hby at_170) (XS.lload X114.here hx rfl (hb hby at_171) rfl k))) ?_
        show ownEnds _ _ _ _ (T114.setTop (mkF m 173 #[.val (.int xf), .val (.long qs0), .second, .val (.long qs1), .second, .val (.long qg1), .second, .val (.long qg2), .second, .val (.int xp), .val (.int (xf &&& (3 : Int32))), .val (.ref b61), .val (.int (0 : Int32)), .val (.ref b64), .val (.ref b90), .val (.long qg1), .second, .unset, .unset] [(.long qg1), (.int (1 : Int32)), (.ref b110), (.ref b110)]))
        obtain ⟨cl115, Ar115, q115, S115, N115, H115, G115⟩ := id V114
        obtain ⟨T115, h115, X115, e115, W115, st115⟩ := stJ X114 hx hZ e114 Ar115 (j := (1 : Int32)) (inb_of S115 ⟨by decide, by decide⟩) (g := (mkF m 173 #[.val (.int xf), .val (.long qs0), .second, .val (.long qs1), .second, .val (.long qg1), .second, .val (.long qg2), .second, .val (.int xp), .val (.int (xf &&& (3 : Int32))), .val (.ref b61), .val (.int (0 : Int32)), .val (.ref b64), .val (.ref b90), .val (.long qg1), .second, .unset, .unset] [(.long qg1), (.int (1 : Int32)), (.ref b110), (.ref b110)])) rfl rfl (hb hby at_173)
        refine ownEnds.law st115 ?_
        have V115 : Arv Z h115 b110 k110 .long (4 : Int32) [(.long qg2), (.long qg1), (.long (0 : Int64)), (.long (0 : Int64))] (.long (0 : Int64)) := Arv.set Ar115 q115 S115 N115 H115 G115 rfl W115 1 rfl (Nat.le_of_ble_eq_true rfl)
        have N115 := Fr.snoc X115 N114 g_b110
        have Z115 : n0 ≤ h115.size := by rw [W115.size]; exact Z114
        show ownEnds _ _ _ _ (T115.setTop (mkF m 174 #[.val (.int xf), .val (.long qs0), .second, .val (.long qs1), .second, .val (.long qg1), .second, .val (.long qg2), .second, .val (.int xp), .val (.int (xf &&& (3 : Int32))), .val (.ref b61), .val (.int (0 : Int32)), .val (.ref b64), .val (.ref b90), .val (.long qg1), .second, .unset, .unset] [(.ref b110)]))
        refine ownEnds.law (fun t k => XS.dup X115.here hx rfl (hb hby at_174) rfl rfl (XS.iconst X115.here hx rfl (hb hby at_175) (XS.lloadN X115.here hx rfl (hb hby at_176) rfl k))) ?_
        show ownEnds _ _ _ _ (T115.setTop (mkF m 177 #[.val (.int xf), .val (.long qs0), .second, .val (.long qs1), .second, .val (.long qg1), .second, .val (.long qg2), .second, .val (.int xp), .val (.int (xf &&& (3 : Int32))), .val (.ref b61), .val (.int (0 : Int32)), .val (.ref b64), .val (.ref b90), .val (.long qg1), .second, .unset, .unset] [(.long qs0), (.int (2 : Int32)), (.ref b110), (.ref b110)]))
        obtain ⟨cl116, Ar116, q116, S116, N116, H116, G116⟩ := id V115
        obtain ⟨T116, h116, X116, e116, W116, st116⟩ := stJ X115 hx hZ e115 Ar116 (j := (2 : Int32)) (inb_of S116 ⟨by decide, by decide⟩) (g := (mkF m 177 #[.val (.int xf), .val (.long qs0), .second, .val (.long qs1), .second, .val (.long qg1), .second, .val (.long qg2), .second, .val (.int xp), .val (.int (xf &&& (3 : Int32))), .val (.ref b61), .val (.int (0 : Int32)), .val (.ref b64), .val (.ref b90), .val (.long qg1), .second, .unset, .unset] [(.long qs0), (.int (2 : Int32)), (.ref b110), (.ref b110)])) rfl rfl (hb hby at_177)
        refine ownEnds.law st116 ?_
        have V116 : Arv Z h116 b110 k110 .long (4 : Int32) [(.long qg2), (.long qg1), (.long qs0), (.long (0 : Int64))] (.long (0 : Int64)) := Arv.set Ar116 q116 S116 N116 H116 G116 rfl W116 2 rfl (Nat.le_of_ble_eq_true rfl)
        have N116 := Fr.snoc X116 N115 g_b110
        have Z116 : n0 ≤ h116.size := by rw [W116.size]; exact Z115
        show ownEnds _ _ _ _ (T116.setTop (mkF m 178 #[.val (.int xf), .val (.long qs0), .second, .val (.long qs1), .second, .val (.long qg1), .second, .val (.long qg2), .second, .val (.int xp), .val (.int (xf &&& (3 : Int32))), .val (.ref b61), .val (.int (0 : Int32)), .val (.ref b64), .val (.ref b90), .val (.long qg1), .second, .unset, .unset] [(.ref b110)]))
        refine ownEnds.law (fun t k => XS.dup X116.here hx rfl (hb hby at_178) rfl rfl (XS.iconst X116.here hx rfl (hb hby at_179) (XS.lload X116.here hx rfl (hb hby at_180) rfl k))) ?_
        show ownEnds _ _ _ _ (T116.setTop (mkF m 182 #[.val (.int xf), .val (.long qs0), .second, .val (.long qs1), .second, .val (.long qg1), .second, .val (.long qg2), .second, .val (.int xp), .val (.int (xf &&& (3 : Int32))), .val (.ref b61), .val (.int (0 : Int32)), .val (.ref b64), .val (.ref b90), .val (.long qg1), .second, .unset, .unset] [(.long qg1), (.int (3 : Int32)), (.ref b110), (.ref b110)]))
        obtain ⟨cl117, Ar117, q117, S117, N117, H117, G117⟩ := id V116
        obtain ⟨T117, h117, X117, e117, W117, st117⟩ := stJ X116 hx hZ e116 Ar117 (j := (3 : Int32)) (inb_of S117 ⟨by decide, by decide⟩) (g := (mkF m 182 #[.val (.int xf), .val (.long qs0), .second, .val (.long qs1), .second, .val (.long qg1), .second, .val (.long qg2), .second, .val (.int xp), .val (.int (xf &&& (3 : Int32))), .val (.ref b61), .val (.int (0 : Int32)), .val (.ref b64), .val (.ref b90), .val (.long qg1), .second, .unset, .unset] [(.long qg1), (.int (3 : Int32)), (.ref b110), (.ref b110)])) rfl rfl (hb hby at_182)
        refine ownEnds.law st117 ?_
        have V117 : Arv Z h117 b110 k110 .long (4 : Int32) [(.long qg2), (.long qg1), (.long qs0), (.long qg1)] (.long (0 : Int64)) := Arv.set Ar117 q117 S117 N117 H117 G117 rfl W117 3 rfl (Nat.le_of_ble_eq_true rfl)
        have N117 := Fr.snoc X117 N116 g_b110
        have Z117 : n0 ≤ h117.size := by rw [W117.size]; exact Z116
        show ownEnds _ _ _ _ (T117.setTop (mkF m 183 #[.val (.int xf), .val (.long qs0), .second, .val (.long qs1), .second, .val (.long qg1), .second, .val (.long qg2), .second, .val (.int xp), .val (.int (xf &&& (3 : Int32))), .val (.ref b61), .val (.int (0 : Int32)), .val (.ref b64), .val (.ref b90), .val (.long qg1), .second, .unset, .unset] [(.ref b110)]))
        refine ownEnds.law (fun t k => XS.astore X117.here hx rfl (hb hby at_183) rfl rfl (l' := #[.val (.int xf), .val (.long qs0), .second, .val (.long qs1), .second, .val (.long qg1), .second, .val (.long qg2), .second, .val (.int xp), .val (.int (xf &&& (3 : Int32))), .val (.ref b61), .val (.int (0 : Int32)), .val (.ref b64), .val (.ref b90), .val (.long qg1), .second, .val (.ref b110), .unset]) rfl (XS.iconst X117.here hx rfl (hb hby at_185) (XS.istore X117.here hx rfl (hb hby at_186) rfl (l' := #[.val (.int xf), .val (.long qs0), .second, .val (.long qs1), .second, .val (.long qg1), .second, .val (.long qg2), .second, .val (.int xp), .val (.int (xf &&& (3 : Int32))), .val (.ref b61), .val (.int (0 : Int32)), .val (.ref b64), .val (.ref b90), .val (.long qg1), .second, .val (.ref b110), .val (.int (2 : Int32))]) rfl (XS.aload X117.here hx rfl (hb hby at_188) rfl rfl (XS.aload X117.here hx rfl (hb hby at_190) rfl rfl (XS.iconst X117.here hx rfl (hb hby at_192) k)))))) ?_
        show ownEnds _ _ _ _ (T117.setTop (mkF m 193 #[.val (.int xf), .val (.long qs0), .second, .val (.long qs1), .second, .val (.long qg1), .second, .val (.long qg2), .second, .val (.int xp), .val (.int (xf &&& (3 : Int32))), .val (.ref b61), .val (.int (0 : Int32)), .val (.ref b64), .val (.ref b90), .val (.long qg1), .second, .val (.ref b110), .val (.int (2 : Int32))] [(.int (1 : Int32)), (.ref b90), (.ref b64)]))
        have f119 := (Fld.other W117 (Fld.other W116 (Fld.other W115 (Fld.other W114 (Fld.ext E110 (Fld.other W96 (Fld.other W95 (Fld.other W94 (Fld.other W93 (Fld.ext E90 Fc82_0) (Or.inl ne_b64_b90)) (Or.inl ne_b64_b90)) (Or.inl ne_b64_b90)) (Or.inl ne_b64_b90))) (Or.inl ne_b64_b110)) (Or.inl ne_b64_b110)) (Or.inl ne_b64_b110)) (Or.inl ne_b64_b110))
        have f120 := (Arv.other (Arv.other (Arv.other (Arv.other (Arv.ext V96 E110) W114 ne_b90_b110) W115 ne_b90_b110) W116 ne_b90_b110) W117 ne_b90_b110)
        have f121 := (Exa.wr W117 (Exa.wr W116 (Exa.wr W115 (Exa.wr W114 (Exa.ext E110 f112)))))
        obtain ⟨v118, T118, L118, X118, hQ118, st118⟩ := ownCallV X117 hx hZ hown (y := (⟨"com/example/libreach/libreach/engine/StateStore", "hash", "([JI)I"⟩ : MethodName)) (z := (⟨"com/example/libreach/libreach/engine/StateStore", "hash", "([JI)I"⟩ : MethodName)) (a := b64) (as := [(.ref b90), (.int (1 : Int32))]) (wd_85 hw) (wd_86 hw) (notFace_of_selects (args := #[]) (mvT hZ (wd_88 hw))) (wd_88 hw) (wd_87 hw) (wd_3 hw) (wd_89 hw) (by decide) (rm11_1_1 l Z a0 hw b64 b90 k90 qg1 qs0 qs1 qg2 h117 n0 Z117 f119 f120) e117 f121 0 (by decide) (by decide) (by decide) (by decide) (g := (mkF m 193 #[.val (.int xf), .val (.long qs0), .second, .val (.long qs1), .second, .val (.long qg1), .second, .val (.long qg2), .second, .val (.int xp), .val (.int (xf &&& (3 : Int32))), .val (.ref b61), .val (.int (0 : Int32)), .val (.ref b64), .val (.ref b90), .val (.long qg1), .second, .val (.ref b110), .val (.int (2 : Int32))] [(.int (1 : Int32)), (.ref b90), (.ref b64)])) rfl (by rw [hml]; rfl) (rest := []) pd_7 rfl rfl (by show 2 * 0 + _ ≤ _; exact Nat.le_of_eq rfl) (hb hby at_193)
        obtain ⟨rfl, rfl, e118⟩ := hQ118
        rw [List.append_nil] at X118
        refine ownEnds.law st118 ?_
        show ownEnds _ _ _ _ (T118.setTop (mkF m 196 #[.val (.int xf), .val (.long qs0), .second, .val (.long qs1), .second, .val (.long qg1), .second, .val (.long qg2), .second, .val (.int xp), .val (.int (xf &&& (3 : Int32))), .val (.ref b61), .val (.int (0 : Int32)), .val (.ref b64), .val (.ref b90), .val (.long qg1), .second, .val (.ref b110), .val (.int (2 : Int32))] [(.int (HE (HS ((1 : Int32).toInt64) qs0)))]))
        refine ownEnds.law (fun t k => XS.aload X118.here hx rfl (hb hby at_196) rfl rfl (XS.aload X118.here hx rfl (hb hby at_198) rfl rfl (XS.iload X118.here hx rfl (hb hby at_200) rfl k))) ?_
        show ownEnds _ _ _ _ (T118.setTop (mkF m 202 #[.val (.int xf), .val (.long qs0), .second, .val (.long qs1), .second, .val (.long qg1), .second, .val (.long qg2), .second, .val (.int xp), .val (.int (xf &&& (3 : Int32))), .val (.ref b61), .val (.int (0 : Int32)), .val (.ref b64), .val (.ref b90), .val (.long qg1), .second, .val (.ref b110), .val (.int (2 : Int32))] [(.int (2 : Int32)), (.ref b110), (.ref b64), (.int (HE (HS ((1 : Int32).toInt64) qs0)))]))
        obtain ⟨v122, T122, L122, X122, hQ122, st122⟩ := ownCallV X118 hx hZ hown (y := (⟨"com/example/libreach/libreach/engine/StateStore", "hash", "([JI)I"⟩ : MethodName)) (z := (⟨"com/example/libreach/libreach/engine/StateStore", "hash", "([JI)I"⟩ : MethodName)) (a := b64) (as := [(.ref b110), (.int (2 : Int32))]) (wd_85 hw) (wd_86 hw) (notFace_of_selects (args := #[]) (mvT hZ (wd_88 hw))) (wd_88 hw) (wd_87 hw) (wd_3 hw) (wd_89 hw) (by decide) (rm11_1_2 l Z a0 hw b64 b110 k110 qg2 qg1 qs0 qg1 h117 n0 Z117 f119 V117) e118 f121 1 (by decide) (by decide) (by decide) (by decide) (g := (mkF m 202 #[.val (.int xf), .val (.long qs0), .second, .val (.long qs1), .second, .val (.long qg1), .second, .val (.long qg2), .second, .val (.int xp), .val (.int (xf &&& (3 : Int32))), .val (.ref b61), .val (.int (0 : Int32)), .val (.ref b64), .val (.ref b90), .val (.long qg1), .second, .val (.ref b110), .val (.int (2 : Int32))] [(.int (2 : Int32)), (.ref b110), (.ref b64), (.int (HE (HS ((1 : Int32).toInt64) qs0)))])) rfl (by rw [hml]; rfl) (rest := [(.int (HE (HS ((1 : Int32).toInt64) qs0)))]) pd_7 rfl rfl (by show 2 * 0 + _ ≤ _; exact Nat.le_of_eq rfl) (hb hby at_202)
        obtain ⟨rfl, rfl, e122⟩ := hQ122
        rw [List.append_nil] at X122
        refine ownEnds.law st122 ?_
        show ownEnds _ _ _ _ (T122.setTop (mkF m 205 #[.val (.int xf), .val (.long qs0), .second, .val (.long qs1), .second, .val (.long qg1), .second, .val (.long qg2), .second, .val (.int xp), .val (.int (xf &&& (3 : Int32))), .val (.ref b61), .val (.int (0 : Int32)), .val (.ref b64), .val (.ref b90), .val (.long qg1), .second, .val (.ref b110), .val (.int (2 : Int32))] [(.int (HE (HS ((1 : Int32).toInt64) qs0))), (.int (HE (HS ((1 : Int32).toInt64) qs0)))]))
        refine ownEnds.law (fun t => XS.icmpNo X122.here hx rfl (hb hby at_205) rfl (teq (rfl : (HE (HS ((1 : Int32).toInt64) qs0)) = (HE (HS ((1 : Int32).toInt64) qs0)))).2) ?_
        show ownEnds _ _ _ _ (T122.setTop (mkF m 208 #[.val (.int xf), .val (.long qs0), .second, .val (.long qs1), .second, .val (.long qg1), .second, .val (.long qg2), .second, .val (.int xp), .val (.int (xf &&& (3 : Int32))), .val (.ref b61), .val (.int (0 : Int32)), .val (.ref b64), .val (.ref b90), .val (.long qg1), .second, .val (.ref b110), .val (.int (2 : Int32))] []))
        refine ownEnds.law (fun t k => XS.iconst X122.here hx rfl (hb hby at_208) (XS.goto X122.here hx rfl (pc0 := 209) (pc' := 213) rfl (hb hby at_209) (by decide) (by decide) k)) ?_
        show ownEnds _ _ _ _ (T122.setTop (mkF m 213 #[.val (.int xf), .val (.long qs0), .second, .val (.long qs1), .second, .val (.long qg1), .second, .val (.long qg2), .second, .val (.int xp), .val (.int (xf &&& (3 : Int32))), .val (.ref b61), .val (.int (0 : Int32)), .val (.ref b64), .val (.ref b90), .val (.long qg1), .second, .val (.ref b110), .val (.int (2 : Int32))] [(.int (1 : Int32))]))
        refine ownRetN X122 hlk hx (t := .boolean) hret (by simp) (hb hby at_213) (by decide) (by decide) ?_
        exact ⟨rfl, N117⟩
    · refine ownEnds.law (fun t => XS.icmpYes X0.here hx rfl (pc0 := 21) (pc' := 42) rfl (hb hby at_21) rfl (feq hc21).2 (by decide) (by decide)) ?_
      show ownEnds _ _ _ _ (T0.setTop (mkF m 42 #[.val (.int xf), .val (.long qs0), .second, .val (.long qs1), .second, .val (.long qg1), .second, .val (.long qg2), .second, .val (.int xp), .val (.int (xf &&& (3 : Int32))), .unset, .unset, .unset, .unset, .unset, .unset, .unset, .unset] []))
      refine ownEnds.law (fun t k => XS.iconst X0.here hx rfl (hb hby at_42) k) ?_
      show ownEnds _ _ _ _ (T0.setTop (mkF m 43 #[.val (.int xf), .val (.long qs0), .second, .val (.long qs1), .second, .val (.long qg1), .second, .val (.long qg2), .second, .val (.int xp), .val (.int (xf &&& (3 : Int32))), .unset, .unset, .unset, .unset, .unset, .unset, .unset, .unset] [(.int (2 : Int32))]))
      obtain ⟨T123, h123, k123, X123, e123, E123, A123, Ax123, st123⟩ := newPE X0 hx hZ (aty := .int) (wd_0 hw) e0 (g := (mkF m 43 #[.val (.int xf), .val (.long qs0), .second, .val (.long qs1), .second, .val (.long qg1), .second, .val (.long qg2), .second, .val (.int xp), .val (.int (xf &&& (3 : Int32))), .unset, .unset, .unset, .unset, .unset, .unset, .unset, .unset] [(.int (2 : Int32))])) rfl (hb hby at_43) rfl (by decide) (cap := 2) (by decide) (by decide) (by decide) (by decide) (ad := "[I") (by decide)
      obtain ⟨b123, g123⟩ : ∃ z, z = h0.size := ⟨_, rfl⟩
      rw [← g123] at A123 st123 Ax123
      refine ownEnds.law st123 ?_
      have V_b123 : Arv Z h123 b123 k123 .int (2 : Int32) [(.int (0 : Int32)), (.int (0 : Int32))] (.int (0 : Int32)) := (Arv.new A123 (by decide)).pad (pad_rep [] (.int (0 : Int32)) 2)
      have g_b123 : n0 ≤ b123 := Nat.le_trans Z0 (Nat.le_of_eq g123.symm)
      have Z123 : n0 ≤ h123.size := Nat.le_trans Z0 E123.1
      show ownEnds _ _ _ _ (T123.setTop (mkF m 45 #[.val (.int xf), .val (.long qs0), .second, .val (.long qs1), .second, .val (.long qg1), .second, .val (.long qg2), .second, .val (.int xp), .val (.int (xf &&& (3 : Int32))), .unset, .unset, .unset, .unset, .unset, .unset, .unset, .unset] [(.ref b123)]))
      refine ownEnds.law (fun t k => XS.dup X123.here hx rfl (hb hby at_45) rfl rfl (XS.iconst X123.here hx rfl (hb hby at_46) (XS.bipush X123.here hx rfl (hb hby at_47) k))) ?_
      show ownEnds _ _ _ _ (T123.setTop (mkF m 49 #[.val (.int xf), .val (.long qs0), .second, .val (.long qs1), .second, .val (.long qg1), .second, .val (.long qg2), .second, .val (.int xp), .val (.int (xf &&& (3 : Int32))), .unset, .unset, .unset, .unset, .unset, .unset, .unset, .unset] [(.int (63 : Int32)), (.int (0 : Int32)), (.ref b123), (.ref b123)]))
      obtain ⟨cl124, Ar124, q124, S124, N124, H124, G124⟩ := id V_b123
      obtain ⟨T124, h124, X124, e124, W124, st124⟩ := stI X123 hx hZ e123 Ar124 (j := (0 : Int32)) (inb_of S124 ⟨by decide, by decide⟩) (g := (mkF m 49 #[.val (.int xf), .val (.long qs0), .second, .val (.long qs1), .second, .val (.long qg1), .second, .val (.long qg2), .second, .val (.int xp), .val (.int (xf &&& (3 : Int32))), .unset, .unset, .unset, .unset, .unset, .unset, .unset, .unset] [(.int (63 : Int32)), (.int (0 : Int32)), (.ref b123), (.ref b123)])) rfl rfl (hb hby at_49)
      refine ownEnds.law st124 ?_
      have V124 : Arv Z h124 b123 k123 .int (2 : Int32) [(.int (63 : Int32)), (.int (0 : Int32))] (.int (0 : Int32)) := Arv.set Ar124 q124 S124 N124 H124 G124 rfl W124 0 rfl (Nat.le_of_ble_eq_true rfl)
      have N124 := Fr.snoc X124 (Fr.nil n0) g_b123
      have Z124 : n0 ≤ h124.size := by rw [W124.size]; exact Z123
      show ownEnds _ _ _ _ (T124.setTop (mkF m 50 #[.val (.int xf), .val (.long qs0), .second, .val (.long qs1), .second, .val (.long qg1), .second, .val (.long qg2), .second, .val (.int xp), .val (.int (xf &&& (3 : Int32))), .unset, .unset, .unset, .unset, .unset, .unset, .unset, .unset] [(.ref b123)]))
      refine ownEnds.law (fun t k => XS.dup X124.here hx rfl (hb hby at_50) rfl rfl (XS.iconst X124.here hx rfl (hb hby at_51) (XS.bipush X124.here hx rfl (hb hby at_52) k))) ?_
      show ownEnds _ _ _ _ (T124.setTop (mkF m 54 #[.val (.int xf), .val (.long qs0), .second, .val (.long qs1), .second, .val (.long qg1), .second, .val (.long qg2), .second, .val (.int xp), .val (.int (xf &&& (3 : Int32))), .unset, .unset, .unset, .unset, .unset, .unset, .unset, .unset] [(.int (63 : Int32)), (.int (1 : Int32)), (.ref b123), (.ref b123)]))
      obtain ⟨cl125, Ar125, q125, S125, N125, H125, G125⟩ := id V124
      obtain ⟨T125, h125, X125, e125, W125, st125⟩ := stI X124 hx hZ e124 Ar125 (j := (1 : Int32)) (inb_of S125 ⟨by decide, by decide⟩) (g := (mkF m 54 #[.val (.int xf), .val (.long qs0), .second, .val (.long qs1), .second, .val (.long qg1), .second, .val (.long qg2), .second, .val (.int xp), .val (.int (xf &&& (3 : Int32))), .unset, .unset, .unset, .unset, .unset, .unset, .unset, .unset] [(.int (63 : Int32)), (.int (1 : Int32)), (.ref b123), (.ref b123)])) rfl rfl (hb hby at_54)
      refine ownEnds.law st125 ?_
      have V125 : Arv Z h125 b123 k123 .int (2 : Int32) [(.int (63 : Int32)), (.int (63 : Int32))] (.int (0 : Int32)) := Arv.set Ar125 q125 S125 N125 H125 G125 rfl W125 1 rfl (Nat.le_of_ble_eq_true rfl)
      have N125 := Fr.snoc X125 N124 g_b123
      have Z125 : n0 ≤ h125.size := by rw [W125.size]; exact Z124
      show ownEnds _ _ _ _ (T125.setTop (mkF m 55 #[.val (.int xf), .val (.long qs0), .second, .val (.long qs1), .second, .val (.long qg1), .second, .val (.long qg2), .second, .val (.int xp), .val (.int (xf &&& (3 : Int32))), .unset, .unset, .unset, .unset, .unset, .unset, .unset, .unset] [(.ref b123)]))
      refine ownEnds.law (fun t k => XS.astore X125.here hx rfl (hb hby at_55) rfl rfl (l' := #[.val (.int xf), .val (.long qs0), .second, .val (.long qs1), .second, .val (.long qg1), .second, .val (.long qg2), .second, .val (.int xp), .val (.int (xf &&& (3 : Int32))), .val (.ref b123), .unset, .unset, .unset, .unset, .unset, .unset, .unset]) rfl (XS.iload X125.here hx rfl (hb hby at_57) rfl (XS.iconst X125.here hx rfl (hb hby at_59) k))) ?_
      show ownEnds _ _ _ _ (T125.setTop (mkF m 60 #[.val (.int xf), .val (.long qs0), .second, .val (.long qs1), .second, .val (.long qg1), .second, .val (.long qg2), .second, .val (.int xp), .val (.int (xf &&& (3 : Int32))), .val (.ref b123), .unset, .unset, .unset, .unset, .unset, .unset, .unset] [(.int (2 : Int32)), (.int (xf &&& (3 : Int32)))]))
      have hc60 : ¬ ((xf &&& (3 : Int32)) < (2 : Int32)) := own_k2 _ hc7 hc21
      refine ownEnds.law (fun t => XS.icmpNo X125.here hx rfl (hb hby at_60) rfl (flt hc60).1) ?_
      show ownEnds _ _ _ _ (T125.setTop (mkF m 63 #[.val (.int xf), .val (.long qs0), .second, .val (.long qs1), .second, .val (.long qg1), .second, .val (.long qg2), .second, .val (.int xp), .val (.int (xf &&& (3 : Int32))), .val (.ref b123), .unset, .unset, .unset, .unset, .unset, .unset, .unset] []))
      refine ownEnds.law (fun t k => XS.iconst X125.here hx rfl (hb hby at_63) (XS.goto X125.here hx rfl (pc0 := 64) (pc' := 68) rfl (hb hby at_64) (by decide) (by decide) (XS.istore X125.here hx rfl (hb hby at_68) rfl (l' := #[.val (.int xf), .val (.long qs0), .second, .val (.long qs1), .second, .val (.long qg1), .second, .val (.long qg2), .second, .val (.int xp), .val (.int (xf &&& (3 : Int32))), .val (.ref b123), .val (.int (1 : Int32)), .unset, .unset, .unset, .unset, .unset, .unset]) rfl k))) ?_
      show ownEnds _ _ _ _ (T125.setTop (mkF m 70 #[.val (.int xf), .val (.long qs0), .second, .val (.long qs1), .second, .val (.long qg1), .second, .val (.long qg2), .second, .val (.int xp), .val (.int (xf &&& (3 : Int32))), .val (.ref b123), .val (.int (1 : Int32)), .unset, .unset, .unset, .unset, .unset, .unset] []))
      obtain ⟨T126, h126, X126, e126, E126, A126, D126, -, st126⟩ := newO X125 hx hZ hown (wd_1 hw) (wd_2 hw) (wd_3 hw) e125 (g := (mkF m 70 #[.val (.int xf), .val (.long qs0), .second, .val (.long qs1), .second, .val (.long qg1), .second, .val (.long qg2), .second, .val (.int xp), .val (.int (xf &&& (3 : Int32))), .val (.ref b123), .val (.int (1 : Int32)), .unset, .unset, .unset, .unset, .unset, .unset] [])) rfl (hb hby at_70) (by decide) (by decide)
      obtain ⟨b126, g126⟩ : ∃ z, z = h125.size := ⟨_, rfl⟩
      rw [← g126] at A126 D126 st126
      refine ownEnds.law st126 ?_
      have ne_b123_b126 : b123 ≠ b126 := Nat.ne_of_lt (Nat.lt_of_lt_of_eq V125.lt g126.symm)
      have g_b126 : n0 ≤ b126 := Nat.le_trans Z125 (Nat.le_of_eq g126.symm)
      have Z126 : n0 ≤ h126.size := Nat.le_trans Z125 E126.1
      have F127 : Fld Z h126 b126 "com/example/libreach/libreach/engine/StateStore" "layout" "Lcom/example/libreach/libreach/engine/StateLayout;" .null := D126 (Or.inl (wd_53 hw)) (ty := (.object "com/example/libreach/libreach/engine/StateLayout")) (by decide)
      have F128 : Fld Z h126 b126 "com/example/libreach/libreach/engine/StateStore" "words" "I" (.int (0 : Int32)) := D126 (Or.inl (wd_60 hw)) (ty := .int) (by decide)
      have F129 : Fld Z h126 b126 "com/example/libreach/libreach/engine/StateStore" "recordWords" "I" (.int (0 : Int32)) := D126 (Or.inl (wd_62 hw)) (ty := .int) (by decide)
      have F130 : Fld Z h126 b126 "com/example/libreach/libreach/engine/StateStore" "pageShift" "I" (.int (0 : Int32)) := D126 (Or.inl (wd_77 hw)) (ty := .int) (by decide)
      have F131 : Fld Z h126 b126 "com/example/libreach/libreach/engine/StateStore" "pages" "[[J" .null := D126 (Or.inl (wd_81 hw)) (ty := (.array (.array .long))) (by decide)
      have F132 : Fld Z h126 b126 "com/example/libreach/libreach/engine/StateStore" "table" "[J" .null := D126 (Or.inl (wd_84 hw)) (ty := (.array .long)) (by decide)
      show ownEnds _ _ _ _ (T126.setTop (mkF m 73 #[.val (.int xf), .val (.long qs0), .second, .val (.long qs1), .second, .val (.long qg1), .second, .val (.long qg2), .second, .val (.int xp), .val (.int (xf &&& (3 : Int32))), .val (.ref b123), .val (.int (1 : Int32)), .unset, .unset, .unset, .unset, .unset, .unset] [(.ref b126)]))
      refine ownEnds.law (fun t k => XS.dup X126.here hx rfl (hb hby at_73) rfl rfl k) ?_
      show ownEnds _ _ _ _ (T126.setTop (mkF m 74 #[.val (.int xf), .val (.long qs0), .second, .val (.long qs1), .second, .val (.long qg1), .second, .val (.long qg2), .second, .val (.int xp), .val (.int (xf &&& (3 : Int32))), .val (.ref b123), .val (.int (1 : Int32)), .unset, .unset, .unset, .unset, .unset, .unset] [(.ref b126), (.ref b126)]))
      obtain ⟨T133, h133, X133, e133, E133, A133, D133, -, st133⟩ := newO X126 hx hZ hown (wd_4 hw) (wd_5 hw) (wd_6 hw) e126 (g := (mkF m 74 #[.val (.int xf), .val (.long qs0), .second, .val (.long qs1), .second, .val (.long qg1), .second, .val (.long qg2), .second, .val (.int xp), .val (.int (xf &&& (3 : Int32))), .val (.ref b123), .val (.int (1 : Int32)), .unset, .unset, .unset, .unset, .unset, .unset] [(.ref b126), (.ref b126)])) rfl (hb hby at_74) (by decide) (by decide)
      obtain ⟨b133, g133⟩ : ∃ z, z = h126.size := ⟨_, rfl⟩
      rw [← g133] at A133 D133 st133
      refine ownEnds.law st133 ?_
      have f134 := (Arv.ext V125 E126)
      have ne_b123_b133 : b123 ≠ b133 := Nat.ne_of_lt (Nat.lt_of_lt_of_eq f134.lt g133.symm)
      have ne_b126_b133 : b126 ≠ b133 := Nat.ne_of_lt (Nat.lt_of_lt_of_eq A126.lt g133.symm)
      have g_b133 : n0 ≤ b133 := Nat.le_trans Z126 (Nat.le_of_eq g133.symm)
      have Z133 : n0 ≤ h133.size := Nat.le_trans Z126 E133.1
      have F135 : Fld Z h133 b133 "com/example/libreach/libreach/engine/StateLayout" "widths" "[I" .null := D133 (Or.inr (wd_23 hw)) (ty := (.array .int)) (by decide)
      have F136 : Fld Z h133 b133 "com/example/libreach/libreach/engine/StateLayout" "word" "[I" .null := D133 (Or.inr (wd_25 hw)) (ty := (.array .int)) (by decide)
      have F137 : Fld Z h133 b133 "com/example/libreach/libreach/engine/StateLayout" "shift" "[I" .null := D133 (Or.inr (wd_27 hw)) (ty := (.array .int)) (by decide)
      have F138 : Fld Z h133 b133 "com/example/libreach/libreach/engine/StateLayout" "largest" "[J" .null := D133 (Or.inr (wd_30 hw)) (ty := (.array .long)) (by decide)
      have F139 : Fld Z h133 b133 "com/example/libreach/libreach/engine/StateLayout" "words" "I" (.int (0 : Int32)) := D133 (Or.inr (wd_32 hw)) (ty := .int) (by decide)
      have F140 : Fld Z h133 b133 "com/example/libreach/libreach/engine/StateLayout" "runs" "[I" .null := D133 (Or.inr (wd_40 hw)) (ty := (.array .int)) (by decide)
      show ownEnds _ _ _ _ (T133.setTop (mkF m 77 #[.val (.int xf), .val (.long qs0), .second, .val (.long qs1), .second, .val (.long qg1), .second, .val (.long qg2), .second, .val (.int xp), .val (.int (xf &&& (3 : Int32))), .val (.ref b123), .val (.int (1 : Int32)), .unset, .unset, .unset, .unset, .unset, .unset] [(.ref b133), (.ref b126), (.ref b126)]))
      refine ownEnds.law (fun t k => XS.dup X133.here hx rfl (hb hby at_77) rfl rfl (XS.aload X133.here hx rfl (hb hby at_78) rfl rfl k)) ?_
      show ownEnds _ _ _ _ (T133.setTop (mkF m 80 #[.val (.int xf), .val (.long qs0), .second, .val (.long qs1), .second, .val (.long qg1), .second, .val (.long qg2), .second, .val (.int xp), .val (.int (xf &&& (3 : Int32))), .val (.ref b123), .val (.int (1 : Int32)), .unset, .unset, .unset, .unset, .unset, .unset] [(.ref b123), (.ref b133), (.ref b133), (.ref b126), (.ref b126)]))
      have f142 := (Exa.ext E133 (Exa.ext E126 (Exa.wr W125 (Exa.wr W124 Ax123))))
      have f143 := (Arv.ext f134 E133)
      obtain ⟨v141, T141, L141, X141, hQ141, st141⟩ := ownCallC X133 hx hZ hown (y := (⟨"com/example/libreach/libreach/engine/StateLayout", "<init>", "([I)V"⟩ : MethodName)) rfl (a := b133) (as := [(.ref b123)]) (wd_7 hw) (wd_8 hw) (wd_6 hw) (wd_9 hw) (by decide) (rm1_2 l Z a0 hw b133 b123 k123 h133 n0 Z133 A133 g_b133 F135 F136 F137 F138 F139 F140 f142 f143) e133 3 (by decide) (by decide) (by decide) (by decide) (g := (mkF m 80 #[.val (.int xf), .val (.long qs0), .second, .val (.long qs1), .second, .val (.long qg1), .second, .val (.long qg2), .second, .val (.int xp), .val (.int (xf &&& (3 : Int32))), .val (.ref b123), .val (.int (1 : Int32)), .unset, .unset, .unset, .unset, .unset, .unset] [(.ref b123), (.ref b133), (.ref b133), (.ref b126), (.ref b126)])) rfl (by rw [hml]; rfl) (rest := [(.ref b133), (.ref b126), (.ref b126)]) pd_6 rfl rfl (by show 2 * 0 + _ ≤ _; exact Nat.le_of_eq rfl) (hb hby at_80)
      obtain ⟨rfl, Nq141, Kq141, Eq141, Fc141_0⟩ := hQ141
      have N141 := Fr.app N125 Nq141
      have Z141 : n0 ≤ T141.heap.size := Nat.le_trans Z133 Kq141.1
      refine ownEnds.law st141 ?_
      show ownEnds _ _ _ _ (T141.setTop (mkF m 83 #[.val (.int xf), .val (.long qs0), .second, .val (.long qs1), .second, .val (.long qg1), .second, .val (.long qg2), .second, .val (.int xp), .val (.int (xf &&& (3 : Int32))), .val (.ref b123), .val (.int (1 : Int32)), .unset, .unset, .unset, .unset, .unset, .unset] [(.ref b133), (.ref b126), (.ref b126)]))
      have f145 := (Exa.keep (Exa.ext E133 A126) Kq141)
      have f146 := (Fld.keep (Fld.ext E133 F127) Kq141 (ninS ne_b126_b133 nin0))
      have f147 := (Fld.keep (Fld.ext E133 F128) Kq141 (ninS ne_b126_b133 nin0))
      have f148 := (Fld.keep (Fld.ext E133 F129) Kq141 (ninS ne_b126_b133 nin0))
      have f149 := (Fld.keep (Fld.ext E133 F130) Kq141 (ninS ne_b126_b133 nin0))
      have f150 := (Fld.keep (Fld.ext E133 F131) Kq141 (ninS ne_b126_b133 nin0))
      have f151 := (Fld.keep (Fld.ext E133 F132) Kq141 (ninS ne_b126_b133 nin0))
      obtain ⟨v144, T144, L144, X144, hQ144, st144⟩ := ownCallC X141 hx hZ hown (y := (⟨"com/example/libreach/libreach/engine/StateStore", "<init>", "(Lcom/example/libreach/libreach/engine/StateLayout;)V"⟩ : MethodName)) rfl (a := b126) (as := [(.ref b133)]) (wd_41 hw) (wd_42 hw) (wd_3 hw) (wd_43 hw) (by decide) (rm4_2 l Z a0 hw b126 b133  T141.heap n0 Z141 f145 g_b126 f146 f147 f148 f149 f150 f151 Eq141 Fc141_0) rfl 1 (by decide) (by decide) (by decide) (by decide) (g := (mkF m 83 #[.val (.int xf), .val (.long qs0), .second, .val (.long qs1), .second, .val (.long qg1), .second, .val (.long qg2), .second, .val (.int xp), .val (.int (xf &&& (3 : Int32))), .val (.ref b123), .val (.int (1 : Int32)), .unset, .unset, .unset, .unset, .unset, .unset] [(.ref b133), (.ref b126), (.ref b126)])) rfl (by rw [hml]; rfl) (rest := [(.ref b126)]) pd_4 rfl rfl (by show 2 * 0 + _ ≤ _; exact Nat.le_of_eq rfl) (hb hby at_83)
      obtain ⟨rfl, Nq144, Kq144, Eq144, Fc144_0⟩ := hQ144
      have N144 := Fr.app N141 Nq144
      have Z144 : n0 ≤ T144.heap.size := Nat.le_trans Z141 Kq144.1
      refine ownEnds.law st144 ?_
      show ownEnds _ _ _ _ (T144.setTop (mkF m 86 #[.val (.int xf), .val (.long qs0), .second, .val (.long qs1), .second, .val (.long qg1), .second, .val (.long qg2), .second, .val (.int xp), .val (.int (xf &&& (3 : Int32))), .val (.ref b123), .val (.int (1 : Int32)), .unset, .unset, .unset, .unset, .unset, .unset] [(.ref b126)]))
      refine ownEnds.law (fun t k => XS.astore X144.here hx rfl (hb hby at_86) rfl rfl (l' := #[.val (.int xf), .val (.long qs0), .second, .val (.long qs1), .second, .val (.long qg1), .second, .val (.long qg2), .second, .val (.int xp), .val (.int (xf &&& (3 : Int32))), .val (.ref b123), .val (.int (1 : Int32)), .val (.ref b126), .unset, .unset, .unset, .unset, .unset]) rfl (XS.iconst X144.here hx rfl (hb hby at_88) k)) ?_
      show ownEnds _ _ _ _ (T144.setTop (mkF m 89 #[.val (.int xf), .val (.long qs0), .second, .val (.long qs1), .second, .val (.long qg1), .second, .val (.long qg2), .second, .val (.int xp), .val (.int (xf &&& (3 : Int32))), .val (.ref b123), .val (.int (1 : Int32)), .val (.ref b126), .unset, .unset, .unset, .unset, .unset] [(.int (4 : Int32))]))
      obtain ⟨T152, h152, k152, X152, e152, E152, A152, st152⟩ := newP X144 hx hZ (aty := .long) (wd_28 hw) rfl (g := (mkF m 89 #[.val (.int xf), .val (.long qs0), .second, .val (.long qs1), .second, .val (.long qg1), .second, .val (.long qg2), .second, .val (.int xp), .val (.int (xf &&& (3 : Int32))), .val (.ref b123), .val (.int (1 : Int32)), .val (.ref b126), .unset, .unset, .unset, .unset, .unset] [(.int (4 : Int32))])) rfl (hb hby at_89) rfl (by decide) (cap := 4) (by decide) (by decide) (by decide) (by decide)
      obtain ⟨b152, g152⟩ : ∃ z, z = T144.heap.size := ⟨_, rfl⟩
      rw [← g152] at A152 st152
      refine ownEnds.law st152 ?_
      have V_b152 : Arv Z h152 b152 k152 .long (4 : Int32) [(.long (0 : Int64)), (.long (0 : Int64)), (.long (0 : Int64)), (.long (0 : Int64))] (.long (0 : Int64)) := (Arv.new A152 (by decide)).pad (pad_rep [] (.long (0 : Int64)) 4)
      have f153 := (Arv.keep (Arv.keep f143 Kq141 (ninS ne_b123_b133 nin0)) Kq144 (ninS ne_b123_b126 nin0))
      have ne_b123_b152 : b123 ≠ b152 := Nat.ne_of_lt (Nat.lt_of_lt_of_eq f153.lt g152.symm)
      have ne_b126_b152 : b126 ≠ b152 := Nat.ne_of_lt (Nat.lt_of_lt_of_eq Eq144.lt g152.symm)
      have f154 := (Exa.keep Eq141 Kq144)
      have ne_b133_b152 : b133 ≠ b152 := Nat.ne_of_lt (Nat.lt_of_lt_of_eq f154.lt g152.symm)
      have g_b152 : n0 ≤ b152 := Nat.le_trans Z144 (Nat.le_of_eq g152.symm)
      have Z152 : n0 ≤ h152.size := Nat.le_trans Z144 E152.1
      show ownEnds _ _ _ _ (T152.setTop (mkF m 91 #[.val (.int xf), .val (.long qs0), .second, .val (.long qs1), .second, .val (.long qg1), .second, .val (.long qg2), .second, .val (.int xp), .val (.int (xf &&& (3 : Int32))), .val (.ref b123), .val (.int (1 : Int32)), .val (.ref b126), .unset, .unset, .unset, .unset, .unset] [(.ref b152)]))
      refine ownEnds.law (fun t k => XS.dup X152.here hx rfl (hb hby at_91) rfl rfl (XS.iconst X152.here hx rfl (hb hby at_92) (XS.lload X152.here hx rfl (hb hby at_93) rfl k))) ?_
      show ownEnds _ _ _ _ (T152.setTop (mkF m 95 #[.val (.int xf), .val (.long qs0), .second, .val (.long qs1), .second, .val (.long qg1), .second, .val (.long qg2), .second, .val (.int xp), .val (.int (xf &&& (3 : Int32))), .val (.ref b123), .val (.int (1 : Int32)), .val (.ref b126), .unset, .unset, .unset, .unset, .unset] [(.long qg1), (.int (0 : Int32)), (.ref b152), (.ref b152)]))
      obtain ⟨cl155, Ar155, q155, S155, N155, H155, G155⟩ := id V_b152
      obtain ⟨T155, h155, X155, e155, W155, st155⟩ := stJ X152 hx hZ e152 Ar155 (j := (0 : Int32)) (inb_of S155 ⟨by decide, by decide⟩) (g := (mkF m 95 #[.val (.int xf), .val (.long qs0), .second, .val (.long qs1), .second, .val (.long qg1), .second, .val (.long qg2), .second, .val (.int xp), .val (.int (xf &&& (3 : Int32))), .val (.ref b123), .val (.int (1 : Int32)), .val (.ref b126), .unset, .unset, .unset, .unset, .unset] [(.long qg1), (.int (0 : Int32)), (.ref b152), (.ref b152)])) rfl rfl (hb hby at_95)
      refine ownEnds.law st155 ?_
      have V155 : Arv Z h155 b152 k152 .long (4 : Int32) [(.long qg1), (.long (0 : Int64)), (.long (0 : Int64)), (.long (0 : Int64))] (.long (0 : Int64)) := Arv.set Ar155 q155 S155 N155 H155 G155 rfl W155 0 rfl (Nat.le_of_ble_eq_true rfl)
      have N155 := Fr.snoc X155 N144 g_b152
      have Z155 : n0 ≤ h155.size := by rw [W155.size]; exact Z152
      show ownEnds _ _ _ _ (T155.setTop (mkF m 96 #[.val (.int xf), .val (.long qs0), .second, .val (.long qs1), .second, .val (.long qg1), .second, .val (.long qg2), .second, .val (.int xp), .val (.int (xf &&& (3 : Int32))), .val (.ref b123), .val (.int (1 : Int32)), .val (.ref b126), .unset, .unset, .unset, .unset, .unset] [(.ref b152)]))
      refine ownEnds.law (fun t k => XS.dup X155.here hx rfl (hb hby at_96) rfl rfl (XS.iconst X155.here hx rfl (hb hby at_97) (XS.lloadN X155.here hx rfl (hb hby at_98) rfl k))) ?_
      show ownEnds _ _ _ _ (T155.setTop (mkF m 99 #[.val (.int xf), .val (.long qs0), .second, .val (.long qs1), .second, .val (.long qg1), .second, .val (.long qg2), .second, .val (.int xp), .val (.int (xf &&& (3 : Int32))), .val (.ref b123), .val (.int (1 : Int32)), .val (.ref b126), .unset, .unset, .unset, .unset, .unset] [(.long qs0), (.int (1 : Int32)), (.ref b152), (.ref b152)]))
      obtain ⟨cl156, Ar156, q156, S156, N156, H156, G156⟩ := id V155
      obtain ⟨T156, h156, X156, e156, W156, st156⟩ := stJ X155 hx hZ e155 Ar156 (j := (1 : Int32)) (inb_of S156 ⟨by decide, by decide⟩) (g := (mkF m 99 #[.val (.int xf), .val (.long qs0), .second, .val (.long qs1), .second, .val (.long qg1), .second, .val (.long qg2), .second, .val (.int xp), .val (.int (xf &&& (3 : Int32))), .val (.ref b123), .val (.int (1 : Int32)), .val (.ref b126), .unset, .unset, .unset, .unset, .unset] [(.long qs0), (.int (1 : Int32)), (.ref b152), (.ref b152)])) rfl rfl (hb hby at_99)
      refine ownEnds.law st156 ?_
      have V156 : Arv Z h156 b152 k152 .long (4 : Int32) [(.long qg1), (.long qs0), (.long (0 : Int64)), (.long (0 : Int64))] (.long (0 : Int64)) := Arv.set Ar156 q156 S156 N156 H156 G156 rfl W156 1 rfl (Nat.le_of_ble_eq_true rfl)
      have N156 := Fr.snoc X156 N155 g_b152
      have Z156 : n0 ≤ h156.size := by rw [W156.size]; exact Z155
      show ownEnds _ _ _ _ (T156.setTop (mkF m 100 #[.val (.int xf), .val (.long qs0), .second, .val (.long qs1), .second, .val (.long qg1), .second, .val (.long qg2), .second, .val (.int xp), .val (.int (xf &&& (3 : Int32))), .val (.ref b123), .val (.int (1 : Int32)), .val (.ref b126), .unset, .unset, .unset, .unset, .unset] [(.ref b152)]))
      refine ownEnds.law (fun t k => XS.dup X156.here hx rfl (hb hby at_100) rfl rfl (XS.iconst X156.here hx rfl (hb hby at_101) (XS.lloadN X156.here hx rfl (hb hby at_102) rfl k))) ?_
      show ownEnds _ _ _ _ (T156.setTop (mkF m 103 #[.val (.int xf), .val (.long qs0), .second, .val (.long qs1), .second, .val (.long qg1), .second, .val (.long qg2), .second, .val (.int xp), .val (.int (xf &&& (3 : Int32))), .val (.ref b123), .val (.int (1 : Int32)), .val (.ref b126), .unset, .unset, .unset, .unset, .unset] [(.long qs1), (.int (2 : Int32)), (.ref b152), (.ref b152)]))
      obtain ⟨cl157, Ar157, q157, S157, N157, H157, G157⟩ := id V156
      obtain ⟨T157, h157, X157, e157, W157, st157⟩ := stJ X156 hx hZ e156 Ar157 (j := (2 : Int32)) (inb_of S157 ⟨by decide, by decide⟩) (g := (mkF m 103 #[.val (.int xf), .val (.long qs0), .second, .val (.long qs1), .second, .val (.long qg1), .second, .val (.long qg2), .second, .val (.int xp), .val (.int (xf &&& (3 : Int32))), .val (.ref b123), .val (.int (1 : Int32)), .val (.ref b126), .unset, .unset, .unset, .unset, .unset] [(.long qs1), (.int (2 : Int32)), (.ref b152), (.ref b152)])) rfl rfl (hb hby at_103)
      refine ownEnds.law st157 ?_
      have V157 : Arv Z h157 b152 k152 .long (4 : Int32) [(.long qg1), (.long qs0), (.long qs1), (.long (0 : Int64))] (.long (0 : Int64)) := Arv.set Ar157 q157 S157 N157 H157 G157 rfl W157 2 rfl (Nat.le_of_ble_eq_true rfl)
      have N157 := Fr.snoc X157 N156 g_b152
      have Z157 : n0 ≤ h157.size := by rw [W157.size]; exact Z156
      show ownEnds _ _ _ _ (T157.setTop (mkF m 104 #[.val (.int xf), .val (.long qs0), .second, .val (.long qs1), .second, .val (.long qg1), .second, .val (.long qg2), .second, .val (.int xp), .val (.int (xf &&& (3 : Int32))), .val (.ref b123), .val (.int (1 : Int32)), .val (.ref b126), .unset, .unset, .unset, .unset, .unset] [(.ref b152)]))
      refine ownEnds.law (fun t k => XS.dup X157.here hx rfl (hb hby at_104) rfl rfl (XS.iconst X157.here hx rfl (hb hby at_105) (XS.lload X157.here hx rfl (hb hby at_106) rfl k))) ?_
      show ownEnds _ _ _ _ (T157.setTop (mkF m 108 #[.val (.int xf), .val (.long qs0), .second, .val (.long qs1), .second, .val (.long qg1), .second, .val (.long qg2), .second, .val (.int xp), .val (.int (xf &&& (3 : Int32))), .val (.ref b123), .val (.int (1 : Int32)), .val (.ref b126), .unset, .unset, .unset, .unset, .unset] [(.long qg2), (.int (3 : Int32)), (.ref b152), (.ref b152)]))
      obtain ⟨cl158, Ar158, q158, S158, N158, H158, G158⟩ := id V157
      obtain ⟨T158, h158, X158, e158, W158, st158⟩ := stJ X157 hx hZ e157 Ar158 (j := (3 : Int32)) (inb_of S158 ⟨by decide, by decide⟩) (g := (mkF m 108 #[.val (.int xf), .val (.long qs0), .second, .val (.long qs1), .second, .val (.long qg1), .second, .val (.long qg2), .second, .val (.int xp), .val (.int (xf &&& (3 : Int32))), .val (.ref b123), .val (.int (1 : Int32)), .val (.ref b126), .unset, .unset, .unset, .unset, .unset] [(.long qg2), (.int (3 : Int32)), (.ref b152), (.ref b152)])) rfl rfl (hb hby at_108)
      refine ownEnds.law st158 ?_
      have V158 : Arv Z h158 b152 k152 .long (4 : Int32) [(.long qg1), (.long qs0), (.long qs1), (.long qg2)] (.long (0 : Int64)) := Arv.set Ar158 q158 S158 N158 H158 G158 rfl W158 3 rfl (Nat.le_of_ble_eq_true rfl)
      have N158 := Fr.snoc X158 N157 g_b152
      have Z158 : n0 ≤ h158.size := by rw [W158.size]; exact Z157
      show ownEnds _ _ _ _ (T158.setTop (mkF m 109 #[.val (.int xf), .val (.long qs0), .second, .val (.long qs1), .second, .val (.long qg1), .second, .val (.long qg2), .second, .val (.int xp), .val (.int (xf &&& (3 : Int32))), .val (.ref b123), .val (.int (1 : Int32)), .val (.ref b126), .unset, .unset, .unset, .unset, .unset] [(.ref b152)]))
      refine ownEnds.law (fun t k => XS.astore X158.here hx rfl (hb hby at_109) rfl rfl (l' := #[.val (.int xf), .val (.long qs0), .second, .val (.long qs1), .second, .val (.long qg1), .second, .val (.long qg2), .second, .val (.int xp), .val (.int (xf &&& (3 : Int32))), .val (.ref b123), .val (.int (1 : Int32)), .val (.ref b126), .val (.ref b152), .unset, .unset, .unset, .unset]) rfl (XS.iload X158.here hx rfl (hb hby at_111) rfl k)) ?_
      show ownEnds _ _ _ _ (T158.setTop (mkF m 113 #[.val (.int xf), .val (.long qs0), .second, .val (.long qs1), .second, .val (.long qg1), .second, .val (.long qg2), .second, .val (.int xp), .val (.int (xf &&& (3 : Int32))), .val (.ref b123), .val (.int (1 : Int32)), .val (.ref b126), .val (.ref b152), .unset, .unset, .unset, .unset] [(.int (1 : Int32))]))
      refine ownEnds.law (fun t => XS.ifNo X158.here hx rfl (hb hby at_113) rfl ((if0 _ _).trans (feq (by decide : ¬ ((1 : Int32) = (0 : Int32)))).1)) ?_
      show ownEnds _ _ _ _ (T158.setTop (mkF m 116 #[.val (.int xf), .val (.long qs0), .second, .val (.long qs1), .second, .val (.long qg1), .second, .val (.long qg2), .second, .val (.int xp), .val (.int (xf &&& (3 : Int32))), .val (.ref b123), .val (.int (1 : Int32)), .val (.ref b126), .val (.ref b152), .unset, .unset, .unset, .unset] []))
      refine ownEnds.law (fun t k => XS.lloadN X158.here hx rfl (hb hby at_116) rfl (XS.goto X158.here hx rfl (pc0 := 117) (pc' := 122) rfl (hb hby at_117) (by decide) (by decide) (XS.lstore X158.here hx rfl (hb hby at_122) rfl (l' := #[.val (.int xf), .val (.long qs0), .second, .val (.long qs1), .second, .val (.long qg1), .second, .val (.long qg2), .second, .val (.int xp), .val (.int (xf &&& (3 : Int32))), .val (.ref b123), .val (.int (1 : Int32)), .val (.ref b126), .val (.ref b152), .val (.long qs1), .second, .unset, .unset]) rfl (XS.iload X158.here hx rfl (hb hby at_124) rfl (XS.iconst X158.here hx rfl (hb hby at_126) (XS.iand X158.here hx rfl (hb hby at_127) rfl k)))))) ?_
      show ownEnds _ _ _ _ (T158.setTop (mkF m 128 #[.val (.int xf), .val (.long qs0), .second, .val (.long qs1), .second, .val (.long qg1), .second, .val (.long qg2), .second, .val (.int xp), .val (.int (xf &&& (3 : Int32))), .val (.ref b123), .val (.int (1 : Int32)), .val (.ref b126), .val (.ref b152), .val (.long qs1), .second, .unset, .unset] [(.int (xp &&& (1 : Int32)))]))
      by_cases hc128 : (xp &&& (1 : Int32)) = (0 : Int32)
      · refine ownEnds.law (fun t => XS.ifNo X158.here hx rfl (hb hby at_128) rfl ((if0 _ _).trans (teq hc128).2)) ?_
        show ownEnds _ _ _ _ (T158.setTop (mkF m 131 #[.val (.int xf), .val (.long qs0), .second, .val (.long qs1), .second, .val (.long qg1), .second, .val (.long qg2), .second, .val (.int xp), .val (.int (xf &&& (3 : Int32))), .val (.ref b123), .val (.int (1 : Int32)), .val (.ref b126), .val (.ref b152), .val (.long qs1), .second, .unset, .unset] []))
        refine ownEnds.law (fun t k => XS.iconst X158.here hx rfl (hb hby at_131) k) ?_
        show ownEnds _ _ _ _ (T158.setTop (mkF m 132 #[.val (.int xf), .val (.long qs0), .second, .val (.long qs1), .second, .val (.long qg1), .second, .val (.long qg2), .second, .val (.int xp), .val (.int (xf &&& (3 : Int32))), .val (.ref b123), .val (.int (1 : Int32)), .val (.ref b126), .val (.ref b152), .val (.long qs1), .second, .unset, .unset] [(.int (4 : Int32))]))
        obtain ⟨T159, h159, k159, X159, e159, E159, A159, st159⟩ := newP X158 hx hZ (aty := .long) (wd_28 hw) e158 (g := (mkF m 132 #[.val (.int xf), .val (.long qs0), .second, .val (.long qs1), .second, .val (.long qg1), .second, .val (.long qg2), .second, .val (.int xp), .val (.int (xf &&& (3 : Int32))), .val (.ref b123), .val (.int (1 : Int32)), .val (.ref b126), .val (.ref b152), .val (.long qs1), .second, .unset, .unset] [(.int (4 : Int32))])) rfl (hb hby at_132) rfl (by decide) (cap := 4) (by decide) (by decide) (by decide) (by decide)
        obtain ⟨b159, g159⟩ : ∃ z, z = h158.size := ⟨_, rfl⟩
        rw [← g159] at A159 st159
        refine ownEnds.law st159 ?_
        have V_b159 : Arv Z h159 b159 k159 .long (4 : Int32) [(.long (0 : Int64)), (.long (0 : Int64)), (.long (0 : Int64)), (.long (0 : Int64))] (.long (0 : Int64)) := (Arv.new A159 (by decide)).pad (pad_rep [] (.long (0 : Int64)) 4)
        have f160 := (Arv.other (Arv.other (Arv.other (Arv.other (Arv.ext f153 E152) W155 ne_b123_b152) W156 ne_b123_b152) W157 ne_b123_b152) W158 ne_b123_b152)
        have ne_b123_b159 : b123 ≠ b159 := Nat.ne_of_lt (Nat.lt_of_lt_of_eq f160.lt g159.symm)
        have f161 := (Exa.wr W158 (Exa.wr W157 (Exa.wr W156 (Exa.wr W155 (Exa.ext E152 Eq144)))))
        have ne_b126_b159 : b126 ≠ b159 := Nat.ne_of_lt (Nat.lt_of_lt_of_eq f161.lt g159.symm)
        have f162 := (Exa.wr W158 (Exa.wr W157 (Exa.wr W156 (Exa.wr W155 (Exa.ext E152 f154)))))
        have ne_b133_b159 : b133 ≠ b159 := Nat.ne_of_lt (Nat.lt_of_lt_of_eq f162.lt g159.symm)
        have ne_b152_b159 : b152 ≠ b159 := Nat.ne_of_lt (Nat.lt_of_lt_of_eq V158.lt g159.symm)
        have g_b159 : n0 ≤ b159 := Nat.le_trans Z158 (Nat.le_of_eq g159.symm)
        have Z159 : n0 ≤ h159.size := Nat.le_trans Z158 E159.1
        show ownEnds _ _ _ _ (T159.setTop (mkF m 134 #[.val (.int xf), .val (.long qs0), .second, .val (.long qs1), .second, .val (.long qg1), .second, .val (.long qg2), .second, .val (.int xp), .val (.int (xf &&& (3 : Int32))), .val (.ref b123), .val (.int (1 : Int32)), .val (.ref b126), .val (.ref b152), .val (.long qs1), .second, .unset, .unset] [(.ref b159)]))
        refine ownEnds.law (fun t k => XS.dup X159.here hx rfl (hb hby at_134) rfl rfl (XS.iconst X159.here hx rfl (hb hby at_135) (XS.lloadN X159.here hx rfl (hb hby at_136) rfl k))) ?_
        show ownEnds _ _ _ _ (T159.setTop (mkF m 137 #[.val (.int xf), .val (.long qs0), .second, .val (.long qs1), .second, .val (.long qg1), .second, .val (.long qg2), .second, .val (.int xp), .val (.int (xf &&& (3 : Int32))), .val (.ref b123), .val (.int (1 : Int32)), .val (.ref b126), .val (.ref b152), .val (.long qs1), .second, .unset, .unset] [(.long qs0), (.int (0 : Int32)), (.ref b159), (.ref b159)]))
        obtain ⟨cl163, Ar163, q163, S163, N163, H163, G163⟩ := id V_b159
        obtain ⟨T163, h163, X163, e163, W163, st163⟩ := stJ X159 hx hZ e159 Ar163 (j := (0 : Int32)) (inb_of S163 ⟨by decide, by decide⟩) (g := (mkF m 137 #[.val (.int xf), .val (.long qs0), .second, .val (.long qs1), .second, .val (.long qg1), .second, .val (.long qg2), .second, .val (.int xp), .val (.int (xf &&& (3 : Int32))), .val (.ref b123), .val (.int (1 : Int32)), .val (.ref b126), .val (.ref b152), .val (.long qs1), .second, .unset, .unset] [(.long qs0), (.int (0 : Int32)), (.ref b159), (.ref b159)])) rfl rfl (hb hby at_137)
        refine ownEnds.law st163 ?_
        have V163 : Arv Z h163 b159 k159 .long (4 : Int32) [(.long qs0), (.long (0 : Int64)), (.long (0 : Int64)), (.long (0 : Int64))] (.long (0 : Int64)) := Arv.set Ar163 q163 S163 N163 H163 G163 rfl W163 0 rfl (Nat.le_of_ble_eq_true rfl)
        have N163 := Fr.snoc X163 N158 g_b159
        have Z163 : n0 ≤ h163.size := by rw [W163.size]; exact Z159
        show ownEnds _ _ _ _ (T163.setTop (mkF m 138 #[.val (.int xf), .val (.long qs0), .second, .val (.long qs1), .second, .val (.long qg1), .second, .val (.long qg2), .second, .val (.int xp), .val (.int (xf &&& (3 : Int32))), .val (.ref b123), .val (.int (1 : Int32)), .val (.ref b126), .val (.ref b152), .val (.long qs1), .second, .unset, .unset] [(.ref b159)]))
        refine ownEnds.law (fun t k => XS.dup X163.here hx rfl (hb hby at_138) rfl rfl (XS.iconst X163.here hx rfl (hb hby at_139) (XS.lload X163.here hx rfl (hb hby at_140) rfl k))) ?_
        show ownEnds _ _ _ _ (T163.setTop (mkF m 142 #[.val (.int xf), .val (.long qs0), .second, .val (.long qs1), .second, .val (.long qg1), .second, .val (.long qg2), .second, .val (.int xp), .val (.int (xf &&& (3 : Int32))), .val (.ref b123), .val (.int (1 : Int32)), .val (.ref b126), .val (.ref b152), .val (.long qs1), .second, .unset, .unset] [(.long qs1), (.int (1 : Int32)), (.ref b159), (.ref b159)]))
        obtain ⟨cl164, Ar164, q164, S164, N164, H164, G164⟩ := id V163
        obtain ⟨T164, h164, X164, e164, W164, st164⟩ := stJ X163 hx hZ e163 Ar164 (j := (1 : Int32)) (inb_of S164 ⟨by decide, by decide⟩) (g := (mkF m 142 #[.val (.int xf), .val (.long qs0), .second, .val (.long qs1), .second, .val (.long qg1), .second, .val (.long qg2), .second, .val (.int xp), .val (.int (xf &&& (3 : Int32))), .val (.ref b123), .val (.int (1 : Int32)), .val (.ref b126), .val (.ref b152), .val (.long qs1), .second, .unset, .unset] [(.long qs1), (.int (1 : Int32)), (.ref b159), (.ref b159)])) rfl rfl (hb hby at_142)
        refine ownEnds.law st164 ?_
        have V164 : Arv Z h164 b159 k159 .long (4 : Int32) [(.long qs0), (.long qs1), (.long (0 : Int64)), (.long (0 : Int64))] (.long (0 : Int64)) := Arv.set Ar164 q164 S164 N164 H164 G164 rfl W164 1 rfl (Nat.le_of_ble_eq_true rfl)
        have N164 := Fr.snoc X164 N163 g_b159
        have Z164 : n0 ≤ h164.size := by rw [W164.size]; exact Z163
        show ownEnds _ _ _ _ (T164.setTop (mkF m 143 #[.val (.int xf), .val (.long qs0), .second, .val (.long qs1), .second, .val (.long qg1), .second, .val (.long qg2), .second, .val (.int xp), .val (.int (xf &&& (3 : Int32))), .val (.ref b123), .val (.int (1 : Int32)), .val (.ref b126), .val (.ref b152), .val (.long qs1), .second, .unset, .unset] [(.ref b159)]))
        refine ownEnds.law (fun t k => XS.dup X164.here hx rfl (hb hby at_143) rfl rfl (XS.iconst X164.here hx rfl (hb hby at_144) (XS.lload X164.here hx rfl (hb hby at_145) rfl k))) ?_
        show ownEnds _ _ _ _ (T164.setTop (mkF m 147 #[.val (.int xf), .val (.long qs0), .second, .val (.long qs1), .second, .val (.long qg1), .second, .val (.long qg2), .second, .val (.int xp), .val (.int (xf &&& (3 : Int32))), .val (.ref b123), .val (.int (1 : Int32)), .val (.ref b126), .val (.ref b152), .val (.long qs1), .second, .unset, .unset] [(.long qg2), (.int (2 : Int32)), (.ref b159), (.ref b159)]))
        obtain ⟨cl165, Ar165, q165, S165, N165, H165, G165⟩ := id V164
        obtain ⟨T165, h165, X165, e165, W165, st165⟩ := stJ X164 hx hZ e164 Ar165 (j := (2 : Int32)) (inb_of S165 ⟨by decide, by decide⟩) (g := (mkF m 147 #[.val (.int xf), .val (.long qs0), .second, .val (.long qs1), .second, .val (.long qg1), .second, .val (.long qg2), .second, .val (.int xp), .val (.int (xf &&& (3 : Int32))), .val (.ref b123), .val (.int (1 : Int32)), .val (.ref b126), .val (.ref b152), .val (.long qs1), .second, .unset, .unset] [(.long qg2), (.int (2 : Int32)), (.ref b159), (.ref b159)])) rfl rfl (hb hby at_147)
        refine ownEnds.law st165 ?_
        have V165 : Arv Z h165 b159 k159 .long (4 : Int32) [(.long qs0), (.long qs1), (.long qg2), (.long (0 : Int64))] (.long (0 : Int64)) := Arv.set Ar165 q165 S165 N165 H165 G165 rfl W165 2 rfl (Nat.le_of_ble_eq_true rfl)
        have N165 := Fr.snoc X165 N164 g_b159
        have Z165 : n0 ≤ h165.size := by rw [W165.size]; exact Z164
        show ownEnds _ _ _ _ (T165.setTop (mkF m 148 #[.val (.int xf), .val (.long qs0), .second, .val (.long qs1), .second, .val (.long qg1), .second, .val (.long qg2), .second, .val (.int xp), .val (.int (xf &&& (3 : Int32))), .val (.ref b123), .val (.int (1 : Int32)), .val (.ref b126), .val (.ref b152), .val (.long qs1), .second, .unset, .unset] [(.ref b159)]))
        refine ownEnds.law (fun t k => XS.dup X165.here hx rfl (hb hby at_148) rfl rfl (XS.iconst X165.here hx rfl (hb hby at_149) (XS.lload X165.here hx rfl (hb hby at_150) rfl k))) ?_
        show ownEnds _ _ _ _ (T165.setTop (mkF m 152 #[.val (.int xf), .val (.long qs0), .second, .val (.long qs1), .second, .val (.long qg1), .second, .val (.long qg2), .second, .val (.int xp), .val (.int (xf &&& (3 : Int32))), .val (.ref b123), .val (.int (1 : Int32)), .val (.ref b126), .val (.ref b152), .val (.long qs1), .second, .unset, .unset] [(.long qg1), (.int (3 : Int32)), (.ref b159), (.ref b159)]))
        obtain ⟨cl166, Ar166, q166, S166, N166, H166, G166⟩ := id V165
        obtain ⟨T166, h166, X166, e166, W166, st166⟩ := stJ X165 hx hZ e165 Ar166 (j := (3 : Int32)) (inb_of S166 ⟨by decide, by decide⟩) (g := (mkF m 152 #[.val (.int xf), .val (.long qs0), .second, .val (.long qs1), .second, .val (.long qg1), .second, .val (.long qg2), .second, .val (.int xp), .val (.int (xf &&& (3 : Int32))), .val (.ref b123), .val (.int (1 : Int32)), .val (.ref b126), .val (.ref b152), .val (.long qs1), .second, .unset, .unset] [(.long qg1), (.int (3 : Int32)), (.ref b159), (.ref b159)])) rfl rfl (hb hby at_152)
        refine ownEnds.law st166 ?_
        have V166 : Arv Z h166 b159 k159 .long (4 : Int32) [(.long qs0), (.long qs1), (.long qg2), (.long qg1)] (.long (0 : Int64)) := Arv.set Ar166 q166 S166 N166 H166 G166 rfl W166 3 rfl (Nat.le_of_ble_eq_true rfl)
        have N166 := Fr.snoc X166 N165 g_b159
        have Z166 : n0 ≤ h166.size := by rw [W166.size]; exact Z165
        show ownEnds _ _ _ _ (T166.setTop (mkF m 153 #[.val (.int xf), .val (.long qs0), .second, .val (.long qs1), .second, .val (.long qg1), .second, .val (.long qg2), .second, .val (.int xp), .val (.int (xf &&& (3 : Int32))), .val (.ref b123), .val (.int (1 : Int32)), .val (.ref b126), .val (.ref b152), .val (.long qs1), .second, .unset, .unset] [(.ref b159)]))
        refine ownEnds.law (fun t k => XS.astore X166.here hx rfl (hb hby at_153) rfl rfl (l' := #[.val (.int xf), .val (.long qs0), .second, .val (.long qs1), .second, .val (.long qg1), .second, .val (.long qg2), .second, .val (.int xp), .val (.int (xf &&& (3 : Int32))), .val (.ref b123), .val (.int (1 : Int32)), .val (.ref b126), .val (.ref b152), .val (.long qs1), .second, .val (.ref b159), .unset]) rfl (XS.iconst X166.here hx rfl (hb hby at_155) (XS.istore X166.here hx rfl (hb hby at_156) rfl (l' := #[.val (.int xf), .val (.long qs0), .second, .val (.long qs1), .second, .val (.long qg1), .second, .val (.long qg2), .second, .val (.int xp), .val (.int (xf &&& (3 : Int32))), .val (.ref b123), .val (.int (1 : Int32)), .val (.ref b126), .val (.ref b152), .val (.long qs1), .second, .val (.ref b159), .val (.int (0 : Int32))]) rfl (XS.goto X166.here hx rfl (pc0 := 158) (pc' := 188) rfl (hb hby at_158) (by decide) (by decide) (XS.aload X166.here hx rfl (hb hby at_188) rfl rfl (XS.aload X166.here hx rfl (hb hby at_190) rfl rfl (XS.iconst X166.here hx rfl (hb hby at_192) k))))))) ?_
        show ownEnds _ _ _ _ (T166.setTop (mkF m 193 #[.val (.int xf), .val (.long qs0), .second, .val (.long qs1), .second, .val (.long qg1), .second, .val (.long qg2), .second, .val (.int xp), .val (.int (xf &&& (3 : Int32))), .val (.ref b123), .val (.int (1 : Int32)), .val (.ref b126), .val (.ref b152), .val (.long qs1), .second, .val (.ref b159), .val (.int (0 : Int32))] [(.int (1 : Int32)), (.ref b152), (.ref b126)]))
        have f168 := (Fld.other W166 (Fld.other W165 (Fld.other W164 (Fld.other W163 (Fld.ext E159 (Fld.other W158 (Fld.other W157 (Fld.other W156 (Fld.other W155 (Fld.ext E152 Fc144_0) (Or.inl ne_b126_b152)) (Or.inl ne_b126_b152)) (Or.inl ne_b126_b152)) (Or.inl ne_b126_b152))) (Or.inl ne_b126_b159)) (Or.inl ne_b126_b159)) (Or.inl ne_b126_b159)) (Or.inl ne_b126_b159))
        have f169 := (Arv.other (Arv.other (Arv.other (Arv.other (Arv.ext V158 E159) W163 ne_b152_b159) W164 ne_b152_b159) W165 ne_b152_b159) W166 ne_b152_b159)
        have f170 := (Exa.wr W166 (Exa.wr W165 (Exa.wr W164 (Exa.wr W163 (Exa.ext E159 f161)))))
        obtain ⟨v167, T167, L167, X167, hQ167, st167⟩ := ownCallV X166 hx hZ hown (y := (⟨"com/example/libreach/libreach/engine/StateStore", "hash", "([JI)I"⟩ : MethodName)) (z := (⟨"com/example/libreach/libreach/engine/StateStore", "hash", "([JI)I"⟩ : MethodName)) (a := b126) (as := [(.ref b152), (.int (1 : Int32))]) (wd_85 hw) (wd_86 hw) (notFace_of_selects (args := #[]) (mvT hZ (wd_88 hw))) (wd_88 hw) (wd_87 hw) (wd_3 hw) (wd_89 hw) (by decide) (rm11_2_1 l Z a0 hw b126 b152 k152 qg1 qs0 qs1 qg2 h166 n0 Z166 f168 f169) e166 f170 0 (by decide) (by decide) (by decide) (by decide) (g := (mkF m 193 #[.val (.int xf), .val (.long qs0), .second, .val (.long qs1), .second, .val (.long qg1), .second, .val (.long qg2), .second, .val (.int xp), .val (.int (xf &&& (3 : Int32))), .val (.ref b123), .val (.int (1 : Int32)), .val (.ref b126), .val (.ref b152), .val (.long qs1), .second, .val (.ref b159), .val (.int (0 : Int32))] [(.int (1 : Int32)), (.ref b152), (.ref b126)])) rfl (by rw [hml]; rfl) (rest := []) pd_7 rfl rfl (by show 2 * 0 + _ ≤ _; exact Nat.le_of_eq rfl) (hb hby at_193)
        obtain ⟨rfl, rfl, e167⟩ := hQ167
        rw [List.append_nil] at X167
        refine ownEnds.law st167 ?_
        show ownEnds _ _ _ _ (T167.setTop (mkF m 196 #[.val (.int xf), .val (.long qs0), .second, .val (.long qs1), .second, .val (.long qg1), .second, .val (.long qg2), .second, .val (.int xp), .val (.int (xf &&& (3 : Int32))), .val (.ref b123), .val (.int (1 : Int32)), .val (.ref b126), .val (.ref b152), .val (.long qs1), .second, .val (.ref b159), .val (.int (0 : Int32))] [(.int (HE (HS (HS ((2 : Int32).toInt64) qs0) qs1)))]))
        refine ownEnds.law (fun t k => XS.aload X167.here hx rfl (hb hby at_196) rfl rfl (XS.aload X167.here hx rfl (hb hby at_198) rfl rfl (XS.iload X167.here hx rfl (hb hby at_200) rfl k))) ?_
        show ownEnds _ _ _ _ (T167.setTop (mkF m 202 #[.val (.int xf), .val (.long qs0), .second, .val (.long qs1), .second, .val (.long qg1), .second, .val (.long qg2), .second, .val (.int xp), .val (.int (xf &&& (3 : Int32))), .val (.ref b123), .val (.int (1 : Int32)), .val (.ref b126), .val (.ref b152), .val (.long qs1), .second, .val (.ref b159), .val (.int (0 : Int32))] [(.int (0 : Int32)), (.ref b159), (.ref b126), (.int (HE (HS (HS ((2 : Int32).toInt64) qs0) qs1)))]))
        obtain ⟨v171, T171, L171, X171, hQ171, st171⟩ := ownCallV X167 hx hZ hown (y := (⟨"com/example/libreach/libreach/engine/StateStore", "hash", "([JI)I"⟩ : MethodName)) (z := (⟨"com/example/libreach/libreach/engine/StateStore", "hash", "([JI)I"⟩ : MethodName)) (a := b126) (as := [(.ref b159), (.int (0 : Int32))]) (wd_85 hw) (wd_86 hw) (notFace_of_selects (args := #[]) (mvT hZ (wd_88 hw))) (wd_88 hw) (wd_87 hw) (wd_3 hw) (wd_89 hw) (by decide) (rm11_2_0 l Z a0 hw b126 b159 k159 qs0 qs1 qg2 qg1 h166 n0 Z166 f168 V166) e167 f170 1 (by decide) (by decide) (by decide) (by decide) (g := (mkF m 202 #[.val (.int xf), .val (.long qs0), .second, .val (.long qs1), .second, .val (.long qg1), .second, .val (.long qg2), .second, .val (.int xp), .val (.int (xf &&& (3 : Int32))), .val (.ref b123), .val (.int (1 : Int32)), .val (.ref b126), .val (.ref b152), .val (.long qs1), .second, .val (.ref b159), .val (.int (0 : Int32))] [(.int (0 : Int32)), (.ref b159), (.ref b126), (.int (HE (HS (HS ((2 : Int32).toInt64) qs0) qs1)))])) rfl (by rw [hml]; rfl) (rest := [(.int (HE (HS (HS ((2 : Int32).toInt64) qs0) qs1)))]) pd_7 rfl rfl (by show 2 * 0 + _ ≤ _; exact Nat.le_of_eq rfl) (hb hby at_202)
        obtain ⟨rfl, rfl, e171⟩ := hQ171
        rw [List.append_nil] at X171
        refine ownEnds.law st171 ?_
        show ownEnds _ _ _ _ (T171.setTop (mkF m 205 #[.val (.int xf), .val (.long qs0), .second, .val (.long qs1), .second, .val (.long qg1), .second, .val (.long qg2), .second, .val (.int xp), .val (.int (xf &&& (3 : Int32))), .val (.ref b123), .val (.int (1 : Int32)), .val (.ref b126), .val (.ref b152), .val (.long qs1), .second, .val (.ref b159), .val (.int (0 : Int32))] [(.int (HE (HS (HS ((2 : Int32).toInt64) qs0) qs1))), (.int (HE (HS (HS ((2 : Int32).toInt64) qs0) qs1)))]))
        refine ownEnds.law (fun t => XS.icmpNo X171.here hx rfl (hb hby at_205) rfl (teq (rfl : (HE (HS (HS ((2 : Int32).toInt64) qs0) qs1)) = (HE (HS (HS ((2 : Int32).toInt64) qs0) qs1)))).2) ?_
        show ownEnds _ _ _ _ (T171.setTop (mkF m 208 #[.val (.int xf), .val (.long qs0), .second, .val (.long qs1), .second, .val (.long qg1), .second, .val (.long qg2), .second, .val (.int xp), .val (.int (xf &&& (3 : Int32))), .val (.ref b123), .val (.int (1 : Int32)), .val (.ref b126), .val (.ref b152), .val (.long qs1), .second, .val (.ref b159), .val (.int (0 : Int32))] []))
        refine ownEnds.law (fun t k => XS.iconst X171.here hx rfl (hb hby at_208) (XS.goto X171.here hx rfl (pc0 := 209) (pc' := 213) rfl (hb hby at_209) (by decide) (by decide) k)) ?_
        show ownEnds _ _ _ _ (T171.setTop (mkF m 213 #[.val (.int xf), .val (.long qs0), .second, .val (.long qs1), .second, .val (.long qg1), .second, .val (.long qg2), .second, .val (.int xp), .val (.int (xf &&& (3 : Int32))), .val (.ref b123), .val (.int (1 : Int32)), .val (.ref b126), .val (.ref b152), .val (.long qs1), .second, .val (.ref b159), .val (.int (0 : Int32))] [(.int (1 : Int32))]))
        refine ownRetN X171 hlk hx (t := .boolean) hret (by simp) (hb hby at_213) (by decide) (by decide) ?_
        exact ⟨rfl, N166⟩
      · refine ownEnds.law (fun t => XS.ifYes X158.here hx rfl (pc0 := 128) (pc' := 161) rfl (hb hby at_128) rfl ((if0 _ _).trans (feq hc128).2) (by decide) (by decide)) ?_
        show ownEnds _ _ _ _ (T158.setTop (mkF m 161 #[.val (.int xf), .val (.long qs0), .second, .val (.long qs1), .second, .val (.long qg1), .second, .val (.long qg2), .second, .val (.int xp), .val (.int (xf &&& (3 : Int32))), .val (.ref b123), .val (.int (1 : Int32)), .val (.ref b126), .val (.ref b152), .val (.long qs1), .second, .unset, .unset] []))
        refine ownEnds.law (fun t k => XS.iconst X158.here hx rfl (hb hby at_161) k) ?_
        show ownEnds _ _ _ _ (T158.setTop (mkF m 162 #[.val (.int xf), .val (.long qs0), .second, .val (.long qs1), .second, .val (.long qg1), .second, .val (.long qg2), .second, .val (.int xp), .val (.int (xf &&& (3 : Int32))), .val (.ref b123), .val (.int (1 : Int32)), .val (.ref b126), .val (.ref b152), .val (.long qs1), .second, .unset, .unset] [(.int (4 : Int32))]))
        obtain ⟨T172, h172, k172, X172, e172, E172, A172, st172⟩ := newP X158 hx hZ (aty := .long) (wd_28 hw) e158 (g := (mkF m 162 #[.val (.int xf), .val (.long qs0), .second, .val (.long qs1), .second, .val (.long qg1), .second, .val (.long qg2), .second, .val (.int xp), .val (.int (xf &&& (3 : Int32))), .val (.ref b123), .val (.int (1 : Int32)), .val (.ref b126), .val (.ref b152), .val (.long qs1), .second, .unset, .unset] [(.int (4 : Int32))])) rfl (hb hby at_162) rfl (by decide) (cap := 4) (by decide) (by decide) (by decide) (by decide)
        obtain ⟨b172, g172⟩ : ∃ z, z = h158.size := ⟨_, rfl⟩
        rw [← g172] at A172 st172
        refine ownEnds.law st172 ?_
        have V_b172 : Arv Z h172 b172 k172 .long (4 : Int32) [(.long (0 : Int64)), (.long (0 : Int64)), (.long (0 : Int64)), (.long (0 : Int64))] (.long (0 : Int64)) := (Arv.new A172 (by decide)).pad (pad_rep [] (.long (0 : Int64)) 4)
        have f173 := (Arv.other (Arv.other (Arv.other (Arv.other (Arv.ext f153 E152) W155 ne_b123_b152) W156 ne_b123_b152) W157 ne_b123_b152) W158 ne_b123_b152)
        have ne_b123_b172 : b123 ≠ b172 := Nat.ne_of_lt (Nat.lt_of_lt_of_eq f173.lt g172.symm)
        have f174 := (Exa.wr W158 (Exa.wr W157 (Exa.wr W156 (Exa.wr W155 (Exa.ext E152 Eq144)))))
        have ne_b126_b172 : b126 ≠ b172 := Nat.ne_of_lt (Nat.lt_of_lt_of_eq f174.lt g172.symm)
        have f175 := (Exa.wr W158 (Exa.wr W157 (Exa.wr W156 (Exa.wr W155 (Exa.ext E152 f154)))))
        have ne_b133_b172 : b133 ≠ b172 := Nat.ne_of_lt (Nat.lt_of_lt_of_eq f175.lt g172.symm)
        have ne_b152_b172 : b152 ≠ b172 := Nat.ne_of_lt (Nat.lt_of_lt_of_eq V158.lt g172.symm)
        have g_b172 : n0 ≤ b172 := Nat.le_trans Z158 (Nat.le_of_eq g172.symm)
        have Z172 : n0 ≤ h172.size := Nat.le_trans Z158 E172.1
        show ownEnds _ _ _ _ (T172.setTop (mkF m 164 #[.val (.int xf), .val (.long qs0), .second, .val (.long qs1), .second, .val (.long qg1), .second, .val (.long qg2), .second, .val (.int xp), .val (.int (xf &&& (3 : Int32))), .val (.ref b123), .val (.int (1 : Int32)), .val (.ref b126), .val (.ref b152), .val (.long qs1), .second, .unset, .unset] [(.ref b172)]))
        refine ownEnds.law (fun t k => XS.dup X172.here hx rfl (hb hby at_164) rfl rfl (XS.iconst X172.here hx rfl (hb hby at_165) (XS.lload X172.here hx rfl (hb hby at_166) rfl k))) ?_
        show ownEnds _ _ _ _ (T172.setTop (mkF m 168 #[.val (.int xf), .val (.long qs0), .second, .val (.long qs1), .second, .val (.long qg1), .second, .val (.long qg2), .second, .val (.int xp), .val (.int (xf &&& (3 : Int32))), .val (.ref b123), .val (.int (1 : Int32)), .val (.ref b126), .val (.ref b152), .val (.long qs1), .second, .unset, .unset] [(.long qg2), (.int (0 : Int32)), (.ref b172), (.ref b172)]))
        obtain ⟨cl176, Ar176, q176, S176, N176, H176, G176⟩ := id V_b172
        obtain ⟨T176, h176, X176, e176, W176, st176⟩ := stJ X172 hx hZ e172 Ar176 (j := (0 : Int32)) (inb_of S176 ⟨by decide, by decide⟩) (g := (mkF m 168 #[.val (.int xf), .val (.long qs0), .second, .val (.long qs1), .second, .val (.long qg1), .second, .val (.long qg2), .second, .val (.int xp), .val (.int (xf &&& (3 : Int32))), .val (.ref b123), .val (.int (1 : Int32)), .val (.ref b126), .val (.ref b152), .val (.long qs1), .second, .unset, .unset] [(.long qg2), (.int (0 : Int32)), (.ref b172), (.ref b172)])) rfl rfl (hb hby at_168)
        refine ownEnds.law st176 ?_
        have V176 : Arv Z h176 b172 k172 .long (4 : Int32) [(.long qg2), (.long (0 : Int64)), (.long (0 : Int64)), (.long (0 : Int64))] (.long (0 : Int64)) := Arv.set Ar176 q176 S176 N176 H176 G176 rfl W176 0 rfl (Nat.le_of_ble_eq_true rfl)
        have N176 := Fr.snoc X176 N158 g_b172
        have Z176 : n0 ≤ h176.size := by rw [W176.size]; exact Z172
        show ownEnds _ _ _ _ (T176.setTop (mkF m 169 #[.val (.int xf), .val (.long qs0), .second, .val (.long qs1), .second, .val (.long qg1), .second, .val (.long qg2), .second, .val (.int xp), .val (.int (xf &&& (3 : Int32))), .val (.ref b123), .val (.int (1 : Int32)), .val (.ref b126), .val (.ref b152), .val (.long qs1), .second, .unset, .unset] [(.ref b172)]))
        refine ownEnds.law (fun t k => XS.dup X176.here hx rfl (hb hby at_169) rfl rfl (XS.iconst X176.here hx rfl (hb hby at_170) (XS.lload X176.here hx rfl (hb hby at_171) rfl k))) ?_
        show ownEnds _ _ _ _ (T176.setTop (mkF m 173 #[.val (.int xf), .val (.long qs0), .second, .val (.long qs1), .second, .val (.long qg1), .second, .val (.long qg2), .second, .val (.int xp), .val (.int (xf &&& (3 : Int32))), .val (.ref b123), .val (.int (1 : Int32)), .val (.ref b126), .val (.ref b152), .val (.long qs1), .second, .unset, .unset] [(.long qg1), (.int (1 : Int32)), (.ref b172), (.ref b172)]))
        obtain ⟨cl177, Ar177, q177, S177, N177, H177, G177⟩ := id V176
        obtain ⟨T177, h177, X177, e177, W177, st177⟩ := stJ X176 hx hZ e176 Ar177 (j := (1 : Int32)) (inb_of S177 ⟨by decide, by decide⟩) (g := (mkF m 173 #[.val (.int xf), .val (.long qs0), .second, .val (.long qs1), .second, .val (.long qg1), .second, .val (.long qg2), .second, .val (.int xp), .val (.int (xf &&& (3 : Int32))), .val (.ref b123), .val (.int (1 : Int32)), .val (.ref b126), .val (.ref b152), .val (.long qs1), .second, .unset, .unset] [(.long qg1), (.int (1 : Int32)), (.ref b172), (.ref b172)])) rfl rfl (hb hby at_173)
        refine ownEnds.law st177 ?_
        have V177 : Arv Z h177 b172 k172 .long (4 : Int32) [(.long qg2), (.long qg1), (.long (0 : Int64)), (.long (0 : Int64))] (.long (0 : Int64)) := Arv.set Ar177 q177 S177 N177 H177 G177 rfl W177 1 rfl (Nat.le_of_ble_eq_true rfl)
        have N177 := Fr.snoc X177 N176 g_b172
        have Z177 : n0 ≤ h177.size := by rw [W177.size]; exact Z176
        show ownEnds _ _ _ _ (T177.setTop (mkF m 174 #[.val (.int xf), .val (.long qs0), .second, .val (.long qs1), .second, .val (.long qg1), .second, .val (.long qg2), .second, .val (.int xp), .val (.int (xf &&& (3 : Int32))), .val (.ref b123), .val (.int (1 : Int32)), .val (.ref b126), .val (.ref b152), .val (.long qs1), .second, .unset, .unset] [(.ref b172)]))
        refine ownEnds.law (fun t k => XS.dup X177.here hx rfl (hb hby at_174) rfl rfl (XS.iconst X177.here hx rfl (hb hby at_175) (XS.lloadN X177.here hx rfl (hb hby at_176) rfl k))) ?_
        show ownEnds _ _ _ _ (T177.setTop (mkF m 177 #[.val (.int xf), .val (.long qs0), .second, .val (.long qs1), .second, .val (.long qg1), .second, .val (.long qg2), .second, .val (.int xp), .val (.int (xf &&& (3 : Int32))), .val (.ref b123), .val (.int (1 : Int32)), .val (.ref b126), .val (.ref b152), .val (.long qs1), .second, .unset, .unset] [(.long qs0), (.int (2 : Int32)), (.ref b172), (.ref b172)]))
        obtain ⟨cl178, Ar178, q178, S178, N178, H178, G178⟩ := id V177
        obtain ⟨T178, h178, X178, e178, W178, st178⟩ := stJ X177 hx hZ e177 Ar178 (j := (2 : Int32)) (inb_of S178 ⟨by decide, by decide⟩) (g := (mkF m 177 #[.val (.int xf), .val (.long qs0), .second, .val (.long qs1), .second, .val (.long qg1), .second, .val (.long qg2), .second, .val (.int xp), .val (.int (xf &&& (3 : Int32))), .val (.ref b123), .val (.int (1 : Int32)), .val (.ref b126), .val (.ref b152), .val (.long qs1), .second, .unset, .unset] [(.long qs0), (.int (2 : Int32)), (.ref b172), (.ref b172)])) rfl rfl (hb hby at_177)
        refine ownEnds.law st178 ?_
        have V178 : Arv Z h178 b172 k172 .long (4 : Int32) [(.long qg2), (.long qg1), (.long qs0), (.long (0 : Int64))] (.long (0 : Int64)) := Arv.set Ar178 q178 S178 N178 H178 G178 rfl W178 2 rfl (Nat.le_of_ble_eq_true rfl)
        have N178 := Fr.snoc X178 N177 g_b172
        have Z178 : n0 ≤ h178.size := by rw [W178.size]; exact Z177
        show ownEnds _ _ _ _ (T178.setTop (mkF m 178 #[.val (.int xf), .val (.long qs0), .second, .val (.long qs1), .second, .val (.long qg1), .second, .val (.long qg2), .second, .val (.int xp), .val (.int (xf &&& (3 : Int32))), .val (.ref b123), .val (.int (1 : Int32)), .val (.ref b126), .val (.ref b152), .val (.long qs1), .second, .unset, .unset] [(.ref b172)]))
        refine ownEnds.law (fun t k => XS.dup X178.here hx rfl (hb hby at_178) rfl rfl (XS.iconst X178.here hx rfl (hb hby at_179) (XS.lload X178.here hx rfl (hb hby at_180) rfl k))) ?_
        show ownEnds _ _ _ _ (T178.setTop (mkF m 182 #[.val (.int xf), .val (.long qs0), .second, .val (.long qs1), .second, .val (.long qg1), .second, .val (.long qg2), .second, .val (.int xp), .val (.int (xf &&& (3 : Int32))), .val (.ref b123), .val (.int (1 : Int32)), .val (.ref b126), .val (.ref b152), .val (.long qs1), .second, .unset, .unset] [(.long qs1), (.int (3 : Int32)), (.ref b172), (.ref b172)]))
        obtain ⟨cl179, Ar179, q179, S179, N179, H179, G179⟩ := id V178
        obtain ⟨T179, h179, X179, e179, W179, st179⟩ := stJ X178 hx hZ e178 Ar179 (j := (3 : Int32)) (inb_of S179 ⟨by decide, by decide⟩) (g := (mkF m 182 #[.val (.int xf), .val (.long qs0), .second, .val (.long qs1), .second, .val (.long qg1), .second, .val (.long qg2), .second, .val (.int xp), .val (.int (xf &&& (3 : Int32))), .val (.ref b123), .val (.int (1 : Int32)), .val (.ref b126), .val (.ref b152), .val (.long qs1), .second, .unset, .unset] [(.long qs1), (.int (3 : Int32)), (.ref b172), (.ref b172)])) rfl rfl (hb hby at_182)
        refine ownEnds.law st179 ?_
        have V179 : Arv Z h179 b172 k172 .long (4 : Int32) [(.long qg2), (.long qg1), (.long qs0), (.long qs1)] (.long (0 : Int64)) := Arv.set Ar179 q179 S179 N179 H179 G179 rfl W179 3 rfl (Nat.le_of_ble_eq_true rfl)
        have N179 := Fr.snoc X179 N178 g_b172
        have Z179 : n0 ≤ h179.size := by rw [W179.size]; exact Z178
        show ownEnds _ _ _ _ (T179.setTop (mkF m 183 #[.val (.int xf), .val (.long qs0), .second, .val (.long qs1), .second, .val (.long qg1), .second, .val (.long qg2), .second, .val (.int xp), .val (.int (xf &&& (3 : Int32))), .val (.ref b123), .val (.int (1 : Int32)), .val (.ref b126), .val (.ref b152), .val (.long qs1), .second, .unset, .unset] [(.ref b172)]))
        refine ownEnds.law (fun t k => XS.astore X179.here hx rfl (hb hby at_183) rfl rfl (l' := #[.val (.int xf), .val (.long qs0), .second, .val (.long qs1), .second, .val (.long qg1), .second, .val (.long qg2), .second, .val (.int xp), .val (.int (xf &&& (3 : Int32))), .val (.ref b123), .val (.int (1 : Int32)), .val (.ref b126), .val (.ref b152), .val (.long qs1), .second, .val (.ref b172), .unset]) rfl (XS.iconst X179.here hx rfl (hb hby at_185) (XS.istore X179.here hx rfl (hb hby at_186) rfl (l' := #[.val (.int xf), .val (.long qs0), .second, .val (.long qs1), .second, .val (.long qg1), .second, .val (.long qg2), .second, .val (.int xp), .val (.int (xf &&& (3 : Int32))), .val (.ref b123), .val (.int (1 : Int32)), .val (.ref b126), .val (.ref b152), .val (.long qs1), .second, .val (.ref b172), .val (.int (2 : Int32))]) rfl (XS.aload X179.here hx rfl (hb hby at_188) rfl rfl (XS.aload X179.here hx rfl (hb hby at_190) rfl rfl (XS.iconst X179.here hx rfl (hb hby at_192) k)))))) ?_
        show ownEnds _ _ _ _ (T179.setTop (mkF m 193 #[.val (.int xf), .val (.long qs0), .second, .val (.long qs1), .second, .val (.long qg1), .second, .val (.long qg2), .second, .val (.int xp), .val (.int (xf &&& (3 : Int32))), .val (.ref b123), .val (.int (1 : Int32)), .val (.ref b126), .val (.ref b152), .val (.long qs1), .second, .val (.ref b172), .val (.int (2 : Int32))] [(.int (1 : Int32)), (.ref b152), (.ref b126)]))
        have f181 := (Fld.other W179 (Fld.other W178 (Fld.other W177 (Fld.other W176 (Fld.ext E172 (Fld.other W158 (Fld.other W157 (Fld.other W156 (Fld.other W155 (Fld.ext E152 Fc144_0) (Or.inl ne_b126_b152)) (Or.inl ne_b126_b152)) (Or.inl ne_b126_b152)) (Or.inl ne_b126_b152))) (Or.inl ne_b126_b172)) (Or.inl ne_b126_b172)) (Or.inl ne_b126_b172)) (Or.inl ne_b126_b172))
        have f182 := (Arv.other (Arv.other (Arv.other (Arv.other (Arv.ext V158 E172) W176 ne_b152_b172) W177 ne_b152_b172) W178 ne_b152_b172) W179 ne_b152_b172)
        have f183 := (Exa.wr W179 (Exa.wr W178 (Exa.wr W177 (Exa.wr W176 (Exa.ext E172 f174)))))
        obtain ⟨v180, T180, L180, X180, hQ180, st180⟩ := ownCallV X179 hx hZ hown (y := (⟨"com/example/libreach/libreach/engine/StateStore", "hash", "([JI)I"⟩ : MethodName)) (z := (⟨"com/example/libreach/libreach/engine/StateStore", "hash", "([JI)I"⟩ : MethodName)) (a := b126) (as := [(.ref b152), (.int (1 : Int32))]) (wd_85 hw) (wd_86 hw) (notFace_of_selects (args := #[]) (mvT hZ (wd_88 hw))) (wd_88 hw) (wd_87 hw) (wd_3 hw) (wd_89 hw) (by decide) (rm11_2_1 l Z a0 hw b126 b152 k152 qg1 qs0 qs1 qg2 h179 n0 Z179 f181 f182) e179 f183 0 (by decide) (by decide) (by decide) (by decide) (g := (mkF m 193 #[.val (.int xf), .val (.long qs0), .second, .val (.long qs1), .second, .val (.long qg1), .second, .val (.long qg2), .second, .val (.int xp), .val (.int (xf &&& (3 : Int32))), .val (.ref b123), .val (.int (1 : Int32)), .val (.ref b126), .val (.ref b152), .val (.long qs1), .second, .val (.ref b172), .val (.int (2 : Int32))] [(.int (1 : Int32)), (.ref b152), (.ref b126)])) rfl (by rw [hml]; rfl) (rest := []) pd_7 rfl rfl (by show 2 * 0 + _ ≤ _; exact Nat.le_of_eq rfl) (hb hby at_193)
        obtain ⟨rfl, rfl, e180⟩ := hQ180
        rw [List.append_nil] at X180
        refine ownEnds.law st180 ?_
        show ownEnds _ _ _ _ (T180.setTop (mkF m 196 #[.val (.int xf), .val (.long qs0), .second, .val (.long qs1), .second, .val (.long qg1), .second, .val (.long qg2), .second, .val (.int xp), .val (.int (xf &&& (3 : Int32))), .val (.ref b123), .val (.int (1 : Int32)), .val (.ref b126), .val (.ref b152), .val (.long qs1), .second, .val (.ref b172), .val (.int (2 : Int32))] [(.int (HE (HS (HS ((2 : Int32).toInt64) qs0) qs1)))]))
        refine ownEnds.law (fun t k => XS.aload X180.here hx rfl (hb hby at_196) rfl rfl (XS.aload X180.here hx rfl (hb hby at_198) rfl rfl (XS.iload X180.here hx rfl (hb hby at_200) rfl k))) ?_
        show ownEnds _ _ _ _ (T180.setTop (mkF m 202 #[.val (.int xf), .val (.long qs0), .second, .val (.long qs1), .second, .val (.long qg1), .second, .val (.long qg2), .second, .val (.int xp), .val (.int (xf &&& (3 : Int32))), .val (.ref b123), .val (.int (1 : Int32)), .val (.ref b126), .val (.ref b152), .val (.long qs1), .second, .val (.ref b172), .val (.int (2 : Int32))] [(.int (2 : Int32)), (.ref b172), (.ref b126), (.int (HE (HS (HS ((2 : Int32).toInt64) qs0) qs1)))]))
        obtain ⟨v184, T184, L184, X184, hQ184, st184⟩ := ownCallV X180 hx hZ hown (y := (⟨"com/example/libreach/libreach/engine/StateStore", "hash", "([JI)I"⟩ : MethodName)) (z := (⟨"com/example/libreach/libreach/engine/StateStore", "hash", "([JI)I"⟩ : MethodName)) (a := b126) (as := [(.ref b172), (.int (2 : Int32))]) (wd_85 hw) (wd_86 hw) (notFace_of_selects (args := #[]) (mvT hZ (wd_88 hw))) (wd_88 hw) (wd_87 hw) (wd_3 hw) (wd_89 hw) (by decide) (rm11_2_2 l Z a0 hw b126 b172 k172 qg2 qg1 qs0 qs1 h179 n0 Z179 f181 V179) e180 f183 1 (by decide) (by decide) (by decide) (by decide) (g := (mkF m 202 #[.val (.int xf), .val (.long qs0), .second, .val (.long qs1), .second, .val (.long qg1), .second, .val (.long qg2), .second, .val (.int xp), .val (.int (xf &&& (3 : Int32))), .val (.ref b123), .val (.int (1 : Int32)), .val (.ref b126), .val (.ref b152), .val (.long qs1), .second, .val (.ref b172), .val (.int (2 : Int32))] [(.int (2 : Int32)), (.ref b172), (.ref b126), (.int (HE (HS (HS ((2 : Int32).toInt64) qs0) qs1)))])) rfl (by rw [hml]; rfl) (rest := [(.int (HE (HS (HS ((2 : Int32).toInt64) qs0) qs1)))]) pd_7 rfl rfl (by show 2 * 0 + _ ≤ _; exact Nat.le_of_eq rfl) (hb hby at_202)
        obtain ⟨rfl, rfl, e184⟩ := hQ184
        rw [List.append_nil] at X184
        refine ownEnds.law st184 ?_
        show ownEnds _ _ _ _ (T184.setTop (mkF m 205 #[.val (.int xf), .val (.long qs0), .second, .val (.long qs1), .second, .val (.long qg1), .second, .val (.long qg2), .second, .val (.int xp), .val (.int (xf &&& (3 : Int32))), .val (.ref b123), .val (.int (1 : Int32)), .val (.ref b126), .val (.ref b152), .val (.long qs1), .second, .val (.ref b172), .val (.int (2 : Int32))] [(.int (HE (HS (HS ((2 : Int32).toInt64) qs0) qs1))), (.int (HE (HS (HS ((2 : Int32).toInt64) qs0) qs1)))]))
        refine ownEnds.law (fun t => XS.icmpNo X184.here hx rfl (hb hby at_205) rfl (teq (rfl : (HE (HS (HS ((2 : Int32).toInt64) qs0) qs1)) = (HE (HS (HS ((2 : Int32).toInt64) qs0) qs1)))).2) ?_
        show ownEnds _ _ _ _ (T184.setTop (mkF m 208 #[.val (.int xf), .val (.long qs0), .second, .val (.long qs1), .second, .val (.long qg1), .second, .val (.long qg2), .second, .val (.int xp), .val (.int (xf &&& (3 : Int32))), .val (.ref b123), .val (.int (1 : Int32)), .val (.ref b126), .val (.ref b152), .val (.long qs1), .second, .val (.ref b172), .val (.int (2 : Int32))] []))
        refine ownEnds.law (fun t k => XS.iconst X184.here hx rfl (hb hby at_208) (XS.goto X184.here hx rfl (pc0 := 209) (pc' := 213) rfl (hb hby at_209) (by decide) (by decide) k)) ?_
        show ownEnds _ _ _ _ (T184.setTop (mkF m 213 #[.val (.int xf), .val (.long qs0), .second, .val (.long qs1), .second, .val (.long qg1), .second, .val (.long qg2), .second, .val (.int xp), .val (.int (xf &&& (3 : Int32))), .val (.ref b123), .val (.int (1 : Int32)), .val (.ref b126), .val (.ref b152), .val (.long qs1), .second, .val (.ref b172), .val (.int (2 : Int32))] [(.int (1 : Int32))]))
        refine ownRetN X184 hlk hx (t := .boolean) hret (by simp) (hb hby at_213) (by decide) (by decide) ?_
        exact ⟨rfl, N179⟩
set_option maxRecDepth 65536 in
set_option maxHeartbeats 40000000 in
theorem comes_1 {Post : Tables → Env → Array Value → State → Outcome → State → Prop} (hpost : ∀ tb e args s v u, (limb_1_1.after args s (.returned v) u = true ∧ limb_1_2.after args s (.returned v) u = true ∧ True) → FrameEnd s (.returned v) u (Jvm.fieldLocs frame_1_writes args s ++ Jvm.arrayLocs frame_1_arrays args s ++ Jvm.staticLocs frame_1_statics s) 40 2240 → Post tb e args s (.returned v) u) :
    ArmFor flags0 classFile x code maxLocals ret World_1 tables_1 room_1 Calls_1 rest_1 Pre_1 Post := by
  intro l hfl _ _ p e ha hc hk s m args below hf hA hF happ hP
  obtain ⟨hcalls, hrest, hpre⟩ := hP
  obtain ⟨-, -, -, hnamed, -, -, -, hat⟩ := (Spec.applies_iff hf).mp happ
  obtain ⟨hg, hn⟩ := and_e (Cond.before_iff.mp (show (Jvm.Cond.and given_1 narrow_1).before args s = true from hpre))
  obtain ⟨gg1, gg2⟩ := and_e hg
  obtain ⟨gg3, gg4⟩ := and_e gg2
  obtain ⟨gg5, gg6⟩ := and_e gg4
  obtain ⟨gg7, gg8⟩ := and_e gg6
  obtain ⟨gg9, gg10⟩ := and_e gg8
  obtain ⟨gg11, gg12⟩ := and_e gg10
  obtain ⟨w0, w1, w2, w3, w4, w5, rfl⟩ : ∃ w0 w1 w2 w3 w4 w5 : Value, args = #[w0, w1, w2, w3, w4, w5] := by
    have hs : args.size = 6 := by simpa [Cond.value, given_1] using gg1
    obtain ⟨L⟩ := args
    match L, hs with
    | [w0, w1, w2, w3, w4, w5], _ => exact ⟨w0, w1, w2, w3, w4, w5, rfl⟩
  have hw := fun d (hd : d ∈ tables_1) => atoms_spec (ws := Jvm.Cond.code x code maxLocals ret :: tables_1) hat d (List.mem_cons_of_mem _ hd)
  have hfit : Fit s := fun {y c} hc i hi => by
    obtain ⟨ha, rfl⟩ := Array.getElem?_eq_some_iff.mp hc
    have q := List.all_eq_true.mp ((Array.all_eq_true_iff_forall_mem.mp hF) _ (Array.getElem_mem ha)) i (List.mem_range.mpr hi)
    simpa [Array.getElem?_eq_getElem hi] using q
  obtain ⟨i0, ei0⟩ := is_v gg3
  obtain rfl : w0 = (.int i0) := Option.some.inj ei0
  obtain ⟨i1, ei1⟩ := isL_v gg5
  obtain rfl : w1 = (.long i1) := Option.some.inj ei1
  obtain ⟨i2, ei2⟩ := isL_v gg7
  obtain rfl : w2 = (.long i2) := Option.some.inj ei2
  obtain ⟨i3, ei3⟩ := isL_v gg9
  obtain rfl : w3 = (.long i3) := Option.some.inj ei3
  obtain ⟨i4, ei4⟩ := isL_v gg11
  obtain rfl : w4 = (.long i4) := Option.some.inj ei4
  obtain ⟨i5, ei5⟩ := is_v gg12
  obtain rfl : w5 = (.int i5) := Option.some.inj ei5
  obtain ⟨n, o, h1, h2, h3, _, L, rfl, ⟨rfl, N⟩, hq⟩ := rm0 l s _ hw i0 i1 i2 i3 i4 i5  s.heap s.heap.size (Nat.le_refl _)  p e ha hc hk s m _ below hf ((Spec.applies_iff_loose hf).mp happ).1 ⟨rfl, State.Warmed39.refl s, rfl⟩ trivial
  refine ⟨n, _, h1, h2, h3, hpost _ _ _ _ _ _ ⟨Cond.after_iff.mpr rfl, Cond.after_iff.mpr (eq_i res_at (Term.int_eval (1)) rfl), trivial⟩ ⟨hq.1, hq.2.1, (hq.2.2.sift fun y hy => Or.inr (N y hy)).mono (by decide) (by decide)⟩⟩
theorem main_1_1 : Claimed_1_1 := comes_1 fun _ _ _ _ _ _ h hF => ⟨h.1, hF⟩
theorem main_1_2 : Claimed_1_2 := comes_1 fun _ _ _ _ _ _ h hF => ⟨h.2.1, hF⟩
end Jvm.Pilot.@@N@@
namespace Jvm.Pilot.@@N@@
open Jvm Jvm.ClassFile Sem Op Lib Jvm.Free Jvm.Stand Jvm.Pilot.@@N@@.Jvm.D
/-! MADE BY PROGRAM (witnessworld.py) out of the Statement's table words and the real class files: 20 classes; the members and pool entries that the words name. The judged class is class 1, her method 1. -/
namespace start1
open Jvm.ClassFile
def u (s : String) : CpInfo := .utf8 (stringToUtf16 s)
/-- a pool by its gaps: so many unusable entries, then the entry; so many at the end -/
def gap : Nat → List CpInfo → List CpInfo
  | 0, r => r
  | n + 1, r => .unusable :: gap n r
def poolList (es : List (Nat × CpInfo)) (last : Nat) : List CpInfo := es.foldr (fun e r => gap e.1 (e.2 :: r)) (gap last [])
def pool (es : List (Nat × CpInfo)) (last : Nat) : Array CpInfo := ⟨poolList es last⟩
def fileOf (pool : Array CpInfo) (this : Nat) (attrs : Array Attribute := #[]) (ms : Array MethodInfo := #[]) (fl : Nat := 33) (sup : Nat := 0) (ifs : Array Nat := #[]) (fds : Array FieldInfo := #[]) : ClassFile where
  minorVersion := 0
  majorVersion := 65
  constantPool := pool
  accessFlags := fl
  thisClass := this
  superClass := sup
  interfaces := ifs
  fields := fds
  methods := ms
  attributes := attrs
def plain (name : String) (sup : Option ClassId) : Class where
  name := name
  kind := .ordinary
  loader := none
  accessFlags := 33
  super := sup
  interfaces := #[]
  cf := none
  fields := #[]
  methods := #[]
  instanceTypes := #[]
  staticTypes := #[]
  resolved := #[]
  callSites := []
  init := .initialized
  statics := none
  mirror := none

def pool0 : Array CpInfo := pool [(5, u "<init>"), (0, u "()V"), (1, .class_ 10), (1, u "java/lang/Object"), (85, u "clone"), (0, u "()Ljava/lang/Object;")] 26

def k0c0 : Code := { maxStack := 0, maxLocals := 1, code := object_method_1_code, exceptionTable := #[], attributes := #[] }
def k0m0 : Method := { name := "<init>", desc := "()V", sig := { parameters := [], returnType := none }, accessFlags := 1, code := some k0c0 }
def k0m1 : Method := { name := "clone", desc := "()Ljava/lang/Object;", sig := { parameters := [], returnType := some (.object "java/lang/Object") }, accessFlags := 260, code := none }
/-- java/lang/Object -/
def k0 : Class := { plain "java/lang/Object" none with
  accessFlags := 33
  interfaces := #[]
  cf := some (fileOf pool0 8 #[] #[{ accessFlags := 1, nameIndex := 5, descriptorIndex := 6, attributes := #[] }, { accessFlags := 260, nameIndex := 96, descriptorIndex := 97, attributes := #[] }] 33 0 #[] #[])
  fields := #[]
  methods := #[k0m0, k0m1]
  instanceTypes := #[]
  staticTypes := #[]
  resolved := Array.replicate 124 none
  statics := none }

def pool1 : Array CpInfo := pool [(2, .class_ 4), (1, u "java/lang/Object"), (0, u "<init>"), (0, u "()V"), (0, .class_ 8), (0, u "com/example/libreach/libreach/engine/StateStore"), (0, .class_ 10), (0, u "com/example/libreach/libreach/engine/StateLayout"), (0, .methodref 9 12), (0, .nameAndType 5 13), (0, u "([I)V"), (0, .methodref 7 15), (0, .nameAndType 5 16), (0, u "(Lcom/example/libreach/libreach/engine/StateLayout;)V"), (0, .methodref 7 18), (0, .nameAndType 19 20), (0, u "hash"), (0, u "([JI)I"), (0, .class_ 22), (0, u "com/example/libreach/libreach/engine/StateStoreHashPinLaw"), (2, u "law"), (0, u "(IJJJJI)Z")] 7

def k1m0 : Method := { name := "<init>", desc := "()V", sig := { parameters := [], returnType := none }, accessFlags := 1, code := none }
def k1c1 : Code := { maxStack := 5, maxLocals := 19, code := code, exceptionTable := #[], attributes := #[] }
def k1m1 : Method := { name := "law", desc := "(IJJJJI)Z", sig := { parameters := [.int, .long, .long, .long, .long, .int], returnType := some .boolean }, accessFlags := 9, code := some k1c1 }
/-- com/example/libreach/libreach/engine/StateStoreHashPinLaw -/
def k1 : Class := { plain "com/example/libreach/libreach/engine/StateStoreHashPinLaw" (some 0) with
  accessFlags := 49
  interfaces := #[]
  cf := some (fileOf pool1 21 #[] #[{ accessFlags := 1, nameIndex := 5, descriptorIndex := 6, attributes := #[] }, { accessFlags := 9, nameIndex := 25, descriptorIndex := 26, attributes := #[] }] 49 2 #[] #[])
  fields := #[]
  methods := #[k1m0, k1m1]
  instanceTypes := #[]
  staticTypes := #[]
  resolved := Array.replicate 34 none
  statics := none }

def pool2 : Array CpInfo := pool [(1, .methodref 2 3), (0, .class_ 4), (0, .nameAndType 5 6), (0, u "com/example/libreach/libreach/engine/StateStore"), (0, u "<init>"), (0, u "(Lcom/example/libreach/libreach/engine/StateLayout;I)V"), (0, .methodref 8 9), (0, .class_ 10), (0, .nameAndType 5 11), (0, u "java/lang/Object"), (0, u "()V"), (0, .methodref 2 13), (0, .nameAndType 14 15), (0, u "useLayout"), (0, u "(Lcom/example/libreach/libreach/engine/StateLayout;)V"), (0, .class_ 17), (0, u "[J"), (0, .fieldref 2 19), (0, .nameAndType 20 21), (0, u "pages"), (0, u "[[J"), (0, .integer 1073741824), (0, .fieldref 2 24), (0, .nameAndType 25 17), (0, u "table"), (0, .fieldref 2 27), (0, .nameAndType 28 29), (0, u "layout"), (0, u "Lcom/example/libreach/libreach/engine/StateLayout;"), (2, u "size"), (0, u "I"), (2, u "hash"), (0, u "([JI)I"), (8, .fieldref 2 47), (0, .nameAndType 48 33), (0, u "pageShift"), (7, .fieldref 2 57), (0, .nameAndType 58 33), (0, u "recordWords"), (3, u "(I)I"), (0, .fieldref 2 64), (0, .nameAndType 65 33), (0, u "words"), (11, .long 11400714819323198485), (1, .long 13787848793156543929), (3, u "prefetched"), (0, u "J"), (1, .class_ 88), (1, u "com/example/libreach/libreach/engine/StateLayout"), (13, u "()I"), (16, .methodref 86 120), (0, .nameAndType 65 102), (0, .methodref 122 123), (0, .class_ 124), (0, .nameAndType 125 62), (0, u "java/lang/Integer"), (0, u "numberOfLeadingZeros"), (0, .integer 32768), (0, .methodref 122 128), (0, .nameAndType 129 62), (0, u "numberOfTrailingZeros"), (0, .methodref 131 132), (0, .class_ 133), (0, .nameAndType 134 135), (0, u "java/lang/Math"), (0, u "max"), (0, u "(II)I"), (9, u "PAGE_WORDS"), (1, u "FIRST_CAPACITY"), (1, u "MAX_CAPACITY")] 26

def k2c0 : Code := { maxStack := 3, maxLocals := 2, code := prog_18_method_1_code, exceptionTable := #[], attributes := #[] }
def k2m0 : Method := { name := "<init>", desc := "(Lcom/example/libreach/libreach/engine/StateLayout;)V", sig := { parameters := [(.object "com/example/libreach/libreach/engine/StateLayout")], returnType := none }, accessFlags := 0, code := some k2c0 }
def k2c1 : Code := { maxStack := 3, maxLocals := 4, code := prog_18_method_2_code, exceptionTable := #[], attributes := #[] }
def k2m1 : Method := { name := "<init>", desc := "(Lcom/example/libreach/libreach/engine/StateLayout;I)V", sig := { parameters := [(.object "com/example/libreach/libreach/engine/StateLayout"), .int], returnType := none }, accessFlags := 2, code := some k2c1 }
def k2c2 : Code := { maxStack := 5, maxLocals := 6, code := prog_18_method_7_code, exceptionTable := #[], attributes := #[] }
def k2m2 : Method := { name := "hash", desc := "([JI)I", sig := { parameters := [(.array .long), .int], returnType := some .int }, accessFlags := 0, code := some k2c2 }
def k2c3 : Code := { maxStack := 4, maxLocals := 3, code := prog_18_method_14_code, exceptionTable := #[], attributes := #[] }
def k2m3 : Method := { name := "useLayout", desc := "(Lcom/example/libreach/libreach/engine/StateLayout;)V", sig := { parameters := [(.object "com/example/libreach/libreach/engine/StateLayout")], returnType := none }, accessFlags := 2, code := some k2c3 }
/-- com/example/libreach/libreach/engine/StateStore -/
def k2 : Class := { plain "com/example/libreach/libreach/engine/StateStore" (some 0) with
  accessFlags := 32
  interfaces := #[]
  cf := some (fileOf pool2 2 #[] #[{ accessFlags := 0, nameIndex := 5, descriptorIndex := 15, attributes := #[] }, { accessFlags := 2, nameIndex := 5, descriptorIndex := 6, attributes := #[] }, { accessFlags := 0, nameIndex := 36, descriptorIndex := 37, attributes := #[] }, { accessFlags := 2, nameIndex := 14, descriptorIndex := 15, attributes := #[] }] 32 8 #[] #[{ accessFlags := 26, nameIndex := 145, descriptorIndex := 33, attributes := #[] }, { accessFlags := 26, nameIndex := 147, descriptorIndex := 33, attributes := #[] }, { accessFlags := 26, nameIndex := 149, descriptorIndex := 33, attributes := #[] }, { accessFlags := 2, nameIndex := 28, descriptorIndex := 29, attributes := #[] }, { accessFlags := 2, nameIndex := 65, descriptorIndex := 33, attributes := #[] }, { accessFlags := 2, nameIndex := 58, descriptorIndex := 33, attributes := #[] }, { accessFlags := 2, nameIndex := 48, descriptorIndex := 33, attributes := #[] }, { accessFlags := 2, nameIndex := 20, descriptorIndex := 21, attributes := #[] }, { accessFlags := 2, nameIndex := 25, descriptorIndex := 17, attributes := #[] }, { accessFlags := 2, nameIndex := 32, descriptorIndex := 33, attributes := #[] }, { accessFlags := 2, nameIndex := 83, descriptorIndex := 84, attributes := #[] }])
  fields := #[{ name := "PAGE_WORDS", type := .int, accessFlags := 26, slot := 0, constantValue := 0 }, { name := "FIRST_CAPACITY", type := .int, accessFlags := 26, slot := 1, constantValue := 0 }, { name := "MAX_CAPACITY", type := .int, accessFlags := 26, slot := 2, constantValue := 0 }, { name := "layout", type := (.object "com/example/libreach/libreach/engine/StateLayout"), accessFlags := 2, slot := 0, constantValue := 0 }, { name := "words", type := .int, accessFlags := 2, slot := 1, constantValue := 0 }, { name := "recordWords", type := .int, accessFlags := 2, slot := 2, constantValue := 0 }, { name := "pageShift", type := .int, accessFlags := 2, slot := 3, constantValue := 0 }, { name := "pages", type := (.array (.array .long)), accessFlags := 2, slot := 4, constantValue := 0 }, { name := "table", type := (.array .long), accessFlags := 2, slot := 5, constantValue := 0 }, { name := "size", type := .int, accessFlags := 2, slot := 6, constantValue := 0 }, { name := "prefetched", type := .long, accessFlags := 2, slot := 7, constantValue := 0 }]
  methods := #[k2m0, k2m1, k2m2, k2m3]
  instanceTypes := #[(.object "com/example/libreach/libreach/engine/StateLayout"), .int, .int, .int, (.array (.array .long)), (.array .long), .int, .long]
  staticTypes := #[.int, .int, .int]
  resolved := Array.replicate 176 none
  statics := none }

def pool3 : Array CpInfo := pool [(1, .methodref 2 3), (0, .class_ 4), (0, .nameAndType 5 6), (0, u "java/lang/Object"), (0, u "<init>"), (0, u "()V"), (0, .methodref 8 9), (0, .class_ 10), (0, .nameAndType 11 12), (0, u "[I"), (0, u "clone"), (0, u "()Ljava/lang/Object;"), (0, .fieldref 14 15), (0, .class_ 16), (0, .nameAndType 17 10), (0, u "com/example/libreach/libreach/engine/StateLayout"), (0, u "widths"), (0, .fieldref 14 19), (0, .nameAndType 20 10), (0, u "word"), (0, .fieldref 14 22), (0, .nameAndType 23 10), (0, u "shift"), (0, .fieldref 14 25), (0, .nameAndType 26 27), (0, u "largest"), (0, u "[J"), (2, .long 18446744073709551615), (1, .fieldref 14 33), (0, .nameAndType 34 35), (0, u "words"), (0, u "I"), (0, .methodref 37 38), (0, .class_ 39), (0, .nameAndType 40 41), (0, u "java/util/Arrays"), (0, u "copyOf"), (0, u "([II)[I"), (0, .fieldref 14 43), (0, .nameAndType 44 10), (0, u "runs"), (42, u "()I"), (16, u "([I)V"), (17, u "MAX_WIDTH")] 20

def k3c0 : Code := { maxStack := 7, maxLocals := 7, code := prog_17_method_1_code, exceptionTable := #[], attributes := #[] }
def k3m0 : Method := { name := "<init>", desc := "([I)V", sig := { parameters := [(.array .int)], returnType := none }, accessFlags := 0, code := some k3c0 }
def k3c1 : Code := { maxStack := 1, maxLocals := 1, code := prog_17_method_4_code, exceptionTable := #[], attributes := #[] }
def k3m1 : Method := { name := "words", desc := "()I", sig := { parameters := [], returnType := some .int }, accessFlags := 0, code := some k3c1 }
/-- com/example/libreach/libreach/engine/StateLayout -/
def k3 : Class := { plain "com/example/libreach/libreach/engine/StateLayout" (some 0) with
  accessFlags := 32
  interfaces := #[]
  cf := some (fileOf pool3 14 #[] #[{ accessFlags := 0, nameIndex := 5, descriptorIndex := 104, attributes := #[] }, { accessFlags := 0, nameIndex := 34, descriptorIndex := 87, attributes := #[] }] 32 2 #[] #[{ accessFlags := 26, nameIndex := 122, descriptorIndex := 35, attributes := #[] }, { accessFlags := 18, nameIndex := 17, descriptorIndex := 10, attributes := #[] }, { accessFlags := 18, nameIndex := 20, descriptorIndex := 10, attributes := #[] }, { accessFlags := 18, nameIndex := 23, descriptorIndex := 10, attributes := #[] }, { accessFlags := 18, nameIndex := 26, descriptorIndex := 27, attributes := #[] }, { accessFlags := 18, nameIndex := 34, descriptorIndex := 35, attributes := #[] }, { accessFlags := 18, nameIndex := 44, descriptorIndex := 10, attributes := #[] }])
  fields := #[{ name := "MAX_WIDTH", type := .int, accessFlags := 26, slot := 0, constantValue := 0 }, { name := "widths", type := (.array .int), accessFlags := 18, slot := 0, constantValue := 0 }, { name := "word", type := (.array .int), accessFlags := 18, slot := 1, constantValue := 0 }, { name := "shift", type := (.array .int), accessFlags := 18, slot := 2, constantValue := 0 }, { name := "largest", type := (.array .long), accessFlags := 18, slot := 3, constantValue := 0 }, { name := "words", type := .int, accessFlags := 18, slot := 4, constantValue := 0 }, { name := "runs", type := (.array .int), accessFlags := 18, slot := 5, constantValue := 0 }]
  methods := #[k3m0, k3m1]
  instanceTypes := #[(.array .int), (.array .int), (.array .int), (.array .long), .int, (.array .int)]
  staticTypes := #[.int]
  resolved := Array.replicate 143 none
  statics := none }

def pool4 : Array CpInfo := pool [(1, .class_ 2), (0, u "java/lang/Cloneable"), (0, .class_ 4), (0, u "java/lang/Object")] 2

/-- java/lang/Cloneable -/
def k4 : Class := { plain "java/lang/Cloneable" (some 0) with
  accessFlags := 1537
  interfaces := #[]
  cf := some (fileOf pool4 1 #[] #[] 1537 3 #[] #[])
  fields := #[]
  methods := #[]
  instanceTypes := #[]
  staticTypes := #[]
  resolved := Array.replicate 7 none
  statics := none }

def pool5 : Array CpInfo := pool [(2, .class_ 4), (1, u "java/lang/Object"), (0, u "<init>"), (0, u "()V"), (7, .class_ 16), (1, u "java/util/Arrays"), (57, .class_ 76), (1, u "java/util/Arrays$NaturalOrder"), (32, u "()Ljava/lang/Object;"), (3, .class_ 115), (1, u "java/util/Arrays$LegacyMergeSort"), (1, u "Z"), (10, .nameAndType 129 109), (0, u "clone"), (20, .methodref 151 152), (0, .class_ 153), (0, .nameAndType 154 155), (0, u "java/lang/System"), (0, u "arraycopy"), (0, u "(Ljava/lang/Object;ILjava/lang/Object;II)V"), (146, u "copyOf"), (1, .methodref 305 306), (0, .class_ 307), (0, .nameAndType 308 309), (0, u "java/lang/Math"), (0, u "min"), (0, u "(II)I"), (6, .methodref 317 128), (0, .class_ 318), (0, u "[I"), (56, .class_ 376), (0, u "java/util/Arrays$ArrayList"), (68, u "$assertionsDisabled"), (269, u "MIN_ARRAY_SORT_GRAN"), (0, u "I"), (2, u "INSERTIONSORT_THRESHOLD"), (151, u "([II)[I"), (103, .class_ 976), (0, u "java/util/Arrays$ArrayItr")] 52

def k5m0 : Method := { name := "<init>", desc := "()V", sig := { parameters := [], returnType := none }, accessFlags := 2, code := none }
def k5c1 : Code := { maxStack := 6, maxLocals := 3, code := jdk_65_method_123_code, exceptionTable := #[], attributes := #[] }
def k5m1 : Method := { name := "copyOf", desc := "([II)[I", sig := { parameters := [(.array .int), .int], returnType := some (.array .int) }, accessFlags := 9, code := some k5c1 }
/-- java/util/Arrays -/
def k5 : Class := { plain "java/util/Arrays" (some 0) with
  accessFlags := 49
  interfaces := #[]
  cf := some (fileOf pool5 14 #[.nestMembers #[975, 375, 113, 74]] #[{ accessFlags := 2, nameIndex := 5, descriptorIndex := 6, attributes := #[] }, { accessFlags := 9, nameIndex := 302, descriptorIndex := 871, attributes := #[] }] 49 2 #[] #[{ accessFlags := 26, nameIndex := 715, descriptorIndex := 716, attributes := #[] }, { accessFlags := 26, nameIndex := 719, descriptorIndex := 716, attributes := #[] }, { accessFlags := 4120, nameIndex := 445, descriptorIndex := 117, attributes := #[] }])
  fields := #[{ name := "MIN_ARRAY_SORT_GRAN", type := .int, accessFlags := 26, slot := 0, constantValue := 0 }, { name := "INSERTIONSORT_THRESHOLD", type := .int, accessFlags := 26, slot := 1, constantValue := 0 }, { name := "$assertionsDisabled", type := .boolean, accessFlags := 4120, slot := 2, constantValue := 0 }]
  methods := #[k5m0, k5m1]
  instanceTypes := #[]
  staticTypes := #[.int, .int, .boolean]
  resolved := Array.replicate 1029 none
  statics := none }

def pool6 : Array CpInfo := pool [(1, .class_ 2), (0, u "java/io/Serializable"), (0, .class_ 4), (0, u "java/lang/Object")] 2

/-- java/io/Serializable -/
def k6 : Class := { plain "java/io/Serializable" (some 0) with
  accessFlags := 1537
  interfaces := #[]
  cf := some (fileOf pool6 1 #[] #[] 1537 3 #[] #[])
  fields := #[]
  methods := #[]
  instanceTypes := #[]
  staticTypes := #[]
  resolved := Array.replicate 7 none
  statics := none }

def pool7 : Array CpInfo := pool [(2, .class_ 4), (1, u "java/lang/Object"), (0, u "<init>"), (0, u "()V"), (1, .class_ 10), (1, u "java/lang/Number"), (2, .class_ 14), (0, u "java/io/Serializable"), (0, u "serialVersionUID"), (0, u "J")] 20

def k7m0 : Method := { name := "<init>", desc := "()V", sig := { parameters := [], returnType := none }, accessFlags := 1, code := none }
/-- java/lang/Number -/
def k7 : Class := { plain "java/lang/Number" (some 0) with
  accessFlags := 1057
  interfaces := #[6]
  cf := some (fileOf pool7 8 #[] #[{ accessFlags := 1, nameIndex := 5, descriptorIndex := 6, attributes := #[] }] 1057 2 #[13] #[{ accessFlags := 26, nameIndex := 15, descriptorIndex := 16, attributes := #[] }])
  fields := #[{ name := "serialVersionUID", type := .long, accessFlags := 26, slot := 0, constantValue := 0 }]
  methods := #[k7m0]
  instanceTypes := #[]
  staticTypes := #[.long]
  resolved := Array.replicate 37 none
  statics := none }

def pool8 : Array CpInfo := pool [(1, .class_ 2), (0, u "java/lang/Comparable"), (0, .class_ 4), (0, u "java/lang/Object")] 7

/-- java/lang/Comparable -/
def k8 : Class := { plain "java/lang/Comparable" (some 0) with
  accessFlags := 1537
  interfaces := #[]
  cf := some (fileOf pool8 1 #[] #[] 1537 3 #[] #[])
  fields := #[]
  methods := #[]
  instanceTypes := #[]
  staticTypes := #[]
  resolved := Array.replicate 12 none
  statics := none }

def pool9 : Array CpInfo := pool [(1, .class_ 2), (0, u "java/lang/constant/Constable"), (0, .class_ 4), (0, u "java/lang/Object")] 6

/-- java/lang/constant/Constable -/
def k9 : Class := { plain "java/lang/constant/Constable" (some 0) with
  accessFlags := 1537
  interfaces := #[]
  cf := some (fileOf pool9 1 #[] #[] 1537 3 #[] #[])
  fields := #[]
  methods := #[]
  instanceTypes := #[]
  staticTypes := #[]
  resolved := Array.replicate 11 none
  statics := none }

def pool10 : Array CpInfo := pool [(1, .class_ 2), (0, u "java/lang/constant/ConstantDesc"), (0, .class_ 4), (0, u "java/lang/Object")] 32

/-- java/lang/constant/ConstantDesc -/
def k10 : Class := { plain "java/lang/constant/ConstantDesc" (some 0) with
  accessFlags := 1537
  interfaces := #[]
  cf := some (fileOf pool10 1 #[] #[] 1537 3 #[] #[])
  fields := #[]
  methods := #[]
  instanceTypes := #[]
  staticTypes := #[]
  resolved := Array.replicate 37 none
  statics := none }

def pool11 : Array CpInfo := pool [(1, .class_ 2), (0, u "java/lang/Integer"), (16, u "digits"), (0, u "[C"), (32, u "numberOfLeadingZeros"), (0, u "(I)I"), (30, u "DigitOnes"), (0, u "[B"), (2, u "DigitTens"), (99, .class_ 190), (0, u "java/lang/Integer$IntegerCache"), (3, u "I"), (8, .class_ 204), (0, u "java/lang/Number"), (2, u "value"), (56, .integer 65536), (37, u "TYPE"), (0, u "Ljava/lang/Class;"), (0, .class_ 305), (0, u "java/lang/Comparable"), (0, .class_ 307), (0, u "java/lang/constant/Constable"), (0, .class_ 309), (0, u "java/lang/constant/ConstantDesc"), (0, u "MIN_VALUE"), (1, u "MAX_VALUE"), (3, u "SIZE"), (1, u "BYTES"), (1, u "serialVersionUID"), (0, u "J"), (84, u "numberOfTrailingZeros")] 46

def k11c0 : Code := { maxStack := 3, maxLocals := 2, code := jdk_33_method_47_code, exceptionTable := #[], attributes := #[] }
def k11m0 : Method := { name := "numberOfLeadingZeros", desc := "(I)I", sig := { parameters := [.int], returnType := some .int }, accessFlags := 9, code := some k11c0 }
def k11c1 : Code := { maxStack := 3, maxLocals := 2, code := jdk_33_method_48_code, exceptionTable := #[], attributes := #[] }
def k11m1 : Method := { name := "numberOfTrailingZeros", desc := "(I)I", sig := { parameters := [.int], returnType := some .int }, accessFlags := 9, code := some k11c1 }
/-- java/lang/Integer -/
def k11 : Class := { plain "java/lang/Integer" (some 7) with
  accessFlags := 49
  interfaces := #[8, 9, 10]
  cf := some (fileOf pool11 1 #[.nestMembers #[189]] #[{ accessFlags := 9, nameIndex := 53, descriptorIndex := 54, attributes := #[] }, { accessFlags := 9, nameIndex := 406, descriptorIndex := 54, attributes := #[] }] 49 203 #[304, 306, 308] #[{ accessFlags := 25, nameIndex := 310, descriptorIndex := 194, attributes := #[] }, { accessFlags := 25, nameIndex := 312, descriptorIndex := 194, attributes := #[] }, { accessFlags := 25, nameIndex := 302, descriptorIndex := 303, attributes := #[] }, { accessFlags := 24, nameIndex := 19, descriptorIndex := 20, attributes := #[] }, { accessFlags := 24, nameIndex := 89, descriptorIndex := 86, attributes := #[] }, { accessFlags := 24, nameIndex := 85, descriptorIndex := 86, attributes := #[] }, { accessFlags := 18, nameIndex := 207, descriptorIndex := 194, attributes := #[] }, { accessFlags := 25, nameIndex := 316, descriptorIndex := 194, attributes := #[] }, { accessFlags := 25, nameIndex := 318, descriptorIndex := 194, attributes := #[] }, { accessFlags := 26, nameIndex := 320, descriptorIndex := 321, attributes := #[] }])
  fields := #[{ name := "MIN_VALUE", type := .int, accessFlags := 25, slot := 0, constantValue := 0 }, { name := "MAX_VALUE", type := .int, accessFlags := 25, slot := 1, constantValue := 0 }, { name := "TYPE", type := (.object "java/lang/Class"), accessFlags := 25, slot := 2, constantValue := 0 }, { name := "digits", type := (.array .char), accessFlags := 24, slot := 3, constantValue := 0 }, { name := "DigitTens", type := (.array .byte), accessFlags := 24, slot := 4, constantValue := 0 }, { name := "DigitOnes", type := (.array .byte), accessFlags := 24, slot := 5, constantValue := 0 }, { name := "value", type := .int, accessFlags := 18, slot := 0, constantValue := 0 }, { name := "SIZE", type := .int, accessFlags := 25, slot := 6, constantValue := 0 }, { name := "BYTES", type := .int, accessFlags := 25, slot := 7, constantValue := 0 }, { name := "serialVersionUID", type := .long, accessFlags := 26, slot := 8, constantValue := 0 }]
  methods := #[k11m0, k11m1]
  instanceTypes := #[.int]
  staticTypes := #[.int, .int, (.object "java/lang/Class"), (.array .char), (.array .byte), (.array .byte), .int, .int, .long]
  resolved := Array.replicate 453 none
  statics := none }

def pool12 : Array CpInfo := pool [(1, .class_ 2), (0, u "java/lang/Math"), (1, .class_ 6), (1, u "java/lang/Object"), (0, u "<init>"), (0, u "()V"), (89, .class_ 100), (1, u "java/lang/Math$RandomNumberGeneratorHolder"), (71, u "negativeZeroFloatBits"), (0, u "J"), (2, u "negativeZeroDoubleBits"), (21, u "max"), (2, u "min"), (43, u "$assertionsDisabled"), (0, u "Z"), (88, u "(II)I"), (2, u "twoToTheDoubleScaleDown"), (0, u "D"), (4, u "twoToTheDoubleScaleUp"), (9, u "E"), (3, u "PI"), (2, u "TAU"), (2, u "DEGREES_TO_RADIANS"), (0, u "RADIANS_TO_DEGREES")] 94

def k12m0 : Method := { name := "<init>", desc := "()V", sig := { parameters := [], returnType := none }, accessFlags := 2, code := none }
def k12c1 : Code := { maxStack := 2, maxLocals := 2, code := jdk_29_method_65_code, exceptionTable := #[], attributes := #[] }
def k12m1 : Method := { name := "max", desc := "(II)I", sig := { parameters := [.int, .int], returnType := some .int }, accessFlags := 9, code := some k12c1 }
def k12c2 : Code := { maxStack := 2, maxLocals := 2, code := jdk_29_method_69_code, exceptionTable := #[], attributes := #[] }
def k12m2 : Method := { name := "min", desc := "(II)I", sig := { parameters := [.int, .int], returnType := some .int }, accessFlags := 9, code := some k12c2 }
/-- java/lang/Math -/
def k12 : Class := { plain "java/lang/Math" (some 0) with
  accessFlags := 49
  interfaces := #[]
  cf := some (fileOf pool12 1 #[.nestMembers #[98]] #[{ accessFlags := 2, nameIndex := 7, descriptorIndex := 8, attributes := #[] }, { accessFlags := 9, nameIndex := 198, descriptorIndex := 335, attributes := #[] }, { accessFlags := 9, nameIndex := 201, descriptorIndex := 335, attributes := #[] }] 49 4 #[] #[{ accessFlags := 25, nameIndex := 354, descriptorIndex := 339, attributes := #[] }, { accessFlags := 25, nameIndex := 358, descriptorIndex := 339, attributes := #[] }, { accessFlags := 25, nameIndex := 361, descriptorIndex := 339, attributes := #[] }, { accessFlags := 26, nameIndex := 364, descriptorIndex := 339, attributes := #[] }, { accessFlags := 26, nameIndex := 365, descriptorIndex := 339, attributes := #[] }, { accessFlags := 26, nameIndex := 172, descriptorIndex := 173, attributes := #[] }, { accessFlags := 26, nameIndex := 176, descriptorIndex := 173, attributes := #[] }, { accessFlags := 8, nameIndex := 344, descriptorIndex := 339, attributes := #[] }, { accessFlags := 8, nameIndex := 338, descriptorIndex := 339, attributes := #[] }, { accessFlags := 4120, nameIndex := 245, descriptorIndex := 246, attributes := #[] }])
  fields := #[{ name := "E", type := .double, accessFlags := 25, slot := 0, constantValue := 0 }, { name := "PI", type := .double, accessFlags := 25, slot := 1, constantValue := 0 }, { name := "TAU", type := .double, accessFlags := 25, slot := 2, constantValue := 0 }, { name := "DEGREES_TO_RADIANS", type := .double, accessFlags := 26, slot := 3, constantValue := 0 }, { name := "RADIANS_TO_DEGREES", type := .double, accessFlags := 26, slot := 4, constantValue := 0 }, { name := "negativeZeroFloatBits", type := .long, accessFlags := 26, slot := 5, constantValue := 0 }, { name := "negativeZeroDoubleBits", type := .long, accessFlags := 26, slot := 6, constantValue := 0 }, { name := "twoToTheDoubleScaleUp", type := .double, accessFlags := 8, slot := 7, constantValue := 0 }, { name := "twoToTheDoubleScaleDown", type := .double, accessFlags := 8, slot := 8, constantValue := 0 }, { name := "$assertionsDisabled", type := .boolean, accessFlags := 4120, slot := 9, constantValue := 0 }]
  methods := #[k12m0, k12m1, k12m2]
  instanceTypes := #[]
  staticTypes := #[.double, .double, .double, .double, .double, .long, .long, .double, .double, .boolean]
  resolved := Array.replicate 460 none
  statics := none }

def pool13 : Array CpInfo := pool [(2, .class_ 4), (1, u "java/lang/Object"), (0, u "<init>"), (0, u "()V"), (1, .class_ 10), (1, u "java/lang/System"), (0, u "allowSecurityManager"), (0, u "I"), (16, u "cons"), (0, u "Ljava/io/Console;"), (77, .class_ 110), (1, u "java/lang/System$CallersHolder"), (43, u "initialErrStream"), (0, u "Ljava/io/PrintStream;"), (19, u "security"), (0, u "Ljava/lang/SecurityManager;"), (31, .class_ 209), (0, u "java/lang/System$1"), (7, u "props"), (0, u "Ljava/util/Properties;"), (2, u "lineSeparator"), (0, u "Ljava/lang/String;"), (96, .class_ 321), (1, u "java/lang/System$LoggerFinder"), (5, .class_ 328), (0, u "java/lang/System$Logger"), (67, u "err"), (2, u "out"), (91, u "notSupportedJnuEncoding"), (15, u "in"), (17, u "initialIn"), (0, u "Ljava/io/InputStream;"), (35, u "bootLayer"), (0, u "Ljava/lang/ModuleLayer;"), (99, .class_ 664), (0, u "java/lang/System$2"), (9, u "NEVER"), (2, u "MAYBE"), (49, u "arraycopy"), (0, u "(Ljava/lang/Object;ILjava/lang/Object;II)V"), (72, .class_ 802), (0, u "java/lang/System$Logger$Level")] 31

def k13m0 : Method := { name := "<init>", desc := "()V", sig := { parameters := [], returnType := none }, accessFlags := 2, code := none }
def k13m1 : Method := { name := "arraycopy", desc := "(Ljava/lang/Object;ILjava/lang/Object;II)V", sig := { parameters := [(.object "java/lang/Object"), .int, (.object "java/lang/Object"), .int, .int], returnType := none }, accessFlags := 265, code := none }
/-- java/lang/System -/
def k13 : Class := { plain "java/lang/System" (some 0) with
  accessFlags := 49
  interfaces := #[]
  cf := some (fileOf pool13 8 #[.nestMembers #[319, 327, 801, 108, 663, 208]] #[{ accessFlags := 2, nameIndex := 5, descriptorIndex := 6, attributes := #[] }, { accessFlags := 265, nameIndex := 727, descriptorIndex := 728, attributes := #[] }] 49 2 #[] #[{ accessFlags := 25, nameIndex := 507, descriptorIndex := 526, attributes := #[] }, { accessFlags := 25, nameIndex := 399, descriptorIndex := 155, attributes := #[] }, { accessFlags := 25, nameIndex := 396, descriptorIndex := 155, attributes := #[] }, { accessFlags := 10, nameIndex := 525, descriptorIndex := 526, attributes := #[] }, { accessFlags := 26, nameIndex := 674, descriptorIndex := 12, attributes := #[] }, { accessFlags := 26, nameIndex := 677, descriptorIndex := 12, attributes := #[] }, { accessFlags := 10, nameIndex := 11, descriptorIndex := 12, attributes := #[] }, { accessFlags := 74, nameIndex := 175, descriptorIndex := 176, attributes := #[] }, { accessFlags := 10, nameIndex := 491, descriptorIndex := 222, attributes := #[] }, { accessFlags := 74, nameIndex := 29, descriptorIndex := 30, attributes := #[] }, { accessFlags := 74, nameIndex := 154, descriptorIndex := 155, attributes := #[] }, { accessFlags := 10, nameIndex := 217, descriptorIndex := 218, attributes := #[] }, { accessFlags := 10, nameIndex := 221, descriptorIndex := 222, attributes := #[] }, { accessFlags := 8, nameIndex := 562, descriptorIndex := 563, attributes := #[] }])
  fields := #[{ name := "in", type := (.object "java/io/InputStream"), accessFlags := 25, slot := 0, constantValue := 0 }, { name := "out", type := (.object "java/io/PrintStream"), accessFlags := 25, slot := 1, constantValue := 0 }, { name := "err", type := (.object "java/io/PrintStream"), accessFlags := 25, slot := 2, constantValue := 0 }, { name := "initialIn", type := (.object "java/io/InputStream"), accessFlags := 10, slot := 3, constantValue := 0 }, { name := "NEVER", type := .int, accessFlags := 26, slot := 4, constantValue := 0 }, { name := "MAYBE", type := .int, accessFlags := 26, slot := 5, constantValue := 0 }, { name := "allowSecurityManager", type := .int, accessFlags := 10, slot := 6, constantValue := 0 }, { name := "security", type := (.object "java/lang/SecurityManager"), accessFlags := 74, slot := 7, constantValue := 0 }, { name := "notSupportedJnuEncoding", type := (.object "java/lang/String"), accessFlags := 10, slot := 8, constantValue := 0 }, { name := "cons", type := (.object "java/io/Console"), accessFlags := 74, slot := 9, constantValue := 0 }, { name := "initialErrStream", type := (.object "java/io/PrintStream"), accessFlags := 74, slot := 10, constantValue := 0 }, { name := "props", type := (.object "java/util/Properties"), accessFlags := 10, slot := 11, constantValue := 0 }, { name := "lineSeparator", type := (.object "java/lang/String"), accessFlags := 10, slot := 12, constantValue := 0 }, { name := "bootLayer", type := (.object "java/lang/ModuleLayer"), accessFlags := 8, slot := 13, constantValue := 0 }]
  methods := #[k13m0, k13m1]
  instanceTypes := #[]
  staticTypes := #[(.object "java/io/InputStream"), (.object "java/io/PrintStream"), (.object "java/io/PrintStream"), (.object "java/io/InputStream"), .int, .int, .int, (.object "java/lang/SecurityManager"), (.object "java/lang/String"), (.object "java/io/Console"), (.object "java/io/PrintStream"), (.object "java/util/Properties"), (.object "java/lang/String"), (.object "java/lang/ModuleLayer")]
  resolved := Array.replicate 834 none
  statics := none }

/-- the primitive byte -/
def k14 : Class := { plain "byte" none with kind := .primitive 'B', accessFlags := 0x411 }
/-- [B -/
def k15 : Class := { plain "[B" (some 0) with kind := .array 14 .byte, interfaces := #[4, 6], accessFlags := 1041 }

/-- the primitive int -/
def k16 : Class := { plain "int" none with kind := .primitive 'I', accessFlags := 0x411 }
/-- [I -/
def k17 : Class := { plain "[I" (some 0) with kind := .array 16 .int, interfaces := #[4, 6], accessFlags := 1041 }

/-- the primitive long -/
def k18 : Class := { plain "long" none with kind := .primitive 'J', accessFlags := 0x411 }
/-- [J -/
def k19 : Class := { plain "[J" (some 0) with kind := .array 18 .long, interfaces := #[4, 6], accessFlags := 1041 }

def heap : Heap := #[]
def k20 : Class := { plain "[[J" (some 0) with kind := .array 19 (.array .long), interfaces := #[4, 6], accessFlags := 1041 }
def classes : Array Class := #[k0, k1, k2, k3, k4, k5, k6, k7, k8, k9, k10, k11, k12, k13, k14, k15, k16, k17, k18, k19, k20]
def interned : List (Array UInt16 × Addr) := []
def slotsUsed : Nat := 0
def theMethod : MethodId := ⟨1, 1⟩
def args0 : Array Value := #[.int 2, .long 1, .long 2, .long 3, .long 4, .int 1]
def aboutOver (below : List Frame) : State where
  vm := { classes := classes, interned := interned.toArray }
  heap := heap
  slotsUsed := slotsUsed
  threads := #[{ frames := .invoking theMethod args0 :: below }]
def below0 : List Frame := [.native { method := ⟨0, 0⟩, args := #[] }]
def about1 : State := aboutOver below0
def p0 : Program := .bare "" "" ""
def e0 : Env := launch0.env 0 0 0
theorem w_frames : about1.frames = Frame.invoking theMethod args0 :: below0 := rfl
set_option maxRecDepth 65536 in
theorem w_args : argsFit about1.vm theMethod args0 = true := by decide +kernel
set_option maxRecDepth 65536 in
theorem w_heap : heapFits about1 = true := by decide +kernel
set_option maxRecDepth 65536 in
theorem w_runnable : about1.curStatus? = some .runnable := by decide +kernel
set_option maxRecDepth 65536 in
theorem w_alone : about1.alone = true := by decide +kernel
set_option maxRecDepth 65536 in
theorem w_named : about1.methodNamed? x = some theMethod := by decide +kernel
set_option maxRecDepth 65536 in
theorem w_hears : about1.hears theMethod below0 = true := by decide +kernel
set_option maxRecDepth 65536 in
theorem w_ripe : about1.ripe theMethod args0 below0 = true := by decide +kernel
theorem w_running : about1.status = .running := rfl
set_option maxRecDepth 65536 in
theorem w_room : about1.hasRoom e0.platform room_1 = true :=
  launch0.hasRoom_least _ room_1 (by decide +kernel) (by decide +kernel) (by decide +kernel) (by decide +kernel) (by decide +kernel) (by decide +kernel)
theorem allAtoms_all (ts : List Jvm.Cond) (a : Array Jvm.Value) (st : Jvm.State) : (allAtoms ts).before a st = ts.all (fun c => c.before a st) := by
  induction ts with
  | nil => rfl
  | cons c t ih =>
    show (Jvm.Cond.and c (allAtoms t)).before a st = _
    rw [Jvm.Cond.before_and, ih, List.all_cons]
def words1 : List Jvm.Cond := Jvm.Cond.code x code maxLocals ret :: tables_1
/-- a 'code' word, met by the world's own term for the bytes: nothing is compared byte by byte -/
theorem code_word {y : MethodName} {bytes : ByteArray} {mx : Nat} {rt : Option FieldType} {a : Array Value} {s : State} {m : MethodId} {meth : Method} {c : Code} (h1 : s.methodNamed? y = some m) (h2 : s.vm.method? m = some meth) (h3 : meth.code = some c) (h4 : c.code = bytes)
    (h5 : (c.maxLocals == mx && c.exceptionTable.isEmpty && decide (c.maxStack ≤ mostOperands) && decide (meth.sig.returnType = rt) && !meth.locks && decide (parseMethodDescriptor y.desc = some meth.sig)) = true) : (Jvm.Cond.code y bytes mx rt).before a s = true := by
  simp only [Bool.and_eq_true, beq_iff_eq, Bool.not_eq_true', decide_eq_true_eq] at h5
  obtain ⟨⟨⟨⟨⟨g1, g2⟩, g3⟩, g4⟩, g5⟩, g6⟩ := h5
  simp [Cond.before, Cond.holds, Cond.value, h1, h2, h3, h4, g1, g2, g3, g4, g5, g6]
def isCode : Jvm.Cond → Bool
  | .code _ _ _ _ => true
  | _ => false
theorem all_split {L : List Jvm.Cond} {P : Jvm.Cond → Bool} (h1 : L.all (fun c => isCode c || P c) = true) (h2 : ∀ c ∈ L.filter isCode, P c = true) : L.all P = true := by
  refine List.all_eq_true.mpr fun c hc => ?_
  have h := List.all_eq_true.mp h1 c hc
  rcases Bool.eq_false_or_eq_true (isCode c) with hi | hi
  · exact h2 c (List.mem_filter.mpr ⟨hc, hi⟩)
  · simpa [hi] using h
set_option maxRecDepth 65536 in
theorem w_c0 : (Jvm.Cond.code x code maxLocals ret).before args0 about1 = true := code_word (m := ⟨1, 1⟩) (meth := k1m1) (c := k1c1) (by decide +kernel) rfl rfl rfl (by decide +kernel)
set_option maxRecDepth 65536 in
theorem w_c1 : (Jvm.Cond.code ({ cls := "com/example/libreach/libreach/engine/StateLayout", name := "<init>", desc := "([I)V" } : Jvm.MethodName) prog_17_method_1_code (7 : Nat) (Option.none : Option Jvm.ClassFile.FieldType)).before args0 about1 = true := code_word (m := ⟨3, 0⟩) (meth := k3m0) (c := k3c0) (by decide +kernel) rfl rfl rfl (by decide +kernel)
set_option maxRecDepth 65536 in
theorem w_c2 : (Jvm.Cond.code ({ cls := "java/lang/Object", name := "<init>", desc := "()V" } : Jvm.MethodName) object_method_1_code (1 : Nat) (Option.none : Option Jvm.ClassFile.FieldType)).before args0 about1 = true := code_word (m := ⟨0, 0⟩) (meth := k0m0) (c := k0c0) (by decide +kernel) rfl rfl rfl (by decide +kernel)
set_option maxRecDepth 65536 in
theorem w_c3 : (Jvm.Cond.code ({ cls := "java/util/Arrays", name := "copyOf", desc := "([II)[I" } : Jvm.MethodName) jdk_65_method_123_code (3 : Nat) (Option.some (Jvm.ClassFile.FieldType.array Jvm.ClassFile.FieldType.int))).before args0 about1 = true := code_word (m := ⟨5, 1⟩) (meth := k5m1) (c := k5c1) (by decide +kernel) rfl rfl rfl (by decide +kernel)
set_option maxRecDepth 65536 in
theorem w_c4 : (Jvm.Cond.code ({ cls := "com/example/libreach/libreach/engine/StateStore", name := "<init>", desc := "(Lcom/example/libreach/libreach/engine/StateLayout;)V" } : Jvm.MethodName) prog_18_method_1_code (2 : Nat) (Option.none : Option Jvm.ClassFile.FieldType)).before args0 about1 = true := code_word (m := ⟨2, 0⟩) (meth := k2m0) (c := k2c0) (by decide +kernel) rfl rfl rfl (by decide +kernel)
set_option maxRecDepth 65536 in
theorem w_c5 : (Jvm.Cond.code ({ cls := "com/example/libreach/libreach/engine/StateStore", name := "<init>", desc := "(Lcom/example/libreach/libreach/engine/StateLayout;I)V" } : Jvm.MethodName) prog_18_method_2_code (4 : Nat) (Option.none : Option Jvm.ClassFile.FieldType)).before args0 about1 = true := code_word (m := ⟨2, 1⟩) (meth := k2m1) (c := k2c1) (by decide +kernel) rfl rfl rfl (by decide +kernel)
set_option maxRecDepth 65536 in
theorem w_c6 : (Jvm.Cond.code ({ cls := "com/example/libreach/libreach/engine/StateStore", name := "useLayout", desc := "(Lcom/example/libreach/libreach/engine/StateLayout;)V" } : Jvm.MethodName) prog_18_method_14_code (3 : Nat) (Option.none : Option Jvm.ClassFile.FieldType)).before args0 about1 = true := code_word (m := ⟨2, 3⟩) (meth := k2m3) (c := k2c3) (by decide +kernel) rfl rfl rfl (by decide +kernel)
set_option maxRecDepth 65536 in
theorem w_c7 : (Jvm.Cond.code ({ cls := "com/example/libreach/libreach/engine/StateLayout", name := "words", desc := "()I" } : Jvm.MethodName) prog_17_method_4_code (1 : Nat) (Option.some Jvm.ClassFile.FieldType.int)).before args0 about1 = true := code_word (m := ⟨3, 1⟩) (meth := k3m1) (c := k3c1) (by decide +kernel) rfl rfl rfl (by decide +kernel)
set_option maxRecDepth 65536 in
theorem w_c8 : (Jvm.Cond.code ({ cls := "java/lang/Integer", name := "numberOfLeadingZeros", desc := "(I)I" } : Jvm.MethodName) jdk_33_method_47_code (2 : Nat) (Option.some Jvm.ClassFile.FieldType.int)).before args0 about1 = true := code_word (m := ⟨11, 0⟩) (meth := k11m0) (c := k11c0) (by decide +kernel) rfl rfl rfl (by decide +kernel)
set_option maxRecDepth 65536 in
theorem w_c9 : (Jvm.Cond.code ({ cls := "java/lang/Integer", name := "numberOfTrailingZeros", desc := "(I)I" } : Jvm.MethodName) jdk_33_method_48_code (2 : Nat) (Option.some Jvm.ClassFile.FieldType.int)).before args0 about1 = true := code_word (m := ⟨11, 1⟩) (meth := k11m1) (c := k11c1) (by decide +kernel) rfl rfl rfl (by decide +kernel)
set_option maxRecDepth 65536 in
theorem w_c10 : (Jvm.Cond.code ({ cls := "java/lang/Math", name := "max", desc := "(II)I" } : Jvm.MethodName) jdk_29_method_65_code (2 : Nat) (Option.some Jvm.ClassFile.FieldType.int)).before args0 about1 = true := code_word (m := ⟨12, 1⟩) (meth := k12m1) (c := k12c1) (by decide +kernel) rfl rfl rfl (by decide +kernel)
set_option maxRecDepth 65536 in
theorem w_c11 : (Jvm.Cond.code ({ cls := "com/example/libreach/libreach/engine/StateStore", name := "hash", desc := "([JI)I" } : Jvm.MethodName) prog_18_method_7_code (6 : Nat) (Option.some Jvm.ClassFile.FieldType.int)).before args0 about1 = true := code_word (m := ⟨2, 2⟩) (meth := k2m2) (c := k2c2) (by decide +kernel) rfl rfl rfl (by decide +kernel)
set_option maxRecDepth 65536 in
theorem w_c12 : (Jvm.Cond.code ({ cls := "java/lang/Math", name := "min", desc := "(II)I" } : Jvm.MethodName) jdk_29_method_69_code (2 : Nat) (Option.some Jvm.ClassFile.FieldType.int)).before args0 about1 = true := code_word (m := ⟨12, 2⟩) (meth := k12m2) (c := k12c2) (by decide +kernel) rfl rfl rfl (by decide +kernel)
def codes1 : List Jvm.Cond := [Jvm.Cond.code x code maxLocals ret, Jvm.Cond.code ({ cls := "com/example/libreach/libreach/engine/StateLayout", name := "<init>", desc := "([I)V" } : Jvm.MethodName) prog_17_method_1_code (7 : Nat) (Option.none : Option Jvm.ClassFile.FieldType), Jvm.Cond.code ({ cls := "java/lang/Object", name := "<init>", desc := "()V" } : Jvm.MethodName) object_method_1_code (1 : Nat) (Option.none : Option Jvm.ClassFile.FieldType), Jvm.Cond.code ({ cls := "java/util/Arrays", name := "copyOf", desc := "([II)[I" } : Jvm.MethodName) jdk_65_method_123_code (3 : Nat) (Option.some (Jvm.ClassFile.FieldType.array Jvm.ClassFile.FieldType.int)), Jvm.Cond.code ({ cls := "com/example/libreach/libreach/engine/StateStore", name := "<init>", desc := "(Lcom/example/libreach/libreach/engine/StateLayout;)V" } : Jvm.MethodName) prog_18_method_1_code (2 : Nat) (Option.none : Option Jvm.ClassFile.FieldType), Jvm.Cond.code ({ cls := "com/example/libreach/libreach/engine/StateStore", name := "<init>", desc := "(Lcom/example/libreach/libreach/engine/StateLayout;I)V" } : Jvm.MethodName) prog_18_method_2_code (4 : Nat) (Option.none : Option Jvm.ClassFile.FieldType), Jvm.Cond.code ({ cls := "com/example/libreach/libreach/engine/StateStore", name := "useLayout", desc := "(Lcom/example/libreach/libreach/engine/StateLayout;)V" } : Jvm.MethodName) prog_18_method_14_code (3 : Nat) (Option.none : Option Jvm.ClassFile.FieldType), Jvm.Cond.code ({ cls := "com/example/libreach/libreach/engine/StateLayout", name := "words", desc := "()I" } : Jvm.MethodName) prog_17_method_4_code (1 : Nat) (Option.some Jvm.ClassFile.FieldType.int), Jvm.Cond.code ({ cls := "java/lang/Integer", name := "numberOfLeadingZeros", desc := "(I)I" } : Jvm.MethodName) jdk_33_method_47_code (2 : Nat) (Option.some Jvm.ClassFile.FieldType.int), Jvm.Cond.code ({ cls := "java/lang/Integer", name := "numberOfTrailingZeros", desc := "(I)I" } : Jvm.MethodName) jdk_33_method_48_code (2 : Nat) (Option.some Jvm.ClassFile.FieldType.int), Jvm.Cond.code ({ cls := "java/lang/Math", name := "max", desc := "(II)I" } : Jvm.MethodName) jdk_29_method_65_code (2 : Nat) (Option.some Jvm.ClassFile.FieldType.int), Jvm.Cond.code ({ cls := "com/example/libreach/libreach/engine/StateStore", name := "hash", desc := "([JI)I" } : Jvm.MethodName) prog_18_method_7_code (6 : Nat) (Option.some Jvm.ClassFile.FieldType.int), Jvm.Cond.code ({ cls := "java/lang/Math", name := "min", desc := "(II)I" } : Jvm.MethodName) jdk_29_method_69_code (2 : Nat) (Option.some Jvm.ClassFile.FieldType.int)]
set_option maxRecDepth 65536 in
theorem codes_eq : words1.filter isCode = codes1 := rfl
theorem w_codes : ∀ c ∈ words1.filter isCode, c.before args0 about1 = true := by
  rw [codes_eq]
  intro c hc
  simp only [codes1, List.mem_cons, List.not_mem_nil, or_false] at hc
  rcases hc with rfl | rfl | rfl | rfl | rfl | rfl | rfl | rfl | rfl | rfl | rfl | rfl | rfl
  · exact w_c0
  · exact w_c1
  · exact w_c2
  · exact w_c3
  · exact w_c4
  · exact w_c5
  · exact w_c6
  · exact w_c7
  · exact w_c8
  · exact w_c9
  · exact w_c10
  · exact w_c11
  · exact w_c12
set_option maxRecDepth 65536 in
theorem w_t1 : (words1.take 24).all (fun c => isCode c || c.before args0 about1) = true := by decide +kernel
set_option maxRecDepth 65536 in
theorem w_t2 : ((words1.drop 24).take 24).all (fun c => isCode c || c.before args0 about1) = true := by decide +kernel
set_option maxRecDepth 65536 in
theorem w_t3 : (((words1.drop 24).drop 24).take 24).all (fun c => isCode c || c.before args0 about1) = true := by decide +kernel
set_option maxRecDepth 65536 in
theorem w_t4 : ((((words1.drop 24).drop 24).drop 24).take 24).all (fun c => isCode c || c.before args0 about1) = true := by decide +kernel
set_option maxRecDepth 65536 in
theorem w_t5 : ((((words1.drop 24).drop 24).drop 24).drop 24).all (fun c => isCode c || c.before args0 about1) = true := by decide +kernel
theorem w_tables : (allAtoms (Jvm.Cond.code x code maxLocals ret :: tables_1)).before args0 about1 = true := by
  rw [allAtoms_all]
  show words1.all (fun c => c.before args0 about1) = true
  refine all_split ?_ w_codes
  rw [← List.take_append_drop 24 words1, List.all_append, w_t1, ← List.take_append_drop 24 (words1.drop 24), List.all_append, w_t2, ← List.take_append_drop 24 ((words1.drop 24).drop 24), List.all_append, w_t3, ← List.take_append_drop 24 (((words1.drop 24).drop 24).drop 24), List.all_append, w_t4, w_t5]
  rfl
set_option maxRecDepth 65536 in
theorem w_case : (Jvm.Cond.and given_1 narrow_1).before args0 about1 = true := by decide +kernel
theorem w_applies : (headSpec (Jvm.Cond.code x code maxLocals ret :: tables_1) room_1).applies x e0.platform about1 = true :=
  (Spec.applies_iff w_frames).mpr ⟨w_running, w_runnable, w_alone, w_named, w_hears, w_ripe, w_room, w_tables⟩
theorem atStart : AtStart classFile x code maxLocals ret World_1 tables_1 room_1 Calls_1 rest_1 Pre_1 launch0 p0 e0 about1 theMethod args0 below0 :=
  ⟨lists_1, trivial, launch0.admits_env _ _ _, launch0.least_env, fairChoices_fair.cas, fairChoices_fair.clock, w_frames, w_args, w_heap, w_applies, trivial, trivial, w_case⟩
end start1
theorem witness_1 : WitnessClaimed_1 := ⟨start1.p0, start1.e0, start1.about1, start1.theMethod, start1.args0, start1.below0, start1.atStart⟩
end Jvm.Pilot.@@N@@
