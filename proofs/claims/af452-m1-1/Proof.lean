import JvmDerived
import JvmDerived.Pilot.@@N@@Statement
import JvmDerived.Pilot.@@N@@Code
set_option linter.unusedVariables false
set_option linter.unusedSimpArgs false
namespace Jvm.Pilot.@@N@@
open Jvm Jvm.ClassFile Sem Op Lib Jvm.Free Jvm.Stand Jvm.LawKit Jvm.RoadKit Bundle Jvm.Pilot.@@N@@.Jvm.D
def ownEnds (tb : Tables) (e : Env) (below : List Frame) (Φ : State → Outcome → Prop) (A : State) : Prop :=
  ∃ s₂ o, Steps tb e below A s₂ ∧ s₂.status = .running ∧ Ended s₂ below o ∧ Φ s₂ o
theorem ownEnds.law {tb : Tables} {e : Env} {below : List Frame} {Φ : State → Outcome → Prop} {A B : State} (k : ∀ t, Steps tb e below B t → Steps tb e below A t) (h : ownEnds tb e below Φ B) : ownEnds tb e below Φ A := by
  obtain ⟨s2, o, h1, h2⟩ := h
  exact ⟨s2, o, k _ h1, h2⟩
theorem ownEnds.tr {tb : Tables} {e : Env} {below : List Frame} {Φ : State → Outcome → Prop} {A B : State} (k : Steps tb e below A B) (h : ownEnds tb e below Φ B) : ownEnds tb e below Φ A := by
  obtain ⟨s2, o, h1, h2⟩ := h
  exact ⟨s2, o, k.trans h1, h2⟩
theorem ownEnds.cast {tb : Tables} {e : Env} {below : List Frame} {Φ : State → Outcome → Prop} {T : State} {g g' : JFrame} (q : g = g') (h : ownEnds tb e below Φ (T.setTop g')) : ownEnds tb e below Φ (T.setTop g) := q ▸ h
def ownPost (s : State) (Q : Option Value → Heap → List Loc → Prop) (C S : Nat) : State → Outcome → Prop := fun U o => ∃ v L, o = .returned v ∧ Q v U.heap L ∧ FrameEnd s o U L C S
abbrev ownMet (l : Launch) (Z : State) (y : MethodName) (bytes : ByteArray) (maxL : Nat) (rt : Option FieldType) (ws : List Jvm.Cond) (rm : Room) (as : Array Value) (h0 : Heap) (Q : Option Value → Heap → List Loc → Prop) : Prop :=
  MetFree l y (head1 (Jvm.Cond.code y bytes maxL rt :: ws) rm) (fun a U => a = as ∧ Z.Warmed39 U.vm ∧ U.heap = h0) (fun _ _ _ _ _ => True) (fun _ U o U' => ∃ v L, o = .returned v ∧ Q v U'.heap L ∧ FrameEnd U o U' L rm.cells rm.slots)
theorem ownMet.of {l : Launch} {Z : State} {y : MethodName} {bytes : ByteArray} {maxL : Nat} {rt : Option FieldType} {ws : List Jvm.Cond} {rm : Room} {as : Array Value} {h0 : Heap} {Q : Option Value → Heap → List Loc → Prop} (hpl : plainFor y = true)
    (body : ∀ (p : Program) (e : Env) (s : State) (m : MethodId) (below : List Frame) (meth : Method) (c : Code) (T0 : State), p.tables.exec = Jvm.exec → c.code = bytes → c.maxLocals = maxL → Z.Warmed39 s.vm → s.vm.findClass y.cls = some m.cls → meth.name = y.name → meth.sig.returnType = rt → meth.locks = false →
      Stand p l e rm s m as below meth c T0 [] 0 0 → T0.heap = h0 → ownEnds p.tables e below (ownPost s Q rm.cells rm.slots) (T0.setTop (entryFrame m as maxL))) : ownMet l Z y bytes maxL rt ws rm as h0 Q := by
  refine MetFree.of_bodySF hpl hisR ?_
  intro p e s m args below meth c s₁ Bd hml0 hP hK
  obtain ⟨rfl, hZ, hh⟩ := hP
  exact body p e s m below meth c s₁ Bd.exec Bd.bytes hml0 hZ (findClass_of_methodNamed Bd.named) (name_of_methodNamed Bd.named Bd.method).1 Bd.returns Bd.notSynchronized (Stand.of_body Bd) (by rw [← hh, Bd.state]; rfl)
theorem ownEqV {args : Array Value} {first s : State} {o : Option Outcome} {idx : List Nat} {a b : Term} {v : Value} (h : (Cond.eq a b).value args first o s idx = some true) (hb : b.eval args first o idx s = some v) : a.eval args first o idx s = some v := by
  simp only [Cond.value, hb] at h
  cases ha : a.eval args first o idx s with
  | none => simp [ha] at h
  | some x => cases x <;> cases v <;> simp_all
theorem ownFieldAt {args : Array Value} {first s : State} {o : Option Outcome} {idx : List Nat} {t : Term} {a : Addr} {C n d : String} (ev : t.eval args first o idx s = some (.ref a)) : (Term.field t C n d).eval args first o idx s = s.fieldOf? a C n d := by
  simp [Term.eval, ev]
theorem ownLen {s : State} {args : Array Value} {t : Term} {a : Addr} {cl : Cell} {ty : FieldType} {z : Int32} (ev : t.eval args s none [] s = some (.ref a)) (A : Arr s s.heap a cl ty) (h : (Term.length t).eval args s none [] s = some (.int z)) : cl.slots.size < 2 ^ 31 ∧ cl.slots.size.toInt32 = z := by
  have q := A.fin (Vm.Alike.refl _)
  simp only [Term.eval, ev, q, Option.bind_eq_bind, Option.bind_some, Option.pure_def] at h
  split at h
  · rename_i hs
    exact ⟨hs, by simpa using h⟩
  · cases h
theorem ownEl {s : State} {args : Array Value} {t i : Term} {a : Addr} {cl : Cell} {ty : FieldType} {j : Int32} {v : Value} (ev : t.eval args s none [] s = some (.ref a)) (A : Arr s s.heap a cl ty) (ej : i.eval args s none [] s = some (.int j)) (h : (Term.elem t i).eval args s none [] s = some v) : cl.slots[j.toNatClampNeg]? = some v := by
  have q := A.fin (Vm.Alike.refl _)
  simp only [Term.eval, ev, ej, q, Option.bind_eq_bind, Option.bind_some] at h
  split at h
  · cases h
  · exact h
section OwnKit
variable {p : Program} {l : Launch} {e : Env} {R : Room} {s : State} {m : MethodId} {args : Array Value} {below : List Frame} {meth : Method} {c : Code} {T : State} {locs : List Loc} {cells slots : Nat} {Z : State} {a0 : Array Value} {h : Heap}
theorem ownRet (X : Stand p l e R s m args below meth c T locs cells slots) (hlk : meth.locks = false) {v : Option Value} (hv : meth.sig.returnType = none → v = none) {g : JFrame} {Q : Option Value → Heap → List Loc → Prop} {C S : Nat}
    (hst : ∀ fs, (∀ (f : JFrame) (acts : List Action), f.method = m → f.locked = none → f.entered = [] → (doReturn e (T.setTop f) acts v).1 = T.setFrames fs) → Steps p.tables e below (T.setTop g) (T.setFrames fs))
    (hc : cells ≤ C) (hs : slots ≤ S) (hQ : Q v T.heap locs) : ownEnds p.tables e below (ownPost s Q C S) (T.setTop g) := by
  obtain ⟨fs, hr, hrun, hended, hW, hsame⟩ := X.leave (v := v) hv hlk
  exact ⟨_, _, hst fs hr, hrun, hended, v, locs, rfl, hQ, ⟨_, rfl⟩, hW, hsame.mono hc hs⟩
theorem ownRetN (X : Stand p l e R s m args below meth c T locs cells slots) (hlk : meth.locks = false) (hx : p.tables.exec = Jvm.exec) {pc : Nat} {Ls : Array Slot} {z : Int32} {t : FieldType} {rest : List Value} (hret : meth.sig.returnType = some t) (ht : t = .boolean ∨ t = .byte ∨ t = .char ∨ t = .short)
    (hd : decode c.code pc = .ok (.ireturn, 1)) {Q : Option Value → Heap → List Loc → Prop} {C S : Nat} (hc : cells ≤ C) (hs : slots ≤ S) (hQ : Q (some (.int (nar t z))) T.heap locs) : ownEnds p.tables e below (ownPost s Q C S) (T.setTop (mkF m pc Ls (.int z :: rest))) :=
  ownRet X hlk (fun h => by rw [hret] at h; cases h) (fun fs hr => retN X hx hret ht hd hr) hc hs hQ
theorem ownRetI (X : Stand p l e R s m args below meth c T locs cells slots) (hlk : meth.locks = false) (hx : p.tables.exec = Jvm.exec) {pc : Nat} {Ls : Array Slot} {z : Int32} {rest : List Value} (hret : meth.sig.returnType = some .int)
    (hd : decode c.code pc = .ok (.ireturn, 1)) {Q : Option Value → Heap → List Loc → Prop} {C S : Nat} (hc : cells ≤ C) (hs : slots ≤ S) (hQ : Q (some (.int z)) T.heap locs) : ownEnds p.tables e below (ownPost s Q C S) (T.setTop (mkF m pc Ls (.int z :: rest))) :=
  ownRet X hlk (fun h => by rw [hret] at h; cases h) (fun fs hr => retOut X hx hret rfl (Or.inl ⟨rfl, Or.inl rfl, z, rfl⟩) hd hr) hc hs hQ
theorem ownRetL (X : Stand p l e R s m args below meth c T locs cells slots) (hlk : meth.locks = false) (hx : p.tables.exec = Jvm.exec) {pc : Nat} {Ls : Array Slot} {z : Int64} {rest : List Value} (hret : meth.sig.returnType = some .long)
    (hd : decode c.code pc = .ok (.lreturn, 1)) {Q : Option Value → Heap → List Loc → Prop} {C S : Nat} (hc : cells ≤ C) (hs : slots ≤ S) (hQ : Q (some (.long z)) T.heap locs) : ownEnds p.tables e below (ownPost s Q C S) (T.setTop (mkF m pc Ls (.long z :: rest))) :=
  ownRet X hlk (fun h => by rw [hret] at h; cases h) (fun fs hr => retOut X hx hret rfl (Or.inr (Or.inl ⟨rfl, rfl, z, rfl⟩)) hd hr) hc hs hQ
theorem ownRetA (X : Stand p l e R s m args below meth c T locs cells slots) (hlk : meth.locks = false) (hx : p.tables.exec = Jvm.exec) {pc : Nat} {Ls : Array Slot} {w : Value} {t : FieldType} {rest : List Value} (hret : meth.sig.returnType = some t) (ht : t.isReference = true) (hw : w.isRef = true)
    (hd : decode c.code pc = .ok (.areturn, 1)) {Q : Option Value → Heap → List Loc → Prop} {C S : Nat} (hc : cells ≤ C) (hs : slots ≤ S) (hQ : Q (some w) T.heap locs) : ownEnds p.tables e below (ownPost s Q C S) (T.setTop (mkF m pc Ls (w :: rest))) :=
  ownRet X hlk (fun h => by rw [hret] at h; cases h) (fun fs hr => retOut X hx hret (by rcases ref_cases hw with rfl | ⟨a, rfl⟩ <;> cases t <;> first | rfl | (simp [FieldType.isReference] at ht)) (Or.inr (Or.inr (Or.inr (Or.inr ⟨rfl, ht, hw⟩)))) hd hr) hc hs hQ
theorem ownRetV (X : Stand p l e R s m args below meth c T locs cells slots) (hlk : meth.locks = false) (hx : p.tables.exec = Jvm.exec) {pc : Nat} {Ls : Array Slot} (hret : meth.sig.returnType = none)
    (hd : decode c.code pc = .ok (.return_, 1)) {Q : Option Value → Heap → List Loc → Prop} {C S : Nat} (hc : cells ≤ C) (hs : slots ≤ S) (hQ : Q none T.heap locs) : ownEnds p.tables e below (ownPost s Q C S) (T.setTop (mkF m pc Ls [])) :=
  ownRet X hlk (fun _ => rfl) (fun fs hr => X.returnOut hx hret hd hr) hc hs hQ
theorem ownCallS (X : Stand p l e R s m args below meth c T locs cells slots) (hx : p.tables.exec = Jvm.exec) (hZ : Z.Warmed39 s.vm) {own : String} {index : Nat} (hown : s.vm.findClass own = some m.cls) {y : MethodName} {bytes : ByteArray} {maxL : Nat} {rt : Option FieldType} {rm : Room} {as : List Value} {Q : Option Value → Heap → List Loc → Prop}
    (w1 : (Cond.methodLink own index y).before a0 Z = true) (w2 : (Cond.static y).before a0 Z = true) (w3 : (Cond.initialized y.cls).before a0 Z = true) (w4 : (Cond.code y bytes maxL rt).before a0 Z = true) (hy : y.cls ≠ "java/lang/invoke/MethodHandle" ∧ y.cls ≠ "java/lang/invoke/VarHandle")
    (hM : ownMet l Z y bytes maxL rt [] rm as.toArray h Q) (eT : T.heap = h) (W : Nat) (hf : rm.frames + 1 ≤ R.frames) (hl : W + (maxL + 11) + rm.locals ≤ R.locals) (hc : cells + rm.cells ≤ R.cells) (hs : slots + rm.slots ≤ R.slots)
    {g : JFrame} (hg : g.method = m) (hsize : g.locals.size = c.maxLocals) {rest : List Value} {ps : List FieldType} {r : Option FieldType} (hd : parseMethodDescriptor y.desc = some ⟨ps, r⟩) (hlen : as.length = ps.length) (hstack : g.stack = as.reverse ++ rest) (hW : 2 * g.monitorRoom + (rest.map fun v => v.category).sum ≤ W)
    (hdg : decode c.code g.pc = .ok (.invokestatic index, 3)) :
    ∃ v T' L, Stand p l e R s m args below meth c T' (locs ++ L) (cells + rm.cells) (slots + rm.slots) ∧ Q v T'.heap L ∧ ∀ t, Steps p.tables e below (T'.setTop { g with pc := g.pc + 3, stack := v.toList ++ rest }) t → Steps p.tables e below (T.setTop g) t := by
  obtain ⟨v, _, ⟨T1, L1, k1, n1⟩, -, X1, ⟨Lc, hQ, l1, y1, z1⟩, st⟩ := Jvm.LawKit.callS X hx (y := y) hown (mvT hZ w1) (mvT hZ w2) (mvT hZ w3) (mvT hZ w4) hy (backOf (W := W) hM hZ w4 w3 hf hl) hg hsize (argsL := as) (rest := rest) (lenOf hd hlen) hstack hW hdg (fun _ _ => ⟨rfl, eT, hc, hs⟩)
  dsimp only [Pt.U, Pt.locs, Pt.cells, Pt.slots] at X1 l1 y1 z1 st hQ
  subst l1 y1 z1
  exact ⟨v, T1, Lc, X1, hQ, st⟩
theorem ownCallC (X : Stand p l e R s m args below meth c T locs cells slots) (hx : p.tables.exec = Jvm.exec) (hZ : Z.Warmed39 s.vm) {own : String} {index : Nat} (hown : s.vm.findClass own = some m.cls) {y : MethodName} (hy1 : y.name = "<init>") {bytes : ByteArray} {maxL : Nat} {rm : Room} {a : Addr} {as : List Value} {Q : Option Value → Heap → List Loc → Prop}
    (w1 : (Cond.methodLink own index y).before a0 Z = true) (w2 : (Cond.instanceMethod y).before a0 Z = true) (w3 : (Cond.initialized y.cls).before a0 Z = true) (w4 : (Cond.code y bytes maxL none).before a0 Z = true) (hy : y.cls ≠ "java/lang/invoke/MethodHandle" ∧ y.cls ≠ "java/lang/invoke/VarHandle")
    (hM : ownMet l Z y bytes maxL none [] rm (.ref a :: as).toArray h Q) (eT : T.heap = h) (W : Nat) (hf : rm.frames + 1 ≤ R.frames) (hl : W + (maxL + 11) + rm.locals ≤ R.locals) (hc : cells + rm.cells ≤ R.cells) (hs : slots + rm.slots ≤ R.slots)
    {g : JFrame} (hg : g.method = m) (hsize : g.locals.size = c.maxLocals) {rest : List Value} {ps : List FieldType} {r : Option FieldType} (hd : parseMethodDescriptor y.desc = some ⟨ps, r⟩) (hlen : as.length = ps.length) (hstack : g.stack = as.reverse ++ .ref a :: rest) (hW : 2 * g.monitorRoom + (rest.map fun v => v.category).sum ≤ W)
    (hdg : decode c.code g.pc = .ok (.invokespecial index, 3)) :
    ∃ v T' L, Stand p l e R s m args below meth c T' (locs ++ L) (cells + rm.cells) (slots + rm.slots) ∧ Q v T'.heap L ∧ ∀ t, Steps p.tables e below (T'.setTop { g with pc := g.pc + 3, stack := v.toList ++ rest }) t → Steps p.tables e below (T.setTop g) t := by
  obtain ⟨v, _, ⟨T1, L1, k1, n1⟩, -, X1, ⟨Lc, hQ, l1, y1, z1⟩, st⟩ := X.specialBack hx (y := y) hy1 hown (mvT hZ w1) (mvT hZ w2) (mvT hZ w4) hy (backOf (W := W) hM hZ w4 w3 hf hl) hg hsize (Steps.refl _) (a := a) (argsL := as) (rest := rest) (lenOf hd hlen) hstack hW hdg (fun _ _ => ⟨rfl, eT, hc, hs⟩)
  dsimp only [Pt.U, Pt.locs, Pt.cells, Pt.slots] at X1 l1 y1 z1 st hQ
  subst l1 y1 z1
  exact ⟨v, T1, Lc, X1, hQ, fun t k => st.trans k⟩
theorem ownCallV (X : Stand p l e R s m args below meth c T locs cells slots) (hx : p.tables.exec = Jvm.exec) (hZ : Z.Warmed39 s.vm) {own C : String} {index : Nat} (hown : s.vm.findClass own = some m.cls) {y z : MethodName} {bytes : ByteArray} {maxL : Nat} {rt : Option FieldType} {rm : Room} {a : Addr} {as : List Value} {Q : Option Value → Heap → List Loc → Prop}
    (w1 : (Cond.methodLink own index y).before a0 Z = true) (w2 : (Cond.declares y).before a0 Z = true) (hnf : NotFace s y) (w5 : (Cond.selects C y z).before a0 Z = true) (w6 : (Cond.instanceMethod z).before a0 Z = true) (w3 : (Cond.initialized z.cls).before a0 Z = true) (w4 : (Cond.code z bytes maxL rt).before a0 Z = true) (hy : y.cls ≠ "java/lang/invoke/MethodHandle" ∧ y.cls ≠ "java/lang/invoke/VarHandle")
    (hM : ownMet l Z z bytes maxL rt [] rm (.ref a :: as).toArray h Q) (eT : T.heap = h) (E : Exa Z h a C) (W : Nat) (hf : rm.frames + 1 ≤ R.frames) (hl : W + (maxL + 11) + rm.locals ≤ R.locals) (hc : cells + rm.cells ≤ R.cells) (hs : slots + rm.slots ≤ R.slots)
    {g : JFrame} (hg : g.method = m) (hsize : g.locals.size = c.maxLocals) {rest : List Value} {ps : List FieldType} {r : Option FieldType} (hd : parseMethodDescriptor y.desc = some ⟨ps, r⟩) (hlen : as.length = ps.length) (hstack : g.stack = as.reverse ++ .ref a :: rest) (hW : 2 * g.monitorRoom + (rest.map fun v => v.category).sum ≤ W)
    (hdg : decode c.code g.pc = .ok (.invokevirtual index, 3)) :
    ∃ v T' L, Stand p l e R s m args below meth c T' (locs ++ L) (cells + rm.cells) (slots + rm.slots) ∧ Q v T'.heap L ∧ ∀ t, Steps p.tables e below (T'.setTop { g with pc := g.pc + 3, stack := v.toList ++ rest }) t → Steps p.tables e below (T.setTop g) t := by
  obtain ⟨cq, kq, qa, qb, qc⟩ := isOf hZ eT E
  obtain ⟨v, _, ⟨T1, L1, k1, n1⟩, -, X1, ⟨Lc, hQ, l1, y1, z1⟩, st⟩ := X.virtualBack hx (y := y) (z := z) hown (mvT hZ w1) (mvT hZ w2) hnf (mvT hZ w5) (mvT hZ w6) hy (backOf (W := W) hM hZ w4 w3 hf hl) qa qc hg hsize (Steps.refl _) (argsL := as) (rest := rest) (lenOf hd hlen) hstack hW hdg (fun _ _ => ⟨rfl, eT, hc, hs⟩)
  dsimp only [Pt.U, Pt.locs, Pt.cells, Pt.slots] at X1 l1 y1 z1 st hQ
  subst l1 y1 z1
  exact ⟨v, T1, Lc, X1, hQ, fun t k => st.trans k⟩
theorem ownSelfSel {y z : MethodName} {C : String} (hz : z.cls = y.cls) (wz : (Cond.selects C z z).before args s = true) (hinst : (Cond.instanceMethod y).before args s = true) (hpriv : s.PrivateAt y) (hy : y.cls ≠ "java/lang/invoke/MethodHandle" ∧ y.cls ≠ "java/lang/invoke/VarHandle") : (Cond.selects y.cls y y).before args s = true := by
  obtain ⟨c2, r2, m2, q1, q2, q3, q4, kP, hkP, hkPi⟩ := Cond.selects_spec wz
  exact selects_self_of_private (by rw [← hz]; exact findClass_of_methodNamed q3) hkP hkPi hpriv hinst hy
theorem ownCallP (X : Stand p l e R s m args below meth c T locs cells slots) (hx : p.tables.exec = Jvm.exec) (hZ : Z.Warmed39 s.vm) {own C D : String} {index : Nat} (hown : s.vm.findClass own = some m.cls) {y z : MethodName} {bytes : ByteArray} {maxL : Nat} {rt : Option FieldType} {rm : Room} {a : Addr} {as : List Value} {Q : Option Value → Heap → List Loc → Prop}
    (w1 : (Cond.methodLink own index y).before a0 Z = true) (hz : z.cls = y.cls) (w5 : (Cond.selects C z z).before a0 Z = true) (w6 : (Cond.instanceMethod y).before a0 Z = true) (w7 : (Cond.privateMethod y).before a0 Z = true) (w3 : (Cond.initialized y.cls).before a0 Z = true) (w4 : (Cond.code y bytes maxL rt).before a0 Z = true) (hy : y.cls ≠ "java/lang/invoke/MethodHandle" ∧ y.cls ≠ "java/lang/invoke/VarHandle")
    (hM : ownMet l Z y bytes maxL rt [] rm (.ref a :: as).toArray h Q) (eT : T.heap = h) (E : Exa Z h a D) (W : Nat) (hf : rm.frames + 1 ≤ R.frames) (hl : W + (maxL + 11) + rm.locals ≤ R.locals) (hc : cells + rm.cells ≤ R.cells) (hs : slots + rm.slots ≤ R.slots)
    {g : JFrame} (hg : g.method = m) (hsize : g.locals.size = c.maxLocals) {rest : List Value} {ps : List FieldType} {r : Option FieldType} (hd : parseMethodDescriptor y.desc = some ⟨ps, r⟩) (hlen : as.length = ps.length) (hstack : g.stack = as.reverse ++ .ref a :: rest) (hW : 2 * g.monitorRoom + (rest.map fun v => v.category).sum ≤ W)
    (hdg : decode c.code g.pc = .ok (.invokevirtual index, 3)) :
    ∃ v T' L, Stand p l e R s m args below meth c T' (locs ++ L) (cells + rm.cells) (slots + rm.slots) ∧ Q v T'.heap L ∧ ∀ t, Steps p.tables e below (T'.setTop { g with pc := g.pc + 3, stack := v.toList ++ rest }) t → Steps p.tables e below (T.setTop g) t := by
  obtain ⟨cq, q1, q2⟩ := E.cell
  have hpv : s.PrivateAt y := Cond.privateMethod_at (mvP hZ w7 (args := #[]))
  obtain ⟨v, _, ⟨T1, L1, k1, n1⟩, -, X1, ⟨Lc, hQ, l1, y1, z1⟩, st⟩ := X.privateBack hx (y := y) hown (mvT hZ w1) (mvT hZ w6) (ownSelfSel hz (mvT hZ w5) (mvT hZ w6) hpv hy) hpv (mvT hZ w4) hy (backOf (W := W) hM hZ w4 w3 hf hl) hg hsize (Steps.refl _) (a := a) (by rw [eT]; exact q1) q2 (argsL := as) (rest := rest) (lenOf hd hlen) hstack hW hdg (fun _ _ => ⟨rfl, eT, hc, hs⟩)
  dsimp only [Pt.U, Pt.locs, Pt.cells, Pt.slots] at X1 l1 y1 z1 st hQ
  subst l1 y1 z1
  exact ⟨v, T1, Lc, X1, hQ, fun t k => st.trans k⟩
end OwnKit
theorem wd_0 {Z : State} {a0 : Array Value} (hw : ∀ d ∈ tables_1, d.before a0 Z = true) : (Jvm.Cond.arrayClass Jvm.ClassFile.FieldType.int).before a0 Z = true := hw _ (List.mem_of_getElem? (i := 0) rfl)
theorem wd_1 {Z : State} {a0 : Array Value} (hw : ∀ d ∈ tables_1, d.before a0 Z = true) : (Jvm.Cond.constant "com/example/markup_reader/markupreader/input/internal/XmlCharsIsCharPinLaw" (7 : Nat) (55295 : Int32)).before a0 Z = true := hw _ (List.mem_of_getElem? (i := 1) rfl)
theorem wd_2 {Z : State} {a0 : Array Value} (hw : ∀ d ∈ tables_1, d.before a0 Z = true) : (Jvm.Cond.constant "com/example/markup_reader/markupreader/input/internal/XmlCharsIsCharPinLaw" (18 : Nat) (55296 : Int32)).before a0 Z = true := hw _ (List.mem_of_getElem? (i := 2) rfl)
theorem wd_3 {Z : State} {a0 : Array Value} (hw : ∀ d ∈ tables_1, d.before a0 Z = true) : (Jvm.Cond.constant "com/example/markup_reader/markupreader/input/internal/XmlCharsIsCharPinLaw" (19 : Nat) (57343 : Int32)).before a0 Z = true := hw _ (List.mem_of_getElem? (i := 3) rfl)
theorem wd_4 {Z : State} {a0 : Array Value} (hw : ∀ d ∈ tables_1, d.before a0 Z = true) : (Jvm.Cond.constant "com/example/markup_reader/markupreader/input/internal/XmlCharsIsCharPinLaw" (14 : Nat) (57344 : Int32)).before a0 Z = true := hw _ (List.mem_of_getElem? (i := 4) rfl)
theorem wd_5 {Z : State} {a0 : Array Value} (hw : ∀ d ∈ tables_1, d.before a0 Z = true) : (Jvm.Cond.constant "com/example/markup_reader/markupreader/input/internal/XmlCharsIsCharPinLaw" (15 : Nat) (65533 : Int32)).before a0 Z = true := hw _ (List.mem_of_getElem? (i := 5) rfl)
theorem wd_6 {Z : State} {a0 : Array Value} (hw : ∀ d ∈ tables_1, d.before a0 Z = true) : (Jvm.Cond.constant "com/example/markup_reader/markupreader/input/internal/XmlCharsIsCharPinLaw" (20 : Nat) (65534 : Int32)).before a0 Z = true := hw _ (List.mem_of_getElem? (i := 6) rfl)
theorem wd_7 {Z : State} {a0 : Array Value} (hw : ∀ d ∈ tables_1, d.before a0 Z = true) : (Jvm.Cond.constant "com/example/markup_reader/markupreader/input/internal/XmlCharsIsCharPinLaw" (16 : Nat) (65536 : Int32)).before a0 Z = true := hw _ (List.mem_of_getElem? (i := 7) rfl)
theorem wd_8 {Z : State} {a0 : Array Value} (hw : ∀ d ∈ tables_1, d.before a0 Z = true) : (Jvm.Cond.constant "com/example/markup_reader/markupreader/input/internal/XmlCharsIsCharPinLaw" (17 : Nat) (1114111 : Int32)).before a0 Z = true := hw _ (List.mem_of_getElem? (i := 8) rfl)
theorem wd_9 {Z : State} {a0 : Array Value} (hw : ∀ d ∈ tables_1, d.before a0 Z = true) : (Jvm.Cond.constant "com/example/markup_reader/markupreader/input/internal/XmlCharsIsCharPinLaw" (21 : Nat) (1114112 : Int32)).before a0 Z = true := hw _ (List.mem_of_getElem? (i := 9) rfl)
theorem wd_10 {Z : State} {a0 : Array Value} (hw : ∀ d ∈ tables_1, d.before a0 Z = true) : (Jvm.Cond.constant "com/example/markup_reader/markupreader/input/internal/XmlCharsIsCharPinLaw" (24 : Nat) (-2147483648 : Int32)).before a0 Z = true := hw _ (List.mem_of_getElem? (i := 10) rfl)
theorem wd_11 {Z : State} {a0 : Array Value} (hw : ∀ d ∈ tables_1, d.before a0 Z = true) : (Jvm.Cond.constant "com/example/markup_reader/markupreader/input/internal/XmlCharsIsCharPinLaw" (25 : Nat) (2147483647 : Int32)).before a0 Z = true := hw _ (List.mem_of_getElem? (i := 11) rfl)
theorem wd_12 {Z : State} {a0 : Array Value} (hw : ∀ d ∈ tables_1, d.before a0 Z = true) : (Jvm.Cond.methodLink "com/example/markup_reader/markupreader/input/internal/XmlCharsIsCharPinLaw" (26 : Nat) ({ cls := "com/example/markup_reader/markupreader/input/internal/XmlChars", name := "isChar", desc := "(I)Z" } : Jvm.MethodName)).before a0 Z = true := hw _ (List.mem_of_getElem? (i := 12) rfl)
theorem wd_13 {Z : State} {a0 : Array Value} (hw : ∀ d ∈ tables_1, d.before a0 Z = true) : (Jvm.Cond.static ({ cls := "com/example/markup_reader/markupreader/input/internal/XmlChars", name := "isChar", desc := "(I)Z" } : Jvm.MethodName)).before a0 Z = true := hw _ (List.mem_of_getElem? (i := 13) rfl)
theorem wd_14 {Z : State} {a0 : Array Value} (hw : ∀ d ∈ tables_1, d.before a0 Z = true) : (Jvm.Cond.initialized "com/example/markup_reader/markupreader/input/internal/XmlChars").before a0 Z = true := hw _ (List.mem_of_getElem? (i := 14) rfl)
theorem wd_15 {Z : State} {a0 : Array Value} (hw : ∀ d ∈ tables_1, d.before a0 Z = true) : (Jvm.Cond.code ({ cls := "com/example/markup_reader/markupreader/input/internal/XmlChars", name := "isChar", desc := "(I)Z" } : Jvm.MethodName) prog_18_method_3_code (1 : Nat) (Option.some Jvm.ClassFile.FieldType.boolean)).before a0 Z = true := hw _ (List.mem_of_getElem? (i := 15) rfl)
theorem wd_16 {Z : State} {a0 : Array Value} (hw : ∀ d ∈ tables_1, d.before a0 Z = true) : (Jvm.Cond.methodLink "com/example/markup_reader/markupreader/input/internal/XmlCharsIsCharPinLaw" (32 : Nat) ({ cls := "com/example/markup_reader/markupreader/input/internal/XmlCharsIsCharPinLaw", name := "reference", desc := "(I)Z" } : Jvm.MethodName)).before a0 Z = true := hw _ (List.mem_of_getElem? (i := 16) rfl)
theorem wd_17 {Z : State} {a0 : Array Value} (hw : ∀ d ∈ tables_1, d.before a0 Z = true) : (Jvm.Cond.static ({ cls := "com/example/markup_reader/markupreader/input/internal/XmlCharsIsCharPinLaw", name := "reference", desc := "(I)Z" } : Jvm.MethodName)).before a0 Z = true := hw _ (List.mem_of_getElem? (i := 17) rfl)
theorem wd_18 {Z : State} {a0 : Array Value} (hw : ∀ d ∈ tables_1, d.before a0 Z = true) : (Jvm.Cond.initialized "com/example/markup_reader/markupreader/input/internal/XmlCharsIsCharPinLaw").before a0 Z = true := hw _ (List.mem_of_getElem? (i := 18) rfl)
theorem wd_19 {Z : State} {a0 : Array Value} (hw : ∀ d ∈ tables_1, d.before a0 Z = true) : (Jvm.Cond.code ({ cls := "com/example/markup_reader/markupreader/input/internal/XmlCharsIsCharPinLaw", name := "reference", desc := "(I)Z" } : Jvm.MethodName) method_3_code (1 : Nat) (Option.some Jvm.ClassFile.FieldType.boolean)).before a0 Z = true := hw _ (List.mem_of_getElem? (i := 19) rfl)
theorem wd_20 {Z : State} {a0 : Array Value} (hw : ∀ d ∈ tables_1, d.before a0 Z = true) : (Jvm.Cond.methodLink "com/example/markup_reader/markupreader/input/internal/XmlCharsIsCharPinLaw" (8 : Nat) ({ cls := "com/example/markup_reader/markupreader/input/internal/XmlCharsIsCharPinLaw", name := "in", desc := "(III)Z" } : Jvm.MethodName)).before a0 Z = true := hw _ (List.mem_of_getElem? (i := 20) rfl)
theorem wd_21 {Z : State} {a0 : Array Value} (hw : ∀ d ∈ tables_1, d.before a0 Z = true) : (Jvm.Cond.static ({ cls := "com/example/markup_reader/markupreader/input/internal/XmlCharsIsCharPinLaw", name := "in", desc := "(III)Z" } : Jvm.MethodName)).before a0 Z = true := hw _ (List.mem_of_getElem? (i := 21) rfl)
theorem wd_22 {Z : State} {a0 : Array Value} (hw : ∀ d ∈ tables_1, d.before a0 Z = true) : (Jvm.Cond.code ({ cls := "com/example/markup_reader/markupreader/input/internal/XmlCharsIsCharPinLaw", name := "in", desc := "(III)Z" } : Jvm.MethodName) method_2_code (3 : Nat) (Option.some Jvm.ClassFile.FieldType.boolean)).before a0 Z = true := hw _ (List.mem_of_getElem? (i := 22) rfl)
theorem wd_23 {Z : State} {a0 : Array Value} (hw : ∀ d ∈ tables_1, d.before a0 Z = true) : (Jvm.Cond.constant "com/example/markup_reader/markupreader/input/internal/XmlChars" (13 : Nat) (55295 : Int32)).before a0 Z = true := hw _ (List.mem_of_getElem? (i := 23) rfl)
theorem wd_24 {Z : State} {a0 : Array Value} (hw : ∀ d ∈ tables_1, d.before a0 Z = true) : (Jvm.Cond.constant "com/example/markup_reader/markupreader/input/internal/XmlChars" (14 : Nat) (57344 : Int32)).before a0 Z = true := hw _ (List.mem_of_getElem? (i := 24) rfl)
theorem wd_25 {Z : State} {a0 : Array Value} (hw : ∀ d ∈ tables_1, d.before a0 Z = true) : (Jvm.Cond.constant "com/example/markup_reader/markupreader/input/internal/XmlChars" (15 : Nat) (65533 : Int32)).before a0 Z = true := hw _ (List.mem_of_getElem? (i := 25) rfl)
theorem wd_26 {Z : State} {a0 : Array Value} (hw : ∀ d ∈ tables_1, d.before a0 Z = true) : (Jvm.Cond.constant "com/example/markup_reader/markupreader/input/internal/XmlChars" (16 : Nat) (65536 : Int32)).before a0 Z = true := hw _ (List.mem_of_getElem? (i := 26) rfl)
theorem wd_27 {Z : State} {a0 : Array Value} (hw : ∀ d ∈ tables_1, d.before a0 Z = true) : (Jvm.Cond.constant "com/example/markup_reader/markupreader/input/internal/XmlChars" (17 : Nat) (1114111 : Int32)).before a0 Z = true := hw _ (List.mem_of_getElem? (i := 27) rfl)
theorem ef_rm1 : ∀ (m : MethodId) (xc : Int32), entryFrame m #[(.int xc)] 1 = mkF m 0 #[.val (.int xc)] [] := by intros; first | (simp [entryFrame, mkF, argsToLocals, Value.category]; done) | rfl
theorem d1_0 : decode prog_18_method_3_code 0 = .ok (.iload_n 0, 1) := by decide +kernel
theorem d1_1 : decode prog_18_method_3_code 1 = .ok (.bipush 32, 2) := by decide +kernel
theorem d1_3 : decode prog_18_method_3_code 3 = .ok (.if_icmp .ge 27, 3) := by decide +kernel
theorem d1_6 : decode prog_18_method_3_code 6 = .ok (.iload_n 0, 1) := by decide +kernel
theorem d1_7 : decode prog_18_method_3_code 7 = .ok (.bipush 9, 2) := by decide +kernel
theorem d1_9 : decode prog_18_method_3_code 9 = .ok (.if_icmp .eq 15, 3) := by decide +kernel
theorem d1_24 : decode prog_18_method_3_code 24 = .ok (.iconst 1, 1) := by decide +kernel
theorem d1_25 : decode prog_18_method_3_code 25 = .ok (.goto 4, 3) := by decide +kernel
theorem d1_29 : decode prog_18_method_3_code 29 = .ok (.ireturn, 1) := by decide +kernel
theorem d1_12 : decode prog_18_method_3_code 12 = .ok (.iload_n 0, 1) := by decide +kernel
theorem d1_13 : decode prog_18_method_3_code 13 = .ok (.bipush 10, 2) := by decide +kernel
theorem d1_15 : decode prog_18_method_3_code 15 = .ok (.if_icmp .eq 9, 3) := by decide +kernel
theorem d1_18 : decode prog_18_method_3_code 18 = .ok (.iload_n 0, 1) := by decide +kernel
theorem d1_19 : decode prog_18_method_3_code 19 = .ok (.bipush 13, 2) := by decide +kernel
theorem d1_21 : decode prog_18_method_3_code 21 = .ok (.if_icmp .ne 7, 3) := by decide +kernel
theorem d1_28 : decode prog_18_method_3_code 28 = .ok (.iconst 0, 1) := by decide +kernel
theorem d1_30 : decode prog_18_method_3_code 30 = .ok (.iload_n 0, 1) := by decide +kernel
theorem d1_31 : decode prog_18_method_3_code 31 = .ok (.ldc 13, 2) := by decide +kernel
theorem d1_33 : decode prog_18_method_3_code 33 = .ok (.if_icmp .le 27, 3) := by decide +kernel
theorem d1_36 : decode prog_18_method_3_code 36 = .ok (.iload_n 0, 1) := by decide +kernel
theorem d1_37 : decode prog_18_method_3_code 37 = .ok (.ldc 14, 2) := by decide +kernel
theorem d1_39 : decode prog_18_method_3_code 39 = .ok (.if_icmp .lt 9, 3) := by decide +kernel
theorem d1_48 : decode prog_18_method_3_code 48 = .ok (.iload_n 0, 1) := by decide +kernel
theorem d1_49 : decode prog_18_method_3_code 49 = .ok (.ldc 16, 2) := by decide +kernel
theorem d1_51 : decode prog_18_method_3_code 51 = .ok (.if_icmp .lt 13, 3) := by decide +kernel
theorem d1_64 : decode prog_18_method_3_code 64 = .ok (.iconst 0, 1) := by decide +kernel
theorem d1_65 : decode prog_18_method_3_code 65 = .ok (.ireturn, 1) := by decide +kernel
theorem d1_54 : decode prog_18_method_3_code 54 = .ok (.iload_n 0, 1) := by decide +kernel
theorem d1_55 : decode prog_18_method_3_code 55 = .ok (.ldc 17, 2) := by decide +kernel
theorem d1_57 : decode prog_18_method_3_code 57 = .ok (.if_icmp .gt 7, 3) := by decide +kernel
theorem d1_60 : decode prog_18_method_3_code 60 = .ok (.iconst 1, 1) := by decide +kernel
theorem d1_61 : decode prog_18_method_3_code 61 = .ok (.goto 4, 3) := by decide +kernel
theorem d1_42 : decode prog_18_method_3_code 42 = .ok (.iload_n 0, 1) := by decide +kernel
theorem d1_43 : decode prog_18_method_3_code 43 = .ok (.ldc 15, 2) := by decide +kernel
theorem d1_45 : decode prog_18_method_3_code 45 = .ok (.if_icmp .le 15, 3) := by decide +kernel
theorem pn_1 : plainName "com/example/markup_reader/markupreader/input/internal/XmlChars" = true := by first | (simp [plainName, overriddenIn]; done) | decide +kernel
theorem ef_rm3 : ∀ (m : MethodId) (xc : Int32) (lo : Int32) (hi : Int32), entryFrame m #[(.int xc), (.int lo), (.int hi)] 3 = mkF m 0 #[.val (.int xc), .val (.int lo), .val (.int hi)] [] := by intros; first | (simp [entryFrame, mkF, argsToLocals, Value.category]; done) | rfl
theorem d3_0 : decode method_2_code 0 = .ok (.iload_n 1, 1) := by decide +kernel
theorem d3_1 : decode method_2_code 1 = .ok (.iload_n 0, 1) := by decide +kernel
theorem d3_2 : decode method_2_code 2 = .ok (.if_icmp .gt 12, 3) := by decide +kernel
theorem d3_14 : decode method_2_code 14 = .ok (.iconst 0, 1) := by decide +kernel
theorem d3_15 : decode method_2_code 15 = .ok (.ireturn, 1) := by decide +kernel
theorem d3_5 : decode method_2_code 5 = .ok (.iload_n 0, 1) := by decide +kernel
theorem d3_6 : decode method_2_code 6 = .ok (.iload_n 2, 1) := by decide +kernel
theorem d3_7 : decode method_2_code 7 = .ok (.if_icmp .gt 7, 3) := by decide +kernel
theorem d3_10 : decode method_2_code 10 = .ok (.iconst 1, 1) := by decide +kernel
theorem d3_11 : decode method_2_code 11 = .ok (.goto 4, 3) := by decide +kernel
theorem pn_3 : plainName "com/example/markup_reader/markupreader/input/internal/XmlCharsIsCharPinLaw" = true := by first | (simp [plainName, overriddenIn]; done) | decide +kernel
theorem ef_rm2 : ∀ (m : MethodId) (xc : Int32), entryFrame m #[(.int xc)] 1 = mkF m 0 #[.val (.int xc)] [] := by intros; first | (simp [entryFrame, mkF, argsToLocals, Value.category]; done) | rfl
theorem d2_0 : decode method_3_code 0 = .ok (.iload_n 0, 1) := by decide +kernel
theorem d2_1 : decode method_3_code 1 = .ok (.bipush 9, 2) := by decide +kernel
theorem d2_3 : decode method_3_code 3 = .ok (.if_icmp .eq 48, 3) := by decide +kernel
theorem d2_51 : decode method_3_code 51 = .ok (.iconst 1, 1) := by decide +kernel
theorem d2_52 : decode method_3_code 52 = .ok (.goto 4, 3) := by decide +kernel
theorem d2_56 : decode method_3_code 56 = .ok (.ireturn, 1) := by decide +kernel
theorem d2_6 : decode method_3_code 6 = .ok (.iload_n 0, 1) := by decide +kernel
theorem d2_7 : decode method_3_code 7 = .ok (.bipush 10, 2) := by decide +kernel
theorem d2_9 : decode method_3_code 9 = .ok (.if_icmp .eq 42, 3) := by decide +kernel
theorem d2_12 : decode method_3_code 12 = .ok (.iload_n 0, 1) := by decide +kernel
theorem d2_13 : decode method_3_code 13 = .ok (.bipush 13, 2) := by decide +kernel
theorem d2_15 : decode method_3_code 15 = .ok (.if_icmp .eq 36, 3) := by decide +kernel
theorem d2_18 : decode method_3_code 18 = .ok (.iload_n 0, 1) := by decide +kernel
theorem d2_19 : decode method_3_code 19 = .ok (.bipush 32, 2) := by decide +kernel
theorem d2_21 : decode method_3_code 21 = .ok (.ldc 7, 2) := by decide +kernel
theorem pd_0 : parseMethodDescriptor "(III)Z" = some ⟨[.int, .int, .int], some .boolean⟩ := by decide +kernel
theorem d2_23 : decode method_3_code 23 = .ok (.invokestatic 8, 3) := by decide +kernel
theorem d2_26 : decode method_3_code 26 = .ok (.ifCond .ne 25, 3) := by decide +kernel
theorem d2_29 : decode method_3_code 29 = .ok (.iload_n 0, 1) := by decide +kernel
theorem d2_30 : decode method_3_code 30 = .ok (.ldc 14, 2) := by decide +kernel
theorem d2_32 : decode method_3_code 32 = .ok (.ldc 15, 2) := by decide +kernel
theorem d2_34 : decode method_3_code 34 = .ok (.invokestatic 8, 3) := by decide +kernel
theorem d2_37 : decode method_3_code 37 = .ok (.ifCond .ne 14, 3) := by decide +kernel
theorem d2_40 : decode method_3_code 40 = .ok (.iload_n 0, 1) := by decide +kernel
theorem d2_41 : decode method_3_code 41 = .ok (.ldc 16, 2) := by decide +kernel
theorem d2_43 : decode method_3_code 43 = .ok (.ldc 17, 2) := by decide +kernel
theorem d2_45 : decode method_3_code 45 = .ok (.invokestatic 8, 3) := by decide +kernel
theorem d2_48 : decode method_3_code 48 = .ok (.ifCond .eq 7, 3) := by decide +kernel
theorem d2_55 : decode method_3_code 55 = .ok (.iconst 0, 1) := by decide +kernel
theorem pn_2 : plainName "com/example/markup_reader/markupreader/input/internal/XmlCharsIsCharPinLaw" = true := by first | (simp [plainName, overriddenIn]; done) | decide +kernel
theorem ef_rm0 : ∀ (m : MethodId) (xx : Int32) (sel : Int32), entryFrame m #[(.int xx), (.int sel)] maxLocals = mkF m 0 #[.val (.int xx), .val (.int sel), .unset, .unset, .unset, .unset] [] := by intros; first | (simp [entryFrame, mkF, argsToLocals, Value.category, maxLocals]; done) | rfl
theorem pd_1 : parseMethodDescriptor "(I)Z" = some ⟨[.int], some .boolean⟩ := by decide +kernel
theorem pn_0 : plainName "com/example/markup_reader/markupreader/input/internal/XmlCharsIsCharPinLaw" = true := by first | (simp [plainName, overriddenIn]; done) | decide +kernel
def PI (c : Int) : Prop := c = 9 ∨ c = 10 ∨ c = 13 ∨ (32 ≤ c ∧ c ≤ 55295) ∨ (57344 ≤ c ∧ c ≤ 65533) ∨ (65536 ≤ c ∧ c ≤ 1114111)
instance (c : Int) : Decidable (PI c) := by unfold PI; infer_instance
def FI (c : Int32) : Int32 := if PI c.toInt then 1 else 0
def FIn (c lo hi : Int32) : Int32 := if lo.toInt ≤ c.toInt ∧ c.toInt ≤ hi.toInt then 1 else 0
theorem FIn0 (c lo hi : Int32) : (FIn c lo hi = 0) = ¬ (lo.toInt ≤ c.toInt ∧ c.toInt ≤ hi.toInt) := by
  unfold FIn
  split <;> simp_all
theorem FI1 {c : Int32} (h : PI c.toInt) : some (Value.int 1) = some (Value.int (FI c)) := by rw [FI, if_pos h]
theorem FI0 {c : Int32} (h : ¬ PI c.toInt) : some (Value.int 0) = some (Value.int (FI c)) := by rw [FI, if_neg h]
theorem FIn1' {c lo hi : Int32} (h : lo.toInt ≤ c.toInt ∧ c.toInt ≤ hi.toInt) : some (Value.int 1) = some (Value.int (FIn c lo hi)) := by rw [FIn, if_pos h]
theorem FIn0' {c lo hi : Int32} (h : ¬ (lo.toInt ≤ c.toInt ∧ c.toInt ≤ hi.toInt)) : some (Value.int 0) = some (Value.int (FIn c lo hi)) := by rw [FIn, if_neg h]
theorem own_ix (a : Int32) : ¬ (a &&& 15) < 0 ∧ (a &&& 15) < 16 := by
  have e : (a &&& 15).toInt = a.toInt % (2 ^ 4 : Nat) := c_mask a 15 4 (by decide) (by decide)
  simp only [Int32.lt_iff_toInt_lt, Int32.reduceToInt]
  omega
set_option maxRecDepth 65536 in
set_option maxHeartbeats 40000000 in
theorem rm1 (l : Launch) (Z : State) (a0 : Array Value) (hw : ∀ d ∈ tables_1, d.before a0 Z = true) (xc : Int32)  (h0 : Heap) (n0 : Nat) (Z0 : n0 ≤ h0.size)  :
    ownMet l Z (⟨"com/example/markup_reader/markupreader/input/internal/XmlChars", "isChar", "(I)Z"⟩ : MethodName) prog_18_method_3_code 1 (some .boolean) [] ({ frames := 0, cells := 0, slots := 0, locals := 0 } : Room) #[(.int xc)] h0 (fun v h L => v = some (.int (FI xc)) ∧ L = [] ∧ h = h0) := by
  refine ownMet.of (plainFor_of_name pn_1) ?_
  intro p e s m below meth c T0 hx hby hml hZ hown hnm hret hlk X0 e0
  refine ownEnds.cast (ef_rm1 m xc) ?_
  show ownEnds _ _ _ _ (T0.setTop (mkF m 0 #[.val (.int xc)] []))
  refine ownEnds.law (fun t k => XS.iloadN X0.here hx rfl (hb hby d1_0) rfl (XS.bipush X0.here hx rfl (hb hby d1_1) k)) ?_
  show ownEnds _ _ _ _ (T0.setTop (mkF m 3 #[.val (.int xc)] [(.int (32 : Int32)), (.int xc)]))
  by_cases hc3 : xc < (32 : Int32)
  · refine ownEnds.law (fun t => XS.icmpNo X0.here hx rfl (hb hby d1_3) rfl (tlt hc3).2.1) ?_
    show ownEnds _ _ _ _ (T0.setTop (mkF m 6 #[.val (.int xc)] []))
    refine ownEnds.law (fun t k => XS.iloadN X0.here hx rfl (hb hby d1_6) rfl (XS.bipush X0.here hx rfl (hb hby d1_7) k)) ?_
    show ownEnds _ _ _ _ (T0.setTop (mkF m 9 #[.val (.int xc)] [(.int (9 : Int32)), (.int xc)]))
    by_cases hc9 : xc = (9 : Int32)
    · refine ownEnds.law (fun t => XS.icmpYes X0.here hx rfl (pc0 := 9) (pc' := 24) rfl (hb hby d1_9) rfl (teq hc9).1 (by decide) (by decide)) ?_
      show ownEnds _ _ _ _ (T0.setTop (mkF m 24 #[.val (.int xc)] []))
      refine ownEnds.law (fun t k => XS.iconst X0.here hx rfl (hb hby d1_24) (XS.goto X0.here hx rfl (pc0 := 25) (pc' := 29) rfl (hb hby d1_25) (by decide) (by decide) k)) ?_
      show ownEnds _ _ _ _ (T0.setTop (mkF m 29 #[.val (.int xc)] [(.int (1 : Int32))]))
      refine ownRetN X0 hlk hx (t := .boolean) hret (by simp) (hb hby d1_29) (by decide) (by decide) ?_
      exact ⟨FI1 (by (try simp only [FIn0, Int32.reduceToInt] at hc3 hc9); (try simp only [Int32.lt_iff_toInt_lt, ← Int32.toInt_inj, Int32.reduceToInt] at hc3 hc9); unfold PI; omega), rfl, e0⟩
    · refine ownEnds.law (fun t => XS.icmpNo X0.here hx rfl (hb hby d1_9) rfl (feq hc9).1) ?_
      show ownEnds _ _ _ _ (T0.setTop (mkF m 12 #[.val (.int xc)] []))
      refine ownEnds.law (fun t k => XS.iloadN X0.here hx rfl (hb hby d1_12) rfl (XS.bipush X0.here hx rfl (hb hby d1_13) k)) ?_
      show ownEnds _ _ _ _ (T0.setTop (mkF m 15 #[.val (.int xc)] [(.int (10 : Int32)), (.int xc)]))
      by_cases hc15 : xc = (10 : Int32)
      · refine ownEnds.law (fun t => XS.icmpYes X0.here hx rfl (pc0 := 15) (pc' := 24) rfl (hb hby d1_15) rfl (teq hc15).1 (by decide) (by decide)) ?_
        show ownEnds _ _ _ _ (T0.setTop (mkF m 24 #[.val (.int xc)] []))
        refine ownEnds.law (fun t k => XS.iconst X0.here hx rfl (hb hby d1_24) (XS.goto X0.here hx rfl (pc0 := 25) (pc' := 29) rfl (hb hby d1_25) (by decide) (by decide) k)) ?_
        show ownEnds _ _ _ _ (T0.setTop (mkF m 29 #[.val (.int xc)] [(.int (1 : Int32))]))
        refine ownRetN X0 hlk hx (t := .boolean) hret (by simp) (hb hby d1_29) (by decide) (by decide) ?_
        exact ⟨FI1 (by (try simp only [FIn0, Int32.reduceToInt] at hc3 hc9 hc15); (try simp only [Int32.lt_iff_toInt_lt, ← Int32.toInt_inj, Int32.reduceToInt] at hc3 hc9 hc15); unfold PI; omega), rfl, e0⟩
      · refine ownEnds.law (fun t => XS.icmpNo X0.here hx rfl (hb hby d1_15) rfl (feq hc15).1) ?_
        show ownEnds _ _ _ _ (T0.setTop (mkF m 18 #[.val (.int xc)] []))
        refine ownEnds.law (fun t k => XS.iloadN X0.here hx rfl (hb hby d1_18) rfl (XS.bipush X0.here hx rfl (hb hby d1_19) k)) ?_
        show ownEnds _ _ _ _ (T0.setTop (mkF m 21 #[.val (.int xc)] [(.int (13 : Int32)), (.int xc)]))
        by_cases hc21 : xc = (13 : Int32)
        · refine ownEnds.law (fun t => XS.icmpNo X0.here hx rfl (hb hby d1_21) rfl (teq hc21).2) ?_
          show ownEnds _ _ _ _ (T0.setTop (mkF m 24 #[.val (.int xc)] []))
          refine ownEnds.law (fun t k => XS.iconst X0.here hx rfl (hb hby d1_24) (XS.goto X0.here hx rfl (pc0 := 25) (pc' := 29) rfl (hb hby d1_25) (by decide) (by decide) k)) ?_
          show ownEnds _ _ _ _ (T0.setTop (mkF m 29 #[.val (.int xc)] [(.int (1 : Int32))]))
          refine ownRetN X0 hlk hx (t := .boolean) hret (by simp) (hb hby d1_29) (by decide) (by decide) ?_
          exact ⟨FI1 (by (try simp only [FIn0, Int32.reduceToInt] at hc3 hc9 hc15 hc21); (try simp only [Int32.lt_iff_toInt_lt, ← Int32.toInt_inj, Int32.reduceToInt] at hc3 hc9 hc15 hc21); unfold PI; omega), rfl, e0⟩
        · refine ownEnds.law (fun t => XS.icmpYes X0.here hx rfl (pc0 := 21) (pc' := 28) rfl (hb hby d1_21) rfl (feq hc21).2 (by decide) (by decide)) ?_
          show ownEnds _ _ _ _ (T0.setTop (mkF m 28 #[.val (.int xc)] []))
          refine ownEnds.law (fun t k => XS.iconst X0.here hx rfl (hb hby d1_28) k) ?_
          show ownEnds _ _ _ _ (T0.setTop (mkF m 29 #[.val (.int xc)] [(.int (0 : Int32))]))
          refine ownRetN X0 hlk hx (t := .boolean) hret (by simp) (hb hby d1_29) (by decide) (by decide) ?_
          exact ⟨FI0 (by (try simp only [FIn0, Int32.reduceToInt] at hc3 hc9 hc15 hc21); (try simp only [Int32.lt_iff_toInt_lt, ← Int32.toInt_inj, Int32.reduceToInt] at hc3 hc9 hc15 hc21); unfold PI; omega), rfl, e0⟩
  · refine ownEnds.law (fun t => XS.icmpYes X0.here hx rfl (pc0 := 3) (pc' := 30) rfl (hb hby d1_3) rfl (flt hc3).2.1 (by decide) (by decide)) ?_
    show ownEnds _ _ _ _ (T0.setTop (mkF m 30 #[.val (.int xc)] []))
    refine ownEnds.law (fun t k => XS.iloadN X0.here hx rfl (hb hby d1_30) rfl (X0.ldcInt hx hown (mvT hZ (wd_23 hw)) (g := (mkF m 31 #[.val (.int xc)] [(.int xc)])) rfl (hb hby d1_31) _ k)) ?_
    show ownEnds _ _ _ _ (T0.setTop (mkF m 33 #[.val (.int xc)] [(.int (55295 : Int32)), (.int xc)]))
    by_cases hc33 : (55295 : Int32) < xc
    · refine ownEnds.law (fun t => XS.icmpNo X0.here hx rfl (hb hby d1_33) rfl (tlt hc33).2.2.2) ?_
      show ownEnds _ _ _ _ (T0.setTop (mkF m 36 #[.val (.int xc)] []))
      refine ownEnds.law (fun t k => XS.iloadN X0.here hx rfl (hb hby d1_36) rfl (X0.ldcInt hx hown (mvT hZ (wd_24 hw)) (g := (mkF m 37 #[.val (.int xc)] [(.int xc)])) rfl (hb hby d1_37) _ k)) ?_
      show ownEnds _ _ _ _ (T0.setTop (mkF m 39 #[.val (.int xc)] [(.int (57344 : Int32)), (.int xc)]))
      by_cases hc39 : xc < (57344 : Int32)
      · refine ownEnds.law (fun t => XS.icmpYes X0.here hx rfl (pc0 := 39) (pc' := 48) rfl (hb hby d1_39) rfl (tlt hc39).1 (by decide) (by decide)) ?_
        show ownEnds _ _ _ _ (T0.setTop (mkF m 48 #[.val (.int xc)] []))
        refine ownEnds.law (fun t k => XS.iloadN X0.here hx rfl (hb hby d1_48) rfl (X0.ldcInt hx hown (mvT hZ (wd_26 hw)) (g := (mkF m 49 #[.val (.int xc)] [(.int xc)])) rfl (hb hby d1_49) _ k)) ?_
        show ownEnds _ _ _ _ (T0.setTop (mkF m 51 #[.val (.int xc)] [(.int (65536 : Int32)), (.int xc)]))
        by_cases hc51 : xc < (65536 : Int32)
        · refine ownEnds.law (fun t => XS.icmpYes X0.here hx rfl (pc0 := 51) (pc' := 64) rfl (hb hby d1_51) rfl (tlt hc51).1 (by decide) (by decide)) ?_
          show ownEnds _ _ _ _ (T0.setTop (mkF m 64 #[.val (.int xc)] []))
          refine ownEnds.law (fun t k => XS.iconst X0.here hx rfl (hb hby d1_64) k) ?_
          show ownEnds _ _ _ _ (T0.setTop (mkF m 65 #[.val (.int xc)] [(.int (0 : Int32))]))
          refine ownRetN X0 hlk hx (t := .boolean) hret (by simp) (hb hby d1_65) (by decide) (by decide) ?_
          exact ⟨FI0 (by (try simp only [FIn0, Int32.reduceToInt] at hc3 hc33 hc39 hc51); (try simp only [Int32.lt_iff_toInt_lt, ← Int32.toInt_inj, Int32.reduceToInt] at hc3 hc33 hc39 hc51); unfold PI; omega), rfl, e0⟩
        · refine ownEnds.law (fun t => XS.icmpNo X0.here hx rfl (hb hby d1_51) rfl (flt hc51).1) ?_
          show ownEnds _ _ _ _ (T0.setTop (mkF m 54 #[.val (.int xc)] []))
          refine ownEnds.law (fun t k => XS.iloadN X0.here hx rfl (hb hby d1_54) rfl (X0.ldcInt hx hown (mvT hZ (wd_27 hw)) (g := (mkF m 55 #[.val (.int xc)] [(.int xc)])) rfl (hb hby d1_55) _ k)) ?_
          show ownEnds _ _ _ _ (T0.setTop (mkF m 57 #[.val (.int xc)] [(.int (1114111 : Int32)), (.int xc)]))
          by_cases hc57 : (1114111 : Int32) < xc
          · refine ownEnds.law (fun t => XS.icmpYes X0.here hx rfl (pc0 := 57) (pc' := 64) rfl (hb hby d1_57) rfl (tlt hc57).2.2.1 (by decide) (by decide)) ?_
            show ownEnds _ _ _ _ (T0.setTop (mkF m 64 #[.val (.int xc)] []))
            refine ownEnds.law (fun t k => XS.iconst X0.here hx rfl (hb hby d1_64) k) ?_
            show ownEnds _ _ _ _ (T0.setTop (mkF m 65 #[.val (.int xc)] [(.int (0 : Int32))]))
            refine ownRetN X0 hlk hx (t := .boolean) hret (by simp) (hb hby d1_65) (by decide) (by decide) ?_
            exact ⟨FI0 (by (try simp only [FIn0, Int32.reduceToInt] at hc3 hc33 hc39 hc51 hc57); (try simp only [Int32.lt_iff_toInt_lt, ← Int32.toInt_inj, Int32.reduceToInt] at hc3 hc33 hc39 hc51 hc57); unfold PI; omega), rfl, e0⟩
          · refine ownEnds.law (fun t => XS.icmpNo X0.here hx rfl (hb hby d1_57) rfl (flt hc57).2.2.1) ?_
            show ownEnds _ _ _ _ (T0.setTop (mkF m 60 #[.val (.int xc)] []))
            refine ownEnds.law (fun t k => XS.iconst X0.here hx rfl (hb hby d1_60) (XS.goto X0.here hx rfl (pc0 := 61) (pc' := 65) rfl (hb hby d1_61) (by decide) (by decide) k)) ?_
            show ownEnds _ _ _ _ (T0.setTop (mkF m 65 #[.val (.int xc)] [(.int (1 : Int32))]))
            refine ownRetN X0 hlk hx (t := .boolean) hret (by simp) (hb hby d1_65) (by decide) (by decide) ?_
            exact ⟨FI1 (by (try simp only [FIn0, Int32.reduceToInt] at hc3 hc33 hc39 hc51 hc57); (try simp only [Int32.lt_iff_toInt_lt, ← Int32.toInt_inj, Int32.reduceToInt] at hc3 hc33 hc39 hc51 hc57); unfold PI; omega), rfl, e0⟩
      · refine ownEnds.law (fun t => XS.icmpNo X0.here hx rfl (hb hby d1_39) rfl (flt hc39).1) ?_
        show ownEnds _ _ _ _ (T0.setTop (mkF m 42 #[.val (.int xc)] []))
        refine ownEnds.law (fun t k => XS.iloadN X0.here hx rfl (hb hby d1_42) rfl (X0.ldcInt hx hown (mvT hZ (wd_25 hw)) (g := (mkF m 43 #[.val (.int xc)] [(.int xc)])) rfl (hb hby d1_43) _ k)) ?_
        show ownEnds _ _ _ _ (T0.setTop (mkF m 45 #[.val (.int xc)] [(.int (65533 : Int32)), (.int xc)]))
        by_cases hc45 : (65533 : Int32) < xc
        · refine ownEnds.law (fun t => XS.icmpNo X0.here hx rfl (hb hby d1_45) rfl (tlt hc45).2.2.2) ?_
          show ownEnds _ _ _ _ (T0.setTop (mkF m 48 #[.val (.int xc)] []))
          refine ownEnds.law (fun t k => XS.iloadN X0.here hx rfl (hb hby d1_48) rfl (X0.ldcInt hx hown (mvT hZ (wd_26 hw)) (g := (mkF m 49 #[.val (.int xc)] [(.int xc)])) rfl (hb hby d1_49) _ k)) ?_
          show ownEnds _ _ _ _ (T0.setTop (mkF m 51 #[.val (.int xc)] [(.int (65536 : Int32)), (.int xc)]))
          by_cases hc51 : xc < (65536 : Int32)
          · refine ownEnds.law (fun t => XS.icmpYes X0.here hx rfl (pc0 := 51) (pc' := 64) rfl (hb hby d1_51) rfl (tlt hc51).1 (by decide) (by decide)) ?_
            show ownEnds _ _ _ _ (T0.setTop (mkF m 64 #[.val (.int xc)] []))
            refine ownEnds.law (fun t k => XS.iconst X0.here hx rfl (hb hby d1_64) k) ?_
            show ownEnds _ _ _ _ (T0.setTop (mkF m 65 #[.val (.int xc)] [(.int (0 : Int32))]))
            refine ownRetN X0 hlk hx (t := .boolean) hret (by simp) (hb hby d1_65) (by decide) (by decide) ?_
            exact ⟨FI0 (by (try simp only [FIn0, Int32.reduceToInt] at hc3 hc33 hc39 hc45 hc51); (try simp only [Int32.lt_iff_toInt_lt, ← Int32.toInt_inj, Int32.reduceToInt] at hc3 hc33 hc39 hc45 hc51); unfold PI; omega), rfl, e0⟩
          · refine ownEnds.law (fun t => XS.icmpNo X0.here hx rfl (hb hby d1_51) rfl (flt hc51).1) ?_
            show ownEnds _ _ _ _ (T0.setTop (mkF m 54 #[.val (.int xc)] []))
            refine ownEnds.law (fun t k => XS.iloadN X0.here hx rfl (hb hby d1_54) rfl (X0.ldcInt hx hown (mvT hZ (wd_27 hw)) (g := (mkF m 55 #[.val (.int xc)] [(.int xc)])) rfl (hb hby d1_55) _ k)) ?_
            show ownEnds _ _ _ _ (T0.setTop (mkF m 57 #[.val (.int xc)] [(.int (1114111 : Int32)), (.int xc)]))
            by_cases hc57 : (1114111 : Int32) < xc
            · refine ownEnds.law (fun t => XS.icmpYes X0.here hx rfl (pc0 := 57) (pc' := 64) rfl (hb hby d1_57) rfl (tlt hc57).2.2.1 (by decide) (by decide)) ?_
              show ownEnds _ _ _ _ (T0.setTop (mkF m 64 #[.val (.int xc)] []))
              refine ownEnds.law (fun t k => XS.iconst X0.here hx rfl (hb hby d1_64) k) ?_
              show ownEnds _ _ _ _ (T0.setTop (mkF m 65 #[.val (.int xc)] [(.int (0 : Int32))]))
              refine ownRetN X0 hlk hx (t := .boolean) hret (by simp) (hb hby d1_65) (by decide) (by decide) ?_
              exact ⟨FI0 (by (try simp only [FIn0, Int32.reduceToInt] at hc3 hc33 hc39 hc45 hc51 hc57); (try simp only [Int32.lt_iff_toInt_lt, ← Int32.toInt_inj, Int32.reduceToInt] at hc3 hc33 hc39 hc45 hc51 hc57); unfold PI; omega), rfl, e0⟩
            · refine ownEnds.law (fun t => XS.icmpNo X0.here hx rfl (hb hby d1_57) rfl (flt hc57).2.2.1) ?_
              show ownEnds _ _ _ _ (T0.setTop (mkF m 60 #[.val (.int xc)] []))
              refine ownEnds.law (fun t k => XS.iconst X0.here hx rfl (hb hby d1_60) (XS.goto X0.here hx rfl (pc0 := 61) (pc' := 65) rfl (hb hby d1_61) (by decide) (by decide) k)) ?_
              show ownEnds _ _ _ _ (T0.setTop (mkF m 65 #[.val (.int xc)] [(.int (1 : Int32))]))
              refine ownRetN X0 hlk hx (t := .boolean) hret (by simp) (hb hby d1_65) (by decide) (by decide) ?_
              exact ⟨FI1 (by (try simp only [FIn0, Int32.reduceToInt] at hc3 hc33 hc39 hc45 hc51 hc57); (try simp only [Int32.lt_iff_toInt_lt, ← Int32.toInt_inj, Int32.reduceToInt] at hc3 hc33 hc39 hc45 hc51 hc57); unfold PI; omega), rfl, e0⟩
        · refine ownEnds.law (fun t => XS.icmpYes X0.here hx rfl (pc0 := 45) (pc' := 60) rfl (hb hby d1_45) rfl (flt hc45).2.2.2 (by decide) (by decide)) ?_
          show ownEnds _ _ _ _ (T0.setTop (mkF m 60 #[.val (.int xc)] []))
          refine ownEnds.law (fun t k => XS.iconst X0.here hx rfl (hb hby d1_60) (XS.goto X0.here hx rfl (pc0 := 61) (pc' := 65) rfl (hb hby d1_61) (by decide) (by decide) k)) ?_
          show ownEnds _ _ _ _ (T0.setTop (mkF m 65 #[.val (.int xc)] [(.int (1 : Int32))]))
          refine ownRetN X0 hlk hx (t := .boolean) hret (by simp) (hb hby d1_65) (by decide) (by decide) ?_
          exact ⟨FI1 (by (try simp only [FIn0, Int32.reduceToInt] at hc3 hc33 hc39 hc45); (try simp only [Int32.lt_iff_toInt_lt, ← Int32.toInt_inj, Int32.reduceToInt] at hc3 hc33 hc39 hc45); unfold PI; omega), rfl, e0⟩
    · refine ownEnds.law (fun t => XS.icmpYes X0.here hx rfl (pc0 := 33) (pc' := 60) rfl (hb hby d1_33) rfl (flt hc33).2.2.2 (by decide) (by decide)) ?_
      show ownEnds _ _ _ _ (T0.setTop (mkF m 60 #[.val (.int xc)] []))
      refine ownEnds.law (fun t k => XS.iconst X0.here hx rfl (hb hby d1_60) (XS.goto X0.here hx rfl (pc0 := 61) (pc' := 65) rfl (hb hby d1_61) (by decide) (by decide) k)) ?_
      show ownEnds _ _ _ _ (T0.setTop (mkF m 65 #[.val (.int xc)] [(.int (1 : Int32))]))
      refine ownRetN X0 hlk hx (t := .boolean) hret (by simp) (hb hby d1_65) (by decide) (by decide) ?_
      exact ⟨FI1 (by (try simp only [FIn0, Int32.reduceToInt] at hc3 hc33); (try simp only [Int32.lt_iff_toInt_lt, ← Int32.toInt_inj, Int32.reduceToInt] at hc3 hc33); unfold PI; omega), rfl, e0⟩
set_option maxRecDepth 65536 in
set_option maxHeartbeats 40000000 in
theorem rm3 (l : Launch) (Z : State) (a0 : Array Value) (hw : ∀ d ∈ tables_1, d.before a0 Z = true) (xc : Int32) (lo : Int32) (hi : Int32)  (h0 : Heap) (n0 : Nat) (Z0 : n0 ≤ h0.size)  :
    ownMet l Z (⟨"com/example/markup_reader/markupreader/input/internal/XmlCharsIsCharPinLaw", "in", "(III)Z"⟩ : MethodName) method_2_code 3 (some .boolean) [] ({ frames := 0, cells := 0, slots := 0, locals := 0 } : Room) #[(.int xc), (.int lo), (.int hi)] h0 (fun v h L => v = some (.int (FIn xc lo hi)) ∧ L = [] ∧ h = h0) := by
  refine ownMet.of (plainFor_of_name pn_3) ?_
  intro p e s m below meth c T0 hx hby hml hZ hown hnm hret hlk X0 e0
  refine ownEnds.cast (ef_rm3 m xc lo hi) ?_
  show ownEnds _ _ _ _ (T0.setTop (mkF m 0 #[.val (.int xc), .val (.int lo), .val (.int hi)] []))
  refine ownEnds.law (fun t k => XS.iloadN X0.here hx rfl (hb hby d3_0) rfl (XS.iloadN X0.here hx rfl (hb hby d3_1) rfl k)) ?_
  show ownEnds _ _ _ _ (T0.setTop (mkF m 2 #[.val (.int xc), .val (.int lo), .val (.int hi)] [(.int xc), (.int lo)]))
  by_cases hc2 : xc < lo
  · refine ownEnds.law (fun t => XS.icmpYes X0.here hx rfl (pc0 := 2) (pc' := 14) rfl (hb hby d3_2) rfl (tlt hc2).2.2.1 (by decide) (by decide)) ?_
    show ownEnds _ _ _ _ (T0.setTop (mkF m 14 #[.val (.int xc), .val (.int lo), .val (.int hi)] []))
    refine ownEnds.law (fun t k => XS.iconst X0.here hx rfl (hb hby d3_14) k) ?_
    show ownEnds _ _ _ _ (T0.setTop (mkF m 15 #[.val (.int xc), .val (.int lo), .val (.int hi)] [(.int (0 : Int32))]))
    refine ownRetN X0 hlk hx (t := .boolean) hret (by simp) (hb hby d3_15) (by decide) (by decide) ?_
    exact ⟨FIn0' (by (try simp only [FIn0, Int32.reduceToInt] at hc2); (try simp only [Int32.lt_iff_toInt_lt, ← Int32.toInt_inj, Int32.reduceToInt] at hc2); omega), rfl, e0⟩
  · refine ownEnds.law (fun t => XS.icmpNo X0.here hx rfl (hb hby d3_2) rfl (flt hc2).2.2.1) ?_
    show ownEnds _ _ _ _ (T0.setTop (mkF m 5 #[.val (.int xc), .val (.int lo), .val (.int hi)] []))
    refine ownEnds.law (fun t k => XS.iloadN X0.here hx rfl (hb hby d3_5) rfl (XS.iloadN X0.here hx rfl (hb hby d3_6) rfl k)) ?_
    show ownEnds _ _ _ _ (T0.setTop (mkF m 7 #[.val (.int xc), .val (.int lo), .val (.int hi)] [(.int hi), (.int xc)]))
    by_cases hc7 : hi < xc
    · refine ownEnds.law (fun t => XS.icmpYes X0.here hx rfl (pc0 := 7) (pc' := 14) rfl (hb hby d3_7) rfl (tlt hc7).2.2.1 (by decide) (by decide)) ?_
      show ownEnds _ _ _ _ (T0.setTop (mkF m 14 #[.val (.int xc), .val (.int lo), .val (.int hi)] []))
      refine ownEnds.law (fun t k => XS.iconst X0.here hx rfl (hb hby d3_14) k) ?_
      show ownEnds _ _ _ _ (T0.setTop (mkF m 15 #[.val (.int xc), .val (.int lo), .val (.int hi)] [(.int (0 : Int32))]))
      refine ownRetN X0 hlk hx (t := .boolean) hret (by simp) (hb hby d3_15) (by decide) (by decide) ?_
      exact ⟨FIn0' (by (try simp only [FIn0, Int32.reduceToInt] at hc2 hc7); (try simp only [Int32.lt_iff_toInt_lt, ← Int32.toInt_inj, Int32.reduceToInt] at hc2 hc7); omega), rfl, e0⟩
    · refine ownEnds.law (fun t => XS.icmpNo X0.here hx rfl (hb hby d3_7) rfl (flt hc7).2.2.1) ?_
      show ownEnds _ _ _ _ (T0.setTop (mkF m 10 #[.val (.int xc), .val (.int lo), .val (.int hi)] []))
      refine ownEnds.law (fun t k => XS.iconst X0.here hx rfl (hb hby d3_10) (XS.goto X0.here hx rfl (pc0 := 11) (pc' := 15) rfl (hb hby d3_11) (by decide) (by decide) k)) ?_
      show ownEnds _ _ _ _ (T0.setTop (mkF m 15 #[.val (.int xc), .val (.int lo), .val (.int hi)] [(.int (1 : Int32))]))
      refine ownRetN X0 hlk hx (t := .boolean) hret (by simp) (hb hby d3_15) (by decide) (by decide) ?_
      exact ⟨FIn1' (by (try simp only [FIn0, Int32.reduceToInt] at hc2 hc7); (try simp only [Int32.lt_iff_toInt_lt, ← Int32.toInt_inj, Int32.reduceToInt] at hc2 hc7); omega), rfl, e0⟩
set_option maxRecDepth 65536 in
set_option maxHeartbeats 40000000 in
theorem rm2 (l : Launch) (Z : State) (a0 : Array Value) (hw : ∀ d ∈ tables_1, d.before a0 Z = true) (xc : Int32)  (h0 : Heap) (n0 : Nat) (Z0 : n0 ≤ h0.size)  :
    ownMet l Z (⟨"com/example/markup_reader/markupreader/input/internal/XmlCharsIsCharPinLaw", "reference", "(I)Z"⟩ : MethodName) method_3_code 1 (some .boolean) [] ({ frames := 1, cells := 0, slots := 0, locals := 14 } : Room) #[(.int xc)] h0 (fun v h L => v = some (.int (FI xc)) ∧ L = [] ∧ h = h0) := by
  refine ownMet.of (plainFor_of_name pn_2) ?_
  intro p e s m below meth c T0 hx hby hml hZ hown hnm hret hlk X0 e0
  refine ownEnds.cast (ef_rm2 m xc) ?_
  show ownEnds _ _ _ _ (T0.setTop (mkF m 0 #[.val (.int xc)] []))
  refine ownEnds.law (fun t k => XS.iloadN X0.here hx rfl (hb hby d2_0) rfl (XS.bipush X0.here hx rfl (hb hby d2_1) k)) ?_
  show ownEnds _ _ _ _ (T0.setTop (mkF m 3 #[.val (.int xc)] [(.int (9 : Int32)), (.int xc)]))
  by_cases hc3 : xc = (9 : Int32)
  · refine ownEnds.law (fun t => XS.icmpYes X0.here hx rfl (pc0 := 3) (pc' := 51) rfl (hb hby d2_3) rfl (teq hc3).1 (by decide) (by decide)) ?_
    show ownEnds _ _ _ _ (T0.setTop (mkF m 51 #[.val (.int xc)] []))
    refine ownEnds.law (fun t k => XS.iconst X0.here hx rfl (hb hby d2_51) (XS.goto X0.here hx rfl (pc0 := 52) (pc' := 56) rfl (hb hby d2_52) (by decide) (by decide) k)) ?_
    show ownEnds _ _ _ _ (T0.setTop (mkF m 56 #[.val (.int xc)] [(.int (1 : Int32))]))
    refine ownRetN X0 hlk hx (t := .boolean) hret (by simp) (hb hby d2_56) (by decide) (by decide) ?_
    exact ⟨FI1 (by (try simp only [FIn0, Int32.reduceToInt] at hc3); (try simp only [Int32.lt_iff_toInt_lt, ← Int32.toInt_inj, Int32.reduceToInt] at hc3); unfold PI; omega), rfl, e0⟩
  · refine ownEnds.law (fun t => XS.icmpNo X0.here hx rfl (hb hby d2_3) rfl (feq hc3).1) ?_
    show ownEnds _ _ _ _ (T0.setTop (mkF m 6 #[.val (.int xc)] []))
    refine ownEnds.law (fun t k => XS.iloadN X0.here hx rfl (hb hby d2_6) rfl (XS.bipush X0.here hx rfl (hb hby d2_7) k)) ?_
    show ownEnds _ _ _ _ (T0.setTop (mkF m 9 #[.val (.int xc)] [(.int (10 : Int32)), (.int xc)]))
    by_cases hc9 : xc = (10 : Int32)
    · refine ownEnds.law (fun t => XS.icmpYes X0.here hx rfl (pc0 := 9) (pc' := 51) rfl (hb hby d2_9) rfl (teq hc9).1 (by decide) (by decide)) ?_
      show ownEnds _ _ _ _ (T0.setTop (mkF m 51 #[.val (.int xc)] []))
      refine ownEnds.law (fun t k => XS.iconst X0.here hx rfl (hb hby d2_51) (XS.goto X0.here hx rfl (pc0 := 52) (pc' := 56) rfl (hb hby d2_52) (by decide) (by decide) k)) ?_
      show ownEnds _ _ _ _ (T0.setTop (mkF m 56 #[.val (.int xc)] [(.int (1 : Int32))]))
      refine ownRetN X0 hlk hx (t := .boolean) hret (by simp) (hb hby d2_56) (by decide) (by decide) ?_
      exact ⟨FI1 (by (try simp only [FIn0, Int32.reduceToInt] at hc3 hc9); (try simp only [Int32.lt_iff_toInt_lt, ← Int32.toInt_inj, Int32.reduceToInt] at hc3 hc9); unfold PI; omega), rfl, e0⟩
    · refine ownEnds.law (fun t => XS.icmpNo X0.here hx rfl (hb hby d2_9) rfl (feq hc9).1) ?_
      show ownEnds _ _ _ _ (T0.setTop (mkF m 12 #[.val (.int xc)] []))
      refine ownEnds.law (fun t k => XS.iloadN X0.here hx rfl (hb hby d2_12) rfl (XS.bipush X0.here hx rfl (hb hby d2_13) k)) ?_
      show ownEnds _ _ _ _ (T0.setTop (mkF m 15 #[.val (.int xc)] [(.int (13 : Int32)), (.int xc)]))
      by_cases hc15 : xc = (13 : Int32)
      · refine ownEnds.law (fun t => XS.icmpYes X0.here hx rfl (pc0 := 15) (pc' := 51) rfl (hb hby d2_15) rfl (teq hc15).1 (by decide) (by decide)) ?_
        show ownEnds _ _ _ _ (T0.setTop (mkF m 51 #[.val (.int xc)] []))
        refine ownEnds.law (fun t k => XS.iconst X0.here hx rfl (hb hby d2_51) (XS.goto X0.here hx rfl (pc0 := 52) (pc' := 56) rfl (hb hby d2_52) (by decide) (by decide) k)) ?_
        show ownEnds _ _ _ _ (T0.setTop (mkF m 56 #[.val (.int xc)] [(.int (1 : Int32))]))
        refine ownRetN X0 hlk hx (t := .boolean) hret (by simp) (hb hby d2_56) (by decide) (by decide) ?_
        exact ⟨FI1 (by (try simp only [FIn0, Int32.reduceToInt] at hc3 hc9 hc15); (try simp only [Int32.lt_iff_toInt_lt, ← Int32.toInt_inj, Int32.reduceToInt] at hc3 hc9 hc15); unfold PI; omega), rfl, e0⟩
      · refine ownEnds.law (fun t => XS.icmpNo X0.here hx rfl (hb hby d2_15) rfl (feq hc15).1) ?_
        show ownEnds _ _ _ _ (T0.setTop (mkF m 18 #[.val (.int xc)] []))
        refine ownEnds.law (fun t k => XS.iloadN X0.here hx rfl (hb hby d2_18) rfl (XS.bipush X0.here hx rfl (hb hby d2_19) (X0.ldcInt hx hown (mvT hZ (wd_1 hw)) (g := (mkF m 21 #[.val (.int xc)] [(.int (32 : Int32)), (.int xc)])) rfl (hb hby d2_21) _ k))) ?_
        show ownEnds _ _ _ _ (T0.setTop (mkF m 23 #[.val (.int xc)] [(.int (55295 : Int32)), (.int (32 : Int32)), (.int xc)]))
        obtain ⟨v1, T1, L1, X1, hQ1, st1⟩ := ownCallS X0 hx hZ hown (y := (⟨"com/example/markup_reader/markupreader/input/internal/XmlCharsIsCharPinLaw", "in", "(III)Z"⟩ : MethodName)) (as := [(.int xc), (.int (32 : Int32)), (.int (55295 : Int32))]) (wd_20 hw) (wd_21 hw) (wd_18 hw) (wd_22 hw) (by decide) (rm3 l Z a0 hw xc (32 : Int32) (55295 : Int32)  h0 n0 Z0 ) e0 0 (by decide) (by decide) (by decide) (by decide) (g := (mkF m 23 #[.val (.int xc)] [(.int (55295 : Int32)), (.int (32 : Int32)), (.int xc)])) rfl (by rw [hml]; rfl) (rest := []) pd_0 rfl rfl (by show 2 * 0 + _ ≤ _; exact Nat.le_of_eq rfl) (hb hby d2_23)
        obtain ⟨rfl, rfl, e1⟩ := hQ1
        rw [List.append_nil] at X1
        refine ownEnds.law st1 ?_
        show ownEnds _ _ _ _ (T1.setTop (mkF m 26 #[.val (.int xc)] [(.int (FIn xc (32 : Int32) (55295 : Int32)))]))
        by_cases hc26 : (FIn xc (32 : Int32) (55295 : Int32)) = (0 : Int32)
        · refine ownEnds.law (fun t => XS.ifNo X1.here hx rfl (hb hby d2_26) rfl ((if0 _ _).trans (teq hc26).2)) ?_
          show ownEnds _ _ _ _ (T1.setTop (mkF m 29 #[.val (.int xc)] []))
          refine ownEnds.law (fun t k => XS.iloadN X1.here hx rfl (hb hby d2_29) rfl (X1.ldcInt hx hown (mvT hZ (wd_4 hw)) (g := (mkF m 30 #[.val (.int xc)] [(.int xc)])) rfl (hb hby d2_30) _ (X1.ldcInt hx hown (mvT hZ (wd_5 hw)) (g := (mkF m 32 #[.val (.int xc)] [(.int (57344 : Int32)), (.int xc)])) rfl (hb hby d2_32) _ k))) ?_
          show ownEnds _ _ _ _ (T1.setTop (mkF m 34 #[.val (.int xc)] [(.int (65533 : Int32)), (.int (57344 : Int32)), (.int xc)]))
          obtain ⟨v2, T2, L2, X2, hQ2, st2⟩ := ownCallS X1 hx hZ hown (y := (⟨"com/example/markup_reader/markupreader/input/internal/XmlCharsIsCharPinLaw", "in", "(III)Z"⟩ : MethodName)) (as := [(.int xc), (.int (57344 : Int32)), (.int (65533 : Int32))]) (wd_20 hw) (wd_21 hw) (wd_18 hw) (wd_22 hw) (by decide) (rm3 l Z a0 hw xc (57344 : Int32) (65533 : Int32)  h0 n0 Z0 ) e1 0 (by decide) (by decide) (by decide) (by decide) (g := (mkF m 34 #[.val (.int xc)] [(.int (65533 : Int32)), (.int (57344 : Int32)), (.int xc)])) rfl (by rw [hml]; rfl) (rest := []) pd_0 rfl rfl (by show 2 * 0 + _ ≤ _; exact Nat.le_of_eq rfl) (hb hby d2_34)
          obtain ⟨rfl, rfl, e2⟩ := hQ2
          rw [List.append_nil] at X2
          refine ownEnds.law st2 ?_
          show ownEnds _ _ _ _ (T2.setTop (mkF m 37 #[.val (.int xc)] [(.int (FIn xc (57344 : Int32) (65533 : Int32)))]))
          by_cases hc37 : (FIn xc (57344 : Int32) (65533 : Int32)) = (0 : Int32)
          · refine ownEnds.law (fun t => XS.ifNo X2.here hx rfl (hb hby d2_37) rfl ((if0 _ _).trans (teq hc37).2)) ?_
            show ownEnds _ _ _ _ (T2.setTop (mkF m 40 #[.val (.int xc)] []))
            refine ownEnds.law (fun t k => XS.iloadN X2.here hx rfl (hb hby d2_40) rfl (X2.ldcInt hx hown (mvT hZ (wd_7 hw)) (g := (mkF m 41 #[.val (.int xc)] [(.int xc)])) rfl (hb hby d2_41) _ (X2.ldcInt hx hown (mvT hZ (wd_8 hw)) (g := (mkF m 43 #[.val (.int xc)] [(.int (65536 : Int32)), (.int xc)])) rfl (hb hby d2_43) _ k))) ?_
            show ownEnds _ _ _ _ (T2.setTop (mkF m 45 #[.val (.int xc)] [(.int (1114111 : Int32)), (.int (65536 : Int32)), (.int xc)]))
            obtain ⟨v3, T3, L3, X3, hQ3, st3⟩ := ownCallS X2 hx hZ hown (y := (⟨"com/example/markup_reader/markupreader/input/internal/XmlCharsIsCharPinLaw", "in", "(III)Z"⟩ : MethodName)) (as := [(.int xc), (.int (65536 : Int32)), (.int (1114111 : Int32))]) (wd_20 hw) (wd_21 hw) (wd_18 hw) (wd_22 hw) (by decide) (rm3 l Z a0 hw xc (65536 : Int32) (1114111 : Int32)  h0 n0 Z0 ) e2 0 (by decide) (by decide) (by decide) (by decide) (g := (mkF m 45 #[.val (.int xc)] [(.int (1114111 : Int32)), (.int (65536 : Int32)), (.int xc)])) rfl (by rw [hml]; rfl) (rest := []) pd_0 rfl rfl (by show 2 * 0 + _ ≤ _; exact Nat.le_of_eq rfl) (hb hby d2_45)
            obtain ⟨rfl, rfl, e3⟩ := hQ3
            rw [List.append_nil] at X3
            refine ownEnds.law st3 ?_
            show ownEnds _ _ _ _ (T3.setTop (mkF m 48 #[.val (.int xc)] [(.int (FIn xc (65536 : Int32) (1114111 : Int32)))]))
            by_cases hc48 : (FIn xc (65536 : Int32) (1114111 : Int32)) = (0 : Int32)
            · refine ownEnds.law (fun t => XS.ifYes X3.here hx rfl (pc0 := 48) (pc' := 55) rfl (hb hby d2_48) rfl ((if0 _ _).trans (teq hc48).1) (by decide) (by decide)) ?_
              show ownEnds _ _ _ _ (T3.setTop (mkF m 55 #[.val (.int xc)] []))
              refine ownEnds.law (fun t k => XS.iconst X3.here hx rfl (hb hby d2_55) k) ?_
              show ownEnds _ _ _ _ (T3.setTop (mkF m 56 #[.val (.int xc)] [(.int (0 : Int32))]))
              refine ownRetN X3 hlk hx (t := .boolean) hret (by simp) (hb hby d2_56) (by decide) (by decide) ?_
              exact ⟨FI0 (by (try simp only [FIn0, Int32.reduceToInt] at hc3 hc9 hc15 hc26 hc37 hc48); (try simp only [Int32.lt_iff_toInt_lt, ← Int32.toInt_inj, Int32.reduceToInt] at hc3 hc9 hc15 hc26 hc37 hc48); unfold PI; omega), rfl, e3⟩
            · refine ownEnds.law (fun t => XS.ifNo X3.here hx rfl (hb hby d2_48) rfl ((if0 _ _).trans (feq hc48).1)) ?_
              show ownEnds _ _ _ _ (T3.setTop (mkF m 51 #[.val (.int xc)] []))
              refine ownEnds.law (fun t k => XS.iconst X3.here hx rfl (hb hby d2_51) (XS.goto X3.here hx rfl (pc0 := 52) (pc' := 56) rfl (hb hby d2_52) (by decide) (by decide) k)) ?_
              show ownEnds _ _ _ _ (T3.setTop (mkF m 56 #[.val (.int xc)] [(.int (1 : Int32))]))
              refine ownRetN X3 hlk hx (t := .boolean) hret (by simp) (hb hby d2_56) (by decide) (by decide) ?_
              exact ⟨FI1 (by (try simp only [FIn0, Int32.reduceToInt] at hc3 hc9 hc15 hc26 hc37 hc48); (try simp only [Int32.lt_iff_toInt_lt, ← Int32.toInt_inj, Int32.reduceToInt] at hc3 hc9 hc15 hc26 hc37 hc48); unfold PI; omega), rfl, e3⟩
          · refine ownEnds.law (fun t => XS.ifYes X2.here hx rfl (pc0 := 37) (pc' := 51) rfl (hb hby d2_37) rfl ((if0 _ _).trans (feq hc37).2) (by decide) (by decide)) ?_
            show ownEnds _ _ _ _ (T2.setTop (mkF m 51 #[.val (.int xc)] []))
            refine ownEnds.law (fun t k => XS.iconst X2.here hx rfl (hb hby d2_51) (XS.goto X2.here hx rfl (pc0 := 52) (pc' := 56) rfl (hb hby d2_52) (by decide) (by decide) k)) ?_
            show ownEnds _ _ _ _ (T2.setTop (mkF m 56 #[.val (.int xc)] [(.int (1 : Int32))]))
            refine ownRetN X2 hlk hx (t := .boolean) hret (by simp) (hb hby d2_56) (by decide) (by decide) ?_
            exact ⟨FI1 (by (try simp only [FIn0, Int32.reduceToInt] at hc3 hc9 hc15 hc26 hc37); (try simp only [Int32.lt_iff_toInt_lt, ← Int32.toInt_inj, Int32.reduceToInt] at hc3 hc9 hc15 hc26 hc37); unfold PI; omega), rfl, e2⟩
        · refine ownEnds.law (fun t => XS.ifYes X1.here hx rfl (pc0 := 26) (pc' := 51) rfl (hb hby d2_26) rfl ((if0 _ _).trans (feq hc26).2) (by decide) (by decide)) ?_
          show ownEnds _ _ _ _ (T1.setTop (mkF m 51 #[.val (.int xc)] []))
          refine ownEnds.law (fun t k => XS.iconst X1.here hx rfl (hb hby d2_51) (XS.goto X1.here hx rfl (pc0 := 52) (pc' := 56) rfl (hb hby d2_52) (by decide) (by decide) k)) ?_
          show ownEnds _ _ _ _ (T1.setTop (mkF m 56 #[.val (.int xc)] [(.int (1 : Int32))]))
          refine ownRetN X1 hlk hx (t := .boolean) hret (by simp) (hb hby d2_56) (by decide) (by decide) ?_
          exact ⟨FI1 (by (try simp only [FIn0, Int32.reduceToInt] at hc3 hc9 hc15 hc26); (try simp only [Int32.lt_iff_toInt_lt, ← Int32.toInt_inj, Int32.reduceToInt] at hc3 hc9 hc15 hc26); unfold PI; omega), rfl, e1⟩
set_option maxRecDepth 65536 in
set_option maxHeartbeats 40000000 in
theorem rm0 (l : Launch) (Z : State) (a0 : Array Value) (hw : ∀ d ∈ tables_1, d.before a0 Z = true) (xx : Int32) (sel : Int32)  (h0 : Heap) (n0 : Nat) (Z0 : n0 ≤ h0.size)  :
    ownMet l Z x code maxLocals ret tables_1 room_1 #[(.int xx), (.int sel)] h0 (fun v h L => v = some (.int 1) ∧ Fr n0 L) := by
  refine ownMet.of (plainFor_of_name pn_0) ?_
  intro p e s m below meth c T0 hx hby hml hZ hown hnm hret hlk X0 e0
  have hown : s.vm.findClass "com/example/markup_reader/markupreader/input/internal/XmlCharsIsCharPinLaw" = some m.cls := hown
  have hml : c.maxLocals = 6 := hml
  have hret : meth.sig.returnType = some .boolean := hret
  refine ownEnds.cast (ef_rm0 m xx sel) ?_
  show ownEnds _ _ _ _ (T0.setTop (mkF m 0 #[.val (.int xx), .val (.int sel), .unset, .unset, .unset, .unset] []))
  refine ownEnds.law (fun t k => XS.bipush X0.here hx rfl (hb hby at_0) k) ?_
  show ownEnds _ _ _ _ (T0.setTop (mkF m 2 #[.val (.int xx), .val (.int sel), .unset, .unset, .unset, .unset] [(.int (16 : Int32))]))
  obtain ⟨T1, h1, k1, X1, e1, E1, A1, st1⟩ := newP X0 hx hZ (aty := .int) (wd_0 hw) e0 (g := (mkF m 2 #[.val (.int xx), .val (.int sel), .unset, .unset, .unset, .unset] [(.int (16 : Int32))])) rfl (hb hby at_2) rfl (by decide) (cap := 16) (by decide) (by decide) (by decide) (by decide)
  obtain ⟨b1, g1⟩ : ∃ z, z = h0.size := ⟨_, rfl⟩
  rw [← g1] at A1 st1
  refine ownEnds.law st1 ?_
  have V_b1 : Arv Z h1 b1 k1 .int (16 : Int32) [(.int (0 : Int32)), (.int (0 : Int32)), (.int (0 : Int32)), (.int (0 : Int32)), (.int (0 : Int32)), (.int (0 : Int32)), (.int (0 : Int32)), (.int (0 : Int32)), (.int (0 : Int32)), (.int (0 : Int32)), (.int (0 : Int32)), (.int (0 : Int32)), (.int (0 : Int32)), (.int (0 : Int32)), (.int (0 : Int32)), (.int (0 : Int32))] (.int (0 : Int32)) := (Arv.new A1 (by decide)).pad (pad_rep [] (.int (0 : Int32)) 16)
  have g_b1 : n0 ≤ b1 := Nat.le_trans Z0 (Nat.le_of_eq g1.symm)
  have Z1 : n0 ≤ h1.size := Nat.le_trans Z0 E1.1
  show ownEnds _ _ _ _ (T1.setTop (mkF m 4 #[.val (.int xx), .val (.int sel), .unset, .unset, .unset, .unset] [(.ref b1)]))
  refine ownEnds.law (fun t k => XS.dup X1.here hx rfl (hb hby at_4) rfl rfl (XS.iconst X1.here hx rfl (hb hby at_5) (XS.iconst X1.here hx rfl (hb hby at_6) k))) ?_
  show ownEnds _ _ _ _ (T1.setTop (mkF m 7 #[.val (.int xx), .val (.int sel), .unset, .unset, .unset, .unset] [(.int (0 : Int32)), (.int (0 : Int32)), (.ref b1), (.ref b1)]))
  obtain ⟨cl2, Ar2, q2, S2, N2, H2, G2⟩ := id V_b1
  obtain ⟨T2, h2, X2, e2, W2, st2⟩ := stI X1 hx hZ e1 Ar2 (j := (0 : Int32)) (inb_of S2 ⟨by decide, by decide⟩) (g := (mkF m 7 #[.val (.int xx), .val (.int sel), .unset, .unset, .unset, .unset] [(.int (0 : Int32)), (.int (0 : Int32)), (.ref b1), (.ref b1)])) rfl rfl (hb hby at_7)
  refine ownEnds.law st2 ?_
  have V2 : Arv Z h2 b1 k1 .int (16 : Int32) [(.int (0 : Int32)), (.int (0 : Int32)), (.int (0 : Int32)), (.int (0 : Int32)), (.int (0 : Int32)), (.int (0 : Int32)), (.int (0 : Int32)), (.int (0 : Int32)), (.int (0 : Int32)), (.int (0 : Int32)), (.int (0 : Int32)), (.int (0 : Int32)), (.int (0 : Int32)), (.int (0 : Int32)), (.int (0 : Int32)), (.int (0 : Int32))] (.int (0 : Int32)) := Arv.set Ar2 q2 S2 N2 H2 G2 rfl W2 0 rfl (Nat.le_of_ble_eq_true rfl)
  have N2 := Fr.snoc X2 (Fr.nil n0) g_b1
  have Z2 : n0 ≤ h2.size := by rw [W2.size]; exact Z1
  show ownEnds _ _ _ _ (T2.setTop (mkF m 8 #[.val (.int xx), .val (.int sel), .unset, .unset, .unset, .unset] [(.ref b1)]))
  refine ownEnds.law (fun t k => XS.dup X2.here hx rfl (hb hby at_8) rfl rfl (XS.iconst X2.here hx rfl (hb hby at_9) (XS.bipush X2.here hx rfl (hb hby at_10) k))) ?_
  show ownEnds _ _ _ _ (T2.setTop (mkF m 12 #[.val (.int xx), .val (.int sel), .unset, .unset, .unset, .unset] [(.int (9 : Int32)), (.int (1 : Int32)), (.ref b1), (.ref b1)]))
  obtain ⟨cl3, Ar3, q3, S3, N3, H3, G3⟩ := id V2
  obtain ⟨T3, h3, X3, e3, W3, st3⟩ := stI X2 hx hZ e2 Ar3 (j := (1 : Int32)) (inb_of S3 ⟨by decide, by decide⟩) (g := (mkF m 12 #[.val (.int xx), .val (.int sel), .unset, .unset, .unset, .unset] [(.int (9 : Int32)), (.int (1 : Int32)), (.ref b1), (.ref b1)])) rfl rfl (hb hby at_12)
  refine ownEnds.law st3 ?_
  have V3 : Arv Z h3 b1 k1 .int (16 : Int32) [(.int (0 : Int32)), (.int (9 : Int32)), (.int (0 : Int32)), (.int (0 : Int32)), (.int (0 : Int32)), (.int (0 : Int32)), (.int (0 : Int32)), (.int (0 : Int32)), (.int (0 : Int32)), (.int (0 : Int32)), (.int (0 : Int32)), (.int (0 : Int32)), (.int (0 : Int32)), (.int (0 : Int32)), (.int (0 : Int32)), (.int (0 : Int32))] (.int (0 : Int32)) := Arv.set Ar3 q3 S3 N3 H3 G3 rfl W3 1 rfl (Nat.le_of_ble_eq_true rfl)
  have N3 := Fr.snoc X3 N2 g_b1
  have Z3 : n0 ≤ h3.size := by rw [W3.size]; exact Z2
  show ownEnds _ _ _ _ (T3.setTop (mkF m 13 #[.val (.int xx), .val (.int sel), .unset, .unset, .unset, .unset] [(.ref b1)]))
  refine ownEnds.law (fun t k => XS.dup X3.here hx rfl (hb hby at_13) rfl rfl (XS.iconst X3.here hx rfl (hb hby at_14) (XS.bipush X3.here hx rfl (hb hby at_15) k))) ?_
  show ownEnds _ _ _ _ (T3.setTop (mkF m 17 #[.val (.int xx), .val (.int sel), .unset, .unset, .unset, .unset] [(.int (10 : Int32)), (.int (2 : Int32)), (.ref b1), (.ref b1)]))
  obtain ⟨cl4, Ar4, q4, S4, N4, H4, G4⟩ := id V3
  obtain ⟨T4, h4, X4, e4, W4, st4⟩ := stI X3 hx hZ e3 Ar4 (j := (2 : Int32)) (inb_of S4 ⟨by decide, by decide⟩) (g := (mkF m 17 #[.val (.int xx), .val (.int sel), .unset, .unset, .unset, .unset] [(.int (10 : Int32)), (.int (2 : Int32)), (.ref b1), (.ref b1)])) rfl rfl (hb hby at_17)
  refine ownEnds.law st4 ?_
  have V4 : Arv Z h4 b1 k1 .int (16 : Int32) [(.int (0 : Int32)), (.int (9 : Int32)), (.int (10 : Int32)), (.int (0 : Int32)), (.int (0 : Int32)), (.int (0 : Int32)), (.int (0 : Int32)), (.int (0 : Int32)), (.int (0 : Int32)), (.int (0 : Int32)), (.int (0 : Int32)), (.int (0 : Int32)), (.int (0 : Int32)), (.int (0 : Int32)), (.int (0 : Int32)), (.int (0 : Int32))] (.int (0 : Int32)) := Arv.set Ar4 q4 S4 N4 H4 G4 rfl W4 2 rfl (Nat.le_of_ble_eq_true rfl)
  have N4 := Fr.snoc X4 N3 g_b1
  have Z4 : n0 ≤ h4.size := by rw [W4.size]; exact Z3
  show ownEnds _ _ _ _ (T4.setTop (mkF m 18 #[.val (.int xx), .val (.int sel), .unset, .unset, .unset, .unset] [(.ref b1)]))
  refine ownEnds.law (fun t k => XS.dup X4.here hx rfl (hb hby at_18) rfl rfl (XS.iconst X4.here hx rfl (hb hby at_19) (XS.bipush X4.here hx rfl (hb hby at_20) k))) ?_
  show ownEnds _ _ _ _ (T4.setTop (mkF m 22 #[.val (.int xx), .val (.int sel), .unset, .unset, .unset, .unset] [(.int (13 : Int32)), (.int (3 : Int32)), (.ref b1), (.ref b1)]))
  obtain ⟨cl5, Ar5, q5, S5, N5, H5, G5⟩ := id V4
  obtain ⟨T5, h5, X5, e5, W5, st5⟩ := stI X4 hx hZ e4 Ar5 (j := (3 : Int32)) (inb_of S5 ⟨by decide, by decide⟩) (g := (mkF m 22 #[.val (.int xx), .val (.int sel), .unset, .unset, .unset, .unset] [(.int (13 : Int32)), (.int (3 : Int32)), (.ref b1), (.ref b1)])) rfl rfl (hb hby at_22)
  refine ownEnds.law st5 ?_
  have V5 : Arv Z h5 b1 k1 .int (16 : Int32) [(.int (0 : Int32)), (.int (9 : Int32)), (.int (10 : Int32)), (.int (13 : Int32)), (.int (0 : Int32)), (.int (0 : Int32)), (.int (0 : Int32)), (.int (0 : Int32)), (.int (0 : Int32)), (.int (0 : Int32)), (.int (0 : Int32)), (.int (0 : Int32)), (.int (0 : Int32)), (.int (0 : Int32)), (.int (0 : Int32)), (.int (0 : Int32))] (.int (0 : Int32)) := Arv.set Ar5 q5 S5 N5 H5 G5 rfl W5 3 rfl (Nat.le_of_ble_eq_true rfl)
  have N5 := Fr.snoc X5 N4 g_b1
  have Z5 : n0 ≤ h5.size := by rw [W5.size]; exact Z4
  show ownEnds _ _ _ _ (T5.setTop (mkF m 23 #[.val (.int xx), .val (.int sel), .unset, .unset, .unset, .unset] [(.ref b1)]))
  refine ownEnds.law (fun t k => XS.dup X5.here hx rfl (hb hby at_23) rfl rfl (XS.iconst X5.here hx rfl (hb hby at_24) (XS.bipush X5.here hx rfl (hb hby at_25) k))) ?_
  show ownEnds _ _ _ _ (T5.setTop (mkF m 27 #[.val (.int xx), .val (.int sel), .unset, .unset, .unset, .unset] [(.int (32 : Int32)), (.int (4 : Int32)), (.ref b1), (.ref b1)]))
  obtain ⟨cl6, Ar6, q6, S6, N6, H6, G6⟩ := id V5
  obtain ⟨T6, h6, X6, e6, W6, st6⟩ := stI X5 hx hZ e5 Ar6 (j := (4 : Int32)) (inb_of S6 ⟨by decide, by decide⟩) (g := (mkF m 27 #[.val (.int xx), .val (.int sel), .unset, .unset, .unset, .unset] [(.int (32 : Int32)), (.int (4 : Int32)), (.ref b1), (.ref b1)])) rfl rfl (hb hby at_27)
  refine ownEnds.law st6 ?_
  have V6 : Arv Z h6 b1 k1 .int (16 : Int32) [(.int (0 : Int32)), (.int (9 : Int32)), (.int (10 : Int32)), (.int (13 : Int32)), (.int (32 : Int32)), (.int (0 : Int32)), (.int (0 : Int32)), (.int (0 : Int32)), (.int (0 : Int32)), (.int (0 : Int32)), (.int (0 : Int32)), (.int (0 : Int32)), (.int (0 : Int32)), (.int (0 : Int32)), (.int (0 : Int32)), (.int (0 : Int32))] (.int (0 : Int32)) := Arv.set Ar6 q6 S6 N6 H6 G6 rfl W6 4 rfl (Nat.le_of_ble_eq_true rfl)
  have N6 := Fr.snoc X6 N5 g_b1
  have Z6 : n0 ≤ h6.size := by rw [W6.size]; exact Z5
  show ownEnds _ _ _ _ (T6.setTop (mkF m 28 #[.val (.int xx), .val (.int sel), .unset, .unset, .unset, .unset] [(.ref b1)]))
  refine ownEnds.law (fun t k => XS.dup X6.here hx rfl (hb hby at_28) rfl rfl (XS.iconst X6.here hx rfl (hb hby at_29) (X6.ldcInt hx hown (mvT hZ (wd_1 hw)) (g := (mkF m 30 #[.val (.int xx), .val (.int sel), .unset, .unset, .unset, .unset] [(.int (5 : Int32)), (.ref b1), (.ref b1)])) rfl (hb hby at_30) _ k))) ?_
  show ownEnds _ _ _ _ (T6.setTop (mkF m 32 #[.val (.int xx), .val (.int sel), .unset, .unset, .unset, .unset] [(.int (55295 : Int32)), (.int (5 : Int32)), (.ref b1), (.ref b1)]))
  obtain ⟨cl7, Ar7, q7, S7, N7, H7, G7⟩ := id V6
  obtain ⟨T7, h7, X7, e7, W7, st7⟩ := stI X6 hx hZ e6 Ar7 (j := (5 : Int32)) (inb_of S7 ⟨by decide, by decide⟩) (g := (mkF m 32 #[.val (.int xx), .val (.int sel), .unset, .unset, .unset, .unset] [(.int (55295 : Int32)), (.int (5 : Int32)), (.ref b1), (.ref b1)])) rfl rfl (hb hby at_32)
  refine ownEnds.law st7 ?_
  have V7 : Arv Z h7 b1 k1 .int (16 : Int32) [(.int (0 : Int32)), (.int (9 : Int32)), (.int (10 : Int32)), (.int (13 : Int32)), (.int (32 : Int32)), (.int (55295 : Int32)), (.int (0 : Int32)), (.int (0 : Int32)), (.int (0 : Int32)), (.int (0 : Int32)), (.int (0 : Int32)), (.int (0 : Int32)), (.int (0 : Int32)), (.int (0 : Int32)), (.int (0 : Int32)), (.int (0 : Int32))] (.int (0 : Int32)) := Arv.set Ar7 q7 S7 N7 H7 G7 rfl W7 5 rfl (Nat.le_of_ble_eq_true rfl)
  have N7 := Fr.snoc X7 N6 g_b1
  have Z7 : n0 ≤ h7.size := by rw [W7.size]; exact Z6
  show ownEnds _ _ _ _ (T7.setTop (mkF m 33 #[.val (.int xx), .val (.int sel), .unset, .unset, .unset, .unset] [(.ref b1)]))
  refine ownEnds.law (fun t k => XS.dup X7.here hx rfl (hb hby at_33) rfl rfl (XS.bipush X7.here hx rfl (hb hby at_34) (X7.ldcInt hx hown (mvT hZ (wd_2 hw)) (g := (mkF m 36 #[.val (.int xx), .val (.int sel), .unset, .unset, .unset, .unset] [(.int (6 : Int32)), (.ref b1), (.ref b1)])) rfl (hb hby at_36) _ k))) ?_
  show ownEnds _ _ _ _ (T7.setTop (mkF m 38 #[.val (.int xx), .val (.int sel), .unset, .unset, .unset, .unset] [(.int (55296 : Int32)), (.int (6 : Int32)), (.ref b1), (.ref b1)]))
  obtain ⟨cl8, Ar8, q8, S8, N8, H8, G8⟩ := id V7
  obtain ⟨T8, h8, X8, e8, W8, st8⟩ := stI X7 hx hZ e7 Ar8 (j := (6 : Int32)) (inb_of S8 ⟨by decide, by decide⟩) (g := (mkF m 38 #[.val (.int xx), .val (.int sel), .unset, .unset, .unset, .unset] [(.int (55296 : Int32)), (.int (6 : Int32)), (.ref b1), (.ref b1)])) rfl rfl (hb hby at_38)
  refine ownEnds.law st8 ?_
  have V8 : Arv Z h8 b1 k1 .int (16 : Int32) [(.int (0 : Int32)), (.int (9 : Int32)), (.int (10 : Int32)), (.int (13 : Int32)), (.int (32 : Int32)), (.int (55295 : Int32)), (.int (55296 : Int32)), (.int (0 : Int32)), (.int (0 : Int32)), (.int (0 : Int32)), (.int (0 : Int32)), (.int (0 : Int32)), (.int (0 : Int32)), (.int (0 : Int32)), (.int (0 : Int32)), (.int (0 : Int32))] (.int (0 : Int32)) := Arv.set Ar8 q8 S8 N8 H8 G8 rfl W8 6 rfl (Nat.le_of_ble_eq_true rfl)
  have N8 := Fr.snoc X8 N7 g_b1
  have Z8 : n0 ≤ h8.size := by rw [W8.size]; exact Z7
  show ownEnds _ _ _ _ (T8.setTop (mkF m 39 #[.val (.int xx), .val (.int sel), .unset, .unset, .unset, .unset] [(.ref b1)]))
  refine ownEnds.law (fun t k => XS.dup X8.here hx rfl (hb hby at_39) rfl rfl (XS.bipush X8.here hx rfl (hb hby at_40) (X8.ldcInt hx hown (mvT hZ (wd_3 hw)) (g := (mkF m 42 #[.val (.int xx), .val (.int sel), .unset, .unset, .unset, .unset] [(.int (7 : Int32)), (.ref b1), (.ref b1)])) rfl (hb hby at_42) _ k))) ?_
  show ownEnds _ _ _ _ (T8.setTop (mkF m 44 #[.val (.int xx), .val (.int sel), .unset, .unset, .unset, .unset] [(.int (57343 : Int32)), (.int (7 : Int32)), (.ref b1), (.ref b1)]))
  obtain ⟨cl9, Ar9, q9, S9, N9, H9, G9⟩ := id V8
  obtain ⟨T9, h9, X9, e9, W9, st9⟩ := stI X8 hx hZ e8 Ar9 (j := (7 : Int32)) (inb_of S9 ⟨by decide, by decide⟩) (g := (mkF m 44 #[.val (.int xx), .val (.int sel), .unset, .unset, .unset, .unset] [(.int (57343 : Int32)), (.int (7 : Int32)), (.ref b1), (.ref b1)])) rfl rfl (hb hby at_44)
  refine ownEnds.law st9 ?_
  have V9 : Arv Z h9 b1 k1 .int (16 : Int32) [(.int (0 : Int32)), (.int (9 : Int32)), (.int (10 : Int32)), (.int (13 : Int32)), (.int (32 : Int32)), (.int (55295 : Int32)), (.int (55296 : Int32)), (.int (57343 : Int32)), (.int (0 : Int32)), (.int (0 : Int32)), (.int (0 : Int32)), (.int (0 : Int32)), (.int (0 : Int32)), (.int (0 : Int32)), (.int (0 : Int32)), (.int (0 : Int32))] (.int (0 : Int32)) := Arv.set Ar9 q9 S9 N9 H9 G9 rfl W9 7 rfl (Nat.le_of_ble_eq_true rfl)
  have N9 := Fr.snoc X9 N8 g_b1
  have Z9 : n0 ≤ h9.size := by rw [W9.size]; exact Z8
  show ownEnds _ _ _ _ (T9.setTop (mkF m 45 #[.val (.int xx), .val (.int sel), .unset, .unset, .unset, .unset] [(.ref b1)]))
  refine ownEnds.law (fun t k => XS.dup X9.here hx rfl (hb hby at_45) rfl rfl (XS.bipush X9.here hx rfl (hb hby at_46) (X9.ldcInt hx hown (mvT hZ (wd_4 hw)) (g := (mkF m 48 #[.val (.int xx), .val (.int sel), .unset, .unset, .unset, .unset] [(.int (8 : Int32)), (.ref b1), (.ref b1)])) rfl (hb hby at_48) _ k))) ?_
  show ownEnds _ _ _ _ (T9.setTop (mkF m 50 #[.val (.int xx), .val (.int sel), .unset, .unset, .unset, .unset] [(.int (57344 : Int32)), (.int (8 : Int32)), (.ref b1), (.ref b1)]))
  obtain ⟨cl10, Ar10, q10, S10, N10, H10, G10⟩ := id V9
  obtain ⟨T10, h10, X10, e10, W10, st10⟩ := stI X9 hx hZ e9 Ar10 (j := (8 : Int32)) (inb_of S10 ⟨by decide, by decide⟩) (g := (mkF m 50 #[.val (.int xx), .val (.int sel), .unset, .unset, .unset, .unset] [(.int (57344 : Int32)), (.int (8 : Int32)), (.ref b1), (.ref b1)])) rfl rfl (hb hby at_50)
  refine ownEnds.law st10 ?_
  have V10 : Arv Z h10 b1 k1 .int (16 : Int32) [(.int (0 : Int32)), (.int (9 : Int32)), (.int (10 : Int32)), (.int (13 : Int32)), (.int (32 : Int32)), (.int (55295 : Int32)), (.int (55296 : Int32)), (.int (57343 : Int32)), (.int (57344 : Int32)), (.int (0 : Int32)), (.int (0 : Int32)), (.int (0 : Int32)), (.int (0 : Int32)), (.int (0 : Int32)), (.int (0 : Int32)), (.int (0 : Int32))] (.int (0 : Int32)) := Arv.set Ar10 q10 S10 N10 H10 G10 rfl W10 8 rfl (Nat.le_of_ble_eq_true rfl)
  have N10 := Fr.snoc X10 N9 g_b1
  have Z10 : n0 ≤ h10.size := by rw [W10.size]; exact Z9
  show ownEnds _ _ _ _ (T10.setTop (mkF m 51 #[.val (.int xx), .val (.int sel), .unset, .unset, .unset, .unset] [(.ref b1)]))
  refine ownEnds.law (fun t k => XS.dup X10.here hx rfl (hb hby at_51) rfl rfl (XS.bipush X10.here hx rfl (hb hby at_52) (X10.ldcInt hx hown (mvT hZ (wd_5 hw)) (g := (mkF m 54 #[.val (.int xx), .val (.int sel), .unset, .unset, .unset, .unset] [(.int (9 : Int32)), (.ref b1), (.ref b1)])) rfl (hb hby at_54) _ k))) ?_
  show ownEnds _ _ _ _ (T10.setTop (mkF m 56 #[.val (.int xx), .val (.int sel), .unset, .unset, .unset, .unset] [(.int (65533 : Int32)), (.int (9 : Int32)), (.ref b1), (.ref b1)]))
  obtain ⟨cl11, Ar11, q11, S11, N11, H11, G11⟩ := id V10
  obtain ⟨T11, h11, X11, e11, W11, st11⟩ := stI X10 hx hZ e10 Ar11 (j := (9 : Int32)) (inb_of S11 ⟨by decide, by decide⟩) (g := (mkF m 56 #[.val (.int xx), .val (.int sel), .unset, .unset, .unset, .unset] [(.int (65533 : Int32)), (.int (9 : Int32)), (.ref b1), (.ref b1)])) rfl rfl (hb hby at_56)
  refine ownEnds.law st11 ?_
  have V11 : Arv Z h11 b1 k1 .int (16 : Int32) [(.int (0 : Int32)), (.int (9 : Int32)), (.int (10 : Int32)), (.int (13 : Int32)), (.int (32 : Int32)), (.int (55295 : Int32)), (.int (55296 : Int32)), (.int (57343 : Int32)), (.int (57344 : Int32)), (.int (65533 : Int32)), (.int (0 : Int32)), (.int (0 : Int32)), (.int (0 : Int32)), (.int (0 : Int32)), (.int (0 : Int32)), (.int (0 : Int32))] (.int (0 : Int32)) := Arv.set Ar11 q11 S11 N11 H11 G11 rfl W11 9 rfl (Nat.le_of_ble_eq_true rfl)
  have N11 := Fr.snoc X11 N10 g_b1
  have Z11 : n0 ≤ h11.size := by rw [W11.size]; exact Z10
  show ownEnds _ _ _ _ (T11.setTop (mkF m 57 #[.val (.int xx), .val (.int sel), .unset, .unset, .unset, .unset] [(.ref b1)]))
  refine ownEnds.law (fun t k => XS.dup X11.here hx rfl (hb hby at_57) rfl rfl (XS.bipush X11.here hx rfl (hb hby at_58) (X11.ldcInt hx hown (mvT hZ (wd_6 hw)) (g := (mkF m 60 #[.val (.int xx), .val (.int sel), .unset, .unset, .unset, .unset] [(.int (10 : Int32)), (.ref b1), (.ref b1)])) rfl (hb hby at_60) _ k))) ?_
  show ownEnds _ _ _ _ (T11.setTop (mkF m 62 #[.val (.int xx), .val (.int sel), .unset, .unset, .unset, .unset] [(.int (65534 : Int32)), (.int (10 : Int32)), (.ref b1), (.ref b1)]))
  obtain ⟨cl12, Ar12, q12, S12, N12, H12, G12⟩ := id V11
  obtain ⟨T12, h12, X12, e12, W12, st12⟩ := stI X11 hx hZ e11 Ar12 (j := (10 : Int32)) (inb_of S12 ⟨by decide, by decide⟩) (g := (mkF m 62 #[.val (.int xx), .val (.int sel), .unset, .unset, .unset, .unset] [(.int (65534 : Int32)), (.int (10 : Int32)), (.ref b1), (.ref b1)])) rfl rfl (hb hby at_62)
  refine ownEnds.law st12 ?_
  have V12 : Arv Z h12 b1 k1 .int (16 : Int32) [(.int (0 : Int32)), (.int (9 : Int32)), (.int (10 : Int32)), (.int (13 : Int32)), (.int (32 : Int32)), (.int (55295 : Int32)), (.int (55296 : Int32)), (.int (57343 : Int32)), (.int (57344 : Int32)), (.int (65533 : Int32)), (.int (65534 : Int32)), (.int (0 : Int32)), (.int (0 : Int32)), (.int (0 : Int32)), (.int (0 : Int32)), (.int (0 : Int32))] (.int (0 : Int32)) := Arv.set Ar12 q12 S12 N12 H12 G12 rfl W12 10 rfl (Nat.le_of_ble_eq_true rfl)
  have N12 := Fr.snoc X12 N11 g_b1
  have Z12 : n0 ≤ h12.size := by rw [W12.size]; exact Z11
  show ownEnds _ _ _ _ (T12.setTop (mkF m 63 #[.val (.int xx), .val (.int sel), .unset, .unset, .unset, .unset] [(.ref b1)]))
  refine ownEnds.law (fun t k => XS.dup X12.here hx rfl (hb hby at_63) rfl rfl (XS.bipush X12.here hx rfl (hb hby at_64) (X12.ldcInt hx hown (mvT hZ (wd_7 hw)) (g := (mkF m 66 #[.val (.int xx), .val (.int sel), .unset, .unset, .unset, .unset] [(.int (11 : Int32)), (.ref b1), (.ref b1)])) rfl (hb hby at_66) _ k))) ?_
  show ownEnds _ _ _ _ (T12.setTop (mkF m 68 #[.val (.int xx), .val (.int sel), .unset, .unset, .unset, .unset] [(.int (65536 : Int32)), (.int (11 : Int32)), (.ref b1), (.ref b1)]))
  obtain ⟨cl13, Ar13, q13, S13, N13, H13, G13⟩ := id V12
  obtain ⟨T13, h13, X13, e13, W13, st13⟩ := stI X12 hx hZ e12 Ar13 (j := (11 : Int32)) (inb_of S13 ⟨by decide, by decide⟩) (g := (mkF m 68 #[.val (.int xx), .val (.int sel), .unset, .unset, .unset, .unset] [(.int (65536 : Int32)), (.int (11 : Int32)), (.ref b1), (.ref b1)])) rfl rfl (hb hby at_68)
  refine ownEnds.law st13 ?_
  have V13 : Arv Z h13 b1 k1 .int (16 : Int32) [(.int (0 : Int32)), (.int (9 : Int32)), (.int (10 : Int32)), (.int (13 : Int32)), (.int (32 : Int32)), (.int (55295 : Int32)), (.int (55296 : Int32)), (.int (57343 : Int32)), (.int (57344 : Int32)), (.int (65533 : Int32)), (.int (65534 : Int32)), (.int (65536 : Int32)), (.int (0 : Int32)), (.int (0 : Int32)), (.int (0 : Int32)), (.int (0 : Int32))] (.int (0 : Int32)) := Arv.set Ar13 q13 S13 N13 H13 G13 rfl W13 11 rfl (Nat.le_of_ble_eq_true rfl)
  have N13 := Fr.snoc X13 N12 g_b1
  have Z13 : n0 ≤ h13.size := by rw [W13.size]; exact Z12
  show ownEnds _ _ _ _ (T13.setTop (mkF m 69 #[.val (.int xx), .val (.int sel), .unset, .unset, .unset, .unset] [(.ref b1)]))
  refine ownEnds.law (fun t k => XS.dup X13.here hx rfl (hb hby at_69) rfl rfl (XS.bipush X13.here hx rfl (hb hby at_70) (X13.ldcInt hx hown (mvT hZ (wd_8 hw)) (g := (mkF m 72 #[.val (.int xx), .val (.int sel), .unset, .unset, .unset, .unset] [(.int (12 : Int32)), (.ref b1), (.ref b1)])) rfl (hb hby at_72) _ k))) ?_
  show ownEnds _ _ _ _ (T13.setTop (mkF m 74 #[.val (.int xx), .val (.int sel), .unset, .unset, .unset, .unset] [(.int (1114111 : Int32)), (.int (12 : Int32)), (.ref b1), (.ref b1)]))
  obtain ⟨cl14, Ar14, q14, S14, N14, H14, G14⟩ := id V13
  obtain ⟨T14, h14, X14, e14, W14, st14⟩ := stI X13 hx hZ e13 Ar14 (j := (12 : Int32)) (inb_of S14 ⟨by decide, by decide⟩) (g := (mkF m 74 #[.val (.int xx), .val (.int sel), .unset, .unset, .unset, .unset] [(.int (1114111 : Int32)), (.int (12 : Int32)), (.ref b1), (.ref b1)])) rfl rfl (hb hby at_74)
  refine ownEnds.law st14 ?_
  have V14 : Arv Z h14 b1 k1 .int (16 : Int32) [(.int (0 : Int32)), (.int (9 : Int32)), (.int (10 : Int32)), (.int (13 : Int32)), (.int (32 : Int32)), (.int (55295 : Int32)), (.int (55296 : Int32)), (.int (57343 : Int32)), (.int (57344 : Int32)), (.int (65533 : Int32)), (.int (65534 : Int32)), (.int (65536 : Int32)), (.int (1114111 : Int32)), (.int (0 : Int32)), (.int (0 : Int32)), (.int (0 : Int32))] (.int (0 : Int32)) := Arv.set Ar14 q14 S14 N14 H14 G14 rfl W14 12 rfl (Nat.le_of_ble_eq_true rfl)
  have N14 := Fr.snoc X14 N13 g_b1
  have Z14 : n0 ≤ h14.size := by rw [W14.size]; exact Z13
  show ownEnds _ _ _ _ (T14.setTop (mkF m 75 #[.val (.int xx), .val (.int sel), .unset, .unset, .unset, .unset] [(.ref b1)]))
  refine ownEnds.law (fun t k => XS.dup X14.here hx rfl (hb hby at_75) rfl rfl (XS.bipush X14.here hx rfl (hb hby at_76) (X14.ldcInt hx hown (mvT hZ (wd_9 hw)) (g := (mkF m 78 #[.val (.int xx), .val (.int sel), .unset, .unset, .unset, .unset] [(.int (13 : Int32)), (.ref b1), (.ref b1)])) rfl (hb hby at_78) _ k))) ?_
  show ownEnds _ _ _ _ (T14.setTop (mkF m 80 #[.val (.int xx), .val (.int sel), .unset, .unset, .unset, .unset] [(.int (1114112 : Int32)), (.int (13 : Int32)), (.ref b1), (.ref b1)]))
  obtain ⟨cl15, Ar15, q15, S15, N15, H15, G15⟩ := id V14
  obtain ⟨T15, h15, X15, e15, W15, st15⟩ := stI X14 hx hZ e14 Ar15 (j := (13 : Int32)) (inb_of S15 ⟨by decide, by decide⟩) (g := (mkF m 80 #[.val (.int xx), .val (.int sel), .unset, .unset, .unset, .unset] [(.int (1114112 : Int32)), (.int (13 : Int32)), (.ref b1), (.ref b1)])) rfl rfl (hb hby at_80)
  refine ownEnds.law st15 ?_
  have V15 : Arv Z h15 b1 k1 .int (16 : Int32) [(.int (0 : Int32)), (.int (9 : Int32)), (.int (10 : Int32)), (.int (13 : Int32)), (.int (32 : Int32)), (.int (55295 : Int32)), (.int (55296 : Int32)), (.int (57343 : Int32)), (.int (57344 : Int32)), (.int (65533 : Int32)), (.int (65534 : Int32)), (.int (65536 : Int32)), (.int (1114111 : Int32)), (.int (1114112 : Int32)), (.int (0 : Int32)), (.int (0 : Int32))] (.int (0 : Int32)) := Arv.set Ar15 q15 S15 N15 H15 G15 rfl W15 13 rfl (Nat.le_of_ble_eq_true rfl)
  have N15 := Fr.snoc X15 N14 g_b1
  have Z15 : n0 ≤ h15.size := by rw [W15.size]; exact Z14
  show ownEnds _ _ _ _ (T15.setTop (mkF m 81 #[.val (.int xx), .val (.int sel), .unset, .unset, .unset, .unset] [(.ref b1)]))
  refine ownEnds.law (fun t k => XS.dup X15.here hx rfl (hb hby at_81) rfl rfl (XS.bipush X15.here hx rfl (hb hby at_82) (X15.ldcInt hx hown (mvT hZ (wd_10 hw)) (g := (mkF m 84 #[.val (.int xx), .val (.int sel), .unset, .unset, .unset, .unset] [(.int (14 : Int32)), (.ref b1), (.ref b1)])) rfl (hb hby at_84) _ k))) ?_
  show ownEnds _ _ _ _ (T15.setTop (mkF m 86 #[.val (.int xx), .val (.int sel), .unset, .unset, .unset, .unset] [(.int (-2147483648 : Int32)), (.int (14 : Int32)), (.ref b1), (.ref b1)]))
  obtain ⟨cl16, Ar16, q16, S16, N16, H16, G16⟩ := id V15
  obtain ⟨T16, h16, X16, e16, W16, st16⟩ := stI X15 hx hZ e15 Ar16 (j := (14 : Int32)) (inb_of S16 ⟨by decide, by decide⟩) (g := (mkF m 86 #[.val (.int xx), .val (.int sel), .unset, .unset, .unset, .unset] [(.int (-2147483648 : Int32)), (.int (14 : Int32)), (.ref b1), (.ref b1)])) rfl rfl (hb hby at_86)
  refine ownEnds.law st16 ?_
  have V16 : Arv Z h16 b1 k1 .int (16 : Int32) [(.int (0 : Int32)), (.int (9 : Int32)), (.int (10 : Int32)), (.int (13 : Int32)), (.int (32 : Int32)), (.int (55295 : Int32)), (.int (55296 : Int32)), (.int (57343 : Int32)), (.int (57344 : Int32)), (.int (65533 : Int32)), (.int (65534 : Int32)), (.int (65536 : Int32)), (.int (1114111 : Int32)), (.int (1114112 : Int32)), (.int (-2147483648 : Int32)), (.int (0 : Int32))] (.int (0 : Int32)) := Arv.set Ar16 q16 S16 N16 H16 G16 rfl W16 14 rfl (Nat.le_of_ble_eq_true rfl)
  have N16 := Fr.snoc X16 N15 g_b1
  have Z16 : n0 ≤ h16.size := by rw [W16.size]; exact Z15
  show ownEnds _ _ _ _ (T16.setTop (mkF m 87 #[.val (.int xx), .val (.int sel), .unset, .unset, .unset, .unset] [(.ref b1)]))
  refine ownEnds.law (fun t k => XS.dup X16.here hx rfl (hb hby at_87) rfl rfl (XS.bipush X16.here hx rfl (hb hby at_88) (X16.ldcInt hx hown (mvT hZ (wd_11 hw)) (g := (mkF m 90 #[.val (.int xx), .val (.int sel), .unset, .unset, .unset, .unset] [(.int (15 : Int32)), (.ref b1), (.ref b1)])) rfl (hb hby at_90) _ k))) ?_
  show ownEnds _ _ _ _ (T16.setTop (mkF m 92 #[.val (.int xx), .val (.int sel), .unset, .unset, .unset, .unset] [(.int (2147483647 : Int32)), (.int (15 : Int32)), (.ref b1), (.ref b1)]))
  obtain ⟨cl17, Ar17, q17, S17, N17, H17, G17⟩ := id V16
  obtain ⟨T17, h17, X17, e17, W17, st17⟩ := stI X16 hx hZ e16 Ar17 (j := (15 : Int32)) (inb_of S17 ⟨by decide, by decide⟩) (g := (mkF m 92 #[.val (.int xx), .val (.int sel), .unset, .unset, .unset, .unset] [(.int (2147483647 : Int32)), (.int (15 : Int32)), (.ref b1), (.ref b1)])) rfl rfl (hb hby at_92)
  refine ownEnds.law st17 ?_
  have V17 : Arv Z h17 b1 k1 .int (16 : Int32) [(.int (0 : Int32)), (.int (9 : Int32)), (.int (10 : Int32)), (.int (13 : Int32)), (.int (32 : Int32)), (.int (55295 : Int32)), (.int (55296 : Int32)), (.int (57343 : Int32)), (.int (57344 : Int32)), (.int (65533 : Int32)), (.int (65534 : Int32)), (.int (65536 : Int32)), (.int (1114111 : Int32)), (.int (1114112 : Int32)), (.int (-2147483648 : Int32)), (.int (2147483647 : Int32))] (.int (0 : Int32)) := Arv.set Ar17 q17 S17 N17 H17 G17 rfl W17 15 rfl (Nat.le_of_ble_eq_true rfl)
  have N17 := Fr.snoc X17 N16 g_b1
  have Z17 : n0 ≤ h17.size := by rw [W17.size]; exact Z16
  show ownEnds _ _ _ _ (T17.setTop (mkF m 93 #[.val (.int xx), .val (.int sel), .unset, .unset, .unset, .unset] [(.ref b1)]))
  refine ownEnds.law (fun t k => XS.astoreN X17.here hx rfl (hb hby at_93) rfl rfl (l' := #[.val (.int xx), .val (.int sel), .val (.ref b1), .unset, .unset, .unset]) rfl (XS.iloadN X17.here hx rfl (hb hby at_94) rfl (XS.iconst X17.here hx rfl (hb hby at_95) (XS.iand X17.here hx rfl (hb hby at_96) rfl k)))) ?_
  show ownEnds _ _ _ _ (T17.setTop (mkF m 97 #[.val (.int xx), .val (.int sel), .val (.ref b1), .unset, .unset, .unset] [(.int (sel &&& (1 : Int32)))]))
  by_cases hc97 : (sel &&& (1 : Int32)) = (0 : Int32)
  · refine ownEnds.law (fun t => XS.ifNo X17.here hx rfl (hb hby at_97) rfl ((if0 _ _).trans (teq hc97).2)) ?_
    show ownEnds _ _ _ _ (T17.setTop (mkF m 100 #[.val (.int xx), .val (.int sel), .val (.ref b1), .unset, .unset, .unset] []))
    refine ownEnds.law (fun t k => XS.iloadN X17.here hx rfl (hb hby at_100) rfl (XS.istoreN X17.here hx rfl (hb hby at_101) rfl (l' := #[.val (.int xx), .val (.int sel), .val (.ref b1), .val (.int xx), .unset, .unset]) rfl (XS.goto X17.here hx rfl (pc0 := 102) (pc' := 132) rfl (hb hby at_102) (by decide) (by decide) (XS.iloadN X17.here hx rfl (hb hby at_132) rfl k)))) ?_
    show ownEnds _ _ _ _ (T17.setTop (mkF m 133 #[.val (.int xx), .val (.int sel), .val (.ref b1), .val (.int xx), .unset, .unset] [(.int xx)]))
    obtain ⟨v18, T18, L18, X18, hQ18, st18⟩ := ownCallS X17 hx hZ hown (y := (⟨"com/example/markup_reader/markupreader/input/internal/XmlChars", "isChar", "(I)Z"⟩ : MethodName)) (as := [(.int xx)]) (wd_12 hw) (wd_13 hw) (wd_14 hw) (wd_15 hw) (by decide) (rm1 l Z a0 hw xx  h17 n0 Z17 ) e17 0 (by decide) (by decide) (by decide) (by decide) (g := (mkF m 133 #[.val (.int xx), .val (.int sel), .val (.ref b1), .val (.int xx), .unset, .unset] [(.int xx)])) rfl (by rw [hml]; rfl) (rest := []) pd_1 rfl rfl (by show 2 * 0 + _ ≤ _; exact Nat.le_of_eq rfl) (hb hby at_133)
    obtain ⟨rfl, rfl, e18⟩ := hQ18
    rw [List.append_nil] at X18
    refine ownEnds.law st18 ?_
    show ownEnds _ _ _ _ (T18.setTop (mkF m 136 #[.val (.int xx), .val (.int sel), .val (.ref b1), .val (.int xx), .unset, .unset] [(.int (FI xx))]))
    refine ownEnds.law (fun t k => XS.iloadN X18.here hx rfl (hb hby at_136) rfl k) ?_
    show ownEnds _ _ _ _ (T18.setTop (mkF m 137 #[.val (.int xx), .val (.int sel), .val (.ref b1), .val (.int xx), .unset, .unset] [(.int xx), (.int (FI xx))]))
    obtain ⟨v19, T19, L19, X19, hQ19, st19⟩ := ownCallS X18 hx hZ hown (y := (⟨"com/example/markup_reader/markupreader/input/internal/XmlCharsIsCharPinLaw", "reference", "(I)Z"⟩ : MethodName)) (as := [(.int xx)]) (wd_16 hw) (wd_17 hw) (wd_18 hw) (wd_19 hw) (by decide) (rm2 l Z a0 hw xx  h17 n0 Z17 ) e18 1 (by decide) (by decide) (by decide) (by decide) (g := (mkF m 137 #[.val (.int xx), .val (.int sel), .val (.ref b1), .val (.int xx), .unset, .unset] [(.int xx), (.int (FI xx))])) rfl (by rw [hml]; rfl) (rest := [(.int (FI xx))]) pd_1 rfl rfl (by show 2 * 0 + _ ≤ _; exact Nat.le_of_eq rfl) (hb hby at_137)
    obtain ⟨rfl, rfl, e19⟩ := hQ19
    rw [List.append_nil] at X19
    refine ownEnds.law st19 ?_
    show ownEnds _ _ _ _ (T19.setTop (mkF m 140 #[.val (.int xx), .val (.int sel), .val (.ref b1), .val (.int xx), .unset, .unset] [(.int (FI xx)), (.int (FI xx))]))
    refine ownEnds.law (fun t => XS.icmpNo X19.here hx rfl (hb hby at_140) rfl (teq (rfl : (FI xx) = (FI xx))).2) ?_
    show ownEnds _ _ _ _ (T19.setTop (mkF m 143 #[.val (.int xx), .val (.int sel), .val (.ref b1), .val (.int xx), .unset, .unset] []))
    refine ownEnds.law (fun t k => XS.iconst X19.here hx rfl (hb hby at_143) (XS.goto X19.here hx rfl (pc0 := 144) (pc' := 148) rfl (hb hby at_144) (by decide) (by decide) k)) ?_
    show ownEnds _ _ _ _ (T19.setTop (mkF m 148 #[.val (.int xx), .val (.int sel), .val (.ref b1), .val (.int xx), .unset, .unset] [(.int (1 : Int32))]))
    refine ownRetN X19 hlk hx (t := .boolean) hret (by simp) (hb hby at_148) (by decide) (by decide) ?_
    exact ⟨rfl, N17⟩
  · refine ownEnds.law (fun t => XS.ifYes X17.here hx rfl (pc0 := 97) (pc' := 105) rfl (hb hby at_97) rfl ((if0 _ _).trans (feq hc97).2) (by decide) (by decide)) ?_
    show ownEnds _ _ _ _ (T17.setTop (mkF m 105 #[.val (.int xx), .val (.int sel), .val (.ref b1), .unset, .unset, .unset] []))
    refine ownEnds.law (fun t k => XS.iloadN X17.here hx rfl (hb hby at_105) rfl (XS.iconst X17.here hx rfl (hb hby at_106) (XS.ishr X17.here hx rfl (hb hby at_107) rfl (XS.bipush X17.here hx rfl (hb hby at_108) (XS.iand X17.here hx rfl (hb hby at_110) rfl (XS.istore X17.here hx rfl (hb hby at_111) rfl (l' := #[.val (.int xx), .val (.int sel), .val (.ref b1), .unset, .val (.int ((sel >>> ((1 : Int32) &&& 31)) &&& (15 : Int32))), .unset]) rfl (XS.iloadN X17.here hx rfl (hb hby at_113) rfl (XS.iconst X17.here hx rfl (hb hby at_114) (XS.ishr X17.here hx rfl (hb hby at_115) rfl (XS.bipush X17.here hx rfl (hb hby at_116) k)))))))))) ?_
    show ownEnds _ _ _ _ (T17.setTop (mkF m 118 #[.val (.int xx), .val (.int sel), .val (.ref b1), .unset, .val (.int ((sel >>> ((1 : Int32) &&& 31)) &&& (15 : Int32))), .unset] [(.int (15 : Int32)), (.int (sel >>> ((5 : Int32) &&& 31)))]))
    refine ownEnds.law (fun t k => XS.iand X17.here hx rfl (hb hby at_118) rfl (XS.bipush X17.here hx rfl (hb hby at_119) (XS.isub X17.here hx rfl (hb hby at_121) rfl (XS.istore X17.here hx rfl (hb hby at_122) rfl (l' := #[.val (.int xx), .val (.int sel), .val (.ref b1), .unset, .val (.int ((sel >>> ((1 : Int32) &&& 31)) &&& (15 : Int32))), .val (.int (((sel >>> ((5 : Int32) &&& 31)) &&& (15 : Int32)) - (8 : Int32)))]) rfl (XS.aloadN X17.here hx rfl (hb hby at_124) rfl rfl (XS.iload X17.here hx rfl (hb hby at_125) rfl k)))))) ?_
    show ownEnds _ _ _ _ (T17.setTop (mkF m 127 #[.val (.int xx), .val (.int sel), .val (.ref b1), .unset, .val (.int ((sel >>> ((1 : Int32) &&& 31)) &&& (15 : Int32))), .val (.int (((sel >>> ((5 : Int32) &&& 31)) &&& (15 : Int32)) - (8 : Int32)))] [(.int ((sel >>> ((1 : Int32) &&& 31)) &&& (15 : Int32))), (.ref b1)]))
    obtain ⟨cl20, Ar20, q20, S20, N20, H20, G20⟩ := id V17
    have hi20 := inb_of (j := ((sel >>> ((1 : Int32) &&& 31)) &&& (15 : Int32))) S20 (own_ix _)
    obtain ⟨z20, hz20⟩ := fit_I (G20 (((sel >>> ((1 : Int32) &&& 31)) &&& (15 : Int32))).toNatClampNeg (Nat.lt_of_not_le fun y => hi20 (Or.inr y))) (by simp)
    have hv20 : cl20.slots[(((sel >>> ((1 : Int32) &&& 31)) &&& (15 : Int32))).toNatClampNeg]? = some (.int z20) := H20.at hi20 hz20
    refine ownEnds.law (fun t => X17.iaload hx (j := ((sel >>> ((1 : Int32) &&& 31)) &&& (15 : Int32))) (v := (.int z20)) (by rw [e17]; exact Ar20.1) (State.isArrayOf_alike hZ.alike Ar20.2.1) Ar20.2.2 hi20 hv20 (g := (mkF m 127 #[.val (.int xx), .val (.int sel), .val (.ref b1), .unset, .val (.int ((sel >>> ((1 : Int32) &&& 31)) &&& (15 : Int32))), .val (.int (((sel >>> ((5 : Int32) &&& 31)) &&& (15 : Int32)) - (8 : Int32)))] [(.int ((sel >>> ((1 : Int32) &&& 31)) &&& (15 : Int32))), (.ref b1)])) rfl rfl (hb hby at_127) t) ?_
    show ownEnds _ _ _ _ (T17.setTop (mkF m 128 #[.val (.int xx), .val (.int sel), .val (.ref b1), .unset, .val (.int ((sel >>> ((1 : Int32) &&& 31)) &&& (15 : Int32))), .val (.int (((sel >>> ((5 : Int32) &&& 31)) &&& (15 : Int32)) - (8 : Int32)))] [(.int z20)]))
    refine ownEnds.law (fun t k => XS.iload X17.here hx rfl (hb hby at_128) rfl (XS.iadd X17.here hx rfl (hb hby at_130) rfl (XS.istoreN X17.here hx rfl (hb hby at_131) rfl (l' := #[.val (.int xx), .val (.int sel), .val (.ref b1), .val (.int (z20 + (((sel >>> ((5 : Int32) &&& 31)) &&& (15 : Int32)) - (8 : Int32)))), .val (.int ((sel >>> ((1 : Int32) &&& 31)) &&& (15 : Int32))), .val (.int (((sel >>> ((5 : Int32) &&& 31)) &&& (15 : Int32)) - (8 : Int32)))]) rfl (XS.iloadN X17.here hx rfl (hb hby at_132) rfl k)))) ?_
    show ownEnds _ _ _ _ (T17.setTop (mkF m 133 #[.val (.int xx), .val (.int sel), .val (.ref b1), .val (.int (z20 + (((sel >>> ((5 : Int32) &&& 31)) &&& (15 : Int32)) - (8 : Int32)))), .val (.int ((sel >>> ((1 : Int32) &&& 31)) &&& (15 : Int32))), .val (.int (((sel >>> ((5 : Int32) &&& 31)) &&& (15 : Int32)) - (8 : Int32)))] [(.int (z20 + (((sel >>> ((5 : Int32) &&& 31)) &&& (15 : Int32)) - (8 : Int32))))]))
    obtain ⟨v21, T21, L21, X21, hQ21, st21⟩ := ownCallS X17 hx hZ hown (y := (⟨"com/example/markup_reader/markupreader/input/internal/XmlChars", "isChar", "(I)Z"⟩ : MethodName)) (as := [(.int (z20 + (((sel >>> ((5 : Int32) &&& 31)) &&& (15 : Int32)) - (8 : Int32))))]) (wd_12 hw) (wd_13 hw) (wd_14 hw) (wd_15 hw) (by decide) (rm1 l Z a0 hw (z20 + (((sel >>> ((5 : Int32) &&& 31)) &&& (15 : Int32)) - (8 : Int32)))  h17 n0 Z17 ) e17 0 (by decide) (by decide) (by decide) (by decide) (g := (mkF m 133 #[.val (.int xx), .val (.int sel), .val (.ref b1), .val (.int (z20 + (((sel >>> ((5 : Int32) &&& 31)) &&& (15 : Int32)) - (8 : Int32)))), .val (.int ((sel >>> ((1 : Int32) &&& 31)) &&& (15 : Int32))), .val (.int (((sel >>> ((5 : Int32) &&& 31)) &&& (15 : Int32)) - (8 : Int32)))] [(.int (z20 + (((sel >>> ((5 : Int32) &&& 31)) &&& (15 : Int32)) - (8 : Int32))))])) rfl (by rw [hml]; rfl) (rest := []) pd_1 rfl rfl (by show 2 * 0 + _ ≤ _; exact Nat.le_of_eq rfl) (hb hby at_133)
    obtain ⟨rfl, rfl, e21⟩ := hQ21
    rw [List.append_nil] at X21
    refine ownEnds.law st21 ?_
    show ownEnds _ _ _ _ (T21.setTop (mkF m 136 #[.val (.int xx), .val (.int sel), .val (.ref b1), .val (.int (z20 + (((sel >>> ((5 : Int32) &&& 31)) &&& (15 : Int32)) - (8 : Int32)))), .val (.int ((sel >>> ((1 : Int32) &&& 31)) &&& (15 : Int32))), .val (.int (((sel >>> ((5 : Int32) &&& 31)) &&& (15 : Int32)) - (8 : Int32)))] [(.int (FI (z20 + (((sel >>> ((5 : Int32) &&& 31)) &&& (15 : Int32)) - (8 : Int32)))))]))
    refine ownEnds.law (fun t k => XS.iloadN X21.here hx rfl (hb hby at_136) rfl k) ?_
    show ownEnds _ _ _ _ (T21.setTop (mkF m 137 #[.val (.int xx), .val (.int sel), .val (.ref b1), .val (.int (z20 + (((sel >>> ((5 : Int32) &&& 31)) &&& (15 : Int32)) - (8 : Int32)))), .val (.int ((sel >>> ((1 : Int32) &&& 31)) &&& (15 : Int32))), .val (.int (((sel >>> ((5 : Int32) &&& 31)) &&& (15 : Int32)) - (8 : Int32)))] [(.int (z20 + (((sel >>> ((5 : Int32) &&& 31)) &&& (15 : Int32)) - (8 : Int32)))), (.int (FI (z20 + (((sel >>> ((5 : Int32) &&& 31)) &&& (15 : Int32)) - (8 : Int32)))))]))
    obtain ⟨v22, T22, L22, X22, hQ22, st22⟩ := ownCallS X21 hx hZ hown (y := (⟨"com/example/markup_reader/markupreader/input/internal/XmlCharsIsCharPinLaw", "reference", "(I)Z"⟩ : MethodName)) (as := [(.int (z20 + (((sel >>> ((5 : Int32) &&& 31)) &&& (15 : Int32)) - (8 : Int32))))]) (wd_16 hw) (wd_17 hw) (wd_18 hw) (wd_19 hw) (by decide) (rm2 l Z a0 hw (z20 + (((sel >>> ((5 : Int32) &&& 31)) &&& (15 : Int32)) - (8 : Int32)))  h17 n0 Z17 ) e21 1 (by decide) (by decide) (by decide) (by decide) (g := (mkF m 137 #[.val (.int xx), .val (.int sel), .val (.ref b1), .val (.int (z20 + (((sel >>> ((5 : Int32) &&& 31)) &&& (15 : Int32)) - (8 : Int32)))), .val (.int ((sel >>> ((1 : Int32) &&& 31)) &&& (15 : Int32))), .val (.int (((sel >>> ((5 : Int32) &&& 31)) &&& (15 : Int32)) - (8 : Int32)))] [(.int (z20 + (((sel >>> ((5 : Int32) &&& 31)) &&& (15 : Int32)) - (8 : Int32)))), (.int (FI (z20 + (((sel >>> ((5 : Int32) &&& 31)) &&& (15 : Int32)) - (8 : Int32)))))])) rfl (by rw [hml]; rfl) (rest := [(.int (FI (z20 + (((sel >>> ((5 : Int32) &&& 31)) &&& (15 : Int32)) - (8 : Int32)))))]) pd_1 rfl rfl (by show 2 * 0 + _ ≤ _; exact Nat.le_of_eq rfl) (hb hby at_137)
    obtain ⟨rfl, rfl, e22⟩ := hQ22
    rw [List.append_nil] at X22
    refine ownEnds.law st22 ?_
    show ownEnds _ _ _ _ (T22.setTop (mkF m 140 #[.val (.int xx), .val (.int sel), .val (.ref b1), .val (.int (z20 + (((sel >>> ((5 : Int32) &&& 31)) &&& (15 : Int32)) - (8 : Int32)))), .val (.int ((sel >>> ((1 : Int32) &&& 31)) &&& (15 : Int32))), .val (.int (((sel >>> ((5 : Int32) &&& 31)) &&& (15 : Int32)) - (8 : Int32)))] [(.int (FI (z20 + (((sel >>> ((5 : Int32) &&& 31)) &&& (15 : Int32)) - (8 : Int32))))), (.int (FI (z20 + (((sel >>> ((5 : Int32) &&& 31)) &&& (15 : Int32)) - (8 : Int32)))))]))
    refine ownEnds.law (fun t => XS.icmpNo X22.here hx rfl (hb hby at_140) rfl (teq (rfl : (FI (z20 + (((sel >>> ((5 : Int32) &&& 31)) &&& (15 : Int32)) - (8 : Int32)))) = (FI (z20 + (((sel >>> ((5 : Int32) &&& 31)) &&& (15 : Int32)) - (8 : Int32)))))).2) ?_
    show ownEnds _ _ _ _ (T22.setTop (mkF m 143 #[.val (.int xx), .val (.int sel), .val (.ref b1), .val (.int (z20 + (((sel >>> ((5 : Int32) &&& 31)) &&& (15 : Int32)) - (8 : Int32)))), .val (.int ((sel >>> ((1 : Int32) &&& 31)) &&& (15 : Int32))), .val (.int (((sel >>> ((5 : Int32) &&& 31)) &&& (15 : Int32)) - (8 : Int32)))] []))
    refine ownEnds.law (fun t k => XS.iconst X22.here hx rfl (hb hby at_143) (XS.goto X22.here hx rfl (pc0 := 144) (pc' := 148) rfl (hb hby at_144) (by decide) (by decide) k)) ?_
    show ownEnds _ _ _ _ (T22.setTop (mkF m 148 #[.val (.int xx), .val (.int sel), .val (.ref b1), .val (.int (z20 + (((sel >>> ((5 : Int32) &&& 31)) &&& (15 : Int32)) - (8 : Int32)))), .val (.int ((sel >>> ((1 : Int32) &&& 31)) &&& (15 : Int32))), .val (.int (((sel >>> ((5 : Int32) &&& 31)) &&& (15 : Int32)) - (8 : Int32)))] [(.int (1 : Int32))]))
    refine ownRetN X22 hlk hx (t := .boolean) hret (by simp) (hb hby at_148) (by decide) (by decide) ?_
    exact ⟨rfl, N17⟩
set_option maxRecDepth 65536 in
set_option maxHeartbeats 40000000 in
theorem comes_1 {Post : Tables → Env → Array Value → State → Outcome → State → Prop} (hpost : ∀ tb e args s v u, (limb_1_1.after args s (.returned v) u = true ∧ limb_1_2.after args s (.returned v) u = true ∧ True) → FrameEnd s (.returned v) u (Jvm.fieldLocs frame_1_writes args s ++ Jvm.arrayLocs frame_1_arrays args s ++ Jvm.staticLocs frame_1_statics s) 16 128 → Post tb e args s (.returned v) u) :
    ArmFor flags0 classFile x code maxLocals ret World_1 tables_1 room_1 Calls_1 rest_1 Pre_1 Post := by
  intro l hfl _ _ p e ha hc hk s m args below hf hA hF happ hP
  obtain ⟨hcalls, hrest, hpre⟩ := hP
  obtain ⟨-, -, -, hnamed, -, -, -, hat⟩ := (Spec.applies_iff hf).mp happ
  obtain ⟨hg, hn⟩ := and_e (Cond.before_iff.mp (show (Jvm.Cond.and given_1 narrow_1).before args s = true from hpre))
  obtain ⟨gg1, gg2⟩ := and_e hg
  obtain ⟨gg3, gg4⟩ := and_e gg2
  obtain ⟨w0, w1, rfl⟩ : ∃ w0 w1 : Value, args = #[w0, w1] := by
    have hs : args.size = 2 := by simpa [Cond.value, given_1] using gg1
    obtain ⟨L⟩ := args
    match L, hs with
    | [w0, w1], _ => exact ⟨w0, w1, rfl⟩
  have hw := fun d (hd : d ∈ tables_1) => atoms_spec (ws := Jvm.Cond.code x code maxLocals ret :: tables_1) hat d (List.mem_cons_of_mem _ hd)
  have hfit : Fit s := fun {y c} hc i hi => by
    obtain ⟨ha, rfl⟩ := Array.getElem?_eq_some_iff.mp hc
    have q := List.all_eq_true.mp ((Array.all_eq_true_iff_forall_mem.mp hF) _ (Array.getElem_mem ha)) i (List.mem_range.mpr hi)
    simpa [Array.getElem?_eq_getElem hi] using q
  obtain ⟨i0, ei0⟩ := is_v gg3
  obtain rfl : w0 = (.int i0) := Option.some.inj ei0
  obtain ⟨i1, ei1⟩ := is_v gg4
  obtain rfl : w1 = (.int i1) := Option.some.inj ei1
  obtain ⟨n, o, h1, h2, h3, _, L, rfl, ⟨rfl, N⟩, hq⟩ := rm0 l s _ hw i0 i1  s.heap s.heap.size (Nat.le_refl _)  p e ha hc hk s m _ below hf ((Spec.applies_iff_loose hf).mp happ).1 ⟨rfl, State.Warmed39.refl s, rfl⟩ trivial
  refine ⟨n, _, h1, h2, h3, hpost _ _ _ _ _ _ ⟨Cond.after_iff.mpr rfl, Cond.after_iff.mpr (eq_i res_at (Term.int_eval (1)) rfl), trivial⟩ ⟨hq.1, hq.2.1, (hq.2.2.sift fun y hy => Or.inr (N y hy)).mono (by decide) (by decide)⟩⟩
theorem main_1_1 : Claimed_1_1 := comes_1 fun _ _ _ _ _ _ h hF => ⟨h.1, hF⟩
theorem main_1_2 : Claimed_1_2 := comes_1 fun _ _ _ _ _ _ h hF => ⟨h.2.1, hF⟩
end Jvm.Pilot.@@N@@
namespace Jvm.Pilot.@@N@@
open Jvm Jvm.ClassFile Sem Op Lib Jvm.Free Jvm.Stand Jvm.Pilot.@@N@@.Jvm.D
/-! MADE BY PROGRAM (witnessworld.py) out of the Statement's table words and the real class files: 9 classes; the members and pool entries that the words name. The judged class is class 1, her method 3. -/
namespace start1
open Jvm.ClassFile
def u (s : String) : CpInfo := .utf8 (stringToUtf16 s)
/-- a pool by its gaps: so many unusable entries, then the entry; so many at the end -/
def gap : Nat → List CpInfo → List CpInfo
  | 0, r => r
  | n + 1, r => .unusable :: gap n r
def poolList (es : List (Nat × CpInfo)) (last : Nat) : List CpInfo := es.foldr (fun e r => gap e.1 (e.2 :: r)) (gap last [])
def pool (es : List (Nat × CpInfo)) (last : Nat) : Array CpInfo := ⟨poolList es last⟩
def fileOf (pool : Array CpInfo) (this : Nat) (attrs : Array Attribute := #[]) (ms : Array MethodInfo := #[]) (fl : Nat := 33) (sup : Nat := 0) (ifs : Array Nat := #[]) (fds : Array FieldInfo := #[]) : ClassFile where
  minorVersion := 0
  majorVersion := 65
  constantPool := pool
  accessFlags := fl
  thisClass := this
  superClass := sup
  interfaces := ifs
  fields := fds
  methods := ms
  attributes := attrs
def plain (name : String) (sup : Option ClassId) : Class where
  name := name
  kind := .ordinary
  loader := none
  accessFlags := 33
  super := sup
  interfaces := #[]
  cf := none
  fields := #[]
  methods := #[]
  instanceTypes := #[]
  staticTypes := #[]
  resolved := #[]
  callSites := []
  init := .initialized
  statics := none
  mirror := none

def pool0 : Array CpInfo := pool [(5, u "<init>"), (0, u "()V"), (1, .class_ 10), (1, u "java/lang/Object")] 113

def k0m0 : Method := { name := "<init>", desc := "()V", sig := { parameters := [], returnType := none }, accessFlags := 1, code := none }
/-- java/lang/Object -/
def k0 : Class := { plain "java/lang/Object" none with
  accessFlags := 33
  interfaces := #[]
  cf := some (fileOf pool0 8 #[] #[{ accessFlags := 1, nameIndex := 5, descriptorIndex := 6, attributes := #[] }] 33 0 #[] #[])
  fields := #[]
  methods := #[k0m0]
  instanceTypes := #[]
  staticTypes := #[]
  resolved := Array.replicate 124 none
  statics := none }

def pool1 : Array CpInfo := pool [(2, .class_ 4), (1, u "java/lang/Object"), (0, u "<init>"), (0, u "()V"), (0, .integer 55295), (0, .methodref 9 10), (0, .class_ 11), (0, .nameAndType 12 13), (0, u "com/example/markup_reader/markupreader/input/internal/XmlCharsIsCharPinLaw"), (0, u "in"), (0, u "(III)Z"), (0, .integer 57344), (0, .integer 65533), (0, .integer 65536), (0, .integer 1114111), (0, .integer 55296), (0, .integer 57343), (0, .integer 65534), (0, .integer 1114112), (2, .integer 2147483648), (0, .integer 2147483647), (0, .methodref 27 28), (0, .class_ 29), (0, .nameAndType 30 31), (0, u "com/example/markup_reader/markupreader/input/internal/XmlChars"), (0, u "isChar"), (0, u "(I)Z"), (0, .methodref 9 33), (0, .nameAndType 34 31), (0, u "reference"), (3, u "law"), (0, u "(II)Z")] 4

def k1m0 : Method := { name := "<init>", desc := "()V", sig := { parameters := [], returnType := none }, accessFlags := 2, code := none }
def k1c1 : Code := { maxStack := 2, maxLocals := 3, code := method_2_code, exceptionTable := #[], attributes := #[] }
def k1m1 : Method := { name := "in", desc := "(III)Z", sig := { parameters := [.int, .int, .int], returnType := some .boolean }, accessFlags := 10, code := some k1c1 }
def k1c2 : Code := { maxStack := 3, maxLocals := 1, code := method_3_code, exceptionTable := #[], attributes := #[] }
def k1m2 : Method := { name := "reference", desc := "(I)Z", sig := { parameters := [.int], returnType := some .boolean }, accessFlags := 10, code := some k1c2 }
def k1c3 : Code := { maxStack := 4, maxLocals := 6, code := code, exceptionTable := #[], attributes := #[] }
def k1m3 : Method := { name := "law", desc := "(II)Z", sig := { parameters := [.int, .int], returnType := some .boolean }, accessFlags := 9, code := some k1c3 }
/-- com/example/markup_reader/markupreader/input/internal/XmlCharsIsCharPinLaw -/
def k1 : Class := { plain "com/example/markup_reader/markupreader/input/internal/XmlCharsIsCharPinLaw" (some 0) with
  accessFlags := 49
  interfaces := #[]
  cf := some (fileOf pool1 9 #[] #[{ accessFlags := 2, nameIndex := 5, descriptorIndex := 6, attributes := #[] }, { accessFlags := 10, nameIndex := 12, descriptorIndex := 13, attributes := #[] }, { accessFlags := 10, nameIndex := 34, descriptorIndex := 31, attributes := #[] }, { accessFlags := 9, nameIndex := 38, descriptorIndex := 39, attributes := #[] }] 49 2 #[] #[])
  fields := #[]
  methods := #[k1m0, k1m1, k1m2, k1m3]
  instanceTypes := #[]
  staticTypes := #[]
  resolved := Array.replicate 44 none
  statics := none }

def pool2 : Array CpInfo := pool [(2, .class_ 4), (1, u "java/lang/Object"), (0, u "<init>"), (0, u "()V"), (1, .class_ 10), (1, u "com/example/markup_reader/markupreader/input/internal/XmlChars"), (0, u "ASCII_NAME_CHARS"), (0, u "[Z"), (0, .integer 55295), (0, .integer 57344), (0, .integer 65533), (0, .integer 65536), (0, .integer 1114111), (3, u "(I)Z"), (54, u "isChar")] 12

def k2m0 : Method := { name := "<init>", desc := "()V", sig := { parameters := [], returnType := none }, accessFlags := 2, code := none }
def k2c1 : Code := { maxStack := 2, maxLocals := 1, code := prog_18_method_3_code, exceptionTable := #[], attributes := #[] }
def k2m1 : Method := { name := "isChar", desc := "(I)Z", sig := { parameters := [.int], returnType := some .boolean }, accessFlags := 9, code := some k2c1 }
/-- com/example/markup_reader/markupreader/input/internal/XmlChars -/
def k2 : Class := { plain "com/example/markup_reader/markupreader/input/internal/XmlChars" (some 0) with
  accessFlags := 49
  interfaces := #[]
  cf := some (fileOf pool2 8 #[] #[{ accessFlags := 2, nameIndex := 5, descriptorIndex := 6, attributes := #[] }, { accessFlags := 9, nameIndex := 76, descriptorIndex := 21, attributes := #[] }] 49 2 #[] #[{ accessFlags := 26, nameIndex := 11, descriptorIndex := 12, attributes := #[] }])
  fields := #[{ name := "ASCII_NAME_CHARS", type := (.array .boolean), accessFlags := 26, slot := 0, constantValue := 0 }]
  methods := #[k2m0, k2m1]
  instanceTypes := #[]
  staticTypes := #[(.array .boolean)]
  resolved := Array.replicate 89 none
  statics := none }

def pool3 : Array CpInfo := pool [(1, u "java/lang/Cloneable"), (0, .class_ 1), (0, u "java/lang/Object"), (0, .class_ 3)] 3

/-- java/lang/Cloneable -/
def k3 : Class := { plain "java/lang/Cloneable" (some 0) with
  accessFlags := 1537
  interfaces := #[]
  cf := some (fileOf pool3 2 #[] #[] 1537 4 #[] #[])
  fields := #[]
  methods := #[]
  instanceTypes := #[]
  staticTypes := #[]
  resolved := Array.replicate 8 none
  statics := none }

def pool4 : Array CpInfo := pool [(1, u "java/io/Serializable"), (0, .class_ 1), (0, u "java/lang/Object"), (0, .class_ 3)] 3

/-- java/io/Serializable -/
def k4 : Class := { plain "java/io/Serializable" (some 0) with
  accessFlags := 1537
  interfaces := #[]
  cf := some (fileOf pool4 2 #[] #[] 1537 4 #[] #[])
  fields := #[]
  methods := #[]
  instanceTypes := #[]
  staticTypes := #[]
  resolved := Array.replicate 8 none
  statics := none }

/-- the primitive byte -/
def k5 : Class := { plain "byte" none with kind := .primitive 'B', accessFlags := 0x411 }
/-- [B -/
def k6 : Class := { plain "[B" (some 0) with kind := .array 5 .byte, interfaces := #[3, 4], accessFlags := 1041 }

/-- the primitive int -/
def k7 : Class := { plain "int" none with kind := .primitive 'I', accessFlags := 0x411 }
/-- [I -/
def k8 : Class := { plain "[I" (some 0) with kind := .array 7 .int, interfaces := #[3, 4], accessFlags := 1041 }

def heap : Heap := #[]
def classes : Array Class := #[k0, k1, k2, k3, k4, k5, k6, k7, k8]
def interned : List (Array UInt16 × Addr) := []
def slotsUsed : Nat := 0
def theMethod : MethodId := ⟨1, 3⟩
def args0 : Array Value := #[.int 3, .int 7]
def aboutOver (below : List Frame) : State where
  vm := { classes := classes, interned := interned.toArray }
  heap := heap
  slotsUsed := slotsUsed
  threads := #[{ frames := .invoking theMethod args0 :: below }]
def below0 : List Frame := [.native { method := ⟨0, 0⟩, args := #[] }]
def about1 : State := aboutOver below0
def p0 : Program := .bare "" "" ""
def e0 : Env := launch0.env 0 0 0
theorem w_frames : about1.frames = Frame.invoking theMethod args0 :: below0 := rfl
set_option maxRecDepth 65536 in
theorem w_args : argsFit about1.vm theMethod args0 = true := by decide +kernel
set_option maxRecDepth 65536 in
theorem w_heap : heapFits about1 = true := by decide +kernel
set_option maxRecDepth 65536 in
theorem w_runnable : about1.curStatus? = some .runnable := by decide +kernel
set_option maxRecDepth 65536 in
theorem w_alone : about1.alone = true := by decide +kernel
set_option maxRecDepth 65536 in
theorem w_named : about1.methodNamed? x = some theMethod := by decide +kernel
set_option maxRecDepth 65536 in
theorem w_hears : about1.hears theMethod below0 = true := by decide +kernel
set_option maxRecDepth 65536 in
theorem w_ripe : about1.ripe theMethod args0 below0 = true := by decide +kernel
theorem w_running : about1.status = .running := rfl
set_option maxRecDepth 65536 in
theorem w_room : about1.hasRoom e0.platform room_1 = true :=
  launch0.hasRoom_least _ room_1 (by decide +kernel) (by decide +kernel) (by decide +kernel) (by decide +kernel) (by decide +kernel) (by decide +kernel)
theorem allAtoms_all (ts : List Jvm.Cond) (a : Array Jvm.Value) (st : Jvm.State) : (allAtoms ts).before a st = ts.all (fun c => c.before a st) := by
  induction ts with
  | nil => rfl
  | cons c t ih =>
    show (Jvm.Cond.and c (allAtoms t)).before a st = _
    rw [Jvm.Cond.before_and, ih, List.all_cons]
def words1 : List Jvm.Cond := Jvm.Cond.code x code maxLocals ret :: tables_1
/-- a 'code' word, met by the world's own term for the bytes: nothing is compared byte by byte -/
theorem code_word {y : MethodName} {bytes : ByteArray} {mx : Nat} {rt : Option FieldType} {a : Array Value} {s : State} {m : MethodId} {meth : Method} {c : Code} (h1 : s.methodNamed? y = some m) (h2 : s.vm.method? m = some meth) (h3 : meth.code = some c) (h4 : c.code = bytes)
    (h5 : (c.maxLocals == mx && c.exceptionTable.isEmpty && decide (c.maxStack ≤ mostOperands) && decide (meth.sig.returnType = rt) && !meth.locks && decide (parseMethodDescriptor y.desc = some meth.sig)) = true) : (Jvm.Cond.code y bytes mx rt).before a s = true := by
  simp only [Bool.and_eq_true, beq_iff_eq, Bool.not_eq_true', decide_eq_true_eq] at h5
  obtain ⟨⟨⟨⟨⟨g1, g2⟩, g3⟩, g4⟩, g5⟩, g6⟩ := h5
  simp [Cond.before, Cond.holds, Cond.value, h1, h2, h3, h4, g1, g2, g3, g4, g5, g6]
def isCode : Jvm.Cond → Bool
  | .code _ _ _ _ => true
  | _ => false
theorem all_split {L : List Jvm.Cond} {P : Jvm.Cond → Bool} (h1 : L.all (fun c => isCode c || P c) = true) (h2 : ∀ c ∈ L.filter isCode, P c = true) : L.all P = true := by
  refine List.all_eq_true.mpr fun c hc => ?_
  have h := List.all_eq_true.mp h1 c hc
  rcases Bool.eq_false_or_eq_true (isCode c) with hi | hi
  · exact h2 c (List.mem_filter.mpr ⟨hc, hi⟩)
  · simpa [hi] using h
set_option maxRecDepth 65536 in
theorem w_c0 : (Jvm.Cond.code x code maxLocals ret).before args0 about1 = true := code_word (m := ⟨1, 3⟩) (meth := k1m3) (c := k1c3) (by decide +kernel) rfl rfl rfl (by decide +kernel)
set_option maxRecDepth 65536 in
theorem w_c1 : (Jvm.Cond.code ({ cls := "com/example/markup_reader/markupreader/input/internal/XmlChars", name := "isChar", desc := "(I)Z" } : Jvm.MethodName) prog_18_method_3_code (1 : Nat) (Option.some Jvm.ClassFile.FieldType.boolean)).before args0 about1 = true := code_word (m := ⟨2, 1⟩) (meth := k2m1) (c := k2c1) (by decide +kernel) rfl rfl rfl (by decide +kernel)
set_option maxRecDepth 65536 in
theorem w_c2 : (Jvm.Cond.code ({ cls := "com/example/markup_reader/markupreader/input/internal/XmlCharsIsCharPinLaw", name := "reference", desc := "(I)Z" } : Jvm.MethodName) method_3_code (1 : Nat) (Option.some Jvm.ClassFile.FieldType.boolean)).before args0 about1 = true := code_word (m := ⟨1, 2⟩) (meth := k1m2) (c := k1c2) (by decide +kernel) rfl rfl rfl (by decide +kernel)
set_option maxRecDepth 65536 in
theorem w_c3 : (Jvm.Cond.code ({ cls := "com/example/markup_reader/markupreader/input/internal/XmlCharsIsCharPinLaw", name := "in", desc := "(III)Z" } : Jvm.MethodName) method_2_code (3 : Nat) (Option.some Jvm.ClassFile.FieldType.boolean)).before args0 about1 = true := code_word (m := ⟨1, 1⟩) (meth := k1m1) (c := k1c1) (by decide +kernel) rfl rfl rfl (by decide +kernel)
def codes1 : List Jvm.Cond := [Jvm.Cond.code x code maxLocals ret, Jvm.Cond.code ({ cls := "com/example/markup_reader/markupreader/input/internal/XmlChars", name := "isChar", desc := "(I)Z" } : Jvm.MethodName) prog_18_method_3_code (1 : Nat) (Option.some Jvm.ClassFile.FieldType.boolean), Jvm.Cond.code ({ cls := "com/example/markup_reader/markupreader/input/internal/XmlCharsIsCharPinLaw", name := "reference", desc := "(I)Z" } : Jvm.MethodName) method_3_code (1 : Nat) (Option.some Jvm.ClassFile.FieldType.boolean), Jvm.Cond.code ({ cls := "com/example/markup_reader/markupreader/input/internal/XmlCharsIsCharPinLaw", name := "in", desc := "(III)Z" } : Jvm.MethodName) method_2_code (3 : Nat) (Option.some Jvm.ClassFile.FieldType.boolean)]
set_option maxRecDepth 65536 in
theorem codes_eq : words1.filter isCode = codes1 := rfl
theorem w_codes : ∀ c ∈ words1.filter isCode, c.before args0 about1 = true := by
  rw [codes_eq]
  intro c hc
  simp only [codes1, List.mem_cons, List.not_mem_nil, or_false] at hc
  rcases hc with rfl | rfl | rfl | rfl
  · exact w_c0
  · exact w_c1
  · exact w_c2
  · exact w_c3
set_option maxRecDepth 65536 in
theorem w_t1 : (words1.take 24).all (fun c => isCode c || c.before args0 about1) = true := by decide +kernel
set_option maxRecDepth 65536 in
theorem w_t2 : (words1.drop 24).all (fun c => isCode c || c.before args0 about1) = true := by decide +kernel
theorem w_tables : (allAtoms (Jvm.Cond.code x code maxLocals ret :: tables_1)).before args0 about1 = true := by
  rw [allAtoms_all]
  show words1.all (fun c => c.before args0 about1) = true
  refine all_split ?_ w_codes
  rw [← List.take_append_drop 24 words1, List.all_append, w_t1, w_t2]
  rfl
set_option maxRecDepth 65536 in
theorem w_case : (Jvm.Cond.and given_1 narrow_1).before args0 about1 = true := by decide +kernel
theorem w_applies : (headSpec (Jvm.Cond.code x code maxLocals ret :: tables_1) room_1).applies x e0.platform about1 = true :=
  (Spec.applies_iff w_frames).mpr ⟨w_running, w_runnable, w_alone, w_named, w_hears, w_ripe, w_room, w_tables⟩
theorem atStart : AtStart classFile x code maxLocals ret World_1 tables_1 room_1 Calls_1 rest_1 Pre_1 launch0 p0 e0 about1 theMethod args0 below0 :=
  ⟨lists_1, trivial, launch0.admits_env _ _ _, launch0.least_env, fairChoices_fair.cas, fairChoices_fair.clock, w_frames, w_args, w_heap, w_applies, trivial, trivial, w_case⟩
end start1
theorem witness_1 : WitnessClaimed_1 := ⟨start1.p0, start1.e0, start1.about1, start1.theMethod, start1.args0, start1.below0, start1.atStart⟩
end Jvm.Pilot.@@N@@
