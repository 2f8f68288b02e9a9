import JvmDerived
import JvmDerived.Pilot.@@N@@Statement
import JvmDerived.Pilot.@@N@@Code
set_option linter.unusedVariables false
set_option linter.unusedSimpArgs false
namespace Jvm.Pilot.@@N@@
open Jvm Jvm.ClassFile Sem Op Lib Jvm.Free Jvm.Stand Jvm.LawKit Jvm.RoadKit Bundle Jvm.Pilot.@@N@@.Jvm.D
def ownEnds (tb : Tables) (e : Env) (below : List Frame) (Φ : State → Outcome → Prop) (A : State) : Prop :=
  ∃ s₂ o, Steps tb e below A s₂ ∧ s₂.status = .running ∧ Ended s₂ below o ∧ Φ s₂ o
theorem ownEnds.law {tb : Tables} {e : Env} {below : List Frame} {Φ : State → Outcome → Prop} {A B : State} (k : ∀ t, Steps tb e below B t → Steps tb e below A t) (h : ownEnds tb e below Φ B) : ownEnds tb e below Φ A := by
  obtain ⟨s2, o, h1, h2⟩ := h
  exact ⟨s2, o, k _ h1, h2⟩
theorem ownEnds.tr {tb : Tables} {e : Env} {below : List Frame} {Φ : State → Outcome → Prop} {A B : State} (k : Steps tb e below A B) (h : ownEnds tb e below Φ B) : ownEnds tb e below Φ A := by
  obtain ⟨s2, o, h1, h2⟩ := h
  exact ⟨s2, o, k.trans h1, h2⟩
theorem ownEnds.cast {tb : Tables} {e : Env} {below : List Frame} {Φ : State → Outcome → Prop} {T : State} {g g' : JFrame} (q : g = g') (h : ownEnds tb e below Φ (T.setTop g')) : ownEnds tb e below Φ (T.setTop g) := q ▸ h
def ownPost (s : State) (Q : Option Value → Heap → List Loc → Prop) (C S : Nat) : State → Outcome → Prop := fun U o => ∃ v L, o = .returned v ∧ Q v U.heap L ∧ FrameEnd s o U L C S
abbrev ownMet (l : Launch) (Z : State) (y : MethodName) (bytes : ByteArray) (maxL : Nat) (rt : Option FieldType) (ws : List Jvm.Cond) (rm : Room) (as : Array Value) (h0 : Heap) (Q : Option Value → Heap → List Loc → Prop) : Prop :=
  MetFree l y (head1 (Jvm.Cond.code y bytes maxL rt :: ws) rm) (fun a U => a = as ∧ Z.Warmed39 U.vm ∧ U.heap = h0) (fun _ _ _ _ _ => True) (fun _ U o U' => ∃ v L, o = .returned v ∧ Q v U'.heap L ∧ FrameEnd U o U' L rm.cells rm.slots)
theorem ownMet.of {l : Launch} {Z : State} {y : MethodName} {bytes : ByteArray} {maxL : Nat} {rt : Option FieldType} {ws : List Jvm.Cond} {rm : Room} {as : Array Value} {h0 : Heap} {Q : Option Value → Heap → List Loc → Prop} (hpl : plainFor y = true)
    (body : ∀ (p : Program) (e : Env) (s : State) (m : MethodId) (below : List Frame) (meth : Method) (c : Code) (T0 : State), p.tables.exec = Jvm.exec → c.code = bytes → c.maxLocals = maxL → Z.Warmed39 s.vm → s.vm.findClass y.cls = some m.cls → meth.name = y.name → meth.sig.returnType = rt → meth.locks = false →
      Stand p l e rm s m as below meth c T0 [] 0 0 → T0.heap = h0 → ownEnds p.tables e below (ownPost s Q rm.cells rm.slots) (T0.setTop (entryFrame m as maxL))) : ownMet l Z y bytes maxL rt ws rm as h0 Q := by
  refine MetFree.of_bodySF hpl hisR ?_
  intro p e s m args below meth c s₁ Bd hml0 hP hK
  obtain ⟨rfl, hZ, hh⟩ := hP
  exact body p e s m below meth c s₁ Bd.exec Bd.bytes hml0 hZ (findClass_of_methodNamed Bd.named) (name_of_methodNamed Bd.named Bd.method).1 Bd.returns Bd.notSynchronized (Stand.of_body Bd) (by rw [← hh, Bd.state]; rfl)
theorem ownEqV {args : Array Value} {first s : State} {o : Option Outcome} {idx : List Nat} {a b : Term} {v : Value} (h : (Cond.eq a b).value args first o s idx = some true) (hb : b.eval args first o idx s = some v) : a.eval args first o idx s = some v := by
  simp only [Cond.value, hb] at h
  cases ha : a.eval args first o idx s with
  | none => simp [ha] at h
  | some x => cases x <;> cases v <;> simp_all
theorem ownFieldAt {args : Array Value} {first s : State} {o : Option Outcome} {idx : List Nat} {t : Term} {a : Addr} {C n d : String} (ev : t.eval args first o idx s = some (.ref a)) : (Term.field t C n d).eval args first o idx s = s.fieldOf? a C n d := by
  simp [Term.eval, ev]
theorem ownLen {s : State} {args : Array Value} {t : Term} {a : Addr} {cl : Cell} {ty : FieldType} {z : Int32} (ev : t.eval args s none [] s = some (.ref a)) (A : Arr s s.heap a cl ty) (h : (Term.length t).eval args s none [] s = some (.int z)) : cl.slots.size < 2 ^ 31 ∧ cl.slots.size.toInt32 = z := by
  have q := A.fin (Vm.Alike.refl _)
  simp only [Term.eval, ev, q, Option.bind_eq_bind, Option.bind_some, Option.pure_def] at h
  split at h
  · rename_i hs
    exact ⟨hs, by simpa using h⟩
  · cases h
theorem ownEl {s : State} {args : Array Value} {t i : Term} {a : Addr} {cl : Cell} {ty : FieldType} {j : Int32} {v : Value} (ev : t.eval args s none [] s = some (.ref a)) (A : Arr s s.heap a cl ty) (ej : i.eval args s none [] s = some (.int j)) (h : (Term.elem t i).eval args s none [] s = some v) : cl.slots[j.toNatClampNeg]? = some v := by
  have q := A.fin (Vm.Alike.refl _)
  simp only [Term.eval, ev, ej, q, Option.bind_eq_bind, Option.bind_some] at h
  split at h
  · cases h
  · exact h
section OwnKit
variable {p : Program} {l : Launch} {e : Env} {R : Room} {s : State} {m : MethodId} {args : Array Value} {below : List Frame} {meth : Method} {c : Code} {T : State} {locs : List Loc} {cells slots : Nat} {Z : State} {a0 : Array Value} {h : Heap}
theorem ownRet (X : Stand p l e R s m args below meth c T locs cells slots) (hlk : meth.locks = false) {v : Option Value} (hv : meth.sig.returnType = none → v = none) {g : JFrame} {Q : Option Value → Heap → List Loc → Prop} {C S : Nat}
    (hst : ∀ fs, (∀ (f : JFrame) (acts : List Action), f.method = m → f.locked = none → f.entered = [] → (doReturn e (T.setTop f) acts v).1 = T.setFrames fs) → Steps p.tables e below (T.setTop g) (T.setFrames fs))
    (hc : cells ≤ C) (hs : slots ≤ S) (hQ : Q v T.heap locs) : ownEnds p.tables e below (ownPost s Q C S) (T.setTop g) := by
  obtain ⟨fs, hr, hrun, hended, hW, hsame⟩ := X.leave (v := v) hv hlk
  exact ⟨_, _, hst fs hr, hrun, hended, v, locs, rfl, hQ, ⟨_, rfl⟩, hW, hsame.mono hc hs⟩
theorem ownRetN (X : Stand p l e R s m args below meth c T locs cells slots) (hlk : meth.locks = false) (hx : p.tables.exec = Jvm.exec) {pc : Nat} {Ls : Array Slot} {z : Int32} {t : FieldType} {rest : List Value} (hret : meth.sig.returnType = some t) (ht : t = .boolean ∨ t = .byte ∨ t = .char ∨ t = .short)
    (hd : decode c.code pc = .ok (.ireturn, 1)) {Q : Option Value → Heap → List Loc → Prop} {C S : Nat} (hc : cells ≤ C) (hs : slots ≤ S) (hQ : Q (some (.int (nar t z))) T.heap locs) : ownEnds p.tables e below (ownPost s Q C S) (T.setTop (mkF m pc Ls (.int z :: rest))) :=
  ownRet X hlk (fun h => by rw [hret] at h; cases h) (fun fs hr => retN X hx hret ht hd hr) hc hs hQ
theorem ownRetI (X : Stand p l e R s m args below meth c T locs cells slots) (hlk : meth.locks = false) (hx : p.tables.exec = Jvm.exec) {pc : Nat} {Ls : Array Slot} {z : Int32} {rest : List Value} (hret : meth.sig.returnType = some .int)
    (hd : decode c.code pc = .ok (.ireturn, 1)) {Q : Option Value → Heap → List Loc → Prop} {C S : Nat} (hc : cells ≤ C) (hs : slots ≤ S) (hQ : Q (some (.int z)) T.heap locs) : ownEnds p.tables e below (ownPost s Q C S) (T.setTop (mkF m pc Ls (.int z :: rest))) :=
  ownRet X hlk (fun h => by rw [hret] at h; cases h) (fun fs hr => retOut X hx hret rfl (Or.inl ⟨rfl, Or.inl rfl, z, rfl⟩) hd hr) hc hs hQ
theorem ownRetL (X : Stand p l e R s m args below meth c T locs cells slots) (hlk : meth.locks = false) (hx : p.tables.exec = Jvm.exec) {pc : Nat} {Ls : Array Slot} {z : Int64} {rest : List Value} (hret : meth.sig.returnType = some .long)
    (hd : decode c.code pc = .ok (.lreturn, 1)) {Q : Option Value → Heap → List Loc → Prop} {C S : Nat} (hc : cells ≤ C) (hs : slots ≤ S) (hQ : Q (some (.long z)) T.heap locs) : ownEnds p.tables e below (ownPost s Q C S) (T.setTop (mkF m pc Ls (.long z :: rest))) :=
  ownRet X hlk (fun h => by rw [hret] at h; cases h) (fun fs hr => retOut X hx hret rfl (Or.inr (Or.inl ⟨rfl, rfl, z, rfl⟩)) hd hr) hc hs hQ
theorem ownRetA (X : Stand p l e R s m args below meth c T locs cells slots) (hlk : meth.locks = false) (hx : p.tables.exec = Jvm.exec) {pc : Nat} {Ls : Array Slot} {w : Value} {t : FieldType} {rest : List Value} (hret : meth.sig.returnType = some t) (ht : t.isReference = true) (hw : w.isRef = true)
    (hd : decode c.code pc = .ok (.areturn, 1)) {Q : Option Value → Heap → List Loc → Prop} {C S : Nat} (hc : cells ≤ C) (hs : slots ≤ S) (hQ : Q (some w) T.heap locs) : ownEnds p.tables e below (ownPost s Q C S) (T.setTop (mkF m pc Ls (w :: rest))) :=
  ownRet X hlk (fun h => by rw [hret] at h; cases h) (fun fs hr => retOut X hx hret (by rcases ref_cases hw with rfl | ⟨a, rfl⟩ <;> cases t <;> first | rfl | (simp [FieldType.isReference] at ht)) (Or.inr (Or.inr (Or.inr (Or.inr ⟨rfl, ht, hw⟩)))) hd hr) hc hs hQ
theorem ownRetV (X : Stand p l e R s m args below meth c T locs cells slots) (hlk : meth.locks = false) (hx : p.tables.exec = Jvm.exec) {pc : Nat} {Ls : Array Slot} (hret : meth.sig.returnType = none)
    (hd : decode c.code pc = .ok (.return_, 1)) {Q : Option Value → Heap → List Loc → Prop} {C S : Nat} (hc : cells ≤ C) (hs : slots ≤ S) (hQ : Q none T.heap locs) : ownEnds p.tables e below (ownPost s Q C S) (T.setTop (mkF m pc Ls [])) :=
  ownRet X hlk (fun _ => rfl) (fun fs hr => X.returnOut hx hret hd hr) hc hs hQ
theorem ownCallS (X : Stand p l e R s m args below meth c T locs cells slots) (hx : p.tables.exec = Jvm.exec) (hZ : Z.Warmed39 s.vm) {own : String} {index : Nat} (hown : s.vm.findClass own = some m.cls) {y : MethodName} {bytes : ByteArray} {maxL : Nat} {rt : Option FieldType} {rm : Room} {as : List Value} {Q : Option Value → Heap → List Loc → Prop}
    (w1 : (Cond.methodLink own index y).before a0 Z = true) (w2 : (Cond.static y).before a0 Z = true) (w3 : (Cond.initialized y.cls).before a0 Z = true) (w4 : (Cond.code y bytes maxL rt).before a0 Z = true) (hy : y.cls ≠ "java/lang/invoke/MethodHandle" ∧ y.cls ≠ "java/lang/invoke/VarHandle")
    (hM : ownMet l Z y bytes maxL rt [] rm as.toArray h Q) (eT : T.heap = h) (W : Nat) (hf : rm.frames + 1 ≤ R.frames) (hl : W + (maxL + 11) + rm.locals ≤ R.locals) (hc : cells + rm.cells ≤ R.cells) (hs : slots + rm.slots ≤ R.slots)
    {g : JFrame} (hg : g.method = m) (hsize : g.locals.size = c.maxLocals) {rest : List Value} {ps : List FieldType} {r : Option FieldType} (hd : parseMethodDescriptor y.desc = some ⟨ps, r⟩) (hlen : as.length = ps.length) (hstack : g.stack = as.reverse ++ rest) (hW : 2 * g.monitorRoom + (rest.map fun v => v.category).sum ≤ W)
    (hdg : decode c.code g.pc = .ok (.invokestatic index, 3)) :
    ∃ v T' L, Stand p l e R s m args below meth c T' (locs ++ L) (cells + rm.cells) (slots + rm.slots) ∧ Q v T'.heap L ∧ ∀ t, Steps p.tables e below (T'.setTop { g with pc := g.pc + 3, stack := v.toList ++ rest }) t → Steps p.tables e below (T.setTop g) t := by
  obtain ⟨v, _, ⟨T1, L1, k1, n1⟩, -, X1, ⟨Lc, hQ, l1, y1, z1⟩, st⟩ := Jvm.LawKit.callS X hx (y := y) hown (mvT hZ w1) (mvT hZ w2) (mvT hZ w3) (mvT hZ w4) hy (backOf (W := W) hM hZ w4 w3 hf hl) hg hsize (argsL := as) (rest := rest) (lenOf hd hlen) hstack hW hdg (fun _ _ => ⟨rfl, eT, hc, hs⟩)
  dsimp only [Pt.U, Pt.locs, Pt.cells, Pt.slots] at X1 l1 y1 z1 st hQ
  subst l1 y1 z1
  exact ⟨v, T1, Lc, X1, hQ, st⟩
theorem ownCallC (X : Stand p l e R s m args below meth c T locs cells slots) (hx : p.tables.exec = Jvm.exec) (hZ : Z.Warmed39 s.vm) {own : String} {index : Nat} (hown : s.vm.findClass own = some m.cls) {y : MethodName} (hy1 : y.name = "<init>") {bytes : ByteArray} {maxL : Nat} {rm : Room} {a : Addr} {as : List Value} {Q : Option Value → Heap → List Loc → Prop}
    (w1 : (Cond.methodLink own index y).before a0 Z = true) (w2 : (Cond.instanceMethod y).before a0 Z = true) (w3 : (Cond.initialized y.cls).before a0 Z = true) (w4 : (Cond.code y bytes maxL none).before a0 Z = true) (hy : y.cls ≠ "java/lang/invoke/MethodHandle" ∧ y.cls ≠ "java/lang/invoke/VarHandle")
    (hM : ownMet l Z y bytes maxL none [] rm (.ref a :: as).toArray h Q) (eT : T.heap = h) (W : Nat) (hf : rm.frames + 1 ≤ R.frames) (hl : W + (maxL + 11) + rm.locals ≤ R.locals) (hc : cells + rm.cells ≤ R.cells) (hs : slots + rm.slots ≤ R.slots)
    {g : JFrame} (hg : g.method = m) (hsize : g.locals.size = c.maxLocals) {rest : List Value} {ps : List FieldType} {r : Option FieldType} (hd : parseMethodDescriptor y.desc = some ⟨ps, r⟩) (hlen : as.length = ps.length) (hstack : g.stack = as.reverse ++ .ref a :: rest) (hW : 2 * g.monitorRoom + (rest.map fun v => v.category).sum ≤ W)
    (hdg : decode c.code g.pc = .ok (.invokespecial index, 3)) :
    ∃ v T' L, Stand p l e R s m args below meth c T' (locs ++ L) (cells + rm.cells) (slots + rm.slots) ∧ Q v T'.heap L ∧ ∀ t, Steps p.tables e below (T'.setTop { g with pc := g.pc + 3, stack := v.toList ++ rest }) t → Steps p.tables e below (T.setTop g) t := by
  obtain ⟨v, _, ⟨T1, L1, k1, n1⟩, -, X1, ⟨Lc, hQ, l1, y1, z1⟩, st⟩ := X.specialBack hx (y := y) hy1 hown (mvT hZ w1) (mvT hZ w2) (mvT hZ w4) hy (backOf (W := W) hM hZ w4 w3 hf hl) hg hsize (Steps.refl _) (a := a) (argsL := as) (rest := rest) (lenOf hd hlen) hstack hW hdg (fun _ _ => ⟨rfl, eT, hc, hs⟩)
  dsimp only [Pt.U, Pt.locs, Pt.cells, Pt.slots] at X1 l1 y1 z1 st hQ
  subst l1 y1 z1
  exact ⟨v, T1, Lc, X1, hQ, fun t k => st.trans k⟩
theorem ownCallV (X : Stand p l e R s m args below meth c T locs cells slots) (hx : p.tables.exec = Jvm.exec) (hZ : Z.Warmed39 s.vm) {own C : String} {index : Nat} (hown : s.vm.findClass own = some m.cls) {y z : MethodName} {bytes : ByteArray} {maxL : Nat} {rt : Option FieldType} {rm : Room} {a : Addr} {as : List Value} {Q : Option Value → Heap → List Loc → Prop}
    (w1 : (Cond.methodLink own index y).before a0 Z = true) (w2 : (Cond.declares y).before a0 Z = true) (hnf : NotFace s y) (w5 : (Cond.selects C y z).before a0 Z = true) (w6 : (Cond.instanceMethod z).before a0 Z = true) (w3 : (Cond.initialized z.cls).before a0 Z = true) (w4 : (Cond.code z bytes maxL rt).before a0 Z = true) (hy : y.cls ≠ "java/lang/invoke/MethodHandle" ∧ y.cls ≠ "java/lang/invoke/VarHandle")
    (hM : ownMet l Z z bytes maxL rt [] rm (.ref a :: as).toArray h Q) (eT : T.heap = h) (E : Exa Z h a C) (W : Nat) (hf : rm.frames + 1 ≤ R.frames) (hl : W + (maxL + 11) + rm.locals ≤ R.locals) (hc : cells + rm.cells ≤ R.cells) (hs : slots + rm.slots ≤ R.slots)
    {g : JFrame} (hg : g.method = m) (hsize : g.locals.size = c.maxLocals) {rest : List Value} {ps : List FieldType} {r : Option FieldType} (hd : parseMethodDescriptor y.desc = some ⟨ps, r⟩) (hlen : as.length = ps.length) (hstack : g.stack = as.reverse ++ .ref a :: rest) (hW : 2 * g.monitorRoom + (rest.map fun v => v.category).sum ≤ W)
    (hdg : decode c.code g.pc = .ok (.invokevirtual index, 3)) :
    ∃ v T' L, Stand p l e R s m args below meth c T' (locs ++ L) (cells + rm.cells) (slots + rm.slots) ∧ Q v T'.heap L ∧ ∀ t, Steps p.tables e below (T'.setTop { g with pc := g.pc + 3, stack := v.toList ++ rest }) t → Steps p.tables e below (T.setTop g) t := by
  obtain ⟨cq, kq, qa, qb, qc⟩ := isOf hZ eT E
  obtain ⟨v, _, ⟨T1, L1, k1, n1⟩, -, X1, ⟨Lc, hQ, l1, y1, z1⟩, st⟩ := X.virtualBack hx (y := y) (z := z) hown (mvT hZ w1) (mvT hZ w2) hnf (mvT hZ w5) (mvT hZ w6) hy (backOf (W := W) hM hZ w4 w3 hf hl) qa qc hg hsize (Steps.refl _) (argsL := as) (rest := rest) (lenOf hd hlen) hstack hW hdg (fun _ _ => ⟨rfl, eT, hc, hs⟩)
  dsimp only [Pt.U, Pt.locs, Pt.cells, Pt.slots] at X1 l1 y1 z1 st hQ
  subst l1 y1 z1
  exact ⟨v, T1, Lc, X1, hQ, fun t k => st.trans k⟩
theorem ownSelfSel {y z : MethodName} {C : String} (hz : z.cls = y.cls) (wz : (Cond.selects C z z).before args s = true) (hinst : (Cond.instanceMethod y).before args s = true) (hpriv : s.PrivateAt y) (hy : y.cls ≠ "java/lang/invoke/MethodHandle" ∧ y.cls ≠ "java/lang/invoke/VarHandle") : (Cond.selects y.cls y y).before args s = true := by
  obtain ⟨c2, r2, m2, q1, q2, q3, q4, kP, hkP, hkPi⟩ := Cond.selects_spec wz
  exact selects_self_of_private (by rw [← hz]; exact findClass_of_methodNamed q3) hkP hkPi hpriv hinst hy
theorem ownCallP (X : Stand p l e R s m args below meth c T locs cells slots) (hx : p.tables.exec = Jvm.exec) (hZ : Z.Warmed39 s.vm) {own C D : String} {index : Nat} (hown : s.vm.findClass own = some m.cls) {y z : MethodName} {bytes : ByteArray} {maxL : Nat} {rt : Option FieldType} {rm : Room} {a : Addr} {as : List Value} {Q : Option Value → Heap → List Loc → Prop}
    (w1 : (Cond.methodLink own index y).before a0 Z = true) (hz : z.cls = y.cls) (w5 : (Cond.selects C z z).before a0 Z = true) (w6 : (Cond.instanceMethod y).before a0 Z = true) (w7 : (Cond.privateMethod y).before a0 Z = true) (w3 : (Cond.initialized y.cls).before a0 Z = true) (w4 : (Cond.code y bytes maxL rt).before a0 Z = true) (hy : y.cls ≠ "java/lang/invoke/MethodHandle" ∧ y.cls ≠ "java/lang/invoke/VarHandle")
    (hM : ownMet l Z y bytes maxL rt [] rm (.ref a :: as).toArray h Q) (eT : T.heap = h) (E : Exa Z h a D) (W : Nat) (hf : rm.frames + 1 ≤ R.frames) (hl : W + (maxL + 11) + rm.locals ≤ R.locals) (hc : cells + rm.cells ≤ R.cells) (hs : slots + rm.slots ≤ R.slots)
    {g : JFrame} (hg : g.method = m) (hsize : g.locals.size = c.maxLocals) {rest : List Value} {ps : List FieldType} {r : Option FieldType} (hd : parseMethodDescriptor y.desc = some ⟨ps, r⟩) (hlen : as.length = ps.length) (hstack : g.stack = as.reverse ++ .ref a :: rest) (hW : 2 * g.monitorRoom + (rest.map fun v => v.category).sum ≤ W)
    (hdg : decode c.code g.pc = .ok (.invokevirtual index, 3)) :
    ∃ v T' L, Stand p l e R s m args below meth c T' (locs ++ L) (cells + rm.cells) (slots + rm.slots) ∧ Q v T'.heap L ∧ ∀ t, Steps p.tables e below (T'.setTop { g with pc := g.pc + 3, stack := v.toList ++ rest }) t → Steps p.tables e below (T.setTop g) t := by
  obtain ⟨cq, q1, q2⟩ := E.cell
  have hpv : s.PrivateAt y := Cond.privateMethod_at (mvP hZ w7 (args := #[]))
  obtain ⟨v, _, ⟨T1, L1, k1, n1⟩, -, X1, ⟨Lc, hQ, l1, y1, z1⟩, st⟩ := X.privateBack hx (y := y) hown (mvT hZ w1) (mvT hZ w6) (ownSelfSel hz (mvT hZ w5) (mvT hZ w6) hpv hy) hpv (mvT hZ w4) hy (backOf (W := W) hM hZ w4 w3 hf hl) hg hsize (Steps.refl _) (a := a) (by rw [eT]; exact q1) q2 (argsL := as) (rest := rest) (lenOf hd hlen) hstack hW hdg (fun _ _ => ⟨rfl, eT, hc, hs⟩)
  dsimp only [Pt.U, Pt.locs, Pt.cells, Pt.slots] at X1 l1 y1 z1 st hQ
  subst l1 y1 z1
  exact ⟨v, T1, Lc, X1, hQ, fun t k => st.trans k⟩
end OwnKit
theorem wd_0 {Z : State} {a0 : Array Value} (hw : ∀ d ∈ tables_1, d.before a0 Z = true) : (Jvm.Cond.constantLong "com/example/markup_reader/markupreader/input/internal/XmlCharsIsWhitespacePinLaw" (7 : Nat) (4294977024 : Int64)).before a0 Z = true := hw _ (List.mem_of_getElem? (i := 0) rfl)
theorem wd_1 {Z : State} {a0 : Array Value} (hw : ∀ d ∈ tables_1, d.before a0 Z = true) : (Jvm.Cond.methodLink "com/example/markup_reader/markupreader/input/internal/XmlCharsIsWhitespacePinLaw" (9 : Nat) ({ cls := "com/example/markup_reader/markupreader/input/internal/XmlChars", name := "isWhitespace", desc := "(I)Z" } : Jvm.MethodName)).before a0 Z = true := hw _ (List.mem_of_getElem? (i := 1) rfl)
theorem wd_2 {Z : State} {a0 : Array Value} (hw : ∀ d ∈ tables_1, d.before a0 Z = true) : (Jvm.Cond.static ({ cls := "com/example/markup_reader/markupreader/input/internal/XmlChars", name := "isWhitespace", desc := "(I)Z" } : Jvm.MethodName)).before a0 Z = true := hw _ (List.mem_of_getElem? (i := 2) rfl)
theorem wd_3 {Z : State} {a0 : Array Value} (hw : ∀ d ∈ tables_1, d.before a0 Z = true) : (Jvm.Cond.initialized "com/example/markup_reader/markupreader/input/internal/XmlChars").before a0 Z = true := hw _ (List.mem_of_getElem? (i := 3) rfl)
theorem wd_4 {Z : State} {a0 : Array Value} (hw : ∀ d ∈ tables_1, d.before a0 Z = true) : (Jvm.Cond.code ({ cls := "com/example/markup_reader/markupreader/input/internal/XmlChars", name := "isWhitespace", desc := "(I)Z" } : Jvm.MethodName) prog_18_method_4_code (1 : Nat) (Option.some Jvm.ClassFile.FieldType.boolean)).before a0 Z = true := hw _ (List.mem_of_getElem? (i := 4) rfl)
theorem ef_rm1 : ∀ (m : MethodId) (x : Int32), entryFrame m #[(.int x)] 1 = mkF m 0 #[.val (.int x)] [] := by intros; first | (simp [entryFrame, mkF, argsToLocals, Value.category]; done) | rfl
theorem d1_0 : decode prog_18_method_4_code 0 = .ok (.iload_n 0, 1) := by decide +kernel
theorem d1_1 : decode prog_18_method_4_code 1 = .ok (.bipush 32, 2) := by decide +kernel
theorem d1_3 : decode prog_18_method_4_code 3 = .ok (.if_icmp .eq 21, 3) := by decide +kernel
theorem d1_24 : decode prog_18_method_4_code 24 = .ok (.iconst 1, 1) := by decide +kernel
theorem d1_25 : decode prog_18_method_4_code 25 = .ok (.goto 4, 3) := by decide +kernel
theorem d1_29 : decode prog_18_method_4_code 29 = .ok (.ireturn, 1) := by decide +kernel
theorem d1_6 : decode prog_18_method_4_code 6 = .ok (.iload_n 0, 1) := by decide +kernel
theorem d1_7 : decode prog_18_method_4_code 7 = .ok (.bipush 9, 2) := by decide +kernel
theorem d1_9 : decode prog_18_method_4_code 9 = .ok (.if_icmp .eq 15, 3) := by decide +kernel
theorem d1_12 : decode prog_18_method_4_code 12 = .ok (.iload_n 0, 1) := by decide +kernel
theorem d1_13 : decode prog_18_method_4_code 13 = .ok (.bipush 10, 2) := by decide +kernel
theorem d1_15 : decode prog_18_method_4_code 15 = .ok (.if_icmp .eq 9, 3) := by decide +kernel
theorem d1_18 : decode prog_18_method_4_code 18 = .ok (.iload_n 0, 1) := by decide +kernel
theorem d1_19 : decode prog_18_method_4_code 19 = .ok (.bipush 13, 2) := by decide +kernel
theorem d1_21 : decode prog_18_method_4_code 21 = .ok (.if_icmp .ne 7, 3) := by decide +kernel
theorem d1_28 : decode prog_18_method_4_code 28 = .ok (.iconst 0, 1) := by decide +kernel
theorem pn_1 : plainName "com/example/markup_reader/markupreader/input/internal/XmlChars" = true := by first | (simp [plainName, overriddenIn]; done) | decide +kernel
theorem ef_rm0 : ∀ (m : MethodId) (xx : Int32) (sel : Int32), entryFrame m #[(.int xx), (.int sel)] maxLocals = mkF m 0 #[.val (.int xx), .val (.int sel), .unset, .unset, .unset, .unset] [] := by intros; first | (simp [entryFrame, mkF, argsToLocals, Value.category, maxLocals]; done) | rfl
theorem pd_0 : parseMethodDescriptor "(I)Z" = some ⟨[.int], some .boolean⟩ := by decide +kernel
theorem pn_0 : plainName "com/example/markup_reader/markupreader/input/internal/XmlCharsIsWhitespacePinLaw" = true := by first | (simp [plainName, overriddenIn]; done) | decide +kernel
def FW (c : Int32) : Int32 := if c = 32 then 1 else if c = 9 then 1 else if c = 10 then 1 else if c = 13 then 1 else 0
theorem FW_bits : ∀ n : Fin 64, (((4294977024 : Int64).toUInt64 >>> (Int32.ofNat n.val &&& 0x3f).toInt64.toUInt64).toInt64 &&& (1 : Int64) = 0 ↔ FW (Int32.ofNat n.val) = 0) := by
  decide +kernel
theorem FW_01 (c : Int32) : FW c = 0 ∨ FW c = 1 := by
  unfold FW
  repeat' split
  all_goals simp
theorem c64 (c : Int32) (h1 : ¬ c < 0) (h2 : c < 64) : ∃ n : Fin 64, c = Int32.ofNat n.val := by
  rw [Int32.lt_iff_toInt_lt] at h1 h2
  have e0 : (0 : Int32).toInt = 0 := rfl
  have e1 : (64 : Int32).toInt = 64 := rfl
  refine ⟨⟨c.toInt.toNat, by omega⟩, Int32.toInt_inj.mp ?_⟩
  have : (Int32.ofNat c.toInt.toNat).toInt = (c.toInt.toNat : Int) := Int32.toInt_ofNat_of_lt (by omega)
  rw [this]; omega
theorem own_lt {c : Int32} (h : c < 0) : FW c = 0 := by
  unfold FW
  repeat' split
  all_goals first | rfl | (subst_vars; exact absurd h (by decide))
theorem own_ge {c : Int32} (h : ¬ c < 64) : FW c = 0 := by
  unfold FW
  repeat' split
  all_goals first | rfl | (subst_vars; exact absurd (by decide) h)
theorem own_bit0 {c : Int32} (h1 : ¬ c < 0) (h2 : c < 64) (h : ((4294977024 : Int64).toUInt64 >>> (c &&& 0x3f).toInt64.toUInt64).toInt64 &&& (1 : Int64) = 0) : FW c = 0 := by
  obtain ⟨n, rfl⟩ := c64 c h1 h2
  exact (FW_bits n).mp h
theorem own_bit1 {c : Int32} (h1 : ¬ c < 0) (h2 : c < 64) (h : ¬ ((4294977024 : Int64).toUInt64 >>> (c &&& 0x3f).toInt64.toUInt64).toInt64 &&& (1 : Int64) = 0) : FW c = 1 := by
  obtain ⟨n, rfl⟩ := c64 c h1 h2
  exact (FW_01 _).resolve_left fun q => h ((FW_bits n).mpr q)
set_option maxRecDepth 65536 in
set_option maxHeartbeats 40000000 in
theorem rm1 (l : Launch) (Z : State) (a0 : Array Value) (hw : ∀ d ∈ tables_1, d.before a0 Z = true) (x : Int32)  (h0 : Heap) (n0 : Nat) (Z0 : n0 ≤ h0.size)  :
    ownMet l Z (⟨"com/example/markup_reader/markupreader/input/internal/XmlChars", "isWhitespace", "(I)Z"⟩ : MethodName) prog_18_method_4_code 1 (some .boolean) [] ({ frames := 0, cells := 0, slots := 0, locals := 0 } : Room) #[(.int x)] h0 (fun v h L => v = some (.int (FW x)) ∧ L = [] ∧ h = h0) := by
  refine ownMet.of (plainFor_of_name pn_1) ?_
  intro p e s m below meth c T0 hx hby hml hZ hown hnm hret hlk X0 e0
  refine ownEnds.cast (ef_rm1 m x) ?_
  show ownEnds _ _ _ _ (T0.setTop (mkF m 0 #[.val (.int x)] []))
  refine ownEnds.law (fun t k => XS.iloadN X0.here hx rfl (hb hby d1_0) rfl (XS.bipush X0.here hx rfl (hb hby d1_1) k)) ?_
  show ownEnds _ _ _ _ (T0.setTop (mkF m 3 #[.val (.int x)] [(.int (32 : Int32)), (.int x)]))
  by_cases hc3 : x = (32 : Int32)
  · refine ownEnds.law (fun t => XS.icmpYes X0.here hx rfl (pc0 := 3) (pc' := 24) rfl (hb hby d1_3) rfl (teq hc3).1 (by decide) (by decide)) ?_
    show ownEnds _ _ _ _ (T0.setTop (mkF m 24 #[.val (.int x)] []))
    refine ownEnds.law (fun t k => XS.iconst X0.here hx rfl (hb hby d1_24) (XS.goto X0.here hx rfl (pc0 := 25) (pc' := 29) rfl (hb hby d1_25) (by decide) (by decide) k)) ?_
    show ownEnds _ _ _ _ (T0.setTop (mkF m 29 #[.val (.int x)] [(.int (1 : Int32))]))
    refine ownRetN X0 hlk hx (t := .boolean) hret (by simp) (hb hby d1_29) (by decide) (by decide) ?_
    exact ⟨by simp_all [FW, nar], rfl, e0⟩
  · refine ownEnds.law (fun t => XS.icmpNo X0.here hx rfl (hb hby d1_3) rfl (feq hc3).1) ?_
    show ownEnds _ _ _ _ (T0.setTop (mkF m 6 #[.val (.int x)] []))
    refine ownEnds.law (fun t k => XS.iloadN X0.here hx rfl (hb hby d1_6) rfl (XS.bipush X0.here hx rfl (hb hby d1_7) k)) ?_
    show ownEnds _ _ _ _ (T0.setTop (mkF m 9 #[.val (.int x)] [(.int (9 : Int32)), (.int x)]))
    by_cases hc9 : x = (9 : Int32)
    · refine ownEnds.law (fun t => XS.icmpYes X0.here hx rfl (pc0 := 9) (pc' := 24) rfl (hb hby d1_9) rfl (teq hc9).1 (by decide) (by decide)) ?_
      show ownEnds _ _ _ _ (T0.setTop (mkF m 24 #[.val (.int x)] []))
      refine ownEnds.law (fun t k => XS.iconst X0.here hx rfl (hb hby d1_24) (XS.goto X0.here hx rfl (pc0 := 25) (pc' := 29) rfl (hb hby d1_25) (by decide) (by decide) k)) ?_
      show ownEnds _ _ _ _ (T0.setTop (mkF m 29 #[.val (.int x)] [(.int (1 : Int32))]))
      refine ownRetN X0 hlk hx (t := .boolean) hret (by simp) (hb hby d1_29) (by decide) (by decide) ?_
      exact ⟨by simp_all [FW, nar], rfl, e0⟩
    · refine ownEnds.law (fun t => XS.icmpNo X0.here hx rfl (hb hby d1_9) rfl (feq hc9).1) ?_
      show ownEnds _ _ _ _ (T0.setTop (mkF m 12 #[.val (.int x)] []))
      refine ownEnds.law (fun t k => XS.iloadN X0.here hx rfl (hb hby d1_12) rfl (XS.bipush X0.here hx rfl (hb hby d1_13) k)) ?_
      show ownEnds _ _ _ _ (T0.setTop (mkF m 15 #[.val (.int x)] [(.int (10 : Int32)), (.int x)]))
      by_cases hc15 : x = (10 : Int32)
      · refine ownEnds.law (fun t => XS.icmpYes X0.here hx rfl (pc0 := 15) (pc' := 24) rfl (hb hby d1_15) rfl (teq hc15).1 (by decide) (by decide)) ?_
        show ownEnds _ _ _ _ (T0.setTop (mkF m 24 #[.val (.int x)] []))
        refine ownEnds.law (fun t k => XS.iconst X0.here hx rfl (hb hby d1_24) (XS.goto X0.here hx rfl (pc0 := 25) (pc' := 29) rfl (hb hby d1_25) (by decide) (by decide) k)) ?_
        show ownEnds _ _ _ _ (T0.setTop (mkF m 29 #[.val (.int x)] [(.int (1 : Int32))]))
        refine ownRetN X0 hlk hx (t := .boolean) hret (by simp) (hb hby d1_29) (by decide) (by decide) ?_
        exact ⟨by simp_all [FW, nar], rfl, e0⟩
      · refine ownEnds.law (fun t => XS.icmpNo X0.here hx rfl (hb hby d1_15) rfl (feq hc15).1) ?_
        show ownEnds _ _ _ _ (T0.setTop (mkF m 18 #[.val (.int x)] []))
        refine ownEnds.law (fun t k => XS.iloadN X0.here hx rfl (hb hby d1_18) rfl (XS.bipush X0.here hx rfl (hb hby d1_19) k)) ?_
        show ownEnds _ _ _ _ (T0.setTop (mkF m 21 #[.val (.int x)] [(.int (13 : Int32)), (.int x)]))
        by_cases hc21 : x = (13 : Int32)
        · refine ownEnds.law (fun t => XS.icmpNo X0.here hx rfl (hb hby d1_21) rfl (teq hc21).2) ?_
          show ownEnds _ _ _ _ (T0.setTop (mkF m 24 #[.val (.int x)] []))
          refine ownEnds.law (fun t k => XS.iconst X0.here hx rfl (hb hby d1_24) (XS.goto X0.here hx rfl (pc0 := 25) (pc' := 29) rfl (hb hby d1_25) (by decide) (by decide) k)) ?_
          show ownEnds _ _ _ _ (T0.setTop (mkF m 29 #[.val (.int x)] [(.int (1 : Int32))]))
          refine ownRetN X0 hlk hx (t := .boolean) hret (by simp) (hb hby d1_29) (by decide) (by decide) ?_
          exact ⟨by simp_all [FW, nar], rfl, e0⟩
        · refine ownEnds.law (fun t => XS.icmpYes X0.here hx rfl (pc0 := 21) (pc' := 28) rfl (hb hby d1_21) rfl (feq hc21).2 (by decide) (by decide)) ?_
          show ownEnds _ _ _ _ (T0.setTop (mkF m 28 #[.val (.int x)] []))
          refine ownEnds.law (fun t k => XS.iconst X0.here hx rfl (hb hby d1_28) k) ?_
          show ownEnds _ _ _ _ (T0.setTop (mkF m 29 #[.val (.int x)] [(.int (0 : Int32))]))
          refine ownRetN X0 hlk hx (t := .boolean) hret (by simp) (hb hby d1_29) (by decide) (by decide) ?_
          exact ⟨by simp_all [FW, nar], rfl, e0⟩
set_option maxRecDepth 65536 in
set_option maxHeartbeats 40000000 in
theorem rm0 (l : Launch) (Z : State) (a0 : Array Value) (hw : ∀ d ∈ tables_1, d.before a0 Z = true) (xx : Int32) (sel : Int32)  (h0 : Heap) (n0 : Nat) (Z0 : n0 ≤ h0.size)  :
    ownMet l Z x code maxLocals ret tables_1 room_1 #[(.int xx), (.int sel)] h0 (fun v h L => v = some (.int 1) ∧ Fr n0 L) := by
  refine ownMet.of (plainFor_of_name pn_0) ?_
  intro p e s m below meth c T0 hx hby hml hZ hown hnm hret hlk X0 e0
  have hown : s.vm.findClass "com/example/markup_reader/markupreader/input/internal/XmlCharsIsWhitespacePinLaw" = some m.cls := hown
  have hml : c.maxLocals = 6 := hml
  have hret : meth.sig.returnType = some .boolean := hret
  refine ownEnds.cast (ef_rm0 m xx sel) ?_
  have J14 : ∀ (c0 : Int32), ownEnds p.tables e below (ownPost s (fun v h L => v = some (.int 1) ∧ Fr n0 L) room_1.cells room_1.slots) (T0.setTop (mkF m 14 #[.val (.int xx), .val (.int sel), .unset, .unset, .unset, .unset] [(.int c0)])) := by
    intro c0
    have J44 : ∀ (b0 : Int32) (hbb : FW c0 = b0), ownEnds p.tables e below (ownPost s (fun v h L => v = some (.int 1) ∧ Fr n0 L) room_1.cells room_1.slots) (T0.setTop (mkF m 44 #[.val (.int xx), .val (.int sel), .val (.int c0), .val (.long (4294977024 : Int64)), .second, .unset] [(.int b0)])) := by
      intro b0 hbb
      show ownEnds _ _ _ _ (T0.setTop (mkF m 44 #[.val (.int xx), .val (.int sel), .val (.int c0), .val (.long (4294977024 : Int64)), .second, .unset] [(.int b0)]))
      refine ownEnds.law (fun t k => XS.istore X0.here hx rfl (hb hby at_44) rfl (l' := #[.val (.int xx), .val (.int sel), .val (.int c0), .val (.long (4294977024 : Int64)), .second, .val (.int b0)]) rfl (XS.iloadN X0.here hx rfl (hb hby at_46) rfl k)) ?_
      show ownEnds _ _ _ _ (T0.setTop (mkF m 47 #[.val (.int xx), .val (.int sel), .val (.int c0), .val (.long (4294977024 : Int64)), .second, .val (.int b0)] [(.int c0)]))
      obtain ⟨v1, T1, L1, X1, hQ1, st1⟩ := ownCallS X0 hx hZ hown (y := (⟨"com/example/markup_reader/markupreader/input/internal/XmlChars", "isWhitespace", "(I)Z"⟩ : MethodName)) (as := [(.int c0)]) (wd_1 hw) (wd_2 hw) (wd_3 hw) (wd_4 hw) (by decide) (rm1 l Z a0 hw c0  h0 n0 Z0 ) e0 0 (by decide) (by decide) (by decide) (by decide) (g := (mkF m 47 #[.val (.int xx), .val (.int sel), .val (.int c0), .val (.long (4294977024 : Int64)), .second, .val (.int b0)] [(.int c0)])) rfl (by rw [hml]; rfl) (rest := []) pd_0 rfl rfl (by show 2 * 0 + _ ≤ _; exact Nat.le_of_eq rfl) (hb hby at_47)
      obtain ⟨rfl, rfl, e1⟩ := hQ1
      rw [List.append_nil] at X1
      refine ownEnds.law st1 ?_
      show ownEnds _ _ _ _ (T1.setTop (mkF m 50 #[.val (.int xx), .val (.int sel), .val (.int c0), .val (.long (4294977024 : Int64)), .second, .val (.int b0)] [(.int (FW c0))]))
      refine ownEnds.law (fun t k => XS.iload X1.here hx rfl (hb hby at_50) rfl k) ?_
      show ownEnds _ _ _ _ (T1.setTop (mkF m 52 #[.val (.int xx), .val (.int sel), .val (.int c0), .val (.long (4294977024 : Int64)), .second, .val (.int b0)] [(.int b0), (.int (FW c0))]))
      by_cases hc52 : (FW c0) = b0
      · refine ownEnds.law (fun t => XS.icmpNo X1.here hx rfl (hb hby at_52) rfl (teq hc52).2) ?_
        show ownEnds _ _ _ _ (T1.setTop (mkF m 55 #[.val (.int xx), .val (.int sel), .val (.int c0), .val (.long (4294977024 : Int64)), .second, .val (.int b0)] []))
        refine ownEnds.law (fun t k => XS.iconst X1.here hx rfl (hb hby at_55) (XS.goto X1.here hx rfl (pc0 := 56) (pc' := 60) rfl (hb hby at_56) (by decide) (by decide) k)) ?_
        show ownEnds _ _ _ _ (T1.setTop (mkF m 60 #[.val (.int xx), .val (.int sel), .val (.int c0), .val (.long (4294977024 : Int64)), .second, .val (.int b0)] [(.int (1 : Int32))]))
        refine ownRetN X1 hlk hx (t := .boolean) hret (by simp) (hb hby at_60) (by decide) (by decide) ?_
        exact ⟨rfl, Fr.nil n0⟩
      · refine ownEnds.law (fun t => XS.icmpYes X1.here hx rfl (pc0 := 52) (pc' := 59) rfl (hb hby at_52) rfl (feq hc52).2 (by decide) (by decide)) ?_
        show ownEnds _ _ _ _ (T1.setTop (mkF m 59 #[.val (.int xx), .val (.int sel), .val (.int c0), .val (.long (4294977024 : Int64)), .second, .val (.int b0)] []))
        refine ownEnds.law (fun t k => XS.iconst X1.here hx rfl (hb hby at_59) k) ?_
        show ownEnds _ _ _ _ (T1.setTop (mkF m 60 #[.val (.int xx), .val (.int sel), .val (.int c0), .val (.long (4294977024 : Int64)), .second, .val (.int b0)] [(.int (0 : Int32))]))
        refine ownRetN X1 hlk hx (t := .boolean) hret (by simp) (hb hby at_60) (by decide) (by decide) ?_
        exact ⟨absurd hbb hc52, Fr.nil n0⟩
    show ownEnds _ _ _ _ (T0.setTop (mkF m 14 #[.val (.int xx), .val (.int sel), .unset, .unset, .unset, .unset] [(.int c0)]))
    refine ownEnds.law (fun t k => XS.istoreN X0.here hx rfl (hb hby at_14) rfl (l' := #[.val (.int xx), .val (.int sel), .val (.int c0), .unset, .unset, .unset]) rfl (X0.ldc2Long hx hown (mvT hZ (wd_0 hw)) (g := (mkF m 15 #[.val (.int xx), .val (.int sel), .val (.int c0), .unset, .unset, .unset] [])) rfl (hb hby at_15) _ (XS.lstoreN X0.here hx rfl (hb hby at_18) rfl (l' := #[.val (.int xx), .val (.int sel), .val (.int c0), .val (.long (4294977024 : Int64)), .second, .unset]) rfl (XS.iloadN X0.here hx rfl (hb hby at_19) rfl k)))) ?_
    show ownEnds _ _ _ _ (T0.setTop (mkF m 20 #[.val (.int xx), .val (.int sel), .val (.int c0), .val (.long (4294977024 : Int64)), .second, .unset] [(.int c0)]))
    by_cases hc20 : c0 < (0 : Int32)
    · refine ownEnds.law (fun t => XS.ifYes X0.here hx rfl (pc0 := 20) (pc' := 43) rfl (hb hby at_20) rfl ((if0 _ _).trans (tlt hc20).1) (by decide) (by decide)) ?_
      show ownEnds _ _ _ _ (T0.setTop (mkF m 43 #[.val (.int xx), .val (.int sel), .val (.int c0), .val (.long (4294977024 : Int64)), .second, .unset] []))
      refine ownEnds.law (fun t k => XS.iconst X0.here hx rfl (hb hby at_43) k) ?_
      show ownEnds _ _ _ _ (T0.setTop (mkF m 44 #[.val (.int xx), .val (.int sel), .val (.int c0), .val (.long (4294977024 : Int64)), .second, .unset] [(.int (0 : Int32))]))
      exact J44 _ (by first | exact own_lt hc20 | exact own_ge hc26 | exact own_bit0 hc20 hc26 hc36 | exact own_bit1 hc20 hc26 hc36)
    · refine ownEnds.law (fun t => XS.ifNo X0.here hx rfl (hb hby at_20) rfl ((if0 _ _).trans (flt hc20).1)) ?_
      show ownEnds _ _ _ _ (T0.setTop (mkF m 23 #[.val (.int xx), .val (.int sel), .val (.int c0), .val (.long (4294977024 : Int64)), .second, .unset] []))
      refine ownEnds.law (fun t k => XS.iloadN X0.here hx rfl (hb hby at_23) rfl (XS.bipush X0.here hx rfl (hb hby at_24) k)) ?_
      show ownEnds _ _ _ _ (T0.setTop (mkF m 26 #[.val (.int xx), .val (.int sel), .val (.int c0), .val (.long (4294977024 : Int64)), .second, .unset] [(.int (64 : Int32)), (.int c0)]))
      by_cases hc26 : c0 < (64 : Int32)
      · refine ownEnds.law (fun t => XS.icmpNo X0.here hx rfl (hb hby at_26) rfl (tlt hc26).2.1) ?_
        show ownEnds _ _ _ _ (T0.setTop (mkF m 29 #[.val (.int xx), .val (.int sel), .val (.int c0), .val (.long (4294977024 : Int64)), .second, .unset] []))
        refine ownEnds.law (fun t k => XS.lloadN X0.here hx rfl (hb hby at_29) rfl (XS.iloadN X0.here hx rfl (hb hby at_30) rfl (XS.lushr X0.here hx rfl (hb hby at_31) rfl (XS.lconst X0.here hx rfl (hb hby at_32) (XS.land X0.here hx rfl (hb hby at_33) rfl (XS.lconst X0.here hx rfl (hb hby at_34) (XS.lcmp X0.here hx rfl (hb hby at_35) rfl k))))))) ?_
        show ownEnds _ _ _ _ (T0.setTop (mkF m 36 #[.val (.int xx), .val (.int sel), .val (.int c0), .val (.long (4294977024 : Int64)), .second, .unset] [(.int (lcmpW ((((4294977024 : Int64).toUInt64 >>> (c0 &&& 0x3f).toInt64.toUInt64).toInt64) &&& (1 : Int64)) (0 : Int64)))]))
        by_cases hc36 : ((((4294977024 : Int64).toUInt64 >>> (c0 &&& 0x3f).toInt64.toUInt64).toInt64) &&& (1 : Int64)) = (0 : Int64)
        · refine ownEnds.law (fun t => XS.ifYes X0.here hx rfl (pc0 := 36) (pc' := 43) rfl (hb hby at_36) rfl ((if0 _ _).trans (teq ((lw_eq _ _).mpr hc36)).1) (by decide) (by decide)) ?_
          show ownEnds _ _ _ _ (T0.setTop (mkF m 43 #[.val (.int xx), .val (.int sel), .val (.int c0), .val (.long (4294977024 : Int64)), .second, .unset] []))
          refine ownEnds.law (fun t k => XS.iconst X0.here hx rfl (hb hby at_43) k) ?_
          show ownEnds _ _ _ _ (T0.setTop (mkF m 44 #[.val (.int xx), .val (.int sel), .val (.int c0), .val (.long (4294977024 : Int64)), .second, .unset] [(.int (0 : Int32))]))
          exact J44 _ (by first | exact own_lt hc20 | exact own_ge hc26 | exact own_bit0 hc20 hc26 hc36 | exact own_bit1 hc20 hc26 hc36)
        · refine ownEnds.law (fun t => XS.ifNo X0.here hx rfl (hb hby at_36) rfl ((if0 _ _).trans (feq (fun q => hc36 ((lw_eq _ _).mp q))).1)) ?_
          show ownEnds _ _ _ _ (T0.setTop (mkF m 39 #[.val (.int xx), .val (.int sel), .val (.int c0), .val (.long (4294977024 : Int64)), .second, .unset] []))
          refine ownEnds.law (fun t k => XS.iconst X0.here hx rfl (hb hby at_39) (XS.goto X0.here hx rfl (pc0 := 40) (pc' := 44) rfl (hb hby at_40) (by decide) (by decide) k)) ?_
          show ownEnds _ _ _ _ (T0.setTop (mkF m 44 #[.val (.int xx), .val (.int sel), .val (.int c0), .val (.long (4294977024 : Int64)), .second, .unset] [(.int (1 : Int32))]))
          exact J44 _ (by first | exact own_lt hc20 | exact own_ge hc26 | exact own_bit0 hc20 hc26 hc36 | exact own_bit1 hc20 hc26 hc36)
      · refine ownEnds.law (fun t => XS.icmpYes X0.here hx rfl (pc0 := 26) (pc' := 43) rfl (hb hby at_26) rfl (flt hc26).2.1 (by decide) (by decide)) ?_
        show ownEnds _ _ _ _ (T0.setTop (mkF m 43 #[.val (.int xx), .val (.int sel), .val (.int c0), .val (.long (4294977024 : Int64)), .second, .unset] []))
        refine ownEnds.law (fun t k => XS.iconst X0.here hx rfl (hb hby at_43) k) ?_
        show ownEnds _ _ _ _ (T0.setTop (mkF m 44 #[.val (.int xx), .val (.int sel), .val (.int c0), .val (.long (4294977024 : Int64)), .second, .unset] [(.int (0 : Int32))]))
        exact J44 _ (by first | exact own_lt hc20 | exact own_ge hc26 | exact own_bit0 hc20 hc26 hc36 | exact own_bit1 hc20 hc26 hc36)
  show ownEnds _ _ _ _ (T0.setTop (mkF m 0 #[.val (.int xx), .val (.int sel), .unset, .unset, .unset, .unset] []))
  refine ownEnds.law (fun t k => XS.iloadN X0.here hx rfl (hb hby at_0) rfl (XS.iconst X0.here hx rfl (hb hby at_1) (XS.iand X0.here hx rfl (hb hby at_2) rfl k))) ?_
  show ownEnds _ _ _ _ (T0.setTop (mkF m 3 #[.val (.int xx), .val (.int sel), .unset, .unset, .unset, .unset] [(.int (sel &&& (1 : Int32)))]))
  by_cases hc3 : (sel &&& (1 : Int32)) = (0 : Int32)
  · refine ownEnds.law (fun t => XS.ifYes X0.here hx rfl (pc0 := 3) (pc' := 10) rfl (hb hby at_3) rfl ((if0 _ _).trans (teq hc3).1) (by decide) (by decide)) ?_
    show ownEnds _ _ _ _ (T0.setTop (mkF m 10 #[.val (.int xx), .val (.int sel), .unset, .unset, .unset, .unset] []))
    refine ownEnds.law (fun t k => XS.iloadN X0.here hx rfl (hb hby at_10) rfl (XS.bipush X0.here hx rfl (hb hby at_11) (XS.iand X0.here hx rfl (hb hby at_13) rfl k))) ?_
    show ownEnds _ _ _ _ (T0.setTop (mkF m 14 #[.val (.int xx), .val (.int sel), .unset, .unset, .unset, .unset] [(.int (xx &&& (63 : Int32)))]))
    exact J14 _
  · refine ownEnds.law (fun t => XS.ifNo X0.here hx rfl (hb hby at_3) rfl ((if0 _ _).trans (feq hc3).1)) ?_
    show ownEnds _ _ _ _ (T0.setTop (mkF m 6 #[.val (.int xx), .val (.int sel), .unset, .unset, .unset, .unset] []))
    refine ownEnds.law (fun t k => XS.iloadN X0.here hx rfl (hb hby at_6) rfl (XS.goto X0.here hx rfl (pc0 := 7) (pc' := 14) rfl (hb hby at_7) (by decide) (by decide) k)) ?_
    show ownEnds _ _ _ _ (T0.setTop (mkF m 14 #[.val (.int xx), .val (.int sel), .unset, .unset, .unset, .unset] [(.int xx)]))
    exact J14 _
set_option maxRecDepth 65536 in
set_option maxHeartbeats 40000000 in
theorem comes_1 {Post : Tables → Env → Array Value → State → Outcome → State → Prop} (hpost : ∀ tb e args s v u, (limb_1_1.after args s (.returned v) u = true ∧ limb_1_2.after args s (.returned v) u = true ∧ True) → FrameEnd s (.returned v) u (Jvm.fieldLocs frame_1_writes args s ++ Jvm.arrayLocs frame_1_arrays args s ++ Jvm.staticLocs frame_1_statics s) 0 0 → Post tb e args s (.returned v) u) :
    ArmFor flags0 classFile x code maxLocals ret World_1 tables_1 room_1 Calls_1 rest_1 Pre_1 Post := by
  intro l hfl _ _ p e ha hc hk s m args below hf hA hF happ hP
  obtain ⟨hcalls, hrest, hpre⟩ := hP
  obtain ⟨-, -, -, hnamed, -, -, -, hat⟩ := (Spec.applies_iff hf).mp happ
  obtain ⟨hg, hn⟩ := and_e (Cond.before_iff.mp (show (Jvm.Cond.and given_1 narrow_1).before args s = true from hpre))
  obtain ⟨gg1, gg2⟩ := and_e hg
  obtain ⟨gg3, gg4⟩ := and_e gg2
  obtain ⟨w0, w1, rfl⟩ : ∃ w0 w1 : Value, args = #[w0, w1] := by
    have hs : args.size = 2 := by simpa [Cond.value, given_1] using gg1
    obtain ⟨L⟩ := args
    match L, hs with
    | [w0, w1], _ => exact ⟨w0, w1, rfl⟩
  have hw := fun d (hd : d ∈ tables_1) => atoms_spec (ws := Jvm.Cond.code x code maxLocals ret :: tables_1) hat d (List.mem_cons_of_mem _ hd)
  have hfit : Fit s := fun {y c} hc i hi => by
    obtain ⟨ha, rfl⟩ := Array.getElem?_eq_some_iff.mp hc
    have q := List.all_eq_true.mp ((Array.all_eq_true_iff_forall_mem.mp hF) _ (Array.getElem_mem ha)) i (List.mem_range.mpr hi)
    simpa [Array.getElem?_eq_getElem hi] using q
  obtain ⟨i0, ei0⟩ := is_v gg3
  obtain rfl : w0 = (.int i0) := Option.some.inj ei0
  obtain ⟨i1, ei1⟩ := is_v gg4
  obtain rfl : w1 = (.int i1) := Option.some.inj ei1
  obtain ⟨n, o, h1, h2, h3, _, L, rfl, ⟨rfl, N⟩, hq⟩ := rm0 l s _ hw i0 i1  s.heap s.heap.size (Nat.le_refl _)  p e ha hc hk s m _ below hf ((Spec.applies_iff_loose hf).mp happ).1 ⟨rfl, State.Warmed39.refl s, rfl⟩ trivial
  refine ⟨n, _, h1, h2, h3, hpost _ _ _ _ _ _ ⟨Cond.after_iff.mpr rfl, Cond.after_iff.mpr (eq_i res_at (Term.int_eval (1)) rfl), trivial⟩ ⟨hq.1, hq.2.1, (hq.2.2.sift fun y hy => Or.inr (N y hy)).mono (by decide) (by decide)⟩⟩
theorem main_1_1 : Claimed_1_1 := comes_1 fun _ _ _ _ _ _ h hF => ⟨h.1, hF⟩
theorem main_1_2 : Claimed_1_2 := comes_1 fun _ _ _ _ _ _ h hF => ⟨h.2.1, hF⟩
end Jvm.Pilot.@@N@@
namespace Jvm.Pilot.@@N@@
open Jvm Jvm.ClassFile Sem Op Lib Jvm.Free Jvm.Stand Jvm.Pilot.@@N@@.Jvm.D
/-! MADE BY PROGRAM (witnessworld.py) out of the Statement's table words and the real class files: 9 classes; the members and pool entries that the words name. The judged class is class 1, her method 1. -/
namespace start1
open Jvm.ClassFile
def u (s : String) : CpInfo := .utf8 (stringToUtf16 s)
/-- a pool by its gaps: so many unusable entries, then the entry; so many at the end -/
def gap : Nat → List CpInfo → List CpInfo
  | 0, r => r
  | n + 1, r => .unusable :: gap n r
def poolList (es : List (Nat × CpInfo)) (last : Nat) : List CpInfo := es.foldr (fun e r => gap e.1 (e.2 :: r)) (gap last [])
def pool (es : List (Nat × CpInfo)) (last : Nat) : Array CpInfo := ⟨poolList es last⟩
def fileOf (pool : Array CpInfo) (this : Nat) (attrs : Array Attribute := #[]) (ms : Array MethodInfo := #[]) (fl : Nat := 33) (sup : Nat := 0) (ifs : Array Nat := #[]) (fds : Array FieldInfo := #[]) : ClassFile where
  minorVersion := 0
  majorVersion := 65
  constantPool := pool
  accessFlags := fl
  thisClass := this
  superClass := sup
  interfaces := ifs
  fields := fds
  methods := ms
  attributes := attrs
def plain (name : String) (sup : Option ClassId) : Class where
  name := name
  kind := .ordinary
  loader := none
  accessFlags := 33
  super := sup
  interfaces := #[]
  cf := none
  fields := #[]
  methods := #[]
  instanceTypes := #[]
  staticTypes := #[]
  resolved := #[]
  callSites := []
  init := .initialized
  statics := none
  mirror := none

def pool0 : Array CpInfo := pool [(5, u "<init>"), (0, u "()V"), (1, .class_ 10), (1, u "java/lang/Object")] 113

def k0m0 : Method := { name := "<init>", desc := "()V", sig := { parameters := [], returnType := none }, accessFlags := 1, code := none }
/-- java/lang/Object -/
def k0 : Class := { plain "java/lang/Object" none with
  accessFlags := 33
  interfaces := #[]
  cf := some (fileOf pool0 8 #[] #[{ accessFlags := 1, nameIndex := 5, descriptorIndex := 6, attributes := #[] }] 33 0 #[] #[])
  fields := #[]
  methods := #[k0m0]
  instanceTypes := #[]
  staticTypes := #[]
  resolved := Array.replicate 124 none
  statics := none }

def pool1 : Array CpInfo := pool [(2, .class_ 4), (1, u "java/lang/Object"), (0, u "<init>"), (0, u "()V"), (0, .long 4294977024), (1, .methodref 10 11), (0, .class_ 12), (0, .nameAndType 13 14), (0, u "com/example/markup_reader/markupreader/input/internal/XmlChars"), (0, u "isWhitespace"), (0, u "(I)Z"), (0, .class_ 16), (0, u "com/example/markup_reader/markupreader/input/internal/XmlCharsIsWhitespacePinLaw"), (2, u "law"), (0, u "(II)Z")] 3

def k1m0 : Method := { name := "<init>", desc := "()V", sig := { parameters := [], returnType := none }, accessFlags := 2, code := none }
def k1c1 : Code := { maxStack := 4, maxLocals := 6, code := code, exceptionTable := #[], attributes := #[] }
def k1m1 : Method := { name := "law", desc := "(II)Z", sig := { parameters := [.int, .int], returnType := some .boolean }, accessFlags := 9, code := some k1c1 }
/-- com/example/markup_reader/markupreader/input/internal/XmlCharsIsWhitespacePinLaw -/
def k1 : Class := { plain "com/example/markup_reader/markupreader/input/internal/XmlCharsIsWhitespacePinLaw" (some 0) with
  accessFlags := 49
  interfaces := #[]
  cf := some (fileOf pool1 15 #[] #[{ accessFlags := 2, nameIndex := 5, descriptorIndex := 6, attributes := #[] }, { accessFlags := 9, nameIndex := 19, descriptorIndex := 20, attributes := #[] }] 49 2 #[] #[])
  fields := #[]
  methods := #[k1m0, k1m1]
  instanceTypes := #[]
  staticTypes := #[]
  resolved := Array.replicate 24 none
  statics := none }

def pool2 : Array CpInfo := pool [(2, .class_ 4), (1, u "java/lang/Object"), (0, u "<init>"), (0, u "()V"), (1, .class_ 10), (1, u "com/example/markup_reader/markupreader/input/internal/XmlChars"), (0, u "ASCII_NAME_CHARS"), (0, u "[Z"), (8, u "(I)Z"), (56, u "isWhitespace")] 10

def k2m0 : Method := { name := "<init>", desc := "()V", sig := { parameters := [], returnType := none }, accessFlags := 2, code := none }
def k2c1 : Code := { maxStack := 2, maxLocals := 1, code := prog_18_method_4_code, exceptionTable := #[], attributes := #[] }
def k2m1 : Method := { name := "isWhitespace", desc := "(I)Z", sig := { parameters := [.int], returnType := some .boolean }, accessFlags := 9, code := some k2c1 }
/-- com/example/markup_reader/markupreader/input/internal/XmlChars -/
def k2 : Class := { plain "com/example/markup_reader/markupreader/input/internal/XmlChars" (some 0) with
  accessFlags := 49
  interfaces := #[]
  cf := some (fileOf pool2 8 #[] #[{ accessFlags := 2, nameIndex := 5, descriptorIndex := 6, attributes := #[] }, { accessFlags := 9, nameIndex := 78, descriptorIndex := 21, attributes := #[] }] 49 2 #[] #[{ accessFlags := 26, nameIndex := 11, descriptorIndex := 12, attributes := #[] }])
  fields := #[{ name := "ASCII_NAME_CHARS", type := (.array .boolean), accessFlags := 26, slot := 0, constantValue := 0 }]
  methods := #[k2m0, k2m1]
  instanceTypes := #[]
  staticTypes := #[(.array .boolean)]
  resolved := Array.replicate 89 none
  statics := none }

def pool3 : Array CpInfo := pool [(1, u "java/lang/Cloneable"), (0, .class_ 1), (0, u "java/lang/Object"), (0, .class_ 3)] 3

/-- java/lang/Cloneable -/
def k3 : Class := { plain "java/lang/Cloneable" (some 0) with
  accessFlags := 1537
  interfaces := #[]
  cf := some (fileOf pool3 2 #[] #[] 1537 4 #[] #[])
  fields := #[]
  methods := #[]
  instanceTypes := #[]
  staticTypes := #[]
  resolved := Array.replicate 8 none
  statics := none }

def pool4 : Array CpInfo := pool [(1, u "java/io/Serializable"), (0, .class_ 1), (0, u "java/lang/Object"), (0, .class_ 3)] 3

/-- java/io/Serializable -/
def k4 : Class := { plain "java/io/Serializable" (some 0) with
  accessFlags := 1537
  interfaces := #[]
  cf := some (fileOf pool4 2 #[] #[] 1537 4 #[] #[])
  fields := #[]
  methods := #[]
  instanceTypes := #[]
  staticTypes := #[]
  resolved := Array.replicate 8 none
  statics := none }

/-- the primitive byte -/
def k5 : Class := { plain "byte" none with kind := .primitive 'B', accessFlags := 0x411 }
/-- [B -/
def k6 : Class := { plain "[B" (some 0) with kind := .array 5 .byte, interfaces := #[3, 4], accessFlags := 1041 }

/-- the primitive int -/
def k7 : Class := { plain "int" none with kind := .primitive 'I', accessFlags := 0x411 }
/-- [I -/
def k8 : Class := { plain "[I" (some 0) with kind := .array 7 .int, interfaces := #[3, 4], accessFlags := 1041 }

def heap : Heap := #[]
def classes : Array Class := #[k0, k1, k2, k3, k4, k5, k6, k7, k8]
def interned : List (Array UInt16 × Addr) := []
def slotsUsed : Nat := 0
def theMethod : MethodId := ⟨1, 1⟩
def args0 : Array Value := #[.int 5, .int 6]
def aboutOver (below : List Frame) : State where
  vm := { classes := classes, interned := interned.toArray }
  heap := heap
  slotsUsed := slotsUsed
  threads := #[{ frames := .invoking theMethod args0 :: below }]
def below0 : List Frame := [.native { method := ⟨0, 0⟩, args := #[] }]
def about1 : State := aboutOver below0
def p0 : Program := .bare "" "" ""
def e0 : Env := launch0.env 0 0 0
theorem w_frames : about1.frames = Frame.invoking theMethod args0 :: below0 := rfl
set_option maxRecDepth 65536 in
theorem w_args : argsFit about1.vm theMethod args0 = true := by decide +kernel
set_option maxRecDepth 65536 in
theorem w_heap : heapFits about1 = true := by decide +kernel
set_option maxRecDepth 65536 in
theorem w_runnable : about1.curStatus? = some .runnable := by decide +kernel
set_option maxRecDepth 65536 in
theorem w_alone : about1.alone = true := by decide +kernel
set_option maxRecDepth 65536 in
theorem w_named : about1.methodNamed? x = some theMethod := by decide +kernel
set_option maxRecDepth 65536 in
theorem w_hears : about1.hears theMethod below0 = true := by decide +kernel
set_option maxRecDepth 65536 in
theorem w_ripe : about1.ripe theMethod args0 below0 = true := by decide +kernel
theorem w_running : about1.status = .running := rfl
set_option maxRecDepth 65536 in
theorem w_room : about1.hasRoom e0.platform room_1 = true :=
  launch0.hasRoom_least _ room_1 (by decide +kernel) (by decide +kernel) (by decide +kernel) (by decide +kernel) (by decide +kernel) (by decide +kernel)
theorem allAtoms_all (ts : List Jvm.Cond) (a : Array Jvm.Value) (st : Jvm.State) : (allAtoms ts).before a st = ts.all (fun c => c.before a st) := by
  induction ts with
  | nil => rfl
  | cons c t ih =>
    show (Jvm.Cond.and c (allAtoms t)).before a st = _
    rw [Jvm.Cond.before_and, ih, List.all_cons]
def words1 : List Jvm.Cond := Jvm.Cond.code x code maxLocals ret :: tables_1
/-- a 'code' word, met by the world's own term for the bytes: nothing is compared byte by byte -/
theorem code_word {y : MethodName} {bytes : ByteArray} {mx : Nat} {rt : Option FieldType} {a : Array Value} {s : State} {m : MethodId} {meth : Method} {c : Code} (h1 : s.methodNamed? y = some m) (h2 : s.vm.method? m = some meth) (h3 : meth.code = some c) (h4 : c.code = bytes)
    (h5 : (c.maxLocals == mx && c.exceptionTable.isEmpty && decide (c.maxStack ≤ mostOperands) && decide (meth.sig.returnType = rt) && !meth.locks && decide (parseMethodDescriptor y.desc = some meth.sig)) = true) : (Jvm.Cond.code y bytes mx rt).before a s = true := by
  simp only [Bool.and_eq_true, beq_iff_eq, Bool.not_eq_true', decide_eq_true_eq] at h5
  obtain ⟨⟨⟨⟨⟨g1, g2⟩, g3⟩, g4⟩, g5⟩, g6⟩ := h5
  simp [Cond.before, Cond.holds, Cond.value, h1, h2, h3, h4, g1, g2, g3, g4, g5, g6]
def isCode : Jvm.Cond → Bool
  | .code _ _ _ _ => true
  | _ => false
theorem all_split {L : List Jvm.Cond} {P : Jvm.Cond → Bool} (h1 : L.all (fun c => isCode c || P c) = true) (h2 : ∀ c ∈ L.filter isCode, P c = true) : L.all P = true := by
  refine List.all_eq_true.mpr fun c hc => ?_
  have h := List.all_eq_true.mp h1 c hc
  rcases Bool.eq_false_or_eq_true (isCode c) with hi | hi
  · exact h2 c (List.mem_filter.mpr ⟨hc, hi⟩)
  · simpa [hi] using h
set_option maxRecDepth 65536 in
theorem w_c0 : (Jvm.Cond.code x code maxLocals ret).before args0 about1 = true := code_word (m := ⟨1, 1⟩) (meth := k1m1) (c := k1c1) (by decide +kernel) rfl rfl rfl (by decide +kernel)
set_option maxRecDepth 65536 in
theorem w_c1 : (Jvm.Cond.code ({ cls := "com/example/markup_reader/markupreader/input/internal/XmlChars", name := "isWhitespace", desc := "(I)Z" } : Jvm.MethodName) prog_18_method_4_code (1 : Nat) (Option.some Jvm.ClassFile.FieldType.boolean)).before args0 about1 = true := code_word (m := ⟨2, 1⟩) (meth := k2m1) (c := k2c1) (by decide +kernel) rfl rfl rfl (by decide +kernel)
def codes1 : List Jvm.Cond := [Jvm.Cond.code x code maxLocals ret, Jvm.Cond.code ({ cls := "com/example/markup_reader/markupreader/input/internal/XmlChars", name := "isWhitespace", desc := "(I)Z" } : Jvm.MethodName) prog_18_method_4_code (1 : Nat) (Option.some Jvm.ClassFile.FieldType.boolean)]
set_option maxRecDepth 65536 in
theorem codes_eq : words1.filter isCode = codes1 := rfl
theorem w_codes : ∀ c ∈ words1.filter isCode, c.before args0 about1 = true := by
  rw [codes_eq]
  intro c hc
  simp only [codes1, List.mem_cons, List.not_mem_nil, or_false] at hc
  rcases hc with rfl | rfl
  · exact w_c0
  · exact w_c1
set_option maxRecDepth 65536 in
theorem w_t1 : words1.all (fun c => isCode c || c.before args0 about1) = true := by decide +kernel
theorem w_tables : (allAtoms (Jvm.Cond.code x code maxLocals ret :: tables_1)).before args0 about1 = true := by
  rw [allAtoms_all]
  show words1.all (fun c => c.before args0 about1) = true
  refine all_split ?_ w_codes
  rw [w_t1]
set_option maxRecDepth 65536 in
theorem w_case : (Jvm.Cond.and given_1 narrow_1).before args0 about1 = true := by decide +kernel
theorem w_applies : (headSpec (Jvm.Cond.code x code maxLocals ret :: tables_1) room_1).applies x e0.platform about1 = true :=
  (Spec.applies_iff w_frames).mpr ⟨w_running, w_runnable, w_alone, w_named, w_hears, w_ripe, w_room, w_tables⟩
theorem atStart : AtStart classFile x code maxLocals ret World_1 tables_1 room_1 Calls_1 rest_1 Pre_1 launch0 p0 e0 about1 theMethod args0 below0 :=
  ⟨lists_1, trivial, launch0.admits_env _ _ _, launch0.least_env, fairChoices_fair.cas, fairChoices_fair.clock, w_frames, w_args, w_heap, w_applies, trivial, trivial, w_case⟩
end start1
theorem witness_1 : WitnessClaimed_1 := ⟨start1.p0, start1.e0, start1.about1, start1.theMethod, start1.args0, start1.below0, start1.atStart⟩
end Jvm.Pilot.@@N@@
