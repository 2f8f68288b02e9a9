import JvmDerived
import JvmDerived.Pilot.@@N@@Statement
import JvmDerived.Pilot.@@N@@Code
set_option linter.unusedVariables false
set_option linter.unusedSimpArgs false
/- laws to paste: Road.backV, Road.lenW, Road.codOf (cut by pick.py; bodies as the Statement names them) -/
namespace Jvm.Pilot.@@N@@
namespace StrChars
open Jvm Sem ClassFile Op Lib Jvm.Stand Jvm.Free.XT Jvm.Free.ALB Jvm.Free.JM Jvm.Free
open Jvm.Lib.Cold (StaticIs)
/-- a char array whose places are chars -/
def Ch (a : Addr) (A : Cell) (U : State) : Prop := Arr .char a A U ∧ Typed .char A
theorem Ch.mv {a : Addr} {A : Cell} {U U' : State} (h : Ch a A U) (hal : U.vm.Alike U'.vm) (hh : U'.heap = U.heap) : Ch a A U' := ⟨h.1.mv hal hh, h.2⟩
theorem Ch.keep {a : Addr} {A : Cell} {U U' : State} (h : Ch a A U) (hal : U.vm.Alike U'.vm) (hk : U'.heap[a]? = some A) : Ch a A U' := ⟨h.1.keep hal hk, h.2⟩
/-- what place i of a char[]'s cell holds -/
def cv (A : Cell) (i : Nat) : Int32 := match A.slots[i]? with | some (.int x) => x | _ => 0
theorem Ch.get {a : Addr} {A : Cell} {U : State} (h : Ch a A U) {i : Nat} (hi : i < A.slots.size) : A.slots[i]? = some (.int (cv A i)) := by
  have e := Array.getElem?_eq_getElem hi
  have f := h.2 i _ e
  unfold cv; rw [e]
  generalize A.slots[i] = v at f
  cases v <;> simp [fits] at f ⊢
/-- the byte that i2b leaves of a char -/
def lo8 (x : Int32) : Int32 := x.toInt8.toInt32
theorem fits_lo8 (y : Int32) : fits .byte (.int (lo8 y)) = true := by
  have h1 := y.toInt8.le_toInt
  have h2 := y.toInt8.toInt_lt
  simp only [lo8, fits, Bool.and_eq_true, decide_eq_true_eq, Int32.le_iff_toInt_le, Int8.toInt_toInt32, show (-128 : Int32).toInt = -128 from by decide, show (127 : Int32).toInt = 127 from by decide]
  omega
/-- A' is A but that each place j of lo .. hi - 1 holds f j -/
def Laid (A A' : Cell) (lo hi : Nat) (f : Nat → Value) : Prop := A'.cls = A.cls ∧ A'.vm = A.vm ∧ A'.slots.size = A.slots.size ∧ ∀ i, A'.slots[i]? = if lo ≤ i ∧ i < hi then some (f i) else A.slots[i]?
theorem Laid.zero (A : Cell) (lo : Nat) (f : Nat → Value) : Laid A A lo (lo + 0) f := ⟨rfl, rfl, rfl, fun i => by rw [if_neg (by omega)]⟩
theorem Laid.step {A Ak : Cell} {lo k : Nat} {f : Nat → Value} {v : Value} (h : Laid A Ak lo k f) (hlo : lo ≤ k) (hk : k < Ak.slots.size) (hv : v = f k) : Laid A (Ak.setSlot k v) lo (k + 1) f := by
  refine ⟨h.1, h.2.1, by simpa [Cell.setSlot] using h.2.2.1, fun i => ?_⟩
  by_cases e : k = i
  · subst e; rw [Cell.slots_setSlot_self v hk, if_pos (by omega), hv]
  · rw [Cell.slots_setSlot_ne v e, h.2.2.2 i]
    by_cases q : lo ≤ i ∧ i < k
    · rw [if_pos q, if_pos (by omega)]
    · rw [if_neg q, if_neg (by omega)]
def U16 : String := "java/lang/StringUTF16"
namespace Cmp5
def yN : MethodName := ⟨"java/lang/StringUTF16", "compress", "([CI[BII)I"⟩
abbrev yB : ByteArray := jdk_52_method_21_code
theorem d0 : decode yB 0 = .ok (.iconst 0, 1) := by decide +kernel
theorem d1 : decode yB 1 = .ok (.istore 5, 2) := by decide +kernel
theorem d3 : decode yB 3 = .ok (.iload 5, 2) := by decide +kernel
theorem d5 : decode yB 5 = .ok (.iload 4, 2) := by decide +kernel
theorem d7 : decode yB 7 = .ok (.if_icmp (.ge) 37, 3) := by decide +kernel
theorem d10 : decode yB 10 = .ok (.aload_n 0, 1) := by decide +kernel
theorem d11 : decode yB 11 = .ok (.iload_n 1, 1) := by decide +kernel
theorem d12 : decode yB 12 = .ok (.caload, 1) := by decide +kernel
theorem d13 : decode yB 13 = .ok (.istore 6, 2) := by decide +kernel
theorem d15 : decode yB 15 = .ok (.iload 6, 2) := by decide +kernel
theorem d17 : decode yB 17 = .ok (.sipush 255, 3) := by decide +kernel
theorem d20 : decode yB 20 = .ok (.if_icmp (.le) 6, 3) := by decide +kernel
theorem d26 : decode yB 26 = .ok (.aload_n 2, 1) := by decide +kernel
theorem d27 : decode yB 27 = .ok (.iload_n 3, 1) := by decide +kernel
theorem d28 : decode yB 28 = .ok (.iload 6, 2) := by decide +kernel
theorem d30 : decode yB 30 = .ok (.i2b, 1) := by decide +kernel
theorem d31 : decode yB 31 = .ok (.bastore, 1) := by decide +kernel
theorem d32 : decode yB 32 = .ok (.iinc 1 1, 3) := by decide +kernel
theorem d35 : decode yB 35 = .ok (.iinc 3 1, 3) := by decide +kernel
theorem d38 : decode yB 38 = .ok (.iinc 5 1, 3) := by decide +kernel
theorem d41 : decode yB 41 = .ok (.goto (-38), 3) := by decide +kernel
theorem d44 : decode yB 44 = .ok (.iload 4, 2) := by decide +kernel
theorem d46 : decode yB 46 = .ok (.ireturn, 1) := by decide +kernel
def site : List Cond := []
def tab : Cond := tabOf yN yB 7 (some .int) site
def P (b : Addr) (A : Cell) (d : Addr) (B : Cell) (o q len : Nat) (args : Array Value) (s : State) : Prop := args = #[.ref b, .int (Int32.ofNat o), .ref d, .int (Int32.ofNat q), .int (Int32.ofNat len)] ∧ Ch b A s ∧ Arr .byte d B s ∧ b ≠ d ∧ o + len ≤ A.slots.size ∧ q + len ≤ B.slots.size ∧ ∀ i, i < len → ¬ 255 < cv A (o + i)
def E (b : Addr) (A : Cell) (d : Addr) (B : Cell) (o q len : Nat) (r : Option Value) (s u : State) : Prop := r = some (.int (Int32.ofNat len)) ∧ ∃ B', Put d B' s u ∧ Laid B B' q (q + len) (fun j => Value.int (lo8 (cv A (o + (j - q)))))
/-- no char of the range above 255: len; the places written hold each char's low byte -/
theorem law (l : Launch) (b : Addr) (A : Cell) (d : Addr) (B : Cell) (o q len : Nat) : Law l yN 5 5 0 0 yB 7 (some .int) site (P b A d B o q len) (E b A d B o q len) (copyLocs d q len) 0 0 := by
  refine Law.of_walk (plainFor_of_name (by decide +kernel)) (by decide +kernel) (by decide +kernel) (by decide) (fun _ _ h => by rw [h.1]; rfl) (fun _ U U' hal hh h => ⟨h.1, h.2.1.mv hal hh, h.2.2.1.mv hal hh, h.2.2.2⟩) (fun r U U' V V' h1 hal h2 h => ⟨h.1, h.2.elim fun B' q => ⟨B', q.1.mv h1 h2, q.2⟩⟩) ?_
  intro p e s m args below meth c s₁ X0 hexec hbytes hml hret hlk hnm hown hh0 W hP
  obtain ⟨rfl, hA, hB, hne, l1, l2, hp⟩ := hP
  have c1 : Steps p.tables e below (s₁.setTop (entryFrame m #[.ref b, .int (Int32.ofNat o), .ref d, .int (Int32.ofNat q), .int (Int32.ofNat len)] 7)) (s₁.setTop (mkF m 0 #[.val (.ref b), .val (.int (Int32.ofNat o)), .val (.ref d), .val (.int (Int32.ofNat q)), .val (.int (Int32.ofNat len)), .unset, .unset] [])) := entry rfl
  have hA0 := hA.1.mv X0.warmed.alike hh0
  have hB0 := hB.mv X0.warmed.alike hh0
  have a31 := hA.1.2.2.2
  have c2 : Steps p.tables e below (s₁.setTop (entryFrame m #[.ref b, .int (Int32.ofNat o), .ref d, .int (Int32.ofNat q), .int (Int32.ofNat len)] 7)) (s₁.setTop (mkF m 3 #[.val (.ref b), .val (.int (Int32.ofNat o)), .val (.ref d), .val (.int (Int32.ofNat q)), .val (.int (Int32.ofNat len)), .val (.int 0), .unset] [])) := c1.trans (by
    refine iconstV X0.here hexec rfl 0 (hb hbytes d0) (by decide) ?_
    refine XS.istore X0.here hexec rfl (hb hbytes d1) rfl rfl ?_
    exact Steps.refl _)
  have loop : ∀ (r i : Nat), i + r = len → ∀ (z : Slot), (z = .unset ∨ ∃ w, z = .val w ∧ w.category = 1) → ∀ (Tl : State) (Bk : Cell), Stand p l e { frames := 0, locals := 0, cells := 0, slots := 0 } s m #[.ref b, .int (Int32.ofNat o), .ref d, .int (Int32.ofNat q), .int (Int32.ofNat len)] below meth c Tl ([] ++ copyLocs d q i) 0 0 → Put d Bk s₁ Tl → Laid B Bk q (q + i) (fun j => Value.int (lo8 (cv A (o + (j - q))))) →
      Steps p.tables e below (s₁.setTop (entryFrame m #[.ref b, .int (Int32.ofNat o), .ref d, .int (Int32.ofNat q), .int (Int32.ofNat len)] 7)) (Tl.setTop (mkF m 3 #[.val (.ref b), .val (.int (Int32.ofNat (o + i))), .val (.ref d), .val (.int (Int32.ofNat (q + i))), .val (.int (Int32.ofNat len)), .val (.int (Int32.ofNat i)), z] [])) → ∃ (T' : State) (B' : Cell) (z' : Slot), Stand p l e { frames := 0, locals := 0, cells := 0, slots := 0 } s m #[.ref b, .int (Int32.ofNat o), .ref d, .int (Int32.ofNat q), .int (Int32.ofNat len)] below meth c T' ([] ++ copyLocs d q len) 0 0 ∧ Put d B' s₁ T' ∧ Laid B B' q (q + len) (fun j => Value.int (lo8 (cv A (o + (j - q))))) ∧
      Steps p.tables e below (s₁.setTop (entryFrame m #[.ref b, .int (Int32.ofNat o), .ref d, .int (Int32.ofNat q), .int (Int32.ofNat len)] 7)) (T'.setTop (mkF m 3 #[.val (.ref b), .val (.int (Int32.ofNat (o + len))), .val (.ref d), .val (.int (Int32.ofNat (q + len))), .val (.int (Int32.ofNat len)), .val (.int (Int32.ofNat len)), z'] [])) := by
    intro r
    induction r with
    | zero =>
      intro i hi z hz Tl Bk Xl pl fl cl
      have hil : i = len := by omega
      rw [hil] at Xl fl cl
      exact ⟨Tl, Bk, z, Xl, pl, fl, cl⟩
    | succ r ih =>
      intro i hi z hz Tl Bk Xl pl fl cl
      have all := X0.warmed.alike.symm.trans Xl.warmed.alike
      have hAl := hA0.keep all (pl.other hne hA0.1)
      have hBk := hB0.like all pl.1 fl.1 fl.2.1 fl.2.2.1
      have hlt : q + i < Bk.slots.size := by rw [fl.2.2.1]; omega
      have c3 : Steps p.tables e below (s₁.setTop (entryFrame m #[.ref b, .int (Int32.ofNat o), .ref d, .int (Int32.ofNat q), .int (Int32.ofNat len)] 7)) (Tl.setTop (mkF m 12 #[.val (.ref b), .val (.int (Int32.ofNat (o + i))), .val (.ref d), .val (.int (Int32.ofNat (q + i))), .val (.int (Int32.ofNat len)), .val (.int (Int32.ofNat i)), z] [.int (Int32.ofNat (o + i)), .ref b])) := cl.trans (by
        refine XS.iload Xl.here hexec rfl (hb hbytes d3) rfl ?_
        refine XS.iload Xl.here hexec rfl (hb hbytes d5) rfl ?_
        refine XS.icmpNo Xl.here hexec rfl (hb hbytes d7) rfl (ii_ge_f (lt32 (by omega) (by omega))) ?_
        refine XS.aloadN Xl.here hexec rfl (hb hbytes d10) rfl rfl ?_
        refine XS.iloadN Xl.here hexec rfl (hb hbytes d11) rfl ?_
        exact Steps.refl _)
      have c4 : Steps p.tables e below (s₁.setTop (entryFrame m #[.ref b, .int (Int32.ofNat o), .ref d, .int (Int32.ofNat q), .int (Int32.ofNat len)] 7)) (Tl.setTop (mkF m 13 #[.val (.ref b), .val (.int (Int32.ofNat (o + i))), .val (.ref d), .val (.int (Int32.ofNat (q + i))), .val (.int (Int32.ofNat len)), .val (.int (Int32.ofNat i)), z] [.int (cv A (o + i))])) := c3.trans (by
        refine Xl.aget hexec hAl rfl (hA.get (i := o + i) (by omega)) rfl rfl (hb hbytes d12) ?_
        exact Steps.refl _)
      have c5 : Steps p.tables e below (s₁.setTop (entryFrame m #[.ref b, .int (Int32.ofNat o), .ref d, .int (Int32.ofNat q), .int (Int32.ofNat len)] 7)) (Tl.setTop (mkF m 15 #[.val (.ref b), .val (.int (Int32.ofNat (o + i))), .val (.ref d), .val (.int (Int32.ofNat (q + i))), .val (.int (Int32.ofNat len)), .val (.int (Int32.ofNat i)), .val (.int (cv A (o + i)))] [])) := c4.trans (by
        refine XS.istoreS Xl.here hexec rfl (hb hbytes d13) rfl rfl hz ?_
        exact Steps.refl _)
      have c6 : Steps p.tables e below (s₁.setTop (entryFrame m #[.ref b, .int (Int32.ofNat o), .ref d, .int (Int32.ofNat q), .int (Int32.ofNat len)] 7)) (Tl.setTop (mkF m 31 #[.val (.ref b), .val (.int (Int32.ofNat (o + i))), .val (.ref d), .val (.int (Int32.ofNat (q + i))), .val (.int (Int32.ofNat len)), .val (.int (Int32.ofNat i)), .val (.int (cv A (o + i)))] [.int (lo8 (cv A (o + i))), .int (Int32.ofNat (q + i)), .ref d])) := c5.trans (by
        refine XS.iload Xl.here hexec rfl (hb hbytes d15) rfl ?_
        refine sipushV Xl.here hexec rfl 255 (hb hbytes d17) (by decide) ?_
        refine XS.icmpYes Xl.here hexec rfl (pc0 := 20) rfl (hb hbytes d20) rfl (ii_le_t (hp i (by omega))) (by decide) rfl ?_
        refine XS.aloadN Xl.here hexec rfl (hb hbytes d26) rfl rfl ?_
        refine XS.iloadN Xl.here hexec rfl (hb hbytes d27) rfl ?_
        refine XS.iload Xl.here hexec rfl (hb hbytes d28) rfl ?_
        refine i2b Xl.here hexec rfl (hb hbytes d30) rfl ?_
        exact Steps.refl _)
      obtain ⟨T7, X7, p7, st7⟩ := Xl.aput hexec hBk rfl hlt rfl (fits_lo8 (cv A (o + i))) (g := (mkF m 31 #[.val (.ref b), .val (.int (Int32.ofNat (o + i))), .val (.ref d), .val (.int (Int32.ofNat (q + i))), .val (.int (Int32.ofNat len)), .val (.int (Int32.ofNat i)), .val (.int (cv A (o + i)))] [.int (lo8 (cv A (o + i))), .int (Int32.ofNat (q + i)), .ref d])) rfl (rest := []) rfl (hb hbytes d31)
      have c8 : Steps p.tables e below (s₁.setTop (entryFrame m #[.ref b, .int (Int32.ofNat o), .ref d, .int (Int32.ofNat q), .int (Int32.ofNat len)] 7)) (T7.setTop (mkF m 32 #[.val (.ref b), .val (.int (Int32.ofNat (o + i))), .val (.ref d), .val (.int (Int32.ofNat (q + i))), .val (.int (Int32.ofNat len)), .val (.int (Int32.ofNat i)), .val (.int (cv A (o + i)))] [])) := c6.trans (st7 _ (Steps.refl _))
      have c9 : Steps p.tables e below (s₁.setTop (entryFrame m #[.ref b, .int (Int32.ofNat o), .ref d, .int (Int32.ofNat q), .int (Int32.ofNat len)] 7)) (T7.setTop (mkF m 3 #[.val (.ref b), .val (.int (Int32.ofNat (o + i) + 1)), .val (.ref d), .val (.int (Int32.ofNat (q + i) + 1)), .val (.int (Int32.ofNat len)), .val (.int (Int32.ofNat i + 1)), .val (.int (cv A (o + i)))] [])) := c8.trans (by
        refine iincV X7.here hexec rfl 1 (hb hbytes d32) (by decide) rfl rfl ?_
        refine iincV X7.here hexec rfl 1 (hb hbytes d35) (by decide) rfl rfl ?_
        refine iincV X7.here hexec rfl 1 (hb hbytes d38) (by decide) rfl rfl ?_
        refine XS.goto X7.here hexec rfl (pc0 := 41) rfl (hb hbytes d41) (by decide) rfl ?_
        exact Steps.refl _)
      have c10 : Steps p.tables e below (s₁.setTop (entryFrame m #[.ref b, .int (Int32.ofNat o), .ref d, .int (Int32.ofNat q), .int (Int32.ofNat len)] 7)) (T7.setTop (mkF m 3 #[.val (.ref b), .val (.int (Int32.ofNat (o + (i + 1)))), .val (.ref d), .val (.int (Int32.ofNat (q + (i + 1)))), .val (.int (Int32.ofNat len)), .val (.int (Int32.ofNat (i + 1))), .val (.int (cv A (o + i)))] [])) := by
        have := c9
        rw [succ32, succ32, succ32] at this
        exact this
      exact ih (i + 1) (by omega) _ (Or.inr ⟨_, rfl, rfl⟩) T7 _ (by rw [copyLocs_step, ← List.append_assoc]; exact X7) (pl.trans p7) (fl.step (by omega) hlt (by simp)) c10
  obtain ⟨T9, B9, z9, X9, p9, f9, g9⟩ := loop len 0 (by omega) .unset (Or.inl rfl) s₁ B (by simpa [copyLocs] using X0) ⟨hB0.1, fun _ _ => rfl, rfl⟩ (Laid.zero _ _ _) c2
  have c11 : Steps p.tables e below (s₁.setTop (entryFrame m #[.ref b, .int (Int32.ofNat o), .ref d, .int (Int32.ofNat q), .int (Int32.ofNat len)] 7)) (T9.setTop (mkF m 46 #[.val (.ref b), .val (.int (Int32.ofNat (o + len))), .val (.ref d), .val (.int (Int32.ofNat (q + len))), .val (.int (Int32.ofNat len)), .val (.int (Int32.ofNat len)), z9] [.int (Int32.ofNat len)])) := g9.trans (by
    refine XS.iload X9.here hexec rfl (hb hbytes d3) rfl ?_
    refine XS.iload X9.here hexec rfl (hb hbytes d5) rfl ?_
    refine XS.icmpYes X9.here hexec rfl (pc0 := 7) rfl (hb hbytes d7) rfl (ii_ge_t (nlt32 (by omega) (Nat.le_refl _))) (by decide) rfl ?_
    refine XS.iload X9.here hexec rfl (hb hbytes d44) rfl ?_
    exact Steps.refl _)
  exact ⟨T9, some (.int (Int32.ofNat len)), _, _, _, X9, by simp, rfl, rfl, (fun h => by cases h), ⟨rfl, B9, p9.from hh0, f9⟩, fun fs hl => c11.trans (X9.ireturnOut hexec hret rfl (Or.inl rfl) (hb hbytes d46) hl)⟩
end Cmp5
namespace Cmp3
def yN : MethodName := ⟨"java/lang/StringUTF16", "compress", "([CII)[B"⟩
abbrev yB : ByteArray := jdk_52_method_16_code
theorem d0 : decode yB 0 = .ok (.iload_n 2, 1) := by decide +kernel
theorem d1 : decode yB 1 = .ok (.newarray .byte, 2) := by decide +kernel
theorem d3 : decode yB 3 = .ok (.astore_n 3, 1) := by decide +kernel
theorem d4 : decode yB 4 = .ok (.aload_n 0, 1) := by decide +kernel
theorem d5 : decode yB 5 = .ok (.iload_n 1, 1) := by decide +kernel
theorem d6 : decode yB 6 = .ok (.aload_n 3, 1) := by decide +kernel
theorem d7 : decode yB 7 = .ok (.iconst 0, 1) := by decide +kernel
theorem d8 : decode yB 8 = .ok (.iload_n 2, 1) := by decide +kernel
theorem d9 : decode yB 9 = .ok (.invokestatic 115, 3) := by decide +kernel
theorem d12 : decode yB 12 = .ok (.istore 4, 2) := by decide +kernel
theorem d14 : decode yB 14 = .ok (.iload 4, 2) := by decide +kernel
theorem d16 : decode yB 16 = .ok (.iload_n 2, 1) := by decide +kernel
theorem d17 : decode yB 17 = .ok (.if_icmp (.eq) 40, 3) := by decide +kernel
theorem d57 : decode yB 57 = .ok (.aload_n 3, 1) := by decide +kernel
theorem d58 : decode yB 58 = .ok (.areturn, 1) := by decide +kernel
def site : List Cond := [.arrayClass .byte, Cmp5.tab] ++ staticW U16 115 Cmp5.yN
def tab : Cond := tabOf yN yB 6 (some (.array .byte)) site
def P (b : Addr) (A : Cell) (o len : Nat) (args : Array Value) (s : State) : Prop := args = #[.ref b, .int (Int32.ofNat o), .int (Int32.ofNat len)] ∧ Ch b A s ∧ o + len ≤ A.slots.size ∧ len ≤ 536870912 ∧ ∀ i, i < len → ¬ 255 < cv A (o + i)
def E (b : Addr) (A : Cell) (o len : Nat) (r : Option Value) (s u : State) : Prop := NewArr .byte "[B" len (fun j => .int (lo8 (cv A (o + j)))) r s u ∧ u.heap.size = s.heap.size + 1
/-- no char of the range above 255: a new byte[] of their low bytes -/
theorem law (l : Launch) (b : Addr) (A : Cell) (o len : Nat) : Law l yN 3 3 1 18 yB 6 (some (.array .byte)) site (P b A o len) (E b A o len) [] 1 len := by
  refine Law.of_walk (plainFor_of_name (by decide +kernel)) (by decide +kernel) (by decide +kernel) (by decide) (fun _ _ h => by rw [h.1]; rfl) (fun _ U U' hal hh h => ⟨h.1, h.2.1.mv hal hh, h.2.2⟩) (fun r U U' V V' h1 hal h2 h => ⟨NewArr.mv r U U' V V' h1 hal h2 h.1, by rw [h1, h2]; exact h.2⟩) ?_
  intro p e s m args below meth c s₁ X0 hexec hbytes hml hret hlk hnm hown hh0 W hP
  obtain ⟨rfl, hA, l1, l2, hp⟩ := hP
  have a31 := hA.1.2.2.2
  have c1 : Steps p.tables e below (s₁.setTop (entryFrame m #[.ref b, .int (Int32.ofNat o), .int (Int32.ofNat len)] 6)) (s₁.setTop (mkF m 0 #[.val (.ref b), .val (.int (Int32.ofNat o)), .val (.int (Int32.ofNat len)), .unset, .unset, .unset] [])) := entry rfl
  have c2 : Steps p.tables e below (s₁.setTop (entryFrame m #[.ref b, .int (Int32.ofNat o), .int (Int32.ofNat len)] 6)) (s₁.setTop (mkF m 1 #[.val (.ref b), .val (.int (Int32.ofNat o)), .val (.int (Int32.ofNat len)), .unset, .unset, .unset] [.int (Int32.ofNat len)])) := c1.trans (by
    refine XS.iloadN X0.here hexec rfl (hb hbytes d0) rfl ?_
    exact Steps.refl _)
  obtain ⟨T3, B3, X3, ba3, bs3, bv3, bh3, bf3, st3⟩ := X0.anew hexec (atype := .byte) (wk W (.arrayClass .byte)) rfl (by show len * 1 ≤ _; omega) (by omega) (g := (mkF m 1 #[.val (.ref b), .val (.int (Int32.ofNat o)), .val (.int (Int32.ofNat len)), .unset, .unset, .unset] [.int (Int32.ofNat len)])) rfl (hb hbytes d1) (rest := []) rfl (Nat.le_refl _) (by show 0 + len ≤ len; omega)
  rw [hh0] at ba3 st3
  have kp3 : XT.Kept s T3 := (XT.Kept.of_eq hh0).push bh3
  have hA3 := hA.keep X3.warmed.alike (kp3 _ _ hA.1.1)
  have hne : b ≠ s.heap.size := hA.1.ne
  have c4 : Steps p.tables e below (s₁.setTop (entryFrame m #[.ref b, .int (Int32.ofNat o), .int (Int32.ofNat len)] 6)) (T3.setTop (mkF m 3 #[.val (.ref b), .val (.int (Int32.ofNat o)), .val (.int (Int32.ofNat len)), .unset, .unset, .unset] [.ref s.heap.size])) := c2.trans (st3 _ (Steps.refl _))
  have c5 : Steps p.tables e below (s₁.setTop (entryFrame m #[.ref b, .int (Int32.ofNat o), .int (Int32.ofNat len)] 6)) (T3.setTop (mkF m 9 #[.val (.ref b), .val (.int (Int32.ofNat o)), .val (.int (Int32.ofNat len)), .val (.ref s.heap.size), .unset, .unset] [.int (Int32.ofNat len), .int 0, .ref s.heap.size, .int (Int32.ofNat o), .ref b])) := c4.trans (by
    refine XS.astoreN X3.here hexec rfl (hb hbytes d3) rfl rfl rfl ?_
    refine XS.aloadN X3.here hexec rfl (hb hbytes d4) rfl rfl ?_
    refine XS.iloadN X3.here hexec rfl (hb hbytes d5) rfl ?_
    refine XS.aloadN X3.here hexec rfl (hb hbytes d6) rfl rfl ?_
    refine iconstV X3.here hexec rfl 0 (hb hbytes d7) (by decide) ?_
    refine XS.iloadN X3.here hexec rfl (hb hbytes d8) rfl ?_
    exact Steps.refl _)
  obtain ⟨v6, T6, X6, E6, g6⟩ := X3.callS hexec (Cmp5.law l b A s.heap.size B3 o 0 len) hown (wks W (staticW U16 115 Cmp5.yN)) (wk W Cmp5.tab) (W := 0) (Nat.le_of_ble_eq_true rfl) (Nat.le_of_ble_eq_true rfl) (Nat.le_refl _) (by show 0 + len + 0 ≤ len; omega) (g := (mkF m 9 #[.val (.ref b), .val (.int (Int32.ofNat o)), .val (.int (Int32.ofNat len)), .val (.ref s.heap.size), .unset, .unset] [.int (Int32.ofNat len), .int (Int32.ofNat 0), .ref s.heap.size, .int (Int32.ofNat o), .ref b])) rfl (by rw [hml]; rfl) c5 (argsL := [.ref b, .int (Int32.ofNat o), .ref s.heap.size, .int (Int32.ofNat 0), .int (Int32.ofNat len)]) (rest := []) rfl rfl (by show 2 * 0 + 0 ≤ _; decide) (hb hbytes d9) (⟨rfl, hA3, ba3, hne, l1, by rw [bs3]; simp, hp⟩)
  obtain ⟨rfl, B6, p6, f6⟩ := E6
  have c7 : Steps p.tables e below (s₁.setTop (entryFrame m #[.ref b, .int (Int32.ofNat o), .int (Int32.ofNat len)] 6)) (T6.setTop (mkF m 12 #[.val (.ref b), .val (.int (Int32.ofNat o)), .val (.int (Int32.ofNat len)), .val (.ref s.heap.size), .unset, .unset] [.int (Int32.ofNat len)])) := g6
  have c8 : Steps p.tables e below (s₁.setTop (entryFrame m #[.ref b, .int (Int32.ofNat o), .int (Int32.ofNat len)] 6)) (T6.setTop (mkF m 58 #[.val (.ref b), .val (.int (Int32.ofNat o)), .val (.int (Int32.ofNat len)), .val (.ref s.heap.size), .val (.int (Int32.ofNat len)), .unset] [.ref s.heap.size])) := c7.trans (by
    refine XS.istore X6.here hexec rfl (hb hbytes d12) rfl rfl ?_
    refine XS.iload X6.here hexec rfl (hb hbytes d14) rfl ?_
    refine XS.iloadN X6.here hexec rfl (hb hbytes d16) rfl ?_
    refine XS.icmpYes X6.here hexec rfl (pc0 := 17) rfl (hb hbytes d17) rfl (ii_eq_t rfl) (by decide) rfl ?_
    refine XS.aloadN X6.here hexec rfl (hb hbytes d57) rfl rfl ?_
    exact Steps.refl _)
  have X8 := X6.wide (L' := []) (cells' := 1) (slots' := len) (fun x hx hlt => by
    simp only [List.nil_append, copyLocs, List.mem_map, List.mem_range] at hx
    obtain ⟨i, -, rfl⟩ := hx
    exact absurd hlt (Nat.lt_irrefl _)) (Nat.le_refl _) (by omega)
  exact ⟨T6, some (.ref s.heap.size), _, _, _, X8, rfl, rfl, rfl, (fun h => by cases h), ⟨⟨rfl, B6, ba3.like (X3.warmed.alike.symm.trans X6.warmed.alike) p6.1 f6.1 f6.2.1 f6.2.2.1, f6.2.1.trans bv3, by rw [X6.warmed.alike.findClass, f6.1]; exact bf3, by rw [f6.2.2.1, bs3]; simp, fun j hj => by rw [f6.2.2.2 j, if_pos (by omega)]; rfl, kp3.put p6 (Nat.le_refl _)⟩, by rw [p6.2.2, bh3, hh0]; simp⟩, fun fs hl => c8.trans (X8.areturnOut hexec rfl hret rfl (hb hbytes d58) hl)⟩
end Cmp3
namespace CodL
def yN : MethodName := ⟨"java/lang/StringUTF16", "coderFromArrayLen", "([BI)B"⟩
abbrev yB : ByteArray := jdk_52_method_15_code
theorem d0 : decode yB 0 = .ok (.iload_n 1, 1) := by decide +kernel
theorem d1 : decode yB 1 = .ok (.aload_n 0, 1) := by decide +kernel
theorem d2 : decode yB 2 = .ok (.arraylength, 1) := by decide +kernel
theorem d3 : decode yB 3 = .ok (.isub, 1) := by decide +kernel
theorem d4 : decode yB 4 = .ok (.bipush 31, 2) := by decide +kernel
theorem d6 : decode yB 6 = .ok (.iushr, 1) := by decide +kernel
theorem d7 : decode yB 7 = .ok (.i2b, 1) := by decide +kernel
theorem d8 : decode yB 8 = .ok (.ireturn, 1) := by decide +kernel
def site : List Cond := []
def tab : Cond := tabOf yN yB 2 (some .byte) site
def P (d : Addr) (B : Cell) (args : Array Value) (s : State) : Prop := args = #[.ref d, .int (Int32.ofNat B.slots.size)] ∧ Arr .byte d B s
def E (r : Option Value) (s u : State) : Prop := XT.PureE (some (.int 0)) r s u
/-- an array as long as the number of chars: LATIN1 -/
theorem law (l : Launch) (d : Addr) (B : Cell) : Law l yN 2 2 0 0 yB 2 (some .byte) site (P d B) E [] 0 0 := by
  refine Law.of_walk (plainFor_of_name (by decide +kernel)) (by decide +kernel) (by decide +kernel) (by decide) (fun _ _ h => by rw [h.1]; rfl) (fun _ U U' hal hh h => ⟨h.1, h.2.mv hal hh⟩) (fun r U U' V V' h1 hal h2 h => XT.PureE.mv r U U' V V' h1 hal h2 h) ?_
  intro p e s m args below meth c s₁ X0 hexec hbytes hml hret hlk hnm hown hh0 W hP
  obtain ⟨rfl, hB⟩ := hP
  have hB0 := hB.mv X0.warmed.alike hh0
  have c1 : Steps p.tables e below (s₁.setTop (entryFrame m #[.ref d, .int (Int32.ofNat B.slots.size)] 2)) (s₁.setTop (mkF m 0 #[.val (.ref d), .val (.int (Int32.ofNat B.slots.size))] [])) := entry rfl
  have c2 : Steps p.tables e below (s₁.setTop (entryFrame m #[.ref d, .int (Int32.ofNat B.slots.size)] 2)) (s₁.setTop (mkF m 2 #[.val (.ref d), .val (.int (Int32.ofNat B.slots.size))] [.ref d, .int (Int32.ofNat B.slots.size)])) := c1.trans (by
    refine XS.iloadN X0.here hexec rfl (hb hbytes d0) rfl ?_
    refine XS.aloadN X0.here hexec rfl (hb hbytes d1) rfl rfl ?_
    exact Steps.refl _)
  have c3 : Steps p.tables e below (s₁.setTop (entryFrame m #[.ref d, .int (Int32.ofNat B.slots.size)] 2)) (s₁.setTop (mkF m 8 #[.val (.ref d), .val (.int (Int32.ofNat B.slots.size))] [.int (lo8 (ushr (Int32.ofNat B.slots.size - Int32.ofNat B.slots.size) 31))])) := c2.trans (by
    refine X0.alen hexec hB0 rfl rfl (hb hbytes d2) ?_
    refine XS.isub X0.here hexec rfl (hb hbytes d3) rfl ?_
    refine bipushV X0.here hexec rfl 31 (hb hbytes d4) (by decide) ?_
    refine iushr X0.here hexec rfl (hb hbytes d6) rfl ?_
    refine i2b X0.here hexec rfl (hb hbytes d7) rfl ?_
    exact Steps.refl _)
  have e0 : lo8 (ushr (Int32.ofNat B.slots.size - Int32.ofNat B.slots.size) 31) = 0 := by rw [Int32.sub_self]; decide
  rw [e0] at c3
  exact ⟨s₁, some (.int 0), _, _, _, X0, rfl, rfl, rfl, (fun h => by cases h), ⟨rfl, hh0⟩, fun fs hl => c3.trans (X0.ireturnOut hexec hret rfl (Or.inr (Or.inr (Or.inl rfl))) (hb hbytes d8) hl)⟩
end CodL
/-- the String at a is Latin-1 over a new byte[] (the heap's one new cell): the low bytes of the len chars of A from o on; every cell but a is kept -/
def Got (a : Addr) (D : Cell) (fV fC : Field) (A : Cell) (o len : Nat) (r : Option Value) (s u : State) : Prop := r = none ∧ ∃ D' V : Cell, Blank "java/lang/String" a D' u ∧ Same D D' [fV.slot, fC.slot] ∧ D'.slots[fV.slot]? = some (.ref s.heap.size) ∧ D'.slots[fC.slot]? = some (.int 0) ∧ Arr .byte s.heap.size V u ∧ V.vm = .none ∧ u.vm.findClass "[B" = some V.cls ∧ V.slots.size = len ∧ (∀ j, j < len → V.slots[j]? = some (.int (lo8 (cv A (o + j))))) ∧ (∀ (y : Addr) (c : Cell), y ≠ a → s.heap[y]? = some c → u.heap[y]? = some c) ∧ u.heap.size = s.heap.size + 1
theorem Got.mv {a : Addr} {D A : Cell} {fV fC : Field} {o len : Nat} : ∀ r (U U' V V' : State), U'.heap = U.heap → V.vm.Alike V'.vm → V'.heap = V.heap → Got a D fV fC A o len r U V → Got a D fV fC A o len r U' V' :=
  fun r U U' V V' h1 hal h2 ⟨e0, D', X, a1, a2, a3, a4, a5, a6, a7, a8, a9, a10, a11⟩ => ⟨e0, D', X, a1.mv hal h2, a2, by rw [h1]; exact a3, a4, by rw [h1]; exact a5.mv hal h2, a6, by rw [hal.findClass]; exact a7, a8, a9, by rw [h1, h2]; exact a10, by rw [h1, h2]; exact a11⟩
namespace New4
def yN : MethodName := ⟨"java/lang/String", "<init>", "([CIILjava/lang/Void;)V"⟩
abbrev yB : ByteArray := jdk_42_method_149_code
theorem d0 : decode yB 0 = .ok (.aload_n 0, 1) := by decide +kernel
theorem d1 : decode yB 1 = .ok (.invokespecial 1, 3) := by decide +kernel
theorem d4 : decode yB 4 = .ok (.iload_n 3, 1) := by decide +kernel
theorem d5 : decode yB 5 = .ok (.ifCond (.ne) 22, 3) := by decide +kernel
theorem d27 : decode yB 27 = .ok (.getstatic 38, 3) := by decide +kernel
theorem d30 : decode yB 30 = .ok (.ifCond (.eq) 28, 3) := by decide +kernel
theorem d33 : decode yB 33 = .ok (.aload_n 1, 1) := by decide +kernel
theorem d34 : decode yB 34 = .ok (.iload_n 2, 1) := by decide +kernel
theorem d35 : decode yB 35 = .ok (.iload_n 3, 1) := by decide +kernel
theorem d36 : decode yB 36 = .ok (.invokestatic 177, 3) := by decide +kernel
theorem d39 : decode yB 39 = .ok (.astore 5, 2) := by decide +kernel
theorem d41 : decode yB 41 = .ok (.aload_n 0, 1) := by decide +kernel
theorem d42 : decode yB 42 = .ok (.aload 5, 2) := by decide +kernel
theorem d44 : decode yB 44 = .ok (.iload_n 3, 1) := by decide +kernel
theorem d45 : decode yB 45 = .ok (.invokestatic 47, 3) := by decide +kernel
theorem d48 : decode yB 48 = .ok (.putfield 15, 3) := by decide +kernel
theorem d51 : decode yB 51 = .ok (.aload_n 0, 1) := by decide +kernel
theorem d52 : decode yB 52 = .ok (.aload 5, 2) := by decide +kernel
theorem d54 : decode yB 54 = .ok (.putfield 9, 3) := by decide +kernel
theorem d57 : decode yB 57 = .ok (.return_, 1) := by decide +kernel
def site : List Cond := [.fieldLink "java/lang/String" 38 "java/lang/String" "COMPACT_STRINGS" "Z", Cmp3.tab, CodL.tab, .laysFinal "java/lang/String" "java/lang/String" "value" "[B", .fieldLink "java/lang/String" 9 "java/lang/String" "value" "[B", .laysFinal "java/lang/String" "java/lang/String" "coder" "B", .fieldLink "java/lang/String" 15 "java/lang/String" "coder" "B"] ++ objW "java/lang/String" 1 ++ staticW "java/lang/String" 177 Cmp3.yN ++ staticW "java/lang/String" 47 CodL.yN
def tab : Cond := tabOf yN yB 6 none site
def P (a : Addr) (D : Cell) (fV fC : Field) (b : Addr) (A : Cell) (z : Int32) (o len : Nat) (args : Array Value) (s : State) : Prop := args = #[.ref a, .ref b, .int (Int32.ofNat o), .int (Int32.ofNat len), .null] ∧ Blank "java/lang/String" a D s ∧ Found "java/lang/String" "value" "[B" fV s ∧ Found "java/lang/String" "coder" "B" fC s ∧ Ch b A s ∧ StaticIs s "java/lang/String" "COMPACT_STRINGS" "Z" (.int z) ∧ ¬ z = 0 ∧ 0 < len ∧ o + len ≤ A.slots.size ∧ len ≤ 536870912 ∧ ∀ i, i < len → ¬ 255 < cv A (o + i)
def E (a : Addr) (D : Cell) (fV fC : Field) (A : Cell) (o len : Nat) (r : Option Value) (s u : State) : Prop := Got a D fV fC A o len r s u
/-- len > 0, no char of the range above 255: a Latin-1 String of their low bytes -/
theorem law (l : Launch) (a : Addr) (D : Cell) (fV fC : Field) (b : Addr) (A : Cell) (z : Int32) (o len : Nat) : Law l yN 5 4 2 35 yB 6 none site (P a D fV fC b A z o len) (E a D fV fC A o len) [⟨a, fC.slot⟩, ⟨a, fV.slot⟩] 1 len := by
  refine Law.of_walk (plainFor_of_name (by decide +kernel)) (by decide +kernel) (by decide +kernel) (by decide) (fun _ _ h => by rw [h.1]; rfl) (fun _ U U' hal hh h => ⟨h.1, h.2.1.mv hal hh, h.2.2.1.al hal, h.2.2.2.1.al hal, h.2.2.2.2.1.mv hal hh, h.2.2.2.2.2.1.there hal hh, h.2.2.2.2.2.2⟩) (fun r U U' V V' h1 hal h2 h => Got.mv r U U' V V' h1 hal h2 h) ?_
  intro p e s m args below meth c s₁ X0 hexec hbytes hml hret hlk hnm hown hh0 W hP
  obtain ⟨rfl, hB, f1, f2, hA, s1, hz, l0, l1, l2, hp⟩ := hP
  have a31 := hA.1.2.2.2
  have c1 : Steps p.tables e below (s₁.setTop (entryFrame m #[.ref a, .ref b, .int (Int32.ofNat o), .int (Int32.ofNat len), .null] 6)) (s₁.setTop (mkF m 0 #[.val (.ref a), .val (.ref b), .val (.int (Int32.ofNat o)), .val (.int (Int32.ofNat len)), .val .null, .unset] [])) := entry rfl
  have c2 : Steps p.tables e below (s₁.setTop (entryFrame m #[.ref a, .ref b, .int (Int32.ofNat o), .int (Int32.ofNat len), .null] 6)) (s₁.setTop (mkF m 1 #[.val (.ref a), .val (.ref b), .val (.int (Int32.ofNat o)), .val (.int (Int32.ofNat len)), .val .null, .unset] [.ref a])) := c1.trans (by
    refine XS.aloadN X0.here hexec rfl (hb hbytes d0) rfl rfl ?_
    exact Steps.refl _)
  obtain ⟨T3, X3, q3, st3⟩ := X0.oinit hexec hown (wks W (objW "java/lang/String" 1)) (g := (mkF m 1 #[.val (.ref a), .val (.ref b), .val (.int (Int32.ofNat o)), .val (.int (Int32.ofNat len)), .val .null, .unset] [.ref a])) rfl (by rw [hml]; rfl) (rest := []) rfl (hb hbytes d1) (W := 0) (by show 2 * 0 + 0 ≤ _; decide) (Nat.le_of_ble_eq_true rfl) (Nat.le_of_ble_eq_true rfl)
  have hh3 := q3.trans hh0
  have c4 : Steps p.tables e below (s₁.setTop (entryFrame m #[.ref a, .ref b, .int (Int32.ofNat o), .int (Int32.ofNat len), .null] 6)) (T3.setTop (mkF m 27 #[.val (.ref a), .val (.ref b), .val (.int (Int32.ofNat o)), .val (.int (Int32.ofNat len)), .val .null, .unset] [])) := (c2.trans (st3 _ (Steps.refl _))).trans (by
    refine XS.iloadN X3.here hexec rfl (hb hbytes d4) rfl ?_
    refine XS.ifYes X3.here hexec rfl (pc0 := 5) rfl (hb hbytes d5) rfl (i0_ne_t (nz32 (by omega) l0)) (by decide) rfl ?_
    exact Steps.refl _)
  obtain ⟨T5, X5, q5, st5⟩ := X3.sget hexec hown (wk W (.fieldLink "java/lang/String" 38 "java/lang/String" "COMPACT_STRINGS" "Z")) s1 (fun _ _ h => by rw [hh3]; exact h) (g := (mkF m 27 #[.val (.ref a), .val (.ref b), .val (.int (Int32.ofNat o)), .val (.int (Int32.ofNat len)), .val .null, .unset] [])) rfl (hb hbytes d27)
  have hh5 := q5.trans hh3
  have c6 : Steps p.tables e below (s₁.setTop (entryFrame m #[.ref a, .ref b, .int (Int32.ofNat o), .int (Int32.ofNat len), .null] 6)) (T5.setTop (mkF m 30 #[.val (.ref a), .val (.ref b), .val (.int (Int32.ofNat o)), .val (.int (Int32.ofNat len)), .val .null, .unset] [.int z])) := c4.trans (st5 _ (Steps.refl _))
  have c7 : Steps p.tables e below (s₁.setTop (entryFrame m #[.ref a, .ref b, .int (Int32.ofNat o), .int (Int32.ofNat len), .null] 6)) (T5.setTop (mkF m 36 #[.val (.ref a), .val (.ref b), .val (.int (Int32.ofNat o)), .val (.int (Int32.ofNat len)), .val .null, .unset] [.int (Int32.ofNat len), .int (Int32.ofNat o), .ref b])) := c6.trans (by
    refine XS.ifNo X5.here hexec rfl (hb hbytes d30) rfl (i0_eq_f hz) ?_
    refine XS.aloadN X5.here hexec rfl (hb hbytes d33) rfl rfl ?_
    refine XS.iloadN X5.here hexec rfl (hb hbytes d34) rfl ?_
    refine XS.iloadN X5.here hexec rfl (hb hbytes d35) rfl ?_
    exact Steps.refl _)
  obtain ⟨v8, T8, X8, E8, g8⟩ := X5.callS hexec (Cmp3.law l b A o len) hown (wks W (staticW "java/lang/String" 177 Cmp3.yN)) (wk W Cmp3.tab) (W := 0) (Nat.le_of_ble_eq_true rfl) (Nat.le_of_ble_eq_true rfl) (Nat.le_refl _) (by show 0 + len ≤ len; omega) (g := (mkF m 36 #[.val (.ref a), .val (.ref b), .val (.int (Int32.ofNat o)), .val (.int (Int32.ofNat len)), .val .null, .unset] [.int (Int32.ofNat len), .int (Int32.ofNat o), .ref b])) rfl (by rw [hml]; rfl) c7 (argsL := [.ref b, .int (Int32.ofNat o), .int (Int32.ofNat len)]) (rest := []) rfl rfl (by show 2 * 0 + 0 ≤ _; decide) (hb hbytes d36) (⟨rfl, hA.mv X5.warmed.alike hh5, l1, l2, hp⟩)
  obtain ⟨e8, z8⟩ := E8
  obtain ⟨rfl, N, n1, n2, n3, n4, n5, n6⟩ := NewArr.mv _ T5 s _ _ hh5.symm (Vm.Alike.refl _) rfl e8
  rw [hh5] at z8
  have hB1 := hB.keep X8.warmed.alike (n6 _ _ hB.1)
  have hne : s.heap.size ≠ a := (Nat.ne_of_lt (Array.getElem?_eq_some_iff.mp hB.1).1).symm
  have c9 : Steps p.tables e below (s₁.setTop (entryFrame m #[.ref a, .ref b, .int (Int32.ofNat o), .int (Int32.ofNat len), .null] 6)) (T8.setTop (mkF m 39 #[.val (.ref a), .val (.ref b), .val (.int (Int32.ofNat o)), .val (.int (Int32.ofNat len)), .val .null, .unset] [.ref s.heap.size])) := g8
  have c10 : Steps p.tables e below (s₁.setTop (entryFrame m #[.ref a, .ref b, .int (Int32.ofNat o), .int (Int32.ofNat len), .null] 6)) (T8.setTop (mkF m 45 #[.val (.ref a), .val (.ref b), .val (.int (Int32.ofNat o)), .val (.int (Int32.ofNat len)), .val .null, .val (.ref s.heap.size)] [.int (Int32.ofNat N.slots.size), .ref s.heap.size, .ref a])) := by
    have hc : Steps p.tables e below (s₁.setTop (entryFrame m #[.ref a, .ref b, .int (Int32.ofNat o), .int (Int32.ofNat len), .null] 6)) (T8.setTop (mkF m 45 #[.val (.ref a), .val (.ref b), .val (.int (Int32.ofNat o)), .val (.int (Int32.ofNat len)), .val .null, .val (.ref s.heap.size)] [.int (Int32.ofNat len), .ref s.heap.size, .ref a])) := c9.trans (by
      refine XS.astore X8.here hexec rfl (hb hbytes d39) rfl rfl rfl ?_
      refine XS.aloadN X8.here hexec rfl (hb hbytes d41) rfl rfl ?_
      refine XS.aload X8.here hexec rfl (hb hbytes d42) rfl rfl ?_
      refine XS.iloadN X8.here hexec rfl (hb hbytes d44) rfl ?_
      exact Steps.refl _)
    rw [n4]; exact hc
  obtain ⟨v11, T11, X11, E11, g11⟩ := X8.callS hexec (CodL.law l s.heap.size N) hown (wks W (staticW "java/lang/String" 47 CodL.yN)) (wk W CodL.tab) (W := 1) (Nat.le_of_ble_eq_true rfl) (Nat.le_of_ble_eq_true rfl) (Nat.le_refl _) (by show 0 + len + 0 ≤ len; omega) (g := (mkF m 45 #[.val (.ref a), .val (.ref b), .val (.int (Int32.ofNat o)), .val (.int (Int32.ofNat len)), .val .null, .val (.ref s.heap.size)] [.int (Int32.ofNat N.slots.size), .ref s.heap.size, .ref a])) rfl (by rw [hml]; rfl) c10 (argsL := [.ref s.heap.size, .int (Int32.ofNat N.slots.size)]) (rest := [.ref a]) rfl rfl (by show 2 * 0 + (1 + 0) ≤ _; decide) (hb hbytes d45) (⟨rfl, n1⟩)
  obtain ⟨rfl, q11⟩ := E11
  have hB11 := hB1.mv (X8.warmed.alike.symm.trans X11.warmed.alike) q11
  have c12 : Steps p.tables e below (s₁.setTop (entryFrame m #[.ref a, .ref b, .int (Int32.ofNat o), .int (Int32.ofNat len), .null] 6)) (T11.setTop (mkF m 48 #[.val (.ref a), .val (.ref b), .val (.int (Int32.ofNat o)), .val (.int (Int32.ofNat len)), .val .null, .val (.ref s.heap.size)] [.int 0, .ref a])) := g11
  obtain ⟨T13, X13, p13, bl13, sl13, st13⟩ := X11.finit hexec hown (wk W (.fieldLink "java/lang/String" 15 "java/lang/String" "coder" "B")) (Or.inr ⟨_, (wk W (.laysFinal "java/lang/String" "java/lang/String" "coder" "B"))⟩) (Or.inl ⟨rfl, hnm⟩) f2 (Or.inl rfl) hB11 (t := .byte) (by decide +kernel) rfl (g := (mkF m 48 #[.val (.ref a), .val (.ref b), .val (.int (Int32.ofNat o)), .val (.int (Int32.ofNat len)), .val .null, .val (.ref s.heap.size)] [.int 0, .ref a])) rfl (rest := []) rfl (hb hbytes d48)
  have c14 : Steps p.tables e below (s₁.setTop (entryFrame m #[.ref a, .ref b, .int (Int32.ofNat o), .int (Int32.ofNat len), .null] 6)) (T13.setTop (mkF m 54 #[.val (.ref a), .val (.ref b), .val (.int (Int32.ofNat o)), .val (.int (Int32.ofNat len)), .val .null, .val (.ref s.heap.size)] [.ref s.heap.size, .ref a])) := (c12.trans (st13 _ (Steps.refl _))).trans (by
    refine XS.aloadN X13.here hexec rfl (hb hbytes d51) rfl rfl ?_
    refine XS.aload X13.here hexec rfl (hb hbytes d52) rfl rfl ?_
    exact Steps.refl _)
  obtain ⟨T15, X15, p15, bl15, sl15, st15⟩ := X13.finit hexec hown (wk W (.fieldLink "java/lang/String" 9 "java/lang/String" "value" "[B")) (Or.inr ⟨_, (wk W (.laysFinal "java/lang/String" "java/lang/String" "value" "[B"))⟩) (Or.inl ⟨rfl, hnm⟩) f1 (Or.inl rfl) bl13 (t := (.array .byte)) (by decide +kernel) rfl (g := (mkF m 54 #[.val (.ref a), .val (.ref b), .val (.int (Int32.ofNat o)), .val (.int (Int32.ofNat len)), .val .null, .val (.ref s.heap.size)] [.ref s.heap.size, .ref a])) rfl (rest := []) rfl (hb hbytes d54)
  have c16 : Steps p.tables e below (s₁.setTop (entryFrame m #[.ref a, .ref b, .int (Int32.ofNat o), .int (Int32.ofNat len), .null] 6)) (T15.setTop (mkF m 57 #[.val (.ref a), .val (.ref b), .val (.int (Int32.ofNat o)), .val (.int (Int32.ofNat len)), .val .null, .val (.ref s.heap.size)] [])) := c14.trans (st15 _ (Steps.refl _))
  have ap := apart (Or.inr ⟨_, (wk W (.laysFinal "java/lang/String" "java/lang/String" "value" "[B"))⟩) (Or.inr ⟨_, (wk W (.laysFinal "java/lang/String" "java/lang/String" "coder" "B"))⟩) f1 f2 (t₁ := .array .byte) (t₂ := .byte) (by decide +kernel) (by decide +kernel) (by decide)
  have al := X8.warmed.alike.symm.trans X15.warmed.alike
  have n7 : T11.heap[s.heap.size]? = some N := by rw [q11]; exact n1.1
  exact ⟨T15, none, _, _, _, X15, by simp, rfl, by omega, (fun _ => rfl), ⟨rfl, _, N, bl15, ((Same.refl D _).set _ (by simp)).set _ (by simp), sl15, (Cell.slots_setSlot_ne _ ap).trans sl13, n1.keep al (p15.other hne (p13.other hne n7)), n2, by rw [al.findClass]; exact n3, n4, n5, fun y c h1 h2 => p15.other h1 (p13.other h1 (by rw [q11]; exact n6 y c h2)), by rw [p15.2.2, p13.2.2, q11]; exact z8⟩, fun fs hl => c16.trans (X15.returnOut hexec hret (hb hbytes d57) hl)⟩
end New4
namespace New1
def yN : MethodName := ⟨"java/lang/String", "<init>", "([C)V"⟩
abbrev yB : ByteArray := jdk_42_method_3_code
theorem d0 : decode yB 0 = .ok (.aload_n 0, 1) := by decide +kernel
theorem d1 : decode yB 1 = .ok (.aload_n 1, 1) := by decide +kernel
theorem d2 : decode yB 2 = .ok (.iconst 0, 1) := by decide +kernel
theorem d3 : decode yB 3 = .ok (.aload_n 1, 1) := by decide +kernel
theorem d4 : decode yB 4 = .ok (.arraylength, 1) := by decide +kernel
theorem d5 : decode yB 5 = .ok (.aconst_null, 1) := by decide +kernel
theorem d6 : decode yB 6 = .ok (.invokespecial 27, 3) := by decide +kernel
theorem d9 : decode yB 9 = .ok (.return_, 1) := by decide +kernel
def site : List Cond := [New4.tab] ++ initW "java/lang/String" 27 New4.yN
def tab : Cond := tabOf yN yB 2 none site
def P (a : Addr) (D : Cell) (fV fC : Field) (b : Addr) (A : Cell) (z : Int32) (args : Array Value) (s : State) : Prop := args = #[.ref a, .ref b] ∧ Blank "java/lang/String" a D s ∧ Found "java/lang/String" "value" "[B" fV s ∧ Found "java/lang/String" "coder" "B" fC s ∧ Ch b A s ∧ StaticIs s "java/lang/String" "COMPACT_STRINGS" "Z" (.int z) ∧ ¬ z = 0 ∧ 0 < A.slots.size ∧ A.slots.size ≤ 536870912 ∧ ∀ i, i < A.slots.size → ¬ 255 < cv A i
def E (a : Addr) (D : Cell) (fV fC : Field) (A : Cell) (r : Option Value) (s u : State) : Prop := Got a D fV fC A 0 A.slots.size r s u
/-- new String(chars), not empty, no char above 255: a Latin-1 String of their low bytes -/
theorem law (l : Launch) (a : Addr) (D : Cell) (fV fC : Field) (b : Addr) (A : Cell) (z : Int32) : Law l yN 2 1 3 52 yB 2 none site (P a D fV fC b A z) (E a D fV fC A) [⟨a, fC.slot⟩, ⟨a, fV.slot⟩] 1 A.slots.size := by
  refine Law.of_walk (plainFor_of_name (by decide +kernel)) (by decide +kernel) (by decide +kernel) (by decide) (fun _ _ h => by rw [h.1]; rfl) (fun _ U U' hal hh h => ⟨h.1, h.2.1.mv hal hh, h.2.2.1.al hal, h.2.2.2.1.al hal, h.2.2.2.2.1.mv hal hh, h.2.2.2.2.2.1.there hal hh, h.2.2.2.2.2.2⟩) (fun r U U' V V' h1 hal h2 h => Got.mv r U U' V V' h1 hal h2 h) ?_
  intro p e s m args below meth c s₁ X0 hexec hbytes hml hret hlk hnm hown hh0 W hP
  obtain ⟨rfl, hB, f1, f2, hA, s1, hz, l0, l2, hp⟩ := hP
  have c1 : Steps p.tables e below (s₁.setTop (entryFrame m #[.ref a, .ref b] 2)) (s₁.setTop (mkF m 0 #[.val (.ref a), .val (.ref b)] [])) := entry rfl
  have c2 : Steps p.tables e below (s₁.setTop (entryFrame m #[.ref a, .ref b] 2)) (s₁.setTop (mkF m 6 #[.val (.ref a), .val (.ref b)] [.null, .int (Int32.ofNat A.slots.size), .int 0, .ref b, .ref a])) := c1.trans (by
    refine XS.aloadN X0.here hexec rfl (hb hbytes d0) rfl rfl ?_
    refine XS.aloadN X0.here hexec rfl (hb hbytes d1) rfl rfl ?_
    refine iconstV X0.here hexec rfl 0 (hb hbytes d2) (by decide) ?_
    refine XS.aloadN X0.here hexec rfl (hb hbytes d3) rfl rfl ?_
    refine X0.alen hexec (hA.1.mv X0.warmed.alike hh0) rfl rfl (hb hbytes d4) ?_
    refine XS.aconstNull X0.here hexec rfl (hb hbytes d5) ?_
    exact Steps.refl _)
  obtain ⟨v3, T3, X3, E3, g3⟩ := X0.callN hexec (New4.law l a D fV fC b A z 0 A.slots.size) rfl hown (wks W (initW "java/lang/String" 27 New4.yN)) (W New4.tab (by simp only [site, List.mem_cons, List.mem_append, true_or, or_true])) (W := 0) (Nat.le_of_ble_eq_true rfl) (Nat.le_of_ble_eq_true rfl) (Nat.le_refl _) (by show 0 + A.slots.size ≤ A.slots.size; omega) (g := (mkF m 6 #[.val (.ref a), .val (.ref b)] [.null, .int (Int32.ofNat A.slots.size), .int (Int32.ofNat 0), .ref b, .ref a])) rfl (by rw [hml]; rfl) c2 (argsL := [.ref b, .int (Int32.ofNat 0), .int (Int32.ofNat A.slots.size), .null]) (rest := []) rfl rfl (by show 2 * 0 + 0 ≤ _; decide) (hb hbytes d6) (⟨rfl, hB.mv X0.warmed.alike hh0, f1.al X0.warmed.alike, f2.al X0.warmed.alike, hA.mv X0.warmed.alike hh0, s1.there X0.warmed.alike hh0, hz, l0, by omega, l2, fun i hi => by rw [Nat.zero_add]; exact hp i hi⟩)
  have e0 := Got.mv _ s₁ s _ _ hh0.symm (Vm.Alike.refl _) rfl E3
  obtain rfl := e0.1
  have c4 : Steps p.tables e below (s₁.setTop (entryFrame m #[.ref a, .ref b] 2)) (T3.setTop (mkF m 9 #[.val (.ref a), .val (.ref b)] [])) := g3
  exact ⟨T3, none, _, _, _, X3, by simp, rfl, by omega, (fun _ => rfl), e0, fun fs hl => c4.trans (X3.returnOut hexec hret (hb hbytes d9) hl)⟩
theorem pays {l : Launch} {R : Room} {p : Program} {e : Env} {below : List Frame} {s : State} {sargs : Array Value} {len W : Nat} (a : Addr) (D : Cell) (fV fC : Field) (b : Addr) (A : Cell) (z : Int32) (htab : tab.before sargs s = true) (hfr : 4 ≤ R.frames) (hlo : W + 65 ≤ R.locals) :
    Back l R p e below s sargs yN len W (fun A₁ a₁ => A₁.cells + 1 ≤ R.cells ∧ A₁.slots + A.slots.size ≤ R.slots ∧ P a D fV fC b A z a₁ A₁.U) (fun A₁ _ v₁ B₁ => E a D fV fC A v₁ A₁.U B₁.U ∧ B₁.locs = A₁.locs ++ [⟨a, fC.slot⟩, ⟨a, fV.slot⟩] ∧ B₁.cells = A₁.cells + 1 ∧ B₁.slots = A₁.slots + A.slots.size) :=
  (law l a D fV fC b A z).pays htab hfr (by omega)
end New1
end StrChars
namespace StrChars.Road
open Jvm Sem ClassFile Op Lib Jvm.Stand Jvm.Free Jvm.Free.XT
open Jvm.Lib.Cold (StaticIs)
abbrev ST : String := "java/lang/String"
/-- every table word that New1's law asks, flat -/
abbrev words : List Jvm.Cond := [.code New1.yN New1.yB 2 none, .initialized ST, .methodLink ST 27 New4.yN, .instanceMethod New4.yN,
  .code New4.yN New4.yB 6 none, .fieldLink ST 38 ST "COMPACT_STRINGS" "Z", .laysFinal ST ST "value" "[B", .fieldLink ST 9 ST "value" "[B", .laysFinal ST ST "coder" "B", .fieldLink ST 15 ST "coder" "B",
  .methodLink ST 1 Lib.objectInit, .instanceMethod Lib.objectInit, .code Lib.objectInit ⟨#[0xb1]⟩ 1 none, .methodLink ST 177 Cmp3.yN, .static Cmp3.yN, .methodLink ST 47 CodL.yN, .static CodL.yN,
  .code Cmp3.yN Cmp3.yB 6 (some (.array .byte)), .initialized U16, .arrayClass .byte, .methodLink U16 115 Cmp5.yN, .static Cmp5.yN, .code Cmp5.yN Cmp5.yB 7 (some .int), .code CodL.yN CodL.yB 2 (some .byte)]
theorem tab_of {a : Array Value} {s : State} (h : ∀ w ∈ words, w.before a s = true) : New1.tab.before a s = true := by
  have h5 : Cmp5.tab.before a s = true := unparts (wk h (.code Cmp5.yN Cmp5.yB 7 (some .int))) (wks h (.initialized Cmp5.yN.cls :: Cmp5.site))
  have hc : CodL.tab.before a s = true := unparts (wk h (.code CodL.yN CodL.yB 2 (some .byte))) (wks h (.initialized CodL.yN.cls :: CodL.site))
  have q5 : ∀ w ∈ Cmp5.tab :: words, w.before a s = true := fun w hw => (List.mem_cons.mp hw).elim (fun e => e ▸ h5) (h w)
  have h3 : Cmp3.tab.before a s = true := unparts (wk q5 (.code Cmp3.yN Cmp3.yB 6 (some (.array .byte)))) (wks q5 (.initialized Cmp3.yN.cls :: Cmp3.site))
  have q3 : ∀ w ∈ Cmp3.tab :: CodL.tab :: words, w.before a s = true := fun w hw => (List.mem_cons.mp hw).elim (fun e => e ▸ h3) fun hw => (List.mem_cons.mp hw).elim (fun e => e ▸ hc) (h w)
  have h4 : New4.tab.before a s = true := unparts (wk q3 (.code New4.yN New4.yB 6 none)) (wks q3 (.initialized New4.yN.cls :: New4.site))
  have q4 : ∀ w ∈ New4.tab :: words, w.before a s = true := fun w hw => (List.mem_cons.mp hw).elim (fun e => e ▸ h4) (h w)
  exact unparts (wk q4 (.code New1.yN New1.yB 2 none)) (wks q4 (.initialized New1.yN.cls :: New1.site))
/-- the words ride from the start Z to the walk's own state -/
theorem moved {Z s : State} {a0 args : Array Value} (hZ : Z.Warmed39 s.vm) (hw : ∀ d ∈ words, d.before a0 Z = true) : ∀ d ∈ words, d.before args s = true := fun d hd => by
  have q := hw d hd
  have t : ∀ d ∈ words, d = .arrayClass .byte ∨ (d.onTables && d.keepsFace) = true := by decide +kernel
  rcases t d hd with rfl | t
  · exact RoadKit.mvA hZ q
  · exact RoadKit.mv hZ q t
/-- WHAT COMES BACK, over the tables of the start Z: h the heap at the call, h' behind it -/
def Q (Z : State) (x : Addr) (A : Cell) (h : Heap) (v : Option Value) (h' : Heap) (L : List Loc) : Prop := v = none ∧ (∀ y ∈ L, y.base = x) ∧ RoadKit.Keep h h' [x] ∧ h'.size = h.size + 1 ∧ RoadKit.Exa Z h' x ST ∧ RoadKit.Fld Z h' x ST "value" "[B" (.ref h.size) ∧ RoadKit.Fld Z h' x ST "coder" "B" (.int 0) ∧
  (∃ V : Cell, RoadKit.Arr Z h' h.size V .byte ∧ V.vm = .none ∧ Z.vm.findClass "[B" = some V.cls ∧ V.slots.size = A.slots.size ∧ ∀ j, j < A.slots.size → V.slots[j]? = some (.int (lo8 (cv A j)))) ∧
  ∀ (O n d : String) (w : Value), RoadKit.Fld Z h x O n d w → RoadKit.slotOf Z O n d ≠ RoadKit.slotOf Z ST "value" "[B" → RoadKit.slotOf Z O n d ≠ RoadKit.slotOf Z ST "coder" "B" → RoadKit.Fld Z h' x O n d w
/-- **new String(chars) AT A CALL, IN THE ROAD'S FORM**: for specialBack behind newO: x the fresh String, b the char[] with the cell A -/
theorem back {p : Program} {l : Launch} {e : Env} {R : Room} {s : State} {args : Array Value} {below : List Frame} {len W : Nat} {Z : State} {a0 : Array Value} {h : Heap} (hZ : Z.Warmed39 s.vm) (hw : ∀ d ∈ words, d.before a0 Z = true) {kI : Nat} (wi : (Jvm.Cond.instantiable ST kI).before a0 Z = true)
    {x b : Addr} {A : Cell} {z : Int32} {v0 c0 : Value} (E : RoadKit.Exa Z h x ST) (V : RoadKit.Fld Z h x ST "value" "[B" v0) (C : RoadKit.Fld Z h x ST "coder" "B" c0) (K : RoadKit.Arr Z h b A .char) (hty : Typed .char A) (S : RoadKit.Sta Z h ST "COMPACT_STRINGS" "Z" (.int z)) (hz : ¬ z = 0)
    (l0 : 0 < A.slots.size) (l2 : A.slots.size ≤ 536870912) (hp : ∀ i, i < A.slots.size → ¬ 255 < cv A i) (hfr : 4 ≤ R.frames) (hlo : W + 65 ≤ R.locals) :
    Back l R p e below s args New1.yN len W (fun P a => a = #[.ref x, .ref b] ∧ P.U.heap = h ∧ P.cells + 1 ≤ R.cells ∧ P.slots + A.slots.size ≤ R.slots)
      (fun P _ v B => ∃ L, Q Z x A h v B.U.heap L ∧ B.locs = P.locs ++ L ∧ B.cells = P.cells + 1 ∧ B.slots = P.slots + A.slots.size) := by
  intro m meth c P g ig mk a X hg hsize hdg hW hn hp'
  obtain ⟨rfl, rfl, r1, r2⟩ := hp'
  have al : Z.vm.Alike P.U.vm := hZ.alike.trans X.warmed.alike
  obtain ⟨D, cfV, kV, iV, fV, hD, gV, stV, knV, obV, asV, slV⟩ := id V
  obtain ⟨D', cfC, kC, iC, fC, hD', gC, stC, -, -, asC, slC⟩ := id C
  cases hD.symm.trans hD'
  obtain ⟨D2, kD, e1, e2, e3, e4, e5⟩ := id E
  cases hD.symm.trans e1
  obtain ⟨c2, k2, i1, i2, i3, -⟩ := Cond.instantiable_spec wi
  cases e2.symm.trans i1
  cases e3.symm.trans i2
  obtain ⟨kU, u1, u2⟩ := al.2.2 _ _ e3
  have hB : Blank ST x D P.U := ⟨hD, ⟨knV, fun q hq => by rw [hq] at obV; cases obV⟩, by rw [al.findClass]; exact e2, kU, u1, by rw [u2]; exact i3, by rw [u2]; exact e5 i3⟩
  have F1 : Found ST "value" "[B" fV P.U := ⟨SBG.found_only al ⟨cfV, kV, iV, gV⟩, stV⟩
  have F2 : Found ST "coder" "B" fC P.U := ⟨SBG.found_only al ⟨cfC, kC, iC, gC⟩, stC⟩
  have hA : Ch b A P.U := ⟨⟨K.1, State.isArrayOf_alike al K.2.1, K.2.2, by omega⟩, hty⟩
  have hS : StaticIs P.U ST "COMPACT_STRINGS" "Z" (.int z) := by
    obtain ⟨cfS, iS, kS, fS, st, cS, t1, t2, t3, t4, t5, t6, t7⟩ := S
    exact StaticIs.there (s := { Z with heap := P.U.heap }) ⟨cfS, iS, kS, fS, st, cS, t1, t2, t3, t4, t5, (fun q => by rw [q] at t6; cases t6), t7⟩ al rfl
  obtain ⟨v, B, X', ⟨⟨hv, E', V', q1, q2, q3, q4, q5, q6, q7, q8, q9, q10, q11⟩, hl, hc, hs⟩, st⟩ := New1.pays x D fV fC b A z (tab_of (moved hZ hw)) hfr hlo m meth c P g ig mk _ X hg hsize hdg hW hn ⟨r1, r2, rfl, hB, F1, F2, hA, hS, hz, l0, l2, hp⟩
  have al' : Z.vm.Alike B.U.vm := hZ.alike.trans X'.warmed.alike
  have hsz : E'.slots.size = D.slots.size := by
    obtain ⟨-, -, -, kB, w1, w2, w3⟩ := q1
    obtain ⟨kB', y1, y2⟩ := al'.2.2 _ _ e3
    rw [q2.2.1] at w1
    cases w1.symm.trans y1
    rw [w3, e5 i3, y2]
  refine ⟨v, B, X', ⟨_, ⟨hv, ?_, ⟨by omega, fun y cy hy hn' => q10 y cy (by simpa using hn') hy, fun y cy hy => ?_⟩, q11, ⟨E', _, q1.1, by rw [q2.2.1]; exact e2, by rw [q2.2.1]; exact e3, by rw [q2.1]; exact obV, fun _ => by rw [hsz]; exact e5 i3⟩,
    ⟨E', cfV, kV, iV, fV, q1.1, gV, stV, by rw [q2.1]; exact knV, by rw [q2.1]; exact obV, by rw [q2.2.1]; exact asV, q3⟩, ⟨E', cfC, kC, iC, fC, q1.1, gC, stC, by rw [q2.1]; exact knV, by rw [q2.1]; exact obV, by rw [q2.2.1]; exact asC, q4⟩,
    ⟨V', ⟨q5.1, State.isArrayOf_alike al'.symm q5.2.1, q5.2.2.1⟩, q6, by rw [← al'.findClass]; exact q7, q8, fun j hj => by have := q9 j hj; rwa [Nat.zero_add] at this⟩, fun O n d w F n1 n2 => ?_⟩, hl, hc, hs⟩, st⟩
  · intro y hy
    simp only [List.mem_cons, List.not_mem_nil, or_false] at hy
    rcases hy with rfl | rfl <;> rfl
  · by_cases q : y = x
    · subst q
      cases hD.symm.trans hy
      exact ⟨E', q1.1, q2.2.1, q2.1, hsz⟩
    · exact ⟨cy, q10 y cy q hy, rfl, rfl, rfl⟩
  · obtain ⟨D3, cf, k, i, f, g1, g2, g3, g4, g5, g6, g7⟩ := F
    cases hD.symm.trans g1
    simp only [RoadKit.slotOf, g2, gV, gC, Option.map_some, Option.getD_some] at n1 n2
    exact ⟨E', cf, k, i, f, q1.1, g2, g3, by rw [q2.1]; exact g4, by rw [q2.1]; exact g5, by rw [q2.2.1]; exact g6, by rw [q2.2.2 f.slot (by simp [n1, n2])]; exact g7⟩
end StrChars.Road
namespace StrChars.Road
open Jvm Sem ClassFile Op Lib Jvm.Stand Jvm.Free Jvm.Free.XT
/-- WHAT COMES BACK, the byte[] as a list of values -/
def QA (Z : State) (x : Addr) (zn : Int32) (cs : List Int32) (h : Heap) (v : Option Value) (h' : Heap) (L : List Loc) : Prop := v = none ∧ (∀ y ∈ L, y.base = x) ∧ RoadKit.Keep h h' [x] ∧ h'.size = h.size + 1 ∧ RoadKit.Exa Z h' x ST ∧ RoadKit.Fld Z h' x ST "value" "[B" (.ref h.size) ∧ RoadKit.Fld Z h' x ST "coder" "B" (.int 0) ∧
  (∃ kb, Z.vm.findClass "[B" = some kb ∧ RoadKit.Arv Z h' h.size kb .byte zn (cs.map fun c => .int (lo8 c)) (.int 0)) ∧
  ∀ (O n d : String) (w : Value), RoadKit.Fld Z h x O n d w → RoadKit.slotOf Z O n d ≠ RoadKit.slotOf Z ST "value" "[B" → RoadKit.slotOf Z O n d ≠ RoadKit.slotOf Z ST "coder" "B" → RoadKit.Fld Z h' x O n d w
/-- **new String(chars) AT A CALL, THE ARRAYS AS LISTS**: the char[] at b holds cs, not empty, no char above 255 -/
theorem backArv {p : Program} {l : Launch} {e : Env} {R : Room} {s : State} {args : Array Value} {below : List Frame} {len W : Nat} {Z : State} {a0 : Array Value} {h : Heap} (hZ : Z.Warmed39 s.vm) (hw : ∀ d ∈ words, d.before a0 Z = true) {kI : Nat} (wi : (Jvm.Cond.instantiable ST kI).before a0 Z = true)
    {x b : Addr} {k : ClassId} {zn z : Int32} {cs : List Int32} {dv v0 c0 : Value} (E : RoadKit.Exa Z h x ST) (V : RoadKit.Fld Z h x ST "value" "[B" v0) (C : RoadKit.Fld Z h x ST "coder" "B" c0) (K : RoadKit.Arv Z h b k .char zn (cs.map Value.int) dv) (S : RoadKit.Sta Z h ST "COMPACT_STRINGS" "Z" (.int z)) (hz : ¬ z = 0)
    (hlen : zn.toNatClampNeg = cs.length) (h0 : 0 < cs.length) (hbig : cs.length ≤ 536870912) (hall : ∀ c ∈ cs, ¬ 255 < c) (hfr : 4 ≤ R.frames) (hlo : W + 65 ≤ R.locals) :
    Back l R p e below s args New1.yN len W (fun P a => a = #[.ref x, .ref b] ∧ P.U.heap = h ∧ P.cells + 1 ≤ R.cells ∧ P.slots + cs.length ≤ R.slots)
      (fun P _ v B => ∃ L, QA Z x zn cs h v B.U.heap L ∧ B.locs = P.locs ++ L ∧ B.cells = P.cells + 1 ∧ B.slots = P.slots + cs.length) := by
  obtain ⟨A, K1, K2, K3, K4, K5, K6⟩ := K
  have e : A.slots.size = cs.length := K3.trans hlen
  have hat : ∀ (i : Nat) (hi : i < cs.length), A.slots[i]? = some (.int cs[i]) := fun i hi => by rw [K5 i (by omega)]; simp [List.getD_eq_getElem?_getD, hi]
  have hcv : ∀ (i : Nat) (hi : i < cs.length), cv A i = cs[i] := fun i hi => by unfold cv; rw [hat i hi]
  have hty : Typed .char A := fun i v hv => by
    have hi : i < A.slots.size := (Array.getElem?_eq_some_iff.mp hv).1
    have q := K5 i hi
    rw [hv] at q
    rw [Option.some.inj q]
    exact K6 i hi
  refine Back.mono (back hZ hw wi E V C K1 hty S hz (by omega) (by omega) (fun i hi => by rw [hcv i (by omega)]; exact hall _ (List.getElem_mem _)) hfr hlo) (fun P a hp => ⟨hp.1, hp.2.1, hp.2.2.1, by rw [e]; exact hp.2.2.2⟩) (fun P a v B hp hq => ?_)
  obtain ⟨L, ⟨q1, q2, q3, q4, q5, q6, q7, ⟨V', v1, v2, v3, v4, v5⟩, q9⟩, hl, hc, hs⟩ := hq
  refine ⟨L, ⟨q1, q2, q3, q4, q5, q6, q7, ⟨V'.cls, v3, V', v1, rfl, by rw [v4, e, hlen], K4, fun i hi => ?_, fun i hi => ?_⟩, q9⟩, hl, hc, by rw [hs, e]⟩
  · have hi' : i < cs.length := by omega
    rw [v5 i (by omega), hcv i hi']; simp [List.getD_eq_getElem?_getD, hi']
  · have hi' : i < cs.length := by omega
    simp only [List.getD_eq_getElem?_getD, List.getElem?_map, List.getElem?_eq_getElem hi', Option.map_some, Option.getD_some]
    exact fits_lo8 _
end StrChars.Road
namespace StrChars.Road
open Jvm Sem ClassFile Op Lib Jvm.Stand Jvm.Free Jvm.Free.XT
/-- WHAT COMES BACK, in the writer's own shape -/
def QV (Z : State) (x : Addr) (N : Int32) (bs : List Int32) (h : Heap) (n0 : Nat) (v : Option Value) (h' : Heap) (L : List Loc) : Prop := v = none ∧ RoadKit.Fr n0 L ∧ RoadKit.Keep h h' [x] ∧ RoadKit.Exa Z h' x ST ∧ RoadKit.Fld Z h' x ST "coder" "B" (.int 0) ∧
  ∃ (t : Addr) (kb : ClassId), n0 ≤ t ∧ h.size ≤ t ∧ ¬ t = x ∧ RoadKit.Fld Z h' x ST "value" "[B" (.ref t) ∧ RoadKit.Arv Z h' t kb .byte N (bs.map Value.int) (.int 0)
/-- **new String(chars) AT A CALL, FOR THE WRITER**: a char[] of n known ints, each 0 to 255 -/
theorem backV {p : Program} {l : Launch} {e : Env} {R : Room} {s : State} {args : Array Value} {below : List Frame} {len W : Nat} {Z : State} {a0 : Array Value} {h : Heap} (hZ : Z.Warmed39 s.vm) (hw : ∀ d ∈ words, d.before a0 Z = true) {kI : Nat} (wi : (Jvm.Cond.instantiable ST kI).before a0 Z = true)
    {x b : Addr} {kC : ClassId} {cs bs : List Int32} {d v0 c0 : Value} {z N : Int32} {n n0 : Nat} (hx0 : n0 ≤ x) (hh0 : n0 ≤ h.size) (E : RoadKit.Exa Z h x ST) (V : RoadKit.Fld Z h x ST "value" "[B" v0) (C : RoadKit.Fld Z h x ST "coder" "B" c0) (K : RoadKit.Arv Z h b kC .char N (cs.map Value.int) d) (S : RoadKit.Sta Z h ST "COMPACT_STRINGS" "Z" (.int z)) (hz : ¬ z = 0)
    (hn : cs.length = n) (hN : N = Int32.ofNat n) (l0 : 0 < n) (l2 : n ≤ 4000) (hp : ∀ c ∈ cs, ¬ c < 0 ∧ ¬ (255 : Int32) < c) (hb : bs = cs.map (fun c => c.toInt8.toInt32)) (hfr : 4 ≤ R.frames) (hlo : W + 65 ≤ R.locals) :
    Back l R p e below s args (⟨"java/lang/String", "<init>", "([C)V"⟩ : MethodName) len W (fun P a => a = #[.ref x, .ref b] ∧ P.U.heap = h ∧ P.cells + 1 ≤ R.cells ∧ P.slots + n ≤ R.slots)
      (fun P _ v B => ∃ L, QV Z x N bs h n0 v B.U.heap L ∧ B.locs = P.locs ++ L ∧ B.cells = P.cells + 1 ∧ B.slots = P.slots + n) := by
  subst hn hN hb
  refine Back.mono (backArv hZ hw wi E V C K S hz (n32 (by omega)) l0 (by omega) (fun c hc => (hp c hc).2) hfr hlo) (fun P a hp => hp) (fun P a v B hp hq => ?_)
  obtain ⟨L, ⟨q1, q2, q3, q4, q5, q6, q7, ⟨kb, v1, v2⟩, q9⟩, hl, hc, hs⟩ := hq
  exact ⟨L, ⟨q1, fun y hy => by rw [q2 y hy]; exact hx0, q3, q5, q7, h.size, kb, hh0, Nat.le_refl _, Nat.ne_of_gt E.lt, q6, by rw [List.map_map]; exact v2⟩, hl, hc, hs⟩
end StrChars.Road
namespace StrChars
open Jvm Sem ClassFile Op Lib Jvm.Stand Jvm.Free.XT Jvm.Free.ALB Jvm.Free.JM Jvm.Free
open Jvm.Lib.Cold (StaticIs)
def hi8 (x : Int32) : Int32 := lo8 (x >>> ((8 : Int32) &&& 31))
theorem shr0 (c : Int32) : c >>> ((0 : Int32) &&& 31) = c := by
  have e : ((0 : Int32) &&& 31) = 0 := by decide
  rw [e]
  apply Int32.toBitVec_inj.mp
  rw [Int32.toBitVec_shiftRight]
  have e1 : ((0 : Int32).toBitVec.smod 32) = 0#32 := by decide
  rw [e1, BitVec.sshiftRight_eq']
  exact BitVec.sshiftRight_zero
end StrChars
namespace StrChars
open Jvm Sem ClassFile Op Lib Jvm.Stand Jvm.Free.XT Jvm.Free.ALB Jvm.Free.JM Jvm.Free
open Jvm.Lib.Cold (StaticIs)
theorem shr1 {n : Nat} (h : 2 * n < 2 ^ 31) : Int32.ofNat (2 * n) >>> ((1 : Int32) &&& 31) = Int32.ofNat n := by
  have e : ((1 : Int32) &&& 31) = 1 := by decide
  rw [e]
  apply Int32.toBitVec_inj.mp
  rw [Int32.toBitVec_shiftRight]
  have e1 : ((1 : Int32).toBitVec.smod 32) = 1#32 := by decide
  have hm : (BitVec.ofNat 32 (2 * n)).toNat = 2 * n := by rw [BitVec.toNat_ofNat, Nat.mod_eq_of_lt (by omega)]
  rw [e1, BitVec.sshiftRight_eq']
  apply BitVec.eq_of_toNat_eq
  show ((BitVec.ofNat 32 (2 * n)).sshiftRight 1).toNat = (BitVec.ofNat 32 n).toNat
  rw [BitVec.toNat_sshiftRight_of_msb_false (by rw [BitVec.msb_eq_false_iff_two_mul_lt, hm]; omega), hm, BitVec.toNat_ofNat, Nat.shiftRight_eq_div_pow]
  omega
/-- the array's cell V codes the n chars f 0 .. f (n - 1) by the coder cd, as the JDK does: coder 1 just where some char is above 255 -/
def Cod (cd : Int32) (n : Nat) (f : Nat → Int32) (V : Cell) : Prop := (cd = 0 ∧ V.slots.size = n ∧ ∀ j, j < n → V.slots[j]? = some (.int (lo8 (f j))) ∧ ¬ 255 < f j) ∨ (cd = 1 ∧ V.slots.size = 2 * n ∧ (∀ j, j < n → V.slots[2 * j]? = some (.int (lo8 (f j))) ∧ V.slots[2 * j + 1]? = some (.int (hi8 (f j)))) ∧ ∃ j, j < n ∧ 255 < f j)
theorem Cod.cd {cd : Int32} {n : Nat} {f : Nat → Int32} {V : Cell} (h : Cod cd n f V) : cd = 0 ∨ cd = 1 := h.imp (fun q => q.1) fun q => q.1
theorem Cod.len {cd : Int32} {n : Nat} {f : Nat → Int32} {V : Cell} (h : Cod cd n f V) (hs : V.slots.size < 2 ^ 31) : Int32.ofNat V.slots.size >>> (cd &&& 31) = Int32.ofNat n := by
  rcases h with ⟨rfl, h, -⟩ | ⟨rfl, h, -⟩
  · rw [shr0, h]
  · rw [h, shr1 (by omega)]
/-- **x is a String of the n chars f 0 .. f (n - 1)**, Latin-1 or UTF-16; its array at t has the cell V -/
def Txt (x t : Addr) (V : Cell) (cd : Int32) (n : Nat) (f : Nat → Int32) (U : State) : Prop := Exact "java/lang/String" x U ∧ Has x "java/lang/String" "value" "[B" (.ref t) U ∧ Has x "java/lang/String" "coder" "B" (.int cd) U ∧ XT.Arr .byte t V U ∧ Cod cd n f V ∧ ∀ j, j < n → ¬ f j < 0 ∧ ¬ 65535 < f j
theorem Txt.mv {x t : Addr} {V : Cell} {cd : Int32} {n : Nat} {f : Nat → Int32} {U U' : State} (h : Txt x t V cd n f U) (hal : U.vm.Alike U'.vm) (hh : U'.heap = U.heap) : Txt x t V cd n f U' := ⟨h.1.mv hal hh, h.2.1.mv hal hh, h.2.2.1.mv hal hh, h.2.2.2.1.mv hal hh, h.2.2.2.2⟩
namespace Cdr
def yN : MethodName := ⟨"java/lang/String", "coder", "()B"⟩
abbrev yB : ByteArray := jdk_42_method_152_code
theorem d0 : decode yB 0 = .ok (.getstatic 38, 3) := by decide +kernel
theorem d3 : decode yB 3 = .ok (.ifCond (.eq) 10, 3) := by decide +kernel
theorem d6 : decode yB 6 = .ok (.aload_n 0, 1) := by decide +kernel
theorem d7 : decode yB 7 = .ok (.getfield 15, 3) := by decide +kernel
theorem d10 : decode yB 10 = .ok (.goto 4, 3) := by decide +kernel
theorem d14 : decode yB 14 = .ok (.ireturn, 1) := by decide +kernel
def site : List Cond := [.fieldLink "java/lang/String" 38 "java/lang/String" "COMPACT_STRINGS" "Z", .fieldLink "java/lang/String" 15 "java/lang/String" "coder" "B"]
def tab : Cond := tabOf yN yB 1 (some .byte) site
def P (x : Addr) (cd z : Int32) (args : Array Value) (s : State) : Prop := args = #[.ref x] ∧ Has x "java/lang/String" "coder" "B" (.int cd) s ∧ (cd = 0 ∨ cd = 1) ∧ StaticIs s "java/lang/String" "COMPACT_STRINGS" "Z" (.int z) ∧ ¬ z = 0
def E (cd : Int32) (r : Option Value) (s u : State) : Prop := XT.PureE (some (.int cd)) r s u
theorem law (l : Launch) (x : Addr) (cd z : Int32) : Law l yN 1 0 0 0 yB 1 (some .byte) site (P x cd z) (E cd) [] 0 0 := by
  refine Law.of_walk (plainFor_of_name (by decide +kernel)) (by decide +kernel) (by decide +kernel) (by decide) (fun _ _ h => by rw [h.1]; rfl) (fun _ U U' hal hh h => ⟨h.1, h.2.1.mv hal hh, h.2.2.1, h.2.2.2.1.there hal hh, h.2.2.2.2⟩) (fun r U U' V V' h1 hal h2 h => XT.PureE.mv r U U' V V' h1 hal h2 h) ?_
  intro p e s m args below meth c s₁ X0 hexec hbytes hml hret hlk hnm hown hh0 W hP
  obtain ⟨rfl, hx, hc, s1, hz⟩ := hP
  have c1 : Steps p.tables e below (s₁.setTop (entryFrame m #[.ref x] 1)) (s₁.setTop (mkF m 0 #[.val (.ref x)] [])) := entry rfl
  obtain ⟨T2, X2, q2, st2⟩ := X0.sget hexec hown (wk W (.fieldLink "java/lang/String" 38 "java/lang/String" "COMPACT_STRINGS" "Z")) s1 (fun _ _ h => by rw [hh0]; exact h) (g := (mkF m 0 #[.val (.ref x)] [])) rfl (hb hbytes d0)
  have hh2 := q2.trans hh0
  have c3 : Steps p.tables e below (s₁.setTop (entryFrame m #[.ref x] 1)) (T2.setTop (mkF m 7 #[.val (.ref x)] [.ref x])) := (c1.trans (st2 _ (Steps.refl _))).trans (by
    refine XS.ifNo X2.here hexec rfl (hb hbytes d3) rfl (i0_eq_f hz) ?_
    refine XS.aloadN X2.here hexec rfl (hb hbytes d6) rfl rfl ?_
    exact Steps.refl _)
  obtain ⟨T4, X4, q4, st4⟩ := X2.hget hexec hown (wk W (.fieldLink "java/lang/String" 15 "java/lang/String" "coder" "B")) (hx.mv X2.warmed.alike hh2) (g := (mkF m 7 #[.val (.ref x)] [.ref x])) rfl (rest := []) rfl (hb hbytes d7)
  have c5 : Steps p.tables e below (s₁.setTop (entryFrame m #[.ref x] 1)) (T4.setTop (mkF m 14 #[.val (.ref x)] [.int cd])) := (c3.trans (st4 _ (Steps.refl _))).trans (by
    refine XS.goto X4.here hexec rfl (pc0 := 10) rfl (hb hbytes d10) (by decide) rfl ?_
    exact Steps.refl _)
  exact ⟨T4, some (.int cd), _, _, _, X4, rfl, rfl, rfl, (fun h => by cases h), ⟨rfl, q4.trans hh2⟩, fun fs hl => c5.trans (X4.ireturnOut hexec hret (by rcases hc with rfl | rfl <;> rfl) (Or.inr (Or.inr (Or.inl rfl))) (hb hbytes d14) hl)⟩
end Cdr
namespace Len
def yN : MethodName := ⟨"java/lang/String", "length", "()I"⟩
abbrev yB : ByteArray := jdk_42_method_54_code
theorem d0 : decode yB 0 = .ok (.aload_n 0, 1) := by decide +kernel
theorem d1 : decode yB 1 = .ok (.getfield 9, 3) := by decide +kernel
theorem d4 : decode yB 4 = .ok (.arraylength, 1) := by decide +kernel
theorem d5 : decode yB 5 = .ok (.aload_n 0, 1) := by decide +kernel
theorem d6 : decode yB 6 = .ok (.invokevirtual 335, 3) := by decide +kernel
theorem d9 : decode yB 9 = .ok (.ishr, 1) := by decide +kernel
theorem d10 : decode yB 10 = .ok (.ireturn, 1) := by decide +kernel
def site : List Cond := [.fieldLink "java/lang/String" 9 "java/lang/String" "value" "[B", Cdr.tab] ++ virtW "java/lang/String" 335 "java/lang/String" Cdr.yN Cdr.yN
def tab : Cond := tabOf yN yB 1 (some .int) site
def P (x t : Addr) (V : Cell) (cd : Int32) (n : Nat) (f : Nat → Int32) (z : Int32) (args : Array Value) (s : State) : Prop := args = #[.ref x] ∧ Txt x t V cd n f s ∧ StaticIs s "java/lang/String" "COMPACT_STRINGS" "Z" (.int z) ∧ ¬ z = 0
def E (n : Nat) (r : Option Value) (s u : State) : Prop := XT.PureE (some (.int (Int32.ofNat n))) r s u
/-- length() of a String of n chars, in either coding -/
theorem law (l : Launch) (x t : Addr) (V : Cell) (cd : Int32) (n : Nat) (f : Nat → Int32) (z : Int32) : Law l yN 1 0 1 13 yB 1 (some .int) site (P x t V cd n f z) (E n) [] 0 0 := by
  refine Law.of_walk (plainFor_of_name (by decide +kernel)) (by decide +kernel) (by decide +kernel) (by decide) (fun _ _ h => by rw [h.1]; rfl) (fun _ U U' hal hh h => ⟨h.1, h.2.1.mv hal hh, h.2.2.1.there hal hh, h.2.2.2⟩) (fun r U U' V V' h1 hal h2 h => XT.PureE.mv r U U' V V' h1 hal h2 h) ?_
  intro p e s m args below meth c s₁ X0 hexec hbytes hml hret hlk hnm hown hh0 W hP
  obtain ⟨rfl, hx, s1, hz⟩ := hP
  have v31 := hx.2.2.2.1.2.2.2
  have c1 : Steps p.tables e below (s₁.setTop (entryFrame m #[.ref x] 1)) (s₁.setTop (mkF m 1 #[.val (.ref x)] [.ref x])) := Steps.trans (entry rfl) (by
    show Steps p.tables e below (s₁.setTop (mkF m 0 #[.val (.ref x)] [])) _
    refine XS.aloadN X0.here hexec rfl (hb hbytes d0) rfl rfl ?_
    exact Steps.refl _)
  obtain ⟨T2, X2, q2, st2⟩ := X0.hget hexec hown (wk W (.fieldLink "java/lang/String" 9 "java/lang/String" "value" "[B")) (hx.mv X0.warmed.alike hh0).2.1 (g := (mkF m 1 #[.val (.ref x)] [.ref x])) rfl (rest := []) rfl (hb hbytes d1)
  have hh2 := q2.trans hh0
  have hx2 := hx.mv X2.warmed.alike hh2
  have c3 : Steps p.tables e below (s₁.setTop (entryFrame m #[.ref x] 1)) (T2.setTop (mkF m 6 #[.val (.ref x)] [.ref x, .int (Int32.ofNat V.slots.size)])) := (c1.trans (st2 _ (Steps.refl _))).trans (by
    refine X2.alen hexec hx2.2.2.2.1 rfl rfl (hb hbytes d4) ?_
    refine XS.aloadN X2.here hexec rfl (hb hbytes d5) rfl rfl ?_
    exact Steps.refl _)
  obtain ⟨v4, T4, X4, E4, g4⟩ := X2.callV hexec (Cdr.law l x cd z) hown (wks W (virtW "java/lang/String" 335 "java/lang/String" Cdr.yN Cdr.yN)) rfl (by decide) (wk W Cdr.tab) (W := 1) (Nat.le_of_ble_eq_true rfl) (Nat.le_of_ble_eq_true rfl) (Nat.le_refl _) (Nat.le_refl _) (hx2.1.fc X2.warmed.alike) hx2.1.is (g := (mkF m 6 #[.val (.ref x)] [.ref x, .int (Int32.ofNat V.slots.size)])) rfl (by rw [hml]; rfl) c3 (argsL := []) (rest := [.int (Int32.ofNat V.slots.size)]) rfl rfl (by show 2 * 0 + (1 + 0) ≤ _; decide) (hb hbytes d6) (⟨rfl, hx2.2.2.1, hx.2.2.2.2.1.cd, s1.there X2.warmed.alike hh2, hz⟩)
  obtain ⟨rfl, q4⟩ := E4
  have c5 : Steps p.tables e below (s₁.setTop (entryFrame m #[.ref x] 1)) (T4.setTop (mkF m 10 #[.val (.ref x)] [.int (Int32.ofNat V.slots.size >>> (cd &&& 31))])) := Steps.trans g4 (by
    refine ishr X4.here hexec rfl (hb hbytes d9) rfl ?_
    exact Steps.refl _)
  rw [hx.2.2.2.2.1.len v31] at c5
  exact ⟨T4, some (.int (Int32.ofNat n)), _, _, _, X4, rfl, rfl, rfl, (fun h => by cases h), ⟨rfl, q4.trans hh2⟩, fun fs hl => c5.trans (X4.ireturnOut hexec hret rfl (Or.inl rfl) (hb hbytes d10) hl)⟩
theorem pays {l : Launch} {R : Room} {p : Program} {e : Env} {below : List Frame} {s : State} {sargs : Array Value} {len W : Nat} (x t : Addr) (V : Cell) (cd : Int32) (n : Nat) (f : Nat → Int32) (z : Int32) (htab : tab.before sargs s = true) (hfr : 2 ≤ R.frames) (hlo : W + 25 ≤ R.locals) :
    Back l R p e below s sargs yN len W (fun A₁ a₁ => A₁.cells + 0 ≤ R.cells ∧ A₁.slots + 0 ≤ R.slots ∧ P x t V cd n f z a₁ A₁.U) (fun A₁ _ v₁ B₁ => E n v₁ A₁.U B₁.U ∧ B₁.locs = A₁.locs ++ [] ∧ B₁.cells = A₁.cells + 0 ∧ B₁.slots = A₁.slots + 0) :=
  (law l x t V cd n f z).pays htab hfr (by omega)
end Len
end StrChars
namespace StrChars.Road
open Jvm Sem ClassFile Op Lib Jvm.Stand Jvm.Free Jvm.Free.XT
open Jvm.Lib.Cold (StaticIs)
theorem consq {a : Array Value} {s : State} {c : Jvm.Cond} {L : List Jvm.Cond} (h0 : c.before a s = true) (h : ∀ w ∈ L, w.before a s = true) : ∀ w ∈ c :: L, w.before a s = true := fun w hw => (List.mem_cons.mp hw).elim (fun e => e ▸ h0) (h w)
/-- the words of String.length(), either coding -/
abbrev wordsLen : List Jvm.Cond := [.code Len.yN Len.yB 1 (some .int), .initialized ST, .fieldLink ST 9 ST "value" "[B", .fieldLink ST 38 ST "COMPACT_STRINGS" "Z", .fieldLink ST 15 ST "coder" "B", .code Cdr.yN Cdr.yB 1 (some .byte), .methodLink ST 335 Cdr.yN, .declares Cdr.yN, .selects ST Cdr.yN Cdr.yN, .instanceMethod Cdr.yN]
theorem tabLen_of {a : Array Value} {s : State} (h : ∀ w ∈ wordsLen, w.before a s = true) : Len.tab.before a s = true := by
  have hc : Cdr.tab.before a s = true := unparts (wk h (.code Cdr.yN Cdr.yB 1 (some .byte))) (wks h (.initialized Cdr.yN.cls :: Cdr.site))
  have q := consq hc h
  exact unparts (wk q (.code Len.yN Len.yB 1 (some .int))) (wks q (.initialized Len.yN.cls :: Len.site))
theorem movedLen {Z s : State} {a0 args : Array Value} (hZ : Z.Warmed39 s.vm) (hw : ∀ d ∈ wordsLen, d.before a0 Z = true) : ∀ d ∈ wordsLen, d.before args s = true := fun d hd => by
  have q := hw d hd
  have t : ∀ d ∈ wordsLen, d = .arrayClass .byte ∨ (d.onTables && d.keepsFace) = true := by decide +kernel
  rcases t d hd with rfl | t
  · exact RoadKit.mvA hZ q
  · exact RoadKit.mv hZ q t
/-- the bytes of the chars cs, low before high -/
def wideBytes : List Int32 → List Value
  | [] => []
  | c :: cs => .int (lo8 c) :: .int (hi8 c) :: wideBytes cs
theorem wide_lo (d : Value) : ∀ (cs : List Int32) (j : Nat), j < cs.length → (wideBytes cs).getD (2 * j) d = .int (lo8 (cs.getD j 0))
  | [], j, h => absurd h (Nat.not_lt_zero j)
  | c :: cs, 0, _ => rfl
  | c :: cs, j + 1, h => by
    have q := wide_lo d cs j (by simpa using h)
    rw [show 2 * (j + 1) = 2 * j + 1 + 1 from by omega]
    simpa [wideBytes] using q
theorem wide_hi (d : Value) : ∀ (cs : List Int32) (j : Nat), j < cs.length → (wideBytes cs).getD (2 * j + 1) d = .int (hi8 (cs.getD j 0))
  | [], j, h => absurd h (Nat.not_lt_zero j)
  | c :: cs, 0, _ => rfl
  | c :: cs, j + 1, h => by
    have q := wide_hi d cs j (by simpa using h)
    rw [show 2 * (j + 1) + 1 = 2 * j + 1 + 1 + 1 from by omega]
    simpa [wideBytes] using q
theorem low_at (d : Value) (cs : List Int32) (j : Nat) (h : j < cs.length) : (cs.map fun c => Value.int (lo8 c)).getD j d = .int (lo8 (cs.getD j 0)) := by
  simp [List.getD_eq_getElem?_getD, h]
/-- an array of N2 bytes vs codes the chars cs by the coder cd -/
def CodA (cs : List Int32) (cd N2 : Int32) (vs : List Value) : Prop := (cd = 0 ∧ N2 = Int32.ofNat cs.length ∧ vs = (cs.map fun c => Value.int (lo8 c)) ∧ ∀ c ∈ cs, ¬ 255 < c) ∨ (cd = 1 ∧ N2 = Int32.ofNat (2 * cs.length) ∧ vs = wideBytes cs ∧ ∃ c ∈ cs, 255 < c)
theorem CodA.cod {cs : List Int32} {cd N2 : Int32} {vs : List Value} {V : Cell} (h : CodA cs cd N2 vs) (hn : 2 * cs.length < 2 ^ 31) (hs : V.slots.size = N2.toNatClampNeg) (hv : RoadKit.Has V vs (.int 0)) : Cod cd cs.length (fun j => cs.getD j 0) V := by
  rcases h with ⟨rfl, rfl, rfl, h⟩ | ⟨rfl, rfl, rfl, c, hc, hw⟩
  · rw [n32 (by omega)] at hs
    exact Or.inl ⟨rfl, hs, fun j hj => ⟨by rw [hv j (by omega), low_at _ _ _ hj], by
      have e : cs.getD j 0 = cs[j] := by simp [List.getD_eq_getElem?_getD, hj]
      show ¬ 255 < cs.getD j 0
      rw [e]; exact h _ (List.getElem_mem _)⟩⟩
  · rw [n32 (by omega)] at hs
    obtain ⟨j, hj, rfl⟩ := List.getElem_of_mem hc
    exact Or.inr ⟨rfl, hs, fun j hj => ⟨by rw [hv _ (by omega), wide_lo _ _ _ hj], by rw [hv _ (by omega), wide_hi _ _ _ hj]⟩, j, hj, by
      have e : cs.getD j 0 = cs[j] := by simp [List.getD_eq_getElem?_getD, hj]
      show 255 < cs.getD j 0
      rw [e]; exact hw⟩
/-- an object of exactly java/lang/String, its two fields found: as the laws ask it -/
theorem strObj {Z U : State} {a0 : Array Value} {kI : Nat} (wi : (Jvm.Cond.instantiable ST kI).before a0 Z = true) (al : Z.vm.Alike U.vm) {x : Addr} {v0 c0 : Value} (E : RoadKit.Exa Z U.heap x ST) (V : RoadKit.Fld Z U.heap x ST "value" "[B" v0) (C : RoadKit.Fld Z U.heap x ST "coder" "B" c0) :
    ∃ (D : Cell) (fV fC : Field), Blank ST x D U ∧ Found ST "value" "[B" fV U ∧ Found ST "coder" "B" fC U ∧ D.slots[fV.slot]? = some v0 ∧ D.slots[fC.slot]? = some c0 ∧ RoadKit.slotOf Z ST "value" "[B" = fV.slot ∧ RoadKit.slotOf Z ST "coder" "B" = fC.slot := by
  obtain ⟨D, cfV, kV, iV, fV, hD, gV, stV, knV, obV, asV, slV⟩ := V
  obtain ⟨D', cfC, kC, iC, fC, hD', gC, stC, -, -, asC, slC⟩ := C
  cases hD.symm.trans hD'
  obtain ⟨D2, kD, e1, e2, e3, e4, e5⟩ := E
  cases hD.symm.trans e1
  obtain ⟨c2, k2, i1, i2, i3, -⟩ := Cond.instantiable_spec wi
  cases e2.symm.trans i1
  cases e3.symm.trans i2
  obtain ⟨kU, u1, u2⟩ := al.2.2 _ _ e3
  exact ⟨D, fV, fC, ⟨hD, ⟨knV, fun q hq => by rw [hq] at obV; cases obV⟩, by rw [al.findClass]; exact e2, kU, u1, by rw [u2]; exact i3, by rw [u2]; exact e5 i3⟩, ⟨SBG.found_only al ⟨cfV, kV, iV, gV⟩, stV⟩, ⟨SBG.found_only al ⟨cfC, kC, iC, gC⟩, stC⟩, slV, slC, by simp [RoadKit.slotOf, gV], by simp [RoadKit.slotOf, gC]⟩
theorem sta_is {Z U : State} (al : Z.vm.Alike U.vm) {C n d : String} {v : Value} (S : RoadKit.Sta Z U.heap C n d v) : StaticIs U C n d v := by
  obtain ⟨cfS, iS, kS, fS, st, cS, t1, t2, t3, t4, t5, t6, t7⟩ := S
  exact StaticIs.there (s := { Z with heap := U.heap }) ⟨cfS, iS, kS, fS, st, cS, t1, t2, t3, t4, t5, (fun q => by rw [q] at t6; cases t6), t7⟩ al rfl
/-- **length() OF SUCH A STRING** -/
theorem lenW {p : Program} {l : Launch} {e : Env} {R : Room} {s : State} {args : Array Value} {below : List Frame} {len W : Nat} {Z : State} {a0 : Array Value} {h : Heap} (hZ : Z.Warmed39 s.vm) (hw : ∀ d ∈ wordsLen, d.before a0 Z = true) {kI : Nat} (wi : (Jvm.Cond.instantiable ST kI).before a0 Z = true)
    {x t : Addr} {kb : ClassId} {cs : List Int32} {cd N2 z : Int32} {vs : List Value} (E : RoadKit.Exa Z h x ST) (V : RoadKit.Fld Z h x ST "value" "[B" (.ref t)) (C : RoadKit.Fld Z h x ST "coder" "B" (.int cd)) (K : RoadKit.Arv Z h t kb .byte N2 vs (.int 0)) (hc : CodA cs cd N2 vs) (hb : ∀ c ∈ cs, ¬ c < 0 ∧ ¬ (65535 : Int32) < c)
    (S : RoadKit.Sta Z h ST "COMPACT_STRINGS" "Z" (.int z)) (hz : ¬ z = 0) (l2 : cs.length ≤ 4000) (hfr : 2 ≤ R.frames) (hlo : W + 25 ≤ R.locals) :
    Back l R p e below s args (⟨"java/lang/String", "length", "()I"⟩ : MethodName) len W (fun P a => a = #[.ref x] ∧ P.U.heap = h ∧ P.cells + 0 ≤ R.cells ∧ P.slots + 0 ≤ R.slots)
      (fun P _ v B => ∃ L, (v = some (.int (Int32.ofNat cs.length)) ∧ L = [] ∧ B.U.heap = h) ∧ B.locs = P.locs ++ L ∧ B.cells = P.cells + 0 ∧ B.slots = P.slots + 0) := by
  obtain ⟨A, K1, K2, K3, K4, K5, K6⟩ := K
  have hcod := hc.cod (by omega) K3 K5
  intro m meth c P g ig mk a X hg hsize hdg hW hn hp'
  obtain ⟨rfl, rfl, r1, r2⟩ := hp'
  have al : Z.vm.Alike P.U.vm := hZ.alike.trans X.warmed.alike
  obtain ⟨D, fV, fC, hB, F1, F2, g1, g2, -, -⟩ := strObj wi al E V C
  have hx : Txt x t A cd cs.length (fun j => cs.getD j 0) P.U := ⟨⟨_, hB.2.2.1, D, hB.1, rfl, by cases q : D.vm <;> first | rfl | exact absurd q (hB.2.1.2 _)⟩, Has.of hB F1 g1, Has.of hB F2 g2, ⟨K1.1, State.isArrayOf_alike al K1.2.1, K1.2.2, by rcases hcod with ⟨-, q, -⟩ | ⟨-, q, -⟩ <;> omega⟩, hcod, fun j hj => by
    have e : cs.getD j 0 = cs[j] := by simp [List.getD_eq_getElem?_getD, hj]
    show ¬ cs.getD j 0 < 0 ∧ ¬ 65535 < cs.getD j 0
    rw [e]; exact hb _ (List.getElem_mem _)⟩
  obtain ⟨v, B, X', ⟨⟨hv, hh⟩, hl, hk, hs⟩, st⟩ := Len.pays x t A cd cs.length (fun j => cs.getD j 0) z (tabLen_of (movedLen hZ hw)) hfr hlo m meth c P g ig mk _ X hg hsize hdg hW hn ⟨r1, r2, rfl, hx, sta_is al S, hz⟩
  exact ⟨v, B, X', ⟨[], ⟨hv, rfl, hh⟩, hl, hk, hs⟩, st⟩
end StrChars.Road
namespace StrChars.Road
open Jvm Sem ClassFile Op Lib Jvm.Stand Jvm.Free Jvm.Free.XT
open Jvm.Lib.Cold (StaticIs)
/-- what backV says of its String, as the contracts of this text ask it: cs's low bytes, coder 0 -/
theorem codOf {cs : List Int32} {n : Nat} (hn : cs.length = n) (hb : ∀ c ∈ cs, ¬ 255 < c) : CodA cs 0 (Int32.ofNat n) ((cs.map lo8).map Value.int) := Or.inl ⟨rfl, by rw [hn], by simp [List.map_map, Function.comp_def], hb⟩
end StrChars.Road
end Jvm.Pilot.@@N@@
namespace Jvm.Pilot.@@N@@
open Jvm Jvm.ClassFile Sem Op Lib Jvm.Free Jvm.Stand Jvm.LawKit Jvm.RoadKit Bundle Jvm.Pilot.@@N@@.Jvm.D
def ownEnds (tb : Tables) (e : Env) (below : List Frame) (Φ : State → Outcome → Prop) (A : State) : Prop :=
  ∃ s₂ o, Steps tb e below A s₂ ∧ s₂.status = .running ∧ Ended s₂ below o ∧ Φ s₂ o
theorem ownEnds.law {tb : Tables} {e : Env} {below : List Frame} {Φ : State → Outcome → Prop} {A B : State} (k : ∀ t, Steps tb e below B t → Steps tb e below A t) (h : ownEnds tb e below Φ B) : ownEnds tb e below Φ A := by
  obtain ⟨s2, o, h1, h2⟩ := h
  exact ⟨s2, o, k _ h1, h2⟩
theorem ownEnds.tr {tb : Tables} {e : Env} {below : List Frame} {Φ : State → Outcome → Prop} {A B : State} (k : Steps tb e below A B) (h : ownEnds tb e below Φ B) : ownEnds tb e below Φ A := by
  obtain ⟨s2, o, h1, h2⟩ := h
  exact ⟨s2, o, k.trans h1, h2⟩
theorem ownEnds.cast {tb : Tables} {e : Env} {below : List Frame} {Φ : State → Outcome → Prop} {T : State} {g g' : JFrame} (q : g = g') (h : ownEnds tb e below Φ (T.setTop g')) : ownEnds tb e below Φ (T.setTop g) := q ▸ h
def ownPost (s : State) (Q : Option Value → Heap → List Loc → Prop) (C S : Nat) : State → Outcome → Prop := fun U o => ∃ v L, o = .returned v ∧ Q v U.heap L ∧ FrameEnd s o U L C S
abbrev ownMet (l : Launch) (Z : State) (y : MethodName) (bytes : ByteArray) (maxL : Nat) (rt : Option FieldType) (ws : List Jvm.Cond) (rm : Room) (as : Array Value) (h0 : Heap) (Q : Option Value → Heap → List Loc → Prop) : Prop :=
  MetFree l y (head1 (Jvm.Cond.code y bytes maxL rt :: ws) rm) (fun a U => a = as ∧ Z.Warmed39 U.vm ∧ U.heap = h0) (fun _ _ _ _ _ => True) (fun _ U o U' => ∃ v L, o = .returned v ∧ Q v U'.heap L ∧ FrameEnd U o U' L rm.cells rm.slots)
theorem ownMet.of {l : Launch} {Z : State} {y : MethodName} {bytes : ByteArray} {maxL : Nat} {rt : Option FieldType} {ws : List Jvm.Cond} {rm : Room} {as : Array Value} {h0 : Heap} {Q : Option Value → Heap → List Loc → Prop} (hpl : plainFor y = true)
    (body : ∀ (p : Program) (e : Env) (s : State) (m : MethodId) (below : List Frame) (meth : Method) (c : Code) (T0 : State), p.tables.exec = Jvm.exec → c.code = bytes → c.maxLocals = maxL → Z.Warmed39 s.vm → s.vm.findClass y.cls = some m.cls → meth.name = y.name → meth.sig.returnType = rt → meth.locks = false →
      Stand p l e rm s m as below meth c T0 [] 0 0 → T0.heap = h0 → ownEnds p.tables e below (ownPost s Q rm.cells rm.slots) (T0.setTop (entryFrame m as maxL))) : ownMet l Z y bytes maxL rt ws rm as h0 Q := by
  refine MetFree.of_bodySF hpl hisR ?_
  intro p e s m args below meth c s₁ Bd hml0 hP hK
  obtain ⟨rfl, hZ, hh⟩ := hP
  exact body p e s m below meth c s₁ Bd.exec Bd.bytes hml0 hZ (findClass_of_methodNamed Bd.named) (name_of_methodNamed Bd.named Bd.method).1 Bd.returns Bd.notSynchronized (Stand.of_body Bd) (by rw [← hh, Bd.state]; rfl)
theorem ownEqV {args : Array Value} {first s : State} {o : Option Outcome} {idx : List Nat} {a b : Term} {v : Value} (h : (Cond.eq a b).value args first o s idx = some true) (hb : b.eval args first o idx s = some v) : a.eval args first o idx s = some v := by
  simp only [Cond.value, hb] at h
  cases ha : a.eval args first o idx s with
  | none => simp [ha] at h
  | some x => cases x <;> cases v <;> simp_all
theorem ownFieldAt {args : Array Value} {first s : State} {o : Option Outcome} {idx : List Nat} {t : Term} {a : Addr} {C n d : String} (ev : t.eval args first o idx s = some (.ref a)) : (Term.field t C n d).eval args first o idx s = s.fieldOf? a C n d := by
  simp [Term.eval, ev]
theorem ownLen {s : State} {args : Array Value} {t : Term} {a : Addr} {cl : Cell} {ty : FieldType} {z : Int32} (ev : t.eval args s none [] s = some (.ref a)) (A : Arr s s.heap a cl ty) (h : (Term.length t).eval args s none [] s = some (.int z)) : cl.slots.size < 2 ^ 31 ∧ cl.slots.size.toInt32 = z := by
  have q := A.fin (Vm.Alike.refl _)
  simp only [Term.eval, ev, q, Option.bind_eq_bind, Option.bind_some, Option.pure_def] at h
  split at h
  · rename_i hs
    exact ⟨hs, by simpa using h⟩
  · cases h
theorem ownEl {s : State} {args : Array Value} {t i : Term} {a : Addr} {cl : Cell} {ty : FieldType} {j : Int32} {v : Value} (ev : t.eval args s none [] s = some (.ref a)) (A : Arr s s.heap a cl ty) (ej : i.eval args s none [] s = some (.int j)) (h : (Term.elem t i).eval args s none [] s = some v) : cl.slots[j.toNatClampNeg]? = some v := by
  have q := A.fin (Vm.Alike.refl _)
  simp only [Term.eval, ev, ej, q, Option.bind_eq_bind, Option.bind_some] at h
  split at h
  · cases h
  · exact h
section OwnKit
variable {p : Program} {l : Launch} {e : Env} {R : Room} {s : State} {m : MethodId} {args : Array Value} {below : List Frame} {meth : Method} {c : Code} {T : State} {locs : List Loc} {cells slots : Nat} {Z : State} {a0 : Array Value} {h : Heap}
theorem ownRet (X : Stand p l e R s m args below meth c T locs cells slots) (hlk : meth.locks = false) {v : Option Value} (hv : meth.sig.returnType = none → v = none) {g : JFrame} {Q : Option Value → Heap → List Loc → Prop} {C S : Nat}
    (hst : ∀ fs, (∀ (f : JFrame) (acts : List Action), f.method = m → f.locked = none → f.entered = [] → (doReturn e (T.setTop f) acts v).1 = T.setFrames fs) → Steps p.tables e below (T.setTop g) (T.setFrames fs))
    (hc : cells ≤ C) (hs : slots ≤ S) (hQ : Q v T.heap locs) : ownEnds p.tables e below (ownPost s Q C S) (T.setTop g) := by
  obtain ⟨fs, hr, hrun, hended, hW, hsame⟩ := X.leave (v := v) hv hlk
  exact ⟨_, _, hst fs hr, hrun, hended, v, locs, rfl, hQ, ⟨_, rfl⟩, hW, hsame.mono hc hs⟩
theorem ownRetN (X : Stand p l e R s m args below meth c T locs cells slots) (hlk : meth.locks = false) (hx : p.tables.exec = Jvm.exec) {pc : Nat} {Ls : Array Slot} {z : Int32} {t : FieldType} {rest : List Value} (hret : meth.sig.returnType = some t) (ht : t = .boolean ∨ t = .byte ∨ t = .char ∨ t = .short)
    (hd : decode c.code pc = .ok (.ireturn, 1)) {Q : Option Value → Heap → List Loc → Prop} {C S : Nat} (hc : cells ≤ C) (hs : slots ≤ S) (hQ : Q (some (.int (nar t z))) T.heap locs) : ownEnds p.tables e below (ownPost s Q C S) (T.setTop (mkF m pc Ls (.int z :: rest))) :=
  ownRet X hlk (fun h => by rw [hret] at h; cases h) (fun fs hr => retN X hx hret ht hd hr) hc hs hQ
theorem ownRetI (X : Stand p l e R s m args below meth c T locs cells slots) (hlk : meth.locks = false) (hx : p.tables.exec = Jvm.exec) {pc : Nat} {Ls : Array Slot} {z : Int32} {rest : List Value} (hret : meth.sig.returnType = some .int)
    (hd : decode c.code pc = .ok (.ireturn, 1)) {Q : Option Value → Heap → List Loc → Prop} {C S : Nat} (hc : cells ≤ C) (hs : slots ≤ S) (hQ : Q (some (.int z)) T.heap locs) : ownEnds p.tables e below (ownPost s Q C S) (T.setTop (mkF m pc Ls (.int z :: rest))) :=
  ownRet X hlk (fun h => by rw [hret] at h; cases h) (fun fs hr => retOut X hx hret rfl (Or.inl ⟨rfl, Or.inl rfl, z, rfl⟩) hd hr) hc hs hQ
theorem ownRetL (X : Stand p l e R s m args below meth c T locs cells slots) (hlk : meth.locks = false) (hx : p.tables.exec = Jvm.exec) {pc : Nat} {Ls : Array Slot} {z : Int64} {rest : List Value} (hret : meth.sig.returnType = some .long)
    (hd : decode c.code pc = .ok (.lreturn, 1)) {Q : Option Value → Heap → List Loc → Prop} {C S : Nat} (hc : cells ≤ C) (hs : slots ≤ S) (hQ : Q (some (.long z)) T.heap locs) : ownEnds p.tables e below (ownPost s Q C S) (T.setTop (mkF m pc Ls (.long z :: rest))) :=
  ownRet X hlk (fun h => by rw [hret] at h; cases h) (fun fs hr => retOut X hx hret rfl (Or.inr (Or.inl ⟨rfl, rfl, z, rfl⟩)) hd hr) hc hs hQ
theorem ownRetA (X : Stand p l e R s m args below meth c T locs cells slots) (hlk : meth.locks = false) (hx : p.tables.exec = Jvm.exec) {pc : Nat} {Ls : Array Slot} {w : Value} {t : FieldType} {rest : List Value} (hret : meth.sig.returnType = some t) (ht : t.isReference = true) (hw : w.isRef = true)
    (hd : decode c.code pc = .ok (.areturn, 1)) {Q : Option Value → Heap → List Loc → Prop} {C S : Nat} (hc : cells ≤ C) (hs : slots ≤ S) (hQ : Q (some w) T.heap locs) : ownEnds p.tables e below (ownPost s Q C S) (T.setTop (mkF m pc Ls (w :: rest))) :=
  ownRet X hlk (fun h => by rw [hret] at h; cases h) (fun fs hr => retOut X hx hret (by rcases ref_cases hw with rfl | ⟨a, rfl⟩ <;> cases t <;> first | rfl | (simp [FieldType.isReference] at ht)) (Or.inr (Or.inr (Or.inr (Or.inr ⟨rfl, ht, hw⟩)))) hd hr) hc hs hQ
theorem ownRetV (X : Stand p l e R s m args below meth c T locs cells slots) (hlk : meth.locks = false) (hx : p.tables.exec = Jvm.exec) {pc : Nat} {Ls : Array Slot} (hret : meth.sig.returnType = none)
    (hd : decode c.code pc = .ok (.return_, 1)) {Q : Option Value → Heap → List Loc → Prop} {C S : Nat} (hc : cells ≤ C) (hs : slots ≤ S) (hQ : Q none T.heap locs) : ownEnds p.tables e below (ownPost s Q C S) (T.setTop (mkF m pc Ls [])) :=
  ownRet X hlk (fun _ => rfl) (fun fs hr => X.returnOut hx hret hd hr) hc hs hQ
theorem ownCallS (X : Stand p l e R s m args below meth c T locs cells slots) (hx : p.tables.exec = Jvm.exec) (hZ : Z.Warmed39 s.vm) {own : String} {index : Nat} (hown : s.vm.findClass own = some m.cls) {y : MethodName} {bytes : ByteArray} {maxL : Nat} {rt : Option FieldType} {rm : Room} {as : List Value} {Q : Option Value → Heap → List Loc → Prop}
    (w1 : (Cond.methodLink own index y).before a0 Z = true) (w2 : (Cond.static y).before a0 Z = true) (w3 : (Cond.initialized y.cls).before a0 Z = true) (w4 : (Cond.code y bytes maxL rt).before a0 Z = true) (hy : y.cls ≠ "java/lang/invoke/MethodHandle" ∧ y.cls ≠ "java/lang/invoke/VarHandle")
    (hM : ownMet l Z y bytes maxL rt [] rm as.toArray h Q) (eT : T.heap = h) (W : Nat) (hf : rm.frames + 1 ≤ R.frames) (hl : W + (maxL + 11) + rm.locals ≤ R.locals) (hc : cells + rm.cells ≤ R.cells) (hs : slots + rm.slots ≤ R.slots)
    {g : JFrame} (hg : g.method = m) (hsize : g.locals.size = c.maxLocals) {rest : List Value} {ps : List FieldType} {r : Option FieldType} (hd : parseMethodDescriptor y.desc = some ⟨ps, r⟩) (hlen : as.length = ps.length) (hstack : g.stack = as.reverse ++ rest) (hW : 2 * g.monitorRoom + (rest.map fun v => v.category).sum ≤ W)
    (hdg : decode c.code g.pc = .ok (.invokestatic index, 3)) :
    ∃ v T' L, Stand p l e R s m args below meth c T' (locs ++ L) (cells + rm.cells) (slots + rm.slots) ∧ Q v T'.heap L ∧ ∀ t, Steps p.tables e below (T'.setTop { g with pc := g.pc + 3, stack := v.toList ++ rest }) t → Steps p.tables e below (T.setTop g) t := by
  obtain ⟨v, _, ⟨T1, L1, k1, n1⟩, -, X1, ⟨Lc, hQ, l1, y1, z1⟩, st⟩ := Jvm.LawKit.callS X hx (y := y) hown (mvT hZ w1) (mvT hZ w2) (mvT hZ w3) (mvT hZ w4) hy (backOf (W := W) hM hZ w4 w3 hf hl) hg hsize (argsL := as) (rest := rest) (lenOf hd hlen) hstack hW hdg (fun _ _ => ⟨rfl, eT, hc, hs⟩)
  dsimp only [Pt.U, Pt.locs, Pt.cells, Pt.slots] at X1 l1 y1 z1 st hQ
  subst l1 y1 z1
  exact ⟨v, T1, Lc, X1, hQ, st⟩
theorem ownCallC (X : Stand p l e R s m args below meth c T locs cells slots) (hx : p.tables.exec = Jvm.exec) (hZ : Z.Warmed39 s.vm) {own : String} {index : Nat} (hown : s.vm.findClass own = some m.cls) {y : MethodName} (hy1 : y.name = "<init>") {bytes : ByteArray} {maxL : Nat} {rm : Room} {a : Addr} {as : List Value} {Q : Option Value → Heap → List Loc → Prop}
    (w1 : (Cond.methodLink own index y).before a0 Z = true) (w2 : (Cond.instanceMethod y).before a0 Z = true) (w3 : (Cond.initialized y.cls).before a0 Z = true) (w4 : (Cond.code y bytes maxL none).before a0 Z = true) (hy : y.cls ≠ "java/lang/invoke/MethodHandle" ∧ y.cls ≠ "java/lang/invoke/VarHandle")
    (hM : ownMet l Z y bytes maxL none [] rm (.ref a :: as).toArray h Q) (eT : T.heap = h) (W : Nat) (hf : rm.frames + 1 ≤ R.frames) (hl : W + (maxL + 11) + rm.locals ≤ R.locals) (hc : cells + rm.cells ≤ R.cells) (hs : slots + rm.slots ≤ R.slots)
    {g : JFrame} (hg : g.method = m) (hsize : g.locals.size = c.maxLocals) {rest : List Value} {ps : List FieldType} {r : Option FieldType} (hd : parseMethodDescriptor y.desc = some ⟨ps, r⟩) (hlen : as.length = ps.length) (hstack : g.stack = as.reverse ++ .ref a :: rest) (hW : 2 * g.monitorRoom + (rest.map fun v => v.category).sum ≤ W)
    (hdg : decode c.code g.pc = .ok (.invokespecial index, 3)) :
    ∃ v T' L, Stand p l e R s m args below meth c T' (locs ++ L) (cells + rm.cells) (slots + rm.slots) ∧ Q v T'.heap L ∧ ∀ t, Steps p.tables e below (T'.setTop { g with pc := g.pc + 3, stack := v.toList ++ rest }) t → Steps p.tables e below (T.setTop g) t := by
  obtain ⟨v, _, ⟨T1, L1, k1, n1⟩, -, X1, ⟨Lc, hQ, l1, y1, z1⟩, st⟩ := X.specialBack hx (y := y) hy1 hown (mvT hZ w1) (mvT hZ w2) (mvT hZ w4) hy (backOf (W := W) hM hZ w4 w3 hf hl) hg hsize (Steps.refl _) (a := a) (argsL := as) (rest := rest) (lenOf hd hlen) hstack hW hdg (fun _ _ => ⟨rfl, eT, hc, hs⟩)
  dsimp only [Pt.U, Pt.locs, Pt.cells, Pt.slots] at X1 l1 y1 z1 st hQ
  subst l1 y1 z1
  exact ⟨v, T1, Lc, X1, hQ, fun t k => st.trans k⟩
theorem ownCallV (X : Stand p l e R s m args below meth c T locs cells slots) (hx : p.tables.exec = Jvm.exec) (hZ : Z.Warmed39 s.vm) {own C : String} {index : Nat} (hown : s.vm.findClass own = some m.cls) {y z : MethodName} {bytes : ByteArray} {maxL : Nat} {rt : Option FieldType} {rm : Room} {a : Addr} {as : List Value} {Q : Option Value → Heap → List Loc → Prop}
    (w1 : (Cond.methodLink own index y).before a0 Z = true) (w2 : (Cond.declares y).before a0 Z = true) (hnf : NotFace s y) (w5 : (Cond.selects C y z).before a0 Z = true) (w6 : (Cond.instanceMethod z).before a0 Z = true) (w3 : (Cond.initialized z.cls).before a0 Z = true) (w4 : (Cond.code z bytes maxL rt).before a0 Z = true) (hy : y.cls ≠ "java/lang/invoke/MethodHandle" ∧ y.cls ≠ "java/lang/invoke/VarHandle")
    (hM : ownMet l Z z bytes maxL rt [] rm (.ref a :: as).toArray h Q) (eT : T.heap = h) (E : Exa Z h a C) (W : Nat) (hf : rm.frames + 1 ≤ R.frames) (hl : W + (maxL + 11) + rm.locals ≤ R.locals) (hc : cells + rm.cells ≤ R.cells) (hs : slots + rm.slots ≤ R.slots)
    {g : JFrame} (hg : g.method = m) (hsize : g.locals.size = c.maxLocals) {rest : List Value} {ps : List FieldType} {r : Option FieldType} (hd : parseMethodDescriptor y.desc = some ⟨ps, r⟩) (hlen : as.length = ps.length) (hstack : g.stack = as.reverse ++ .ref a :: rest) (hW : 2 * g.monitorRoom + (rest.map fun v => v.category).sum ≤ W)
    (hdg : decode c.code g.pc = .ok (.invokevirtual index, 3)) :
    ∃ v T' L, Stand p l e R s m args below meth c T' (locs ++ L) (cells + rm.cells) (slots + rm.slots) ∧ Q v T'.heap L ∧ ∀ t, Steps p.tables e below (T'.setTop { g with pc := g.pc + 3, stack := v.toList ++ rest }) t → Steps p.tables e below (T.setTop g) t := by
  obtain ⟨cq, kq, qa, qb, qc⟩ := isOf hZ eT E
  obtain ⟨v, _, ⟨T1, L1, k1, n1⟩, -, X1, ⟨Lc, hQ, l1, y1, z1⟩, st⟩ := X.virtualBack hx (y := y) (z := z) hown (mvT hZ w1) (mvT hZ w2) hnf (mvT hZ w5) (mvT hZ w6) hy (backOf (W := W) hM hZ w4 w3 hf hl) qa qc hg hsize (Steps.refl _) (argsL := as) (rest := rest) (lenOf hd hlen) hstack hW hdg (fun _ _ => ⟨rfl, eT, hc, hs⟩)
  dsimp only [Pt.U, Pt.locs, Pt.cells, Pt.slots] at X1 l1 y1 z1 st hQ
  subst l1 y1 z1
  exact ⟨v, T1, Lc, X1, hQ, fun t k => st.trans k⟩
theorem ownSelfSel {y z : MethodName} {C : String} (hz : z.cls = y.cls) (wz : (Cond.selects C z z).before args s = true) (hinst : (Cond.instanceMethod y).before args s = true) (hpriv : s.PrivateAt y) (hy : y.cls ≠ "java/lang/invoke/MethodHandle" ∧ y.cls ≠ "java/lang/invoke/VarHandle") : (Cond.selects y.cls y y).before args s = true := by
  obtain ⟨c2, r2, m2, q1, q2, q3, q4, kP, hkP, hkPi⟩ := Cond.selects_spec wz
  exact selects_self_of_private (by rw [← hz]; exact findClass_of_methodNamed q3) hkP hkPi hpriv hinst hy
theorem ownCallP (X : Stand p l e R s m args below meth c T locs cells slots) (hx : p.tables.exec = Jvm.exec) (hZ : Z.Warmed39 s.vm) {own C D : String} {index : Nat} (hown : s.vm.findClass own = some m.cls) {y z : MethodName} {bytes : ByteArray} {maxL : Nat} {rt : Option FieldType} {rm : Room} {a : Addr} {as : List Value} {Q : Option Value → Heap → List Loc → Prop}
    (w1 : (Cond.methodLink own index y).before a0 Z = true) (hz : z.cls = y.cls) (w5 : (Cond.selects C z z).before a0 Z = true) (w6 : (Cond.instanceMethod y).before a0 Z = true) (w7 : (Cond.privateMethod y).before a0 Z = true) (w3 : (Cond.initialized y.cls).before a0 Z = true) (w4 : (Cond.code y bytes maxL rt).before a0 Z = true) (hy : y.cls ≠ "java/lang/invoke/MethodHandle" ∧ y.cls ≠ "java/lang/invoke/VarHandle")
    (hM : ownMet l Z y bytes maxL rt [] rm (.ref a :: as).toArray h Q) (eT : T.heap = h) (E : Exa Z h a D) (W : Nat) (hf : rm.frames + 1 ≤ R.frames) (hl : W + (maxL + 11) + rm.locals ≤ R.locals) (hc : cells + rm.cells ≤ R.cells) (hs : slots + rm.slots ≤ R.slots)
    {g : JFrame} (hg : g.method = m) (hsize : g.locals.size = c.maxLocals) {rest : List Value} {ps : List FieldType} {r : Option FieldType} (hd : parseMethodDescriptor y.desc = some ⟨ps, r⟩) (hlen : as.length = ps.length) (hstack : g.stack = as.reverse ++ .ref a :: rest) (hW : 2 * g.monitorRoom + (rest.map fun v => v.category).sum ≤ W)
    (hdg : decode c.code g.pc = .ok (.invokevirtual index, 3)) :
    ∃ v T' L, Stand p l e R s m args below meth c T' (locs ++ L) (cells + rm.cells) (slots + rm.slots) ∧ Q v T'.heap L ∧ ∀ t, Steps p.tables e below (T'.setTop { g with pc := g.pc + 3, stack := v.toList ++ rest }) t → Steps p.tables e below (T.setTop g) t := by
  obtain ⟨cq, q1, q2⟩ := E.cell
  have hpv : s.PrivateAt y := Cond.privateMethod_at (mvP hZ w7 (args := #[]))
  obtain ⟨v, _, ⟨T1, L1, k1, n1⟩, -, X1, ⟨Lc, hQ, l1, y1, z1⟩, st⟩ := X.privateBack hx (y := y) hown (mvT hZ w1) (mvT hZ w6) (ownSelfSel hz (mvT hZ w5) (mvT hZ w6) hpv hy) hpv (mvT hZ w4) hy (backOf (W := W) hM hZ w4 w3 hf hl) hg hsize (Steps.refl _) (a := a) (by rw [eT]; exact q1) q2 (argsL := as) (rest := rest) (lenOf hd hlen) hstack hW hdg (fun _ _ => ⟨rfl, eT, hc, hs⟩)
  dsimp only [Pt.U, Pt.locs, Pt.cells, Pt.slots] at X1 l1 y1 z1 st hQ
  subst l1 y1 z1
  exact ⟨v, T1, Lc, X1, hQ, fun t k => st.trans k⟩
end OwnKit
def ownPostW (s : State) (Q : Option Value → Heap → List Loc → Prop) (C S : Nat) : State → Outcome → Prop := fun U o => ∃ v L, o = .returned v ∧ Q v U.heap L ∧ ReturnedEndW s o U L C S
abbrev ownMetW (l : Launch) (Z : State) (y : MethodName) (bytes : ByteArray) (maxL : Nat) (rt : Option FieldType) (ws : List Jvm.Cond) (rm : Room) (as : Array Value) (h0 : Heap) (Q : Option Value → Heap → List Loc → Prop) : Prop :=
  MetFree l y (head1 (Jvm.Cond.code y bytes maxL rt :: ws) rm) (fun a U => a = as ∧ Z.Warmed39 U.vm ∧ U.heap = h0) (fun _ _ _ _ _ => True) (fun _ U o U' => ∃ v L, o = .returned v ∧ Q v U'.heap L ∧ ReturnedEndW U o U' L rm.cells rm.slots)
theorem ownMetW.of {l : Launch} {Z : State} {y : MethodName} {bytes : ByteArray} {maxL : Nat} {rt : Option FieldType} {ws : List Jvm.Cond} {rm : Room} {as : Array Value} {h0 : Heap} {Q : Option Value → Heap → List Loc → Prop} (hpl : plainFor y = true)
    (body : ∀ (p : Program) (e : Env) (s : State) (m : MethodId) (below : List Frame) (meth : Method) (c : Code) (T0 : State), p.tables.exec = Jvm.exec → c.code = bytes → c.maxLocals = maxL → Z.Warmed39 s.vm → s.vm.findClass y.cls = some m.cls → meth.name = y.name → meth.sig.returnType = rt → meth.locks = false →
      Stand p l e rm s m as below meth c T0 [] 0 0 → T0.heap = h0 → ownEnds p.tables e below (ownPostW s Q rm.cells rm.slots) (T0.setTop (entryFrame m as maxL))) : ownMetW l Z y bytes maxL rt ws rm as h0 Q := by
  refine MetFree.of_bodySF hpl hisR ?_
  intro p e s m args below meth c s₁ Bd hml0 hP hK
  obtain ⟨rfl, hZ, hh⟩ := hP
  exact body p e s m below meth c s₁ Bd.exec Bd.bytes hml0 hZ (findClass_of_methodNamed Bd.named) (name_of_methodNamed Bd.named Bd.method).1 Bd.returns Bd.notSynchronized (Stand.of_body Bd) (by rw [← hh, Bd.state]; rfl)
section OwnKitW
variable {p : Program} {l : Launch} {e : Env} {R : Room} {s : State} {m : MethodId} {args : Array Value} {below : List Frame} {meth : Method} {c : Code} {T : State} {locs : List Loc} {cells slots : Nat} {Z : State} {a0 : Array Value} {h : Heap}
theorem ownRetW {vm1 : Vm} (X : Stand p l e R (s.setVm vm1) m args below meth c T locs cells slots) (hlk : meth.locks = false) {n : Nat} (hS : s.Since vm1 n) (hn : n ≤ T.heap.size) {v : Option Value} (hv : meth.sig.returnType = none → v = none) {g : JFrame} {Q : Option Value → Heap → List Loc → Prop} {C S : Nat}
    (hst : ∀ fs, (∀ (f : JFrame) (acts : List Action), f.method = m → f.locked = none → f.entered = [] → (doReturn e (T.setTop f) acts v).1 = T.setFrames fs) → Steps p.tables e below (T.setTop g) (T.setFrames fs))
    (hc : cells ≤ C) (hs : slots ≤ S) (hQ : Q v T.heap locs) : ownEnds p.tables e below (ownPostW s Q C S) (T.setTop g) := by
  obtain ⟨fs, hr, hrun, hended, hW⟩ := X.leaveW hS hn (v := v) hv hlk
  exact ⟨_, _, hst fs hr, hrun, hended, v, locs, rfl, hQ, hW.1, hW.2.1, hW.2.2.1, hW.2.2.2.mono hc hs⟩
theorem ownRetNW {vm1 : Vm} (X : Stand p l e R (s.setVm vm1) m args below meth c T locs cells slots) (hlk : meth.locks = false) {n : Nat} (hS : s.Since vm1 n) (hn : n ≤ T.heap.size) (hx : p.tables.exec = Jvm.exec) {pc : Nat} {Ls : Array Slot} {z : Int32} {t : FieldType} {rest : List Value} (hret : meth.sig.returnType = some t) (ht : t = .boolean ∨ t = .byte ∨ t = .char ∨ t = .short)
    (hd : decode c.code pc = .ok (.ireturn, 1)) {Q : Option Value → Heap → List Loc → Prop} {C S : Nat} (hc : cells ≤ C) (hs : slots ≤ S) (hQ : Q (some (.int (nar t z))) T.heap locs) : ownEnds p.tables e below (ownPostW s Q C S) (T.setTop (mkF m pc Ls (.int z :: rest))) :=
  ownRetW X hlk hS hn (fun h => by rw [hret] at h; cases h) (fun fs hr => retN X hx hret ht hd hr) hc hs hQ
theorem ownRetVW {vm1 : Vm} (X : Stand p l e R (s.setVm vm1) m args below meth c T locs cells slots) (hlk : meth.locks = false) {n : Nat} (hS : s.Since vm1 n) (hn : n ≤ T.heap.size) (hx : p.tables.exec = Jvm.exec) {pc : Nat} {Ls : Array Slot} (hret : meth.sig.returnType = none)
    (hd : decode c.code pc = .ok (.return_, 1)) {Q : Option Value → Heap → List Loc → Prop} {C S : Nat} (hc : cells ≤ C) (hs : slots ≤ S) (hQ : Q none T.heap locs) : ownEnds p.tables e below (ownPostW s Q C S) (T.setTop (mkF m pc Ls [])) :=
  ownRetW X hlk hS hn (fun _ => rfl) (fun fs hr => X.returnOut hx hret hd hr) hc hs hQ
theorem ownCallCW (X : Stand p l e R s m args below meth c T locs cells slots) (hx : p.tables.exec = Jvm.exec) (hZ : Z.Warmed39 s.vm) {own : String} {index : Nat} (hown : s.vm.findClass own = some m.cls) {y : MethodName} (hy1 : y.name = "<init>") {bytes : ByteArray} {maxL : Nat} {rm : Room} {a : Addr} {as : List Value} {Q : Option Value → Heap → List Loc → Prop}
    (w1 : (Cond.methodLink own index y).before a0 Z = true) (w2 : (Cond.instanceMethod y).before a0 Z = true) (w3 : (Cond.initialized y.cls).before a0 Z = true) (w4 : (Cond.code y bytes maxL none).before a0 Z = true) (hy : y.cls ≠ "java/lang/invoke/MethodHandle" ∧ y.cls ≠ "java/lang/invoke/VarHandle")
    (hM : ownMetW l Z y bytes maxL none [] rm (.ref a :: as).toArray h Q) (eT : T.heap = h) (W : Nat) (hf : rm.frames + 1 ≤ R.frames) (hl : W + (maxL + 11) + rm.locals ≤ R.locals) (hc : cells + rm.cells ≤ R.cells) (hs : slots + rm.slots ≤ R.slots)
    {g : JFrame} (hg : g.method = m) (hsize : g.locals.size = c.maxLocals) {rest : List Value} {ps : List FieldType} {r : Option FieldType} (hd : parseMethodDescriptor y.desc = some ⟨ps, r⟩) (hlen : as.length = ps.length) (hstack : g.stack = as.reverse ++ .ref a :: rest) (hW : 2 * g.monitorRoom + (rest.map fun v => v.category).sum ≤ W)
    (hdg : decode c.code g.pc = .ok (.invokespecial index, 3)) :
    ∃ v T' L, Stand p l e R (s.setVm T'.vm) m args below meth c T' (locs ++ L) (cells + rm.cells) (slots + rm.slots) ∧ s.Since T'.vm T'.heap.size ∧ Z.Warmed39 (s.setVm T'.vm).vm ∧ (s.setVm T'.vm).vm.findClass own = some m.cls ∧ Q v T'.heap L ∧ ∀ t, Steps p.tables e below (T'.setTop { g with pc := g.pc + 3, stack := v.toList ++ rest }) t → Steps p.tables e below (T.setTop g) t := by
  obtain ⟨v, _, ⟨T1, L1, k1, n1⟩, -, X1, hS, hgr, ⟨Lc, hQ, l1, y1, z1⟩, st⟩ := X.specialBackS hx (y := y) hy1 hown (mvT hZ w1) (mvT hZ w2) (mvT hZ w4) hy (backOfS (W := W) hM hZ w4 w3 hf hl) hg hsize (Steps.refl _) (a := a) (argsL := as) (rest := rest) (lenOf hd hlen) hstack hW hdg (fun _ _ => ⟨rfl, eT, hc, hs⟩)
  dsimp only [Pt.U, Pt.locs, Pt.cells, Pt.slots] at X1 l1 y1 z1 st hQ hS
  subst l1 y1 z1
  exact ⟨v, T1, Lc, X1, hS, State.Warmed39.trans hZ hS.1, (hS.1.alike.findClass _ _).trans hown, hQ, fun t k => st.trans k⟩
theorem ownCallCB (X : Stand p l e R s m args below meth c T locs cells slots) (hx : p.tables.exec = Jvm.exec) (hZ : Z.Warmed39 s.vm) {own : String} {index : Nat} (hown : s.vm.findClass own = some m.cls) {y : MethodName} (hy1 : y.name = "<init>") {bytes : ByteArray} {maxL : Nat} {a : Addr} {as : List Value} {Q : Option Value → Heap → List Loc → Prop}
    (w1 : (Cond.methodLink own index y).before a0 Z = true) (w2 : (Cond.instanceMethod y).before a0 Z = true) (w4 : (Cond.code y bytes maxL none).before a0 Z = true) (hy : y.cls ≠ "java/lang/invoke/MethodHandle" ∧ y.cls ≠ "java/lang/invoke/VarHandle") {W cc ss : Nat}
    (hK : Back l R p e below s args y 3 W (fun P a' => a' = (.ref a :: as).toArray ∧ P.U.heap = h ∧ P.cells + cc ≤ R.cells ∧ P.slots + ss ≤ R.slots) (fun P _ v B => ∃ L, Q v B.U.heap L ∧ B.locs = P.locs ++ L ∧ B.cells = P.cells + cc ∧ B.slots = P.slots + ss)) (eT : T.heap = h) (hc : cells + cc ≤ R.cells) (hs : slots + ss ≤ R.slots)
    {g : JFrame} (hg : g.method = m) (hsize : g.locals.size = c.maxLocals) {rest : List Value} {ps : List FieldType} {r : Option FieldType} (hd : parseMethodDescriptor y.desc = some ⟨ps, r⟩) (hlen : as.length = ps.length) (hstack : g.stack = as.reverse ++ .ref a :: rest) (hW : 2 * g.monitorRoom + (rest.map fun v => v.category).sum ≤ W)
    (hdg : decode c.code g.pc = .ok (.invokespecial index, 3)) :
    ∃ v T' L, Stand p l e R s m args below meth c T' (locs ++ L) (cells + cc) (slots + ss) ∧ Q v T'.heap L ∧ ∀ t, Steps p.tables e below (T'.setTop { g with pc := g.pc + 3, stack := v.toList ++ rest }) t → Steps p.tables e below (T.setTop g) t := by
  obtain ⟨v, _, ⟨T1, L1, k1, n1⟩, -, X1, ⟨Lc, hQ, l1, y1, z1⟩, st⟩ := X.specialBack hx (y := y) hy1 hown (mvT hZ w1) (mvT hZ w2) (mvT hZ w4) hy hK hg hsize (Steps.refl _) (a := a) (argsL := as) (rest := rest) (lenOf hd hlen) hstack hW hdg (fun _ _ => ⟨rfl, eT, hc, hs⟩)
  dsimp only [Pt.U, Pt.locs, Pt.cells, Pt.slots] at X1 l1 y1 z1 st hQ
  subst l1 y1 z1
  exact ⟨v, T1, Lc, X1, hQ, fun t k => st.trans k⟩
theorem ownCallVB (X : Stand p l e R s m args below meth c T locs cells slots) (hx : p.tables.exec = Jvm.exec) (hZ : Z.Warmed39 s.vm) {own C : String} {index : Nat} (hown : s.vm.findClass own = some m.cls) {y z : MethodName} {a : Addr} {as : List Value} {Q : Option Value → Heap → List Loc → Prop}
    (w1 : (Cond.methodLink own index y).before a0 Z = true) (w2 : (Cond.declares y).before a0 Z = true) (hnf : NotFace s y) (w5 : (Cond.selects C y z).before a0 Z = true) (w6 : (Cond.instanceMethod z).before a0 Z = true) (hy : y.cls ≠ "java/lang/invoke/MethodHandle" ∧ y.cls ≠ "java/lang/invoke/VarHandle") {W cc ss : Nat}
    (hK : Back l R p e below s args z 3 W (fun P a' => a' = (.ref a :: as).toArray ∧ P.U.heap = h ∧ P.cells + cc ≤ R.cells ∧ P.slots + ss ≤ R.slots) (fun P _ v B => ∃ L, Q v B.U.heap L ∧ B.locs = P.locs ++ L ∧ B.cells = P.cells + cc ∧ B.slots = P.slots + ss)) (eT : T.heap = h) (E : Exa Z h a C) (hc : cells + cc ≤ R.cells) (hs : slots + ss ≤ R.slots)
    {g : JFrame} (hg : g.method = m) (hsize : g.locals.size = c.maxLocals) {rest : List Value} {ps : List FieldType} {r : Option FieldType} (hd : parseMethodDescriptor y.desc = some ⟨ps, r⟩) (hlen : as.length = ps.length) (hstack : g.stack = as.reverse ++ .ref a :: rest) (hW : 2 * g.monitorRoom + (rest.map fun v => v.category).sum ≤ W)
    (hdg : decode c.code g.pc = .ok (.invokevirtual index, 3)) :
    ∃ v T' L, Stand p l e R s m args below meth c T' (locs ++ L) (cells + cc) (slots + ss) ∧ Q v T'.heap L ∧ ∀ t, Steps p.tables e below (T'.setTop { g with pc := g.pc + 3, stack := v.toList ++ rest }) t → Steps p.tables e below (T.setTop g) t := by
  obtain ⟨cq, kq, qa, qb, qc⟩ := isOf hZ eT E
  obtain ⟨v, _, ⟨T1, L1, k1, n1⟩, -, X1, ⟨Lc, hQ, l1, y1, z1⟩, st⟩ := X.virtualBack hx (y := y) (z := z) hown (mvT hZ w1) (mvT hZ w2) hnf (mvT hZ w5) (mvT hZ w6) hy hK qa qc hg hsize (Steps.refl _) (argsL := as) (rest := rest) (lenOf hd hlen) hstack hW hdg (fun _ _ => ⟨rfl, eT, hc, hs⟩)
  dsimp only [Pt.U, Pt.locs, Pt.cells, Pt.slots] at X1 l1 y1 z1 st hQ
  subst l1 y1 z1
  exact ⟨v, T1, Lc, X1, hQ, fun t k => st.trans k⟩
theorem ownNarR {v : Value} {t : FieldType} (h : v.isRef = true) (ht : t.isReference = true) : narrow t v = v := by
  rcases ref_cases h with rfl | ⟨a, rfl⟩ <;> cases t <;> first | rfl | (simp [FieldType.isReference] at ht)
theorem ownFitR {v : Value} {t : FieldType} (h : v.isRef = true) (ht : t.isReference = true) : fits t v = true := by
  rcases ref_cases h with rfl | ⟨a, rfl⟩ <;> cases t <;> first | rfl | (simp [FieldType.isReference] at ht)
end OwnKitW
theorem wd_0 {Z : State} {a0 : Array Value} (hw : ∀ d ∈ tables_1, d.before a0 Z = true) : (Jvm.Cond.classLink "com/example/markup_reader/markupreader/reader/DtdEntitiesMustBeDeclaredPinLaw" (7 : Nat) "java/lang/String").before a0 Z = true := hw _ (List.mem_of_getElem? (i := 0) rfl)
theorem wd_1 {Z : State} {a0 : Array Value} (hw : ∀ d ∈ tables_1, d.before a0 Z = true) : (Jvm.Cond.instantiable "java/lang/String" (4 : Nat)).before a0 Z = true := hw _ (List.mem_of_getElem? (i := 1) rfl)
theorem wd_2 {Z : State} {a0 : Array Value} (hw : ∀ d ∈ tables_1, d.before a0 Z = true) : (Jvm.Cond.initialized "java/lang/String").before a0 Z = true := hw _ (List.mem_of_getElem? (i := 2) rfl)
theorem wd_3 {Z : State} {a0 : Array Value} (hw : ∀ d ∈ tables_1, d.before a0 Z = true) : (Jvm.Cond.arrayClass Jvm.ClassFile.FieldType.char).before a0 Z = true := hw _ (List.mem_of_getElem? (i := 3) rfl)
theorem wd_4 {Z : State} {a0 : Array Value} (hw : ∀ d ∈ tables_1, d.before a0 Z = true) : (Jvm.Cond.methodLink "com/example/markup_reader/markupreader/reader/DtdEntitiesMustBeDeclaredPinLaw" (9 : Nat) ({ cls := "java/lang/String", name := "<init>", desc := "([C)V" } : Jvm.MethodName)).before a0 Z = true := hw _ (List.mem_of_getElem? (i := 4) rfl)
theorem wd_5 {Z : State} {a0 : Array Value} (hw : ∀ d ∈ tables_1, d.before a0 Z = true) : (Jvm.Cond.instanceMethod ({ cls := "java/lang/String", name := "<init>", desc := "([C)V" } : Jvm.MethodName)).before a0 Z = true := hw _ (List.mem_of_getElem? (i := 5) rfl)
theorem wd_6 {Z : State} {a0 : Array Value} (hw : ∀ d ∈ tables_1, d.before a0 Z = true) : (Jvm.Cond.code ({ cls := "java/lang/String", name := "<init>", desc := "([C)V" } : Jvm.MethodName) jdk_42_method_3_code (2 : Nat) (Option.none : Option Jvm.ClassFile.FieldType)).before a0 Z = true := hw _ (List.mem_of_getElem? (i := 6) rfl)
theorem wd_12 {Z : State} {a0 : Array Value} (hw : ∀ d ∈ tables_1, d.before a0 Z = true) : (Jvm.Cond.instanceMethod ({ cls := "java/lang/Object", name := "<init>", desc := "()V" } : Jvm.MethodName)).before a0 Z = true := hw _ (List.mem_of_getElem? (i := 12) rfl)
theorem wd_13 {Z : State} {a0 : Array Value} (hw : ∀ d ∈ tables_1, d.before a0 Z = true) : (Jvm.Cond.code ({ cls := "java/lang/Object", name := "<init>", desc := "()V" } : Jvm.MethodName) object_method_1_code (1 : Nat) (Option.none : Option Jvm.ClassFile.FieldType)).before a0 Z = true := hw _ (List.mem_of_getElem? (i := 13) rfl)
theorem wd_27 {Z : State} {a0 : Array Value} (hw : ∀ d ∈ tables_1, d.before a0 Z = true) : (Jvm.Cond.laysFinal "java/lang/String" "java/lang/String" "coder" "B").before a0 Z = true := hw _ (List.mem_of_getElem? (i := 27) rfl)
theorem wd_29 {Z : State} {a0 : Array Value} (hw : ∀ d ∈ tables_1, d.before a0 Z = true) : (Jvm.Cond.laysFinal "java/lang/String" "java/lang/String" "value" "[B").before a0 Z = true := hw _ (List.mem_of_getElem? (i := 29) rfl)
theorem wd_30 {Z : State} {a0 : Array Value} (hw : ∀ d ∈ tables_1, d.before a0 Z = true) : (Jvm.Cond.classLink "com/example/markup_reader/markupreader/reader/DtdEntitiesMustBeDeclaredPinLaw" (17 : Nat) "com/example/markup_reader/markupreader/reader/Dtd").before a0 Z = true := hw _ (List.mem_of_getElem? (i := 30) rfl)
theorem wd_31 {Z : State} {a0 : Array Value} (hw : ∀ d ∈ tables_1, d.before a0 Z = true) : (Jvm.Cond.instantiable "com/example/markup_reader/markupreader/reader/Dtd" (15 : Nat)).before a0 Z = true := hw _ (List.mem_of_getElem? (i := 31) rfl)
theorem wd_32 {Z : State} {a0 : Array Value} (hw : ∀ d ∈ tables_1, d.before a0 Z = true) : (Jvm.Cond.initialized "com/example/markup_reader/markupreader/reader/Dtd").before a0 Z = true := hw _ (List.mem_of_getElem? (i := 32) rfl)
theorem wd_33 {Z : State} {a0 : Array Value} (hw : ∀ d ∈ tables_1, d.before a0 Z = true) : (Jvm.Cond.methodLink "com/example/markup_reader/markupreader/reader/DtdEntitiesMustBeDeclaredPinLaw" (19 : Nat) ({ cls := "com/example/markup_reader/markupreader/reader/Dtd", name := "<init>", desc := "(Z)V" } : Jvm.MethodName)).before a0 Z = true := hw _ (List.mem_of_getElem? (i := 33) rfl)
theorem wd_34 {Z : State} {a0 : Array Value} (hw : ∀ d ∈ tables_1, d.before a0 Z = true) : (Jvm.Cond.instanceMethod ({ cls := "com/example/markup_reader/markupreader/reader/Dtd", name := "<init>", desc := "(Z)V" } : Jvm.MethodName)).before a0 Z = true := hw _ (List.mem_of_getElem? (i := 34) rfl)
theorem wd_35 {Z : State} {a0 : Array Value} (hw : ∀ d ∈ tables_1, d.before a0 Z = true) : (Jvm.Cond.code ({ cls := "com/example/markup_reader/markupreader/reader/Dtd", name := "<init>", desc := "(Z)V" } : Jvm.MethodName) prog_77_method_1_code (2 : Nat) (Option.none : Option Jvm.ClassFile.FieldType)).before a0 Z = true := hw _ (List.mem_of_getElem? (i := 35) rfl)
theorem wd_36 {Z : State} {a0 : Array Value} (hw : ∀ d ∈ tables_1, d.before a0 Z = true) : (Jvm.Cond.methodLink "com/example/markup_reader/markupreader/reader/Dtd" (1 : Nat) ({ cls := "java/lang/Object", name := "<init>", desc := "()V" } : Jvm.MethodName)).before a0 Z = true := hw _ (List.mem_of_getElem? (i := 36) rfl)
theorem wd_37 {Z : State} {a0 : Array Value} (hw : ∀ d ∈ tables_1, d.before a0 Z = true) : (Jvm.Cond.classLink "com/example/markup_reader/markupreader/reader/Dtd" (7 : Nat) "com/example/markup_reader/markupreader/reader/Declarations").before a0 Z = true := hw _ (List.mem_of_getElem? (i := 37) rfl)
theorem wd_38 {Z : State} {a0 : Array Value} (hw : ∀ d ∈ tables_1, d.before a0 Z = true) : (Jvm.Cond.instantiable "com/example/markup_reader/markupreader/reader/Declarations" (6 : Nat)).before a0 Z = true := hw _ (List.mem_of_getElem? (i := 38) rfl)
theorem wd_39 {Z : State} {a0 : Array Value} (hw : ∀ d ∈ tables_1, d.before a0 Z = true) : (Jvm.Cond.initialized "com/example/markup_reader/markupreader/reader/Declarations").before a0 Z = true := hw _ (List.mem_of_getElem? (i := 39) rfl)
theorem wd_40 {Z : State} {a0 : Array Value} (hw : ∀ d ∈ tables_1, d.before a0 Z = true) : (Jvm.Cond.methodLink "com/example/markup_reader/markupreader/reader/Dtd" (9 : Nat) ({ cls := "com/example/markup_reader/markupreader/reader/Declarations", name := "<init>", desc := "()V" } : Jvm.MethodName)).before a0 Z = true := hw _ (List.mem_of_getElem? (i := 40) rfl)
theorem wd_41 {Z : State} {a0 : Array Value} (hw : ∀ d ∈ tables_1, d.before a0 Z = true) : (Jvm.Cond.instanceMethod ({ cls := "com/example/markup_reader/markupreader/reader/Declarations", name := "<init>", desc := "()V" } : Jvm.MethodName)).before a0 Z = true := hw _ (List.mem_of_getElem? (i := 41) rfl)
theorem wd_42 {Z : State} {a0 : Array Value} (hw : ∀ d ∈ tables_1, d.before a0 Z = true) : (Jvm.Cond.code ({ cls := "com/example/markup_reader/markupreader/reader/Declarations", name := "<init>", desc := "()V" } : Jvm.MethodName) prog_76_method_1_code (1 : Nat) (Option.none : Option Jvm.ClassFile.FieldType)).before a0 Z = true := hw _ (List.mem_of_getElem? (i := 42) rfl)
theorem wd_43 {Z : State} {a0 : Array Value} (hw : ∀ d ∈ tables_1, d.before a0 Z = true) : (Jvm.Cond.methodLink "com/example/markup_reader/markupreader/reader/Declarations" (1 : Nat) ({ cls := "java/lang/Object", name := "<init>", desc := "()V" } : Jvm.MethodName)).before a0 Z = true := hw _ (List.mem_of_getElem? (i := 43) rfl)
theorem wd_44 {Z : State} {a0 : Array Value} (hw : ∀ d ∈ tables_1, d.before a0 Z = true) : (Jvm.Cond.classLink "com/example/markup_reader/markupreader/reader/Declarations" (7 : Nat) "java/util/HashMap").before a0 Z = true := hw _ (List.mem_of_getElem? (i := 44) rfl)
theorem wd_45 {Z : State} {a0 : Array Value} (hw : ∀ d ∈ tables_1, d.before a0 Z = true) : (Jvm.Cond.instantiable "java/util/HashMap" (8 : Nat)).before a0 Z = true := hw _ (List.mem_of_getElem? (i := 45) rfl)
theorem wd_46 {Z : State} {a0 : Array Value} (hw : ∀ d ∈ tables_1, d.before a0 Z = true) : (Jvm.Cond.initialized "java/util/HashMap").before a0 Z = true := hw _ (List.mem_of_getElem? (i := 46) rfl)
theorem wd_47 {Z : State} {a0 : Array Value} (hw : ∀ d ∈ tables_1, d.before a0 Z = true) : (Jvm.Cond.methodLink "com/example/markup_reader/markupreader/reader/Declarations" (9 : Nat) ({ cls := "java/util/HashMap", name := "<init>", desc := "()V" } : Jvm.MethodName)).before a0 Z = true := hw _ (List.mem_of_getElem? (i := 47) rfl)
theorem wd_48 {Z : State} {a0 : Array Value} (hw : ∀ d ∈ tables_1, d.before a0 Z = true) : (Jvm.Cond.instanceMethod ({ cls := "java/util/HashMap", name := "<init>", desc := "()V" } : Jvm.MethodName)).before a0 Z = true := hw _ (List.mem_of_getElem? (i := 48) rfl)
theorem wd_49 {Z : State} {a0 : Array Value} (hw : ∀ d ∈ tables_1, d.before a0 Z = true) : (Jvm.Cond.code ({ cls := "java/util/HashMap", name := "<init>", desc := "()V" } : Jvm.MethodName) jdk_69_method_7_code (1 : Nat) (Option.none : Option Jvm.ClassFile.FieldType)).before a0 Z = true := hw _ (List.mem_of_getElem? (i := 49) rfl)
theorem wd_50 {Z : State} {a0 : Array Value} (hw : ∀ d ∈ tables_1, d.before a0 Z = true) : (Jvm.Cond.methodLink "java/util/HashMap" (43 : Nat) ({ cls := "java/util/AbstractMap", name := "<init>", desc := "()V" } : Jvm.MethodName)).before a0 Z = true := hw _ (List.mem_of_getElem? (i := 50) rfl)
theorem wd_51 {Z : State} {a0 : Array Value} (hw : ∀ d ∈ tables_1, d.before a0 Z = true) : (Jvm.Cond.instanceMethod ({ cls := "java/util/AbstractMap", name := "<init>", desc := "()V" } : Jvm.MethodName)).before a0 Z = true := hw _ (List.mem_of_getElem? (i := 51) rfl)
theorem wd_54 {Z : State} {a0 : Array Value} (hw : ∀ d ∈ tables_1, d.before a0 Z = true) : (Jvm.Cond.initialized "java/util/AbstractMap").before a0 Z = true := hw _ (List.mem_of_getElem? (i := 54) rfl)
theorem wd_55 {Z : State} {a0 : Array Value} (hw : ∀ d ∈ tables_1, d.before a0 Z = true) : (Jvm.Cond.code ({ cls := "java/util/AbstractMap", name := "<init>", desc := "()V" } : Jvm.MethodName) jdk_71_method_1_code (1 : Nat) (Option.none : Option Jvm.ClassFile.FieldType)).before a0 Z = true := hw _ (List.mem_of_getElem? (i := 55) rfl)
theorem wd_56 {Z : State} {a0 : Array Value} (hw : ∀ d ∈ tables_1, d.before a0 Z = true) : (Jvm.Cond.methodLink "java/util/AbstractMap" (1 : Nat) ({ cls := "java/lang/Object", name := "<init>", desc := "()V" } : Jvm.MethodName)).before a0 Z = true := hw _ (List.mem_of_getElem? (i := 56) rfl)
theorem wd_57 {Z : State} {a0 : Array Value} (hw : ∀ d ∈ tables_1, d.before a0 Z = true) : (Jvm.Cond.constantFloat "java/util/HashMap" (92 : Nat) (1061158912 : UInt32)).before a0 Z = true := hw _ (List.mem_of_getElem? (i := 57) rfl)
theorem wd_58 {Z : State} {a0 : Array Value} (hw : ∀ d ∈ tables_1, d.before a0 Z = true) : (Jvm.Cond.fieldLink "java/util/HashMap" (81 : Nat) "java/util/HashMap" "loadFactor" "F").before a0 Z = true := hw _ (List.mem_of_getElem? (i := 58) rfl)
theorem wd_59 {Z : State} {a0 : Array Value} (hw : ∀ d ∈ tables_1, d.before a0 Z = true) : (Jvm.Cond.laysFinal "java/util/HashMap" "java/util/HashMap" "loadFactor" "F").before a0 Z = true := hw _ (List.mem_of_getElem? (i := 59) rfl)
theorem wd_60 {Z : State} {a0 : Array Value} (hw : ∀ d ∈ tables_1, d.before a0 Z = true) : (Jvm.Cond.fieldLink "com/example/markup_reader/markupreader/reader/Declarations" (10 : Nat) "com/example/markup_reader/markupreader/reader/Declarations" "generalEntities" "Ljava/util/Map;").before a0 Z = true := hw _ (List.mem_of_getElem? (i := 60) rfl)
theorem wd_61 {Z : State} {a0 : Array Value} (hw : ∀ d ∈ tables_1, d.before a0 Z = true) : (Jvm.Cond.laysFinal "com/example/markup_reader/markupreader/reader/Declarations" "com/example/markup_reader/markupreader/reader/Declarations" "generalEntities" "Ljava/util/Map;").before a0 Z = true := hw _ (List.mem_of_getElem? (i := 61) rfl)
theorem wd_62 {Z : State} {a0 : Array Value} (hw : ∀ d ∈ tables_1, d.before a0 Z = true) : (Jvm.Cond.fieldLink "com/example/markup_reader/markupreader/reader/Declarations" (16 : Nat) "com/example/markup_reader/markupreader/reader/Declarations" "parameterEntities" "Ljava/util/Map;").before a0 Z = true := hw _ (List.mem_of_getElem? (i := 62) rfl)
theorem wd_63 {Z : State} {a0 : Array Value} (hw : ∀ d ∈ tables_1, d.before a0 Z = true) : (Jvm.Cond.laysFinal "com/example/markup_reader/markupreader/reader/Declarations" "com/example/markup_reader/markupreader/reader/Declarations" "parameterEntities" "Ljava/util/Map;").before a0 Z = true := hw _ (List.mem_of_getElem? (i := 63) rfl)
theorem wd_64 {Z : State} {a0 : Array Value} (hw : ∀ d ∈ tables_1, d.before a0 Z = true) : (Jvm.Cond.fieldLink "com/example/markup_reader/markupreader/reader/Declarations" (19 : Nat) "com/example/markup_reader/markupreader/reader/Declarations" "elementTypes" "Ljava/util/Map;").before a0 Z = true := hw _ (List.mem_of_getElem? (i := 64) rfl)
theorem wd_65 {Z : State} {a0 : Array Value} (hw : ∀ d ∈ tables_1, d.before a0 Z = true) : (Jvm.Cond.laysFinal "com/example/markup_reader/markupreader/reader/Declarations" "com/example/markup_reader/markupreader/reader/Declarations" "elementTypes" "Ljava/util/Map;").before a0 Z = true := hw _ (List.mem_of_getElem? (i := 65) rfl)
theorem wd_66 {Z : State} {a0 : Array Value} (hw : ∀ d ∈ tables_1, d.before a0 Z = true) : (Jvm.Cond.classLink "com/example/markup_reader/markupreader/reader/Declarations" (22 : Nat) "java/util/LinkedHashMap").before a0 Z = true := hw _ (List.mem_of_getElem? (i := 66) rfl)
theorem wd_67 {Z : State} {a0 : Array Value} (hw : ∀ d ∈ tables_1, d.before a0 Z = true) : (Jvm.Cond.instantiable "java/util/LinkedHashMap" (12 : Nat)).before a0 Z = true := hw _ (List.mem_of_getElem? (i := 67) rfl)
theorem wd_68 {Z : State} {a0 : Array Value} (hw : ∀ d ∈ tables_1, d.before a0 Z = true) : (Jvm.Cond.initialized "java/util/LinkedHashMap").before a0 Z = true := hw _ (List.mem_of_getElem? (i := 68) rfl)
theorem wd_69 {Z : State} {a0 : Array Value} (hw : ∀ d ∈ tables_1, d.before a0 Z = true) : (Jvm.Cond.methodLink "com/example/markup_reader/markupreader/reader/Declarations" (24 : Nat) ({ cls := "java/util/LinkedHashMap", name := "<init>", desc := "()V" } : Jvm.MethodName)).before a0 Z = true := hw _ (List.mem_of_getElem? (i := 69) rfl)
theorem wd_70 {Z : State} {a0 : Array Value} (hw : ∀ d ∈ tables_1, d.before a0 Z = true) : (Jvm.Cond.instanceMethod ({ cls := "java/util/LinkedHashMap", name := "<init>", desc := "()V" } : Jvm.MethodName)).before a0 Z = true := hw _ (List.mem_of_getElem? (i := 70) rfl)
theorem wd_71 {Z : State} {a0 : Array Value} (hw : ∀ d ∈ tables_1, d.before a0 Z = true) : (Jvm.Cond.code ({ cls := "java/util/LinkedHashMap", name := "<init>", desc := "()V" } : Jvm.MethodName) jdk_94_method_16_code (1 : Nat) (Option.none : Option Jvm.ClassFile.FieldType)).before a0 Z = true := hw _ (List.mem_of_getElem? (i := 71) rfl)
theorem wd_72 {Z : State} {a0 : Array Value} (hw : ∀ d ∈ tables_1, d.before a0 Z = true) : (Jvm.Cond.methodLink "java/util/LinkedHashMap" (87 : Nat) ({ cls := "java/util/HashMap", name := "<init>", desc := "()V" } : Jvm.MethodName)).before a0 Z = true := hw _ (List.mem_of_getElem? (i := 72) rfl)
theorem wd_76 {Z : State} {a0 : Array Value} (hw : ∀ d ∈ tables_1, d.before a0 Z = true) : (Jvm.Cond.laysFinal "java/util/LinkedHashMap" "java/util/HashMap" "loadFactor" "F").before a0 Z = true := hw _ (List.mem_of_getElem? (i := 76) rfl)
theorem wd_77 {Z : State} {a0 : Array Value} (hw : ∀ d ∈ tables_1, d.before a0 Z = true) : (Jvm.Cond.fieldLink "java/util/LinkedHashMap" (1 : Nat) "java/util/LinkedHashMap" "putMode" "I").before a0 Z = true := hw _ (List.mem_of_getElem? (i := 77) rfl)
theorem wd_78 {Z : State} {a0 : Array Value} (hw : ∀ d ∈ tables_1, d.before a0 Z = true) : (Jvm.Cond.lays "java/util/LinkedHashMap" "java/util/LinkedHashMap" "putMode" "I").before a0 Z = true := hw _ (List.mem_of_getElem? (i := 78) rfl)
theorem wd_79 {Z : State} {a0 : Array Value} (hw : ∀ d ∈ tables_1, d.before a0 Z = true) : (Jvm.Cond.fieldLink "java/util/LinkedHashMap" (64 : Nat) "java/util/LinkedHashMap" "accessOrder" "Z").before a0 Z = true := hw _ (List.mem_of_getElem? (i := 79) rfl)
theorem wd_80 {Z : State} {a0 : Array Value} (hw : ∀ d ∈ tables_1, d.before a0 Z = true) : (Jvm.Cond.laysFinal "java/util/LinkedHashMap" "java/util/LinkedHashMap" "accessOrder" "Z").before a0 Z = true := hw _ (List.mem_of_getElem? (i := 80) rfl)
theorem wd_81 {Z : State} {a0 : Array Value} (hw : ∀ d ∈ tables_1, d.before a0 Z = true) : (Jvm.Cond.fieldLink "com/example/markup_reader/markupreader/reader/Declarations" (25 : Nat) "com/example/markup_reader/markupreader/reader/Declarations" "notations" "Ljava/util/Map;").before a0 Z = true := hw _ (List.mem_of_getElem? (i := 81) rfl)
theorem wd_82 {Z : State} {a0 : Array Value} (hw : ∀ d ∈ tables_1, d.before a0 Z = true) : (Jvm.Cond.laysFinal "com/example/markup_reader/markupreader/reader/Declarations" "com/example/markup_reader/markupreader/reader/Declarations" "notations" "Ljava/util/Map;").before a0 Z = true := hw _ (List.mem_of_getElem? (i := 82) rfl)
theorem wd_83 {Z : State} {a0 : Array Value} (hw : ∀ d ∈ tables_1, d.before a0 Z = true) : (Jvm.Cond.classLink "com/example/markup_reader/markupreader/reader/Declarations" (28 : Nat) "java/util/ArrayList").before a0 Z = true := hw _ (List.mem_of_getElem? (i := 83) rfl)
theorem wd_84 {Z : State} {a0 : Array Value} (hw : ∀ d ∈ tables_1, d.before a0 Z = true) : (Jvm.Cond.instantiable "java/util/ArrayList" (3 : Nat)).before a0 Z = true := hw _ (List.mem_of_getElem? (i := 84) rfl)
theorem wd_85 {Z : State} {a0 : Array Value} (hw : ∀ d ∈ tables_1, d.before a0 Z = true) : (Jvm.Cond.initialized "java/util/ArrayList").before a0 Z = true := hw _ (List.mem_of_getElem? (i := 85) rfl)
theorem wd_86 {Z : State} {a0 : Array Value} (hw : ∀ d ∈ tables_1, d.before a0 Z = true) : (Jvm.Cond.methodLink "com/example/markup_reader/markupreader/reader/Declarations" (30 : Nat) ({ cls := "java/util/ArrayList", name := "<init>", desc := "()V" } : Jvm.MethodName)).before a0 Z = true := hw _ (List.mem_of_getElem? (i := 86) rfl)
theorem wd_87 {Z : State} {a0 : Array Value} (hw : ∀ d ∈ tables_1, d.before a0 Z = true) : (Jvm.Cond.instanceMethod ({ cls := "java/util/ArrayList", name := "<init>", desc := "()V" } : Jvm.MethodName)).before a0 Z = true := hw _ (List.mem_of_getElem? (i := 87) rfl)
theorem wd_88 {Z : State} {a0 : Array Value} (hw : ∀ d ∈ tables_1, d.before a0 Z = true) : (Jvm.Cond.code ({ cls := "java/util/ArrayList", name := "<init>", desc := "()V" } : Jvm.MethodName) jdk_38_method_2_code (1 : Nat) (Option.none : Option Jvm.ClassFile.FieldType)).before a0 Z = true := hw _ (List.mem_of_getElem? (i := 88) rfl)
theorem wd_89 {Z : State} {a0 : Array Value} (hw : ∀ d ∈ tables_1, d.before a0 Z = true) : (Jvm.Cond.methodLink "java/util/ArrayList" (1 : Nat) ({ cls := "java/util/AbstractList", name := "<init>", desc := "()V" } : Jvm.MethodName)).before a0 Z = true := hw _ (List.mem_of_getElem? (i := 89) rfl)
theorem wd_90 {Z : State} {a0 : Array Value} (hw : ∀ d ∈ tables_1, d.before a0 Z = true) : (Jvm.Cond.instanceMethod ({ cls := "java/util/AbstractList", name := "<init>", desc := "()V" } : Jvm.MethodName)).before a0 Z = true := hw _ (List.mem_of_getElem? (i := 90) rfl)
theorem wd_93 {Z : State} {a0 : Array Value} (hw : ∀ d ∈ tables_1, d.before a0 Z = true) : (Jvm.Cond.initialized "java/util/AbstractList").before a0 Z = true := hw _ (List.mem_of_getElem? (i := 93) rfl)
theorem wd_94 {Z : State} {a0 : Array Value} (hw : ∀ d ∈ tables_1, d.before a0 Z = true) : (Jvm.Cond.code ({ cls := "java/util/AbstractList", name := "<init>", desc := "()V" } : Jvm.MethodName) jdk_39_method_1_code (1 : Nat) (Option.none : Option Jvm.ClassFile.FieldType)).before a0 Z = true := hw _ (List.mem_of_getElem? (i := 94) rfl)
theorem wd_95 {Z : State} {a0 : Array Value} (hw : ∀ d ∈ tables_1, d.before a0 Z = true) : (Jvm.Cond.methodLink "java/util/AbstractList" (1 : Nat) ({ cls := "java/util/AbstractCollection", name := "<init>", desc := "()V" } : Jvm.MethodName)).before a0 Z = true := hw _ (List.mem_of_getElem? (i := 95) rfl)
theorem wd_96 {Z : State} {a0 : Array Value} (hw : ∀ d ∈ tables_1, d.before a0 Z = true) : (Jvm.Cond.instanceMethod ({ cls := "java/util/AbstractCollection", name := "<init>", desc := "()V" } : Jvm.MethodName)).before a0 Z = true := hw _ (List.mem_of_getElem? (i := 96) rfl)
theorem wd_99 {Z : State} {a0 : Array Value} (hw : ∀ d ∈ tables_1, d.before a0 Z = true) : (Jvm.Cond.initialized "java/util/AbstractCollection").before a0 Z = true := hw _ (List.mem_of_getElem? (i := 99) rfl)
theorem wd_100 {Z : State} {a0 : Array Value} (hw : ∀ d ∈ tables_1, d.before a0 Z = true) : (Jvm.Cond.code ({ cls := "java/util/AbstractCollection", name := "<init>", desc := "()V" } : Jvm.MethodName) jdk_22_method_1_code (1 : Nat) (Option.none : Option Jvm.ClassFile.FieldType)).before a0 Z = true := hw _ (List.mem_of_getElem? (i := 100) rfl)
theorem wd_101 {Z : State} {a0 : Array Value} (hw : ∀ d ∈ tables_1, d.before a0 Z = true) : (Jvm.Cond.methodLink "java/util/AbstractCollection" (1 : Nat) ({ cls := "java/lang/Object", name := "<init>", desc := "()V" } : Jvm.MethodName)).before a0 Z = true := hw _ (List.mem_of_getElem? (i := 101) rfl)
theorem wd_102 {Z : State} {a0 : Array Value} (hw : ∀ d ∈ tables_1, d.before a0 Z = true) : (Jvm.Cond.fieldLink "java/util/AbstractList" (7 : Nat) "java/util/AbstractList" "modCount" "I").before a0 Z = true := hw _ (List.mem_of_getElem? (i := 102) rfl)
theorem wd_103 {Z : State} {a0 : Array Value} (hw : ∀ d ∈ tables_1, d.before a0 Z = true) : (Jvm.Cond.lays "java/util/ArrayList" "java/util/AbstractList" "modCount" "I").before a0 Z = true := hw _ (List.mem_of_getElem? (i := 103) rfl)
theorem wd_104 {Z : State} {a0 : Array Value} (hw : ∀ d ∈ tables_1, d.before a0 Z = true) : (Jvm.Cond.fieldLink "java/util/ArrayList" (39 : Nat) "java/util/ArrayList" "DEFAULTCAPACITY_EMPTY_ELEMENTDATA" "[Ljava/lang/Object;").before a0 Z = true := hw _ (List.mem_of_getElem? (i := 104) rfl)
theorem wd_105 {Z : State} {a0 : Array Value} (hw : ∀ d ∈ tables_1, d.before a0 Z = true) : (Jvm.Cond.fieldLink "java/util/ArrayList" (9 : Nat) "java/util/ArrayList" "elementData" "[Ljava/lang/Object;").before a0 Z = true := hw _ (List.mem_of_getElem? (i := 105) rfl)
theorem wd_106 {Z : State} {a0 : Array Value} (hw : ∀ d ∈ tables_1, d.before a0 Z = true) : (Jvm.Cond.lays "java/util/ArrayList" "java/util/ArrayList" "elementData" "[Ljava/lang/Object;").before a0 Z = true := hw _ (List.mem_of_getElem? (i := 106) rfl)
theorem wd_107 {Z : State} {a0 : Array Value} (hw : ∀ d ∈ tables_1, d.before a0 Z = true) : (Jvm.Cond.fieldLink "com/example/markup_reader/markupreader/reader/Declarations" (31 : Nat) "com/example/markup_reader/markupreader/reader/Declarations" "unparsedEntities" "Ljava/util/List;").before a0 Z = true := hw _ (List.mem_of_getElem? (i := 107) rfl)
theorem wd_108 {Z : State} {a0 : Array Value} (hw : ∀ d ∈ tables_1, d.before a0 Z = true) : (Jvm.Cond.laysFinal "com/example/markup_reader/markupreader/reader/Declarations" "com/example/markup_reader/markupreader/reader/Declarations" "unparsedEntities" "Ljava/util/List;").before a0 Z = true := hw _ (List.mem_of_getElem? (i := 108) rfl)
theorem wd_109 {Z : State} {a0 : Array Value} (hw : ∀ d ∈ tables_1, d.before a0 Z = true) : (Jvm.Cond.fieldLink "com/example/markup_reader/markupreader/reader/Dtd" (10 : Nat) "com/example/markup_reader/markupreader/reader/Dtd" "internal" "Lcom/example/markup_reader/markupreader/reader/Declarations;").before a0 Z = true := hw _ (List.mem_of_getElem? (i := 109) rfl)
theorem wd_110 {Z : State} {a0 : Array Value} (hw : ∀ d ∈ tables_1, d.before a0 Z = true) : (Jvm.Cond.laysFinal "com/example/markup_reader/markupreader/reader/Dtd" "com/example/markup_reader/markupreader/reader/Dtd" "internal" "Lcom/example/markup_reader/markupreader/reader/Declarations;").before a0 Z = true := hw _ (List.mem_of_getElem? (i := 110) rfl)
theorem wd_111 {Z : State} {a0 : Array Value} (hw : ∀ d ∈ tables_1, d.before a0 Z = true) : (Jvm.Cond.fieldLink "com/example/markup_reader/markupreader/reader/Dtd" (16 : Nat) "com/example/markup_reader/markupreader/reader/Dtd" "declaring" "Lcom/example/markup_reader/markupreader/reader/Declarations;").before a0 Z = true := hw _ (List.mem_of_getElem? (i := 111) rfl)
theorem wd_112 {Z : State} {a0 : Array Value} (hw : ∀ d ∈ tables_1, d.before a0 Z = true) : (Jvm.Cond.lays "com/example/markup_reader/markupreader/reader/Dtd" "com/example/markup_reader/markupreader/reader/Dtd" "declaring" "Lcom/example/markup_reader/markupreader/reader/Declarations;").before a0 Z = true := hw _ (List.mem_of_getElem? (i := 112) rfl)
theorem wd_113 {Z : State} {a0 : Array Value} (hw : ∀ d ∈ tables_1, d.before a0 Z = true) : (Jvm.Cond.fieldLink "com/example/markup_reader/markupreader/reader/Dtd" (19 : Nat) "com/example/markup_reader/markupreader/reader/Declarations" "elementTypes" "Ljava/util/Map;").before a0 Z = true := hw _ (List.mem_of_getElem? (i := 113) rfl)
theorem wd_114 {Z : State} {a0 : Array Value} (hw : ∀ d ∈ tables_1, d.before a0 Z = true) : (Jvm.Cond.fieldLink "com/example/markup_reader/markupreader/reader/Dtd" (23 : Nat) "com/example/markup_reader/markupreader/reader/Dtd" "elementTypes" "Ljava/util/Map;").before a0 Z = true := hw _ (List.mem_of_getElem? (i := 114) rfl)
theorem wd_115 {Z : State} {a0 : Array Value} (hw : ∀ d ∈ tables_1, d.before a0 Z = true) : (Jvm.Cond.lays "com/example/markup_reader/markupreader/reader/Dtd" "com/example/markup_reader/markupreader/reader/Dtd" "elementTypes" "Ljava/util/Map;").before a0 Z = true := hw _ (List.mem_of_getElem? (i := 115) rfl)
theorem wd_116 {Z : State} {a0 : Array Value} (hw : ∀ d ∈ tables_1, d.before a0 Z = true) : (Jvm.Cond.constant "com/example/markup_reader/markupreader/reader/Dtd" (26 : Nat) (2147483647 : Int32)).before a0 Z = true := hw _ (List.mem_of_getElem? (i := 116) rfl)
theorem wd_117 {Z : State} {a0 : Array Value} (hw : ∀ d ∈ tables_1, d.before a0 Z = true) : (Jvm.Cond.fieldLink "com/example/markup_reader/markupreader/reader/Dtd" (27 : Nat) "com/example/markup_reader/markupreader/reader/Dtd" "externalNotations" "I").before a0 Z = true := hw _ (List.mem_of_getElem? (i := 117) rfl)
theorem wd_118 {Z : State} {a0 : Array Value} (hw : ∀ d ∈ tables_1, d.before a0 Z = true) : (Jvm.Cond.lays "com/example/markup_reader/markupreader/reader/Dtd" "com/example/markup_reader/markupreader/reader/Dtd" "externalNotations" "I").before a0 Z = true := hw _ (List.mem_of_getElem? (i := 118) rfl)
theorem wd_119 {Z : State} {a0 : Array Value} (hw : ∀ d ∈ tables_1, d.before a0 Z = true) : (Jvm.Cond.fieldLink "com/example/markup_reader/markupreader/reader/Dtd" (31 : Nat) "com/example/markup_reader/markupreader/reader/Dtd" "externalUnparsedEntities" "I").before a0 Z = true := hw _ (List.mem_of_getElem? (i := 119) rfl)
theorem wd_120 {Z : State} {a0 : Array Value} (hw : ∀ d ∈ tables_1, d.before a0 Z = true) : (Jvm.Cond.lays "com/example/markup_reader/markupreader/reader/Dtd" "com/example/markup_reader/markupreader/reader/Dtd" "externalUnparsedEntities" "I").before a0 Z = true := hw _ (List.mem_of_getElem? (i := 120) rfl)
theorem wd_121 {Z : State} {a0 : Array Value} (hw : ∀ d ∈ tables_1, d.before a0 Z = true) : (Jvm.Cond.stringLink "com/example/markup_reader/markupreader/reader/Dtd" (34 : Nat) "1.0").before a0 Z = true := hw _ (List.mem_of_getElem? (i := 121) rfl)
theorem wd_124 {Z : State} {a0 : Array Value} (hw : ∀ d ∈ tables_1, d.before a0 Z = true) : (Jvm.Cond.fieldLink "com/example/markup_reader/markupreader/reader/Dtd" (36 : Nat) "com/example/markup_reader/markupreader/reader/Dtd" "version" "Ljava/lang/String;").before a0 Z = true := hw _ (List.mem_of_getElem? (i := 124) rfl)
theorem wd_125 {Z : State} {a0 : Array Value} (hw : ∀ d ∈ tables_1, d.before a0 Z = true) : (Jvm.Cond.lays "com/example/markup_reader/markupreader/reader/Dtd" "com/example/markup_reader/markupreader/reader/Dtd" "version" "Ljava/lang/String;").before a0 Z = true := hw _ (List.mem_of_getElem? (i := 125) rfl)
theorem wd_126 {Z : State} {a0 : Array Value} (hw : ∀ d ∈ tables_1, d.before a0 Z = true) : (Jvm.Cond.fieldLink "com/example/markup_reader/markupreader/reader/Dtd" (40 : Nat) "com/example/markup_reader/markupreader/reader/Dtd" "used" "Z").before a0 Z = true := hw _ (List.mem_of_getElem? (i := 126) rfl)
theorem wd_127 {Z : State} {a0 : Array Value} (hw : ∀ d ∈ tables_1, d.before a0 Z = true) : (Jvm.Cond.laysFinal "com/example/markup_reader/markupreader/reader/Dtd" "com/example/markup_reader/markupreader/reader/Dtd" "used" "Z").before a0 Z = true := hw _ (List.mem_of_getElem? (i := 127) rfl)
theorem wd_128 {Z : State} {a0 : Array Value} (hw : ∀ d ∈ tables_1, d.before a0 Z = true) : (Jvm.Cond.fieldLink "com/example/markup_reader/markupreader/reader/Dtd" (44 : Nat) "com/example/markup_reader/markupreader/reader/Dtd" "skipping" "Z").before a0 Z = true := hw _ (List.mem_of_getElem? (i := 128) rfl)
theorem wd_129 {Z : State} {a0 : Array Value} (hw : ∀ d ∈ tables_1, d.before a0 Z = true) : (Jvm.Cond.lays "com/example/markup_reader/markupreader/reader/Dtd" "com/example/markup_reader/markupreader/reader/Dtd" "skipping" "Z").before a0 Z = true := hw _ (List.mem_of_getElem? (i := 129) rfl)
theorem wd_130 {Z : State} {a0 : Array Value} (hw : ∀ d ∈ tables_1, d.before a0 Z = true) : (Jvm.Cond.methodLink "com/example/markup_reader/markupreader/reader/DtdEntitiesMustBeDeclaredPinLaw" (22 : Nat) ({ cls := "com/example/markup_reader/markupreader/reader/Dtd", name := "entitiesMustBeDeclared", desc := "()Z" } : Jvm.MethodName)).before a0 Z = true := hw _ (List.mem_of_getElem? (i := 130) rfl)
theorem wd_131 {Z : State} {a0 : Array Value} (hw : ∀ d ∈ tables_1, d.before a0 Z = true) : (Jvm.Cond.declares ({ cls := "com/example/markup_reader/markupreader/reader/Dtd", name := "entitiesMustBeDeclared", desc := "()Z" } : Jvm.MethodName)).before a0 Z = true := hw _ (List.mem_of_getElem? (i := 131) rfl)
theorem wd_132 {Z : State} {a0 : Array Value} (hw : ∀ d ∈ tables_1, d.before a0 Z = true) : (Jvm.Cond.instanceMethod ({ cls := "com/example/markup_reader/markupreader/reader/Dtd", name := "entitiesMustBeDeclared", desc := "()Z" } : Jvm.MethodName)).before a0 Z = true := hw _ (List.mem_of_getElem? (i := 132) rfl)
theorem wd_133 {Z : State} {a0 : Array Value} (hw : ∀ d ∈ tables_1, d.before a0 Z = true) : (Jvm.Cond.selects "com/example/markup_reader/markupreader/reader/Dtd" ({ cls := "com/example/markup_reader/markupreader/reader/Dtd", name := "entitiesMustBeDeclared", desc := "()Z" } : Jvm.MethodName) ({ cls := "com/example/markup_reader/markupreader/reader/Dtd", name := "entitiesMustBeDeclared", desc := "()Z" } : Jvm.MethodName)).before a0 Z = true := hw _ (List.mem_of_getElem? (i := 133) rfl)
theorem wd_134 {Z : State} {a0 : Array Value} (hw : ∀ d ∈ tables_1, d.before a0 Z = true) : (Jvm.Cond.code ({ cls := "com/example/markup_reader/markupreader/reader/Dtd", name := "entitiesMustBeDeclared", desc := "()Z" } : Jvm.MethodName) prog_77_method_12_code (1 : Nat) (Option.some Jvm.ClassFile.FieldType.boolean)).before a0 Z = true := hw _ (List.mem_of_getElem? (i := 134) rfl)
theorem wd_135 {Z : State} {a0 : Array Value} (hw : ∀ d ∈ tables_1, d.before a0 Z = true) : (Jvm.Cond.fieldLink "com/example/markup_reader/markupreader/reader/Dtd" (71 : Nat) "com/example/markup_reader/markupreader/reader/Dtd" "standalone" "Z").before a0 Z = true := hw _ (List.mem_of_getElem? (i := 135) rfl)
theorem wd_136 {Z : State} {a0 : Array Value} (hw : ∀ d ∈ tables_1, d.before a0 Z = true) : (Jvm.Cond.lays "com/example/markup_reader/markupreader/reader/Dtd" "com/example/markup_reader/markupreader/reader/Dtd" "standalone" "Z").before a0 Z = true := hw _ (List.mem_of_getElem? (i := 136) rfl)
theorem wd_137 {Z : State} {a0 : Array Value} (hw : ∀ d ∈ tables_1, d.before a0 Z = true) : (Jvm.Cond.methodLink "com/example/markup_reader/markupreader/reader/DtdEntitiesMustBeDeclaredPinLaw" (39 : Nat) ({ cls := "com/example/markup_reader/markupreader/reader/DtdEntitiesMustBeDeclaredPinLaw", name := "expected", desc := "(ZZZZ)Z" } : Jvm.MethodName)).before a0 Z = true := hw _ (List.mem_of_getElem? (i := 137) rfl)
theorem wd_138 {Z : State} {a0 : Array Value} (hw : ∀ d ∈ tables_1, d.before a0 Z = true) : (Jvm.Cond.static ({ cls := "com/example/markup_reader/markupreader/reader/DtdEntitiesMustBeDeclaredPinLaw", name := "expected", desc := "(ZZZZ)Z" } : Jvm.MethodName)).before a0 Z = true := hw _ (List.mem_of_getElem? (i := 138) rfl)
theorem wd_139 {Z : State} {a0 : Array Value} (hw : ∀ d ∈ tables_1, d.before a0 Z = true) : (Jvm.Cond.initialized "com/example/markup_reader/markupreader/reader/DtdEntitiesMustBeDeclaredPinLaw").before a0 Z = true := hw _ (List.mem_of_getElem? (i := 139) rfl)
theorem wd_140 {Z : State} {a0 : Array Value} (hw : ∀ d ∈ tables_1, d.before a0 Z = true) : (Jvm.Cond.code ({ cls := "com/example/markup_reader/markupreader/reader/DtdEntitiesMustBeDeclaredPinLaw", name := "expected", desc := "(ZZZZ)Z" } : Jvm.MethodName) method_2_code (4 : Nat) (Option.some Jvm.ClassFile.FieldType.boolean)).before a0 Z = true := hw _ (List.mem_of_getElem? (i := 140) rfl)
theorem wd_141 {Z : State} {a0 : Array Value} (hw : ∀ d ∈ tables_1, d.before a0 Z = true) : (Jvm.Cond.fieldLink "com/example/markup_reader/markupreader/reader/Dtd" (50 : Nat) "com/example/markup_reader/markupreader/reader/Dtd" "externalSubset" "Lcom/example/markup_reader/markupreader/reader/Entity$ExternalId;").before a0 Z = true := hw _ (List.mem_of_getElem? (i := 141) rfl)
theorem wd_142 {Z : State} {a0 : Array Value} (hw : ∀ d ∈ tables_1, d.before a0 Z = true) : (Jvm.Cond.lays "com/example/markup_reader/markupreader/reader/Dtd" "com/example/markup_reader/markupreader/reader/Dtd" "externalSubset" "Lcom/example/markup_reader/markupreader/reader/Entity$ExternalId;").before a0 Z = true := hw _ (List.mem_of_getElem? (i := 142) rfl)
theorem wd_143 {Z : State} {a0 : Array Value} (hw : ∀ d ∈ tables_1, d.before a0 Z = true) : (Jvm.Cond.fieldLink "com/example/markup_reader/markupreader/reader/Dtd" (74 : Nat) "com/example/markup_reader/markupreader/reader/Dtd" "parameterReferences" "Z").before a0 Z = true := hw _ (List.mem_of_getElem? (i := 143) rfl)
theorem wd_144 {Z : State} {a0 : Array Value} (hw : ∀ d ∈ tables_1, d.before a0 Z = true) : (Jvm.Cond.lays "com/example/markup_reader/markupreader/reader/Dtd" "com/example/markup_reader/markupreader/reader/Dtd" "parameterReferences" "Z").before a0 Z = true := hw _ (List.mem_of_getElem? (i := 144) rfl)
theorem wd_145 {Z : State} {a0 : Array Value} (hw : ∀ d ∈ tables_1, d.before a0 Z = true) : (Jvm.Cond.methodLink "com/example/markup_reader/markupreader/reader/DtdEntitiesMustBeDeclaredPinLaw" (30 : Nat) ({ cls := "com/example/markup_reader/markupreader/reader/Dtd", name := "parameterReferenced", desc := "()V" } : Jvm.MethodName)).before a0 Z = true := hw _ (List.mem_of_getElem? (i := 145) rfl)
theorem wd_146 {Z : State} {a0 : Array Value} (hw : ∀ d ∈ tables_1, d.before a0 Z = true) : (Jvm.Cond.declares ({ cls := "com/example/markup_reader/markupreader/reader/Dtd", name := "parameterReferenced", desc := "()V" } : Jvm.MethodName)).before a0 Z = true := hw _ (List.mem_of_getElem? (i := 146) rfl)
theorem wd_147 {Z : State} {a0 : Array Value} (hw : ∀ d ∈ tables_1, d.before a0 Z = true) : (Jvm.Cond.instanceMethod ({ cls := "com/example/markup_reader/markupreader/reader/Dtd", name := "parameterReferenced", desc := "()V" } : Jvm.MethodName)).before a0 Z = true := hw _ (List.mem_of_getElem? (i := 147) rfl)
theorem wd_148 {Z : State} {a0 : Array Value} (hw : ∀ d ∈ tables_1, d.before a0 Z = true) : (Jvm.Cond.selects "com/example/markup_reader/markupreader/reader/Dtd" ({ cls := "com/example/markup_reader/markupreader/reader/Dtd", name := "parameterReferenced", desc := "()V" } : Jvm.MethodName) ({ cls := "com/example/markup_reader/markupreader/reader/Dtd", name := "parameterReferenced", desc := "()V" } : Jvm.MethodName)).before a0 Z = true := hw _ (List.mem_of_getElem? (i := 148) rfl)
theorem wd_149 {Z : State} {a0 : Array Value} (hw : ∀ d ∈ tables_1, d.before a0 Z = true) : (Jvm.Cond.code ({ cls := "com/example/markup_reader/markupreader/reader/Dtd", name := "parameterReferenced", desc := "()V" } : Jvm.MethodName) prog_77_method_10_code (1 : Nat) (Option.none : Option Jvm.ClassFile.FieldType)).before a0 Z = true := hw _ (List.mem_of_getElem? (i := 149) rfl)
theorem wd_150 {Z : State} {a0 : Array Value} (hw : ∀ d ∈ tables_1, d.before a0 Z = true) : (Jvm.Cond.methodLink "com/example/markup_reader/markupreader/reader/DtdEntitiesMustBeDeclaredPinLaw" (26 : Nat) ({ cls := "com/example/markup_reader/markupreader/reader/Dtd", name := "start", desc := "(Ljava/lang/String;Lcom/example/markup_reader/markupreader/reader/Entity$ExternalId;)V" } : Jvm.MethodName)).before a0 Z = true := hw _ (List.mem_of_getElem? (i := 150) rfl)
theorem wd_151 {Z : State} {a0 : Array Value} (hw : ∀ d ∈ tables_1, d.before a0 Z = true) : (Jvm.Cond.declares ({ cls := "com/example/markup_reader/markupreader/reader/Dtd", name := "start", desc := "(Ljava/lang/String;Lcom/example/markup_reader/markupreader/reader/Entity$ExternalId;)V" } : Jvm.MethodName)).before a0 Z = true := hw _ (List.mem_of_getElem? (i := 151) rfl)
theorem wd_152 {Z : State} {a0 : Array Value} (hw : ∀ d ∈ tables_1, d.before a0 Z = true) : (Jvm.Cond.instanceMethod ({ cls := "com/example/markup_reader/markupreader/reader/Dtd", name := "start", desc := "(Ljava/lang/String;Lcom/example/markup_reader/markupreader/reader/Entity$ExternalId;)V" } : Jvm.MethodName)).before a0 Z = true := hw _ (List.mem_of_getElem? (i := 152) rfl)
theorem wd_153 {Z : State} {a0 : Array Value} (hw : ∀ d ∈ tables_1, d.before a0 Z = true) : (Jvm.Cond.selects "com/example/markup_reader/markupreader/reader/Dtd" ({ cls := "com/example/markup_reader/markupreader/reader/Dtd", name := "start", desc := "(Ljava/lang/String;Lcom/example/markup_reader/markupreader/reader/Entity$ExternalId;)V" } : Jvm.MethodName) ({ cls := "com/example/markup_reader/markupreader/reader/Dtd", name := "start", desc := "(Ljava/lang/String;Lcom/example/markup_reader/markupreader/reader/Entity$ExternalId;)V" } : Jvm.MethodName)).before a0 Z = true := hw _ (List.mem_of_getElem? (i := 153) rfl)
theorem wd_154 {Z : State} {a0 : Array Value} (hw : ∀ d ∈ tables_1, d.before a0 Z = true) : (Jvm.Cond.code ({ cls := "com/example/markup_reader/markupreader/reader/Dtd", name := "start", desc := "(Ljava/lang/String;Lcom/example/markup_reader/markupreader/reader/Entity$ExternalId;)V" } : Jvm.MethodName) prog_77_method_3_code (3 : Nat) (Option.none : Option Jvm.ClassFile.FieldType)).before a0 Z = true := hw _ (List.mem_of_getElem? (i := 154) rfl)
theorem wd_155 {Z : State} {a0 : Array Value} (hw : ∀ d ∈ tables_1, d.before a0 Z = true) : (Jvm.Cond.fieldLink "com/example/markup_reader/markupreader/reader/Dtd" (47 : Nat) "com/example/markup_reader/markupreader/reader/Dtd" "rootName" "Ljava/lang/String;").before a0 Z = true := hw _ (List.mem_of_getElem? (i := 155) rfl)
theorem wd_156 {Z : State} {a0 : Array Value} (hw : ∀ d ∈ tables_1, d.before a0 Z = true) : (Jvm.Cond.lays "com/example/markup_reader/markupreader/reader/Dtd" "com/example/markup_reader/markupreader/reader/Dtd" "rootName" "Ljava/lang/String;").before a0 Z = true := hw _ (List.mem_of_getElem? (i := 156) rfl)
theorem wd_157 {Z : State} {a0 : Array Value} (hw : ∀ d ∈ tables_1, d.before a0 Z = true) : (Jvm.Cond.methodLink "com/example/markup_reader/markupreader/reader/Dtd" (54 : Nat) ({ cls := "com/example/markup_reader/markupreader/reader/KeptSize", name := "doctype", desc := "(Ljava/lang/String;Lcom/example/markup_reader/markupreader/reader/Entity$ExternalId;)J" } : Jvm.MethodName)).before a0 Z = true := hw _ (List.mem_of_getElem? (i := 157) rfl)
theorem wd_158 {Z : State} {a0 : Array Value} (hw : ∀ d ∈ tables_1, d.before a0 Z = true) : (Jvm.Cond.static ({ cls := "com/example/markup_reader/markupreader/reader/KeptSize", name := "doctype", desc := "(Ljava/lang/String;Lcom/example/markup_reader/markupreader/reader/Entity$ExternalId;)J" } : Jvm.MethodName)).before a0 Z = true := hw _ (List.mem_of_getElem? (i := 158) rfl)
theorem wd_159 {Z : State} {a0 : Array Value} (hw : ∀ d ∈ tables_1, d.before a0 Z = true) : (Jvm.Cond.initialized "com/example/markup_reader/markupreader/reader/KeptSize").before a0 Z = true := hw _ (List.mem_of_getElem? (i := 159) rfl)
theorem wd_160 {Z : State} {a0 : Array Value} (hw : ∀ d ∈ tables_1, d.before a0 Z = true) : (Jvm.Cond.code ({ cls := "com/example/markup_reader/markupreader/reader/KeptSize", name := "doctype", desc := "(Ljava/lang/String;Lcom/example/markup_reader/markupreader/reader/Entity$ExternalId;)J" } : Jvm.MethodName) prog_94_method_2_code (4 : Nat) (Option.some Jvm.ClassFile.FieldType.long)).before a0 Z = true := hw _ (List.mem_of_getElem? (i := 160) rfl)
theorem wd_161 {Z : State} {a0 : Array Value} (hw : ∀ d ∈ tables_1, d.before a0 Z = true) : (Jvm.Cond.constantLong "com/example/markup_reader/markupreader/reader/KeptSize" (9 : Nat) (64 : Int64)).before a0 Z = true := hw _ (List.mem_of_getElem? (i := 161) rfl)
theorem wd_162 {Z : State} {a0 : Array Value} (hw : ∀ d ∈ tables_1, d.before a0 Z = true) : (Jvm.Cond.methodLink "com/example/markup_reader/markupreader/reader/KeptSize" (11 : Nat) ({ cls := "java/lang/String", name := "length", desc := "()I" } : Jvm.MethodName)).before a0 Z = true := hw _ (List.mem_of_getElem? (i := 162) rfl)
theorem wd_163 {Z : State} {a0 : Array Value} (hw : ∀ d ∈ tables_1, d.before a0 Z = true) : (Jvm.Cond.declares ({ cls := "java/lang/String", name := "length", desc := "()I" } : Jvm.MethodName)).before a0 Z = true := hw _ (List.mem_of_getElem? (i := 163) rfl)
theorem wd_164 {Z : State} {a0 : Array Value} (hw : ∀ d ∈ tables_1, d.before a0 Z = true) : (Jvm.Cond.instanceMethod ({ cls := "java/lang/String", name := "length", desc := "()I" } : Jvm.MethodName)).before a0 Z = true := hw _ (List.mem_of_getElem? (i := 164) rfl)
theorem wd_165 {Z : State} {a0 : Array Value} (hw : ∀ d ∈ tables_1, d.before a0 Z = true) : (Jvm.Cond.selects "java/lang/String" ({ cls := "java/lang/String", name := "length", desc := "()I" } : Jvm.MethodName) ({ cls := "java/lang/String", name := "length", desc := "()I" } : Jvm.MethodName)).before a0 Z = true := hw _ (List.mem_of_getElem? (i := 165) rfl)
theorem wd_166 {Z : State} {a0 : Array Value} (hw : ∀ d ∈ tables_1, d.before a0 Z = true) : (Jvm.Cond.code ({ cls := "java/lang/String", name := "length", desc := "()I" } : Jvm.MethodName) jdk_42_method_54_code (1 : Nat) (Option.some Jvm.ClassFile.FieldType.int)).before a0 Z = true := hw _ (List.mem_of_getElem? (i := 166) rfl)
theorem wd_172 {Z : State} {a0 : Array Value} (hw : ∀ d ∈ tables_1, d.before a0 Z = true) : (Jvm.Cond.fieldLink "com/example/markup_reader/markupreader/reader/Dtd" (60 : Nat) "com/example/markup_reader/markupreader/reader/Dtd" "doctypeSize" "J").before a0 Z = true := hw _ (List.mem_of_getElem? (i := 172) rfl)
theorem wd_173 {Z : State} {a0 : Array Value} (hw : ∀ d ∈ tables_1, d.before a0 Z = true) : (Jvm.Cond.lays "com/example/markup_reader/markupreader/reader/Dtd" "com/example/markup_reader/markupreader/reader/Dtd" "doctypeSize" "J").before a0 Z = true := hw _ (List.mem_of_getElem? (i := 173) rfl)
theorem wd_174 {Z : State} {a0 : Array Value} (hw : ∀ d ∈ tables_1, d.before a0 Z = true) : (Jvm.Cond.methodLink "com/example/markup_reader/markupreader/reader/DtdEntitiesMustBeDeclaredPinLaw" (36 : Nat) ({ cls := "com/example/markup_reader/markupreader/reader/Dtd", name := "declareStandalone", desc := "()V" } : Jvm.MethodName)).before a0 Z = true := hw _ (List.mem_of_getElem? (i := 174) rfl)
theorem wd_175 {Z : State} {a0 : Array Value} (hw : ∀ d ∈ tables_1, d.before a0 Z = true) : (Jvm.Cond.declares ({ cls := "com/example/markup_reader/markupreader/reader/Dtd", name := "declareStandalone", desc := "()V" } : Jvm.MethodName)).before a0 Z = true := hw _ (List.mem_of_getElem? (i := 175) rfl)
theorem wd_176 {Z : State} {a0 : Array Value} (hw : ∀ d ∈ tables_1, d.before a0 Z = true) : (Jvm.Cond.instanceMethod ({ cls := "com/example/markup_reader/markupreader/reader/Dtd", name := "declareStandalone", desc := "()V" } : Jvm.MethodName)).before a0 Z = true := hw _ (List.mem_of_getElem? (i := 176) rfl)
theorem wd_177 {Z : State} {a0 : Array Value} (hw : ∀ d ∈ tables_1, d.before a0 Z = true) : (Jvm.Cond.selects "com/example/markup_reader/markupreader/reader/Dtd" ({ cls := "com/example/markup_reader/markupreader/reader/Dtd", name := "declareStandalone", desc := "()V" } : Jvm.MethodName) ({ cls := "com/example/markup_reader/markupreader/reader/Dtd", name := "declareStandalone", desc := "()V" } : Jvm.MethodName)).before a0 Z = true := hw _ (List.mem_of_getElem? (i := 177) rfl)
theorem wd_178 {Z : State} {a0 : Array Value} (hw : ∀ d ∈ tables_1, d.before a0 Z = true) : (Jvm.Cond.code ({ cls := "com/example/markup_reader/markupreader/reader/Dtd", name := "declareStandalone", desc := "()V" } : Jvm.MethodName) prog_77_method_8_code (1 : Nat) (Option.none : Option Jvm.ClassFile.FieldType)).before a0 Z = true := hw _ (List.mem_of_getElem? (i := 178) rfl)
theorem wd_179 {Z : State} {a0 : Array Value} (hw : ∀ d ∈ tables_1, d.before a0 Z = true) : (Jvm.Cond.classLink "com/example/markup_reader/markupreader/reader/DtdEntitiesMustBeDeclaredPinLaw" (12 : Nat) "com/example/markup_reader/markupreader/reader/Entity$ExternalId").before a0 Z = true := hw _ (List.mem_of_getElem? (i := 179) rfl)
theorem wd_180 {Z : State} {a0 : Array Value} (hw : ∀ d ∈ tables_1, d.before a0 Z = true) : (Jvm.Cond.instantiable "com/example/markup_reader/markupreader/reader/Entity$ExternalId" (2 : Nat)).before a0 Z = true := hw _ (List.mem_of_getElem? (i := 180) rfl)
theorem wd_181 {Z : State} {a0 : Array Value} (hw : ∀ d ∈ tables_1, d.before a0 Z = true) : (Jvm.Cond.initialized "com/example/markup_reader/markupreader/reader/Entity$ExternalId").before a0 Z = true := hw _ (List.mem_of_getElem? (i := 181) rfl)
theorem wd_182 {Z : State} {a0 : Array Value} (hw : ∀ d ∈ tables_1, d.before a0 Z = true) : (Jvm.Cond.methodLink "com/example/markup_reader/markupreader/reader/DtdEntitiesMustBeDeclaredPinLaw" (14 : Nat) ({ cls := "com/example/markup_reader/markupreader/reader/Entity$ExternalId", name := "<init>", desc := "(Ljava/lang/String;Ljava/lang/String;)V" } : Jvm.MethodName)).before a0 Z = true := hw _ (List.mem_of_getElem? (i := 182) rfl)
theorem wd_183 {Z : State} {a0 : Array Value} (hw : ∀ d ∈ tables_1, d.before a0 Z = true) : (Jvm.Cond.instanceMethod ({ cls := "com/example/markup_reader/markupreader/reader/Entity$ExternalId", name := "<init>", desc := "(Ljava/lang/String;Ljava/lang/String;)V" } : Jvm.MethodName)).before a0 Z = true := hw _ (List.mem_of_getElem? (i := 183) rfl)
theorem wd_184 {Z : State} {a0 : Array Value} (hw : ∀ d ∈ tables_1, d.before a0 Z = true) : (Jvm.Cond.code ({ cls := "com/example/markup_reader/markupreader/reader/Entity$ExternalId", name := "<init>", desc := "(Ljava/lang/String;Ljava/lang/String;)V" } : Jvm.MethodName) prog_89_method_1_code (3 : Nat) (Option.none : Option Jvm.ClassFile.FieldType)).before a0 Z = true := hw _ (List.mem_of_getElem? (i := 184) rfl)
theorem wd_185 {Z : State} {a0 : Array Value} (hw : ∀ d ∈ tables_1, d.before a0 Z = true) : (Jvm.Cond.methodLink "com/example/markup_reader/markupreader/reader/Entity$ExternalId" (1 : Nat) ({ cls := "java/lang/Record", name := "<init>", desc := "()V" } : Jvm.MethodName)).before a0 Z = true := hw _ (List.mem_of_getElem? (i := 185) rfl)
theorem wd_186 {Z : State} {a0 : Array Value} (hw : ∀ d ∈ tables_1, d.before a0 Z = true) : (Jvm.Cond.instanceMethod ({ cls := "java/lang/Record", name := "<init>", desc := "()V" } : Jvm.MethodName)).before a0 Z = true := hw _ (List.mem_of_getElem? (i := 186) rfl)
theorem wd_188 {Z : State} {a0 : Array Value} (hw : ∀ d ∈ tables_1, d.before a0 Z = true) : (Jvm.Cond.initialized "java/lang/Record").before a0 Z = true := hw _ (List.mem_of_getElem? (i := 188) rfl)
theorem wd_189 {Z : State} {a0 : Array Value} (hw : ∀ d ∈ tables_1, d.before a0 Z = true) : (Jvm.Cond.code ({ cls := "java/lang/Record", name := "<init>", desc := "()V" } : Jvm.MethodName) jdk_30_method_1_code (1 : Nat) (Option.none : Option Jvm.ClassFile.FieldType)).before a0 Z = true := hw _ (List.mem_of_getElem? (i := 189) rfl)
theorem wd_190 {Z : State} {a0 : Array Value} (hw : ∀ d ∈ tables_1, d.before a0 Z = true) : (Jvm.Cond.methodLink "java/lang/Record" (1 : Nat) ({ cls := "java/lang/Object", name := "<init>", desc := "()V" } : Jvm.MethodName)).before a0 Z = true := hw _ (List.mem_of_getElem? (i := 190) rfl)
theorem wd_191 {Z : State} {a0 : Array Value} (hw : ∀ d ∈ tables_1, d.before a0 Z = true) : (Jvm.Cond.fieldLink "com/example/markup_reader/markupreader/reader/Entity$ExternalId" (7 : Nat) "com/example/markup_reader/markupreader/reader/Entity$ExternalId" "publicId" "Ljava/lang/String;").before a0 Z = true := hw _ (List.mem_of_getElem? (i := 191) rfl)
theorem wd_192 {Z : State} {a0 : Array Value} (hw : ∀ d ∈ tables_1, d.before a0 Z = true) : (Jvm.Cond.laysFinal "com/example/markup_reader/markupreader/reader/Entity$ExternalId" "com/example/markup_reader/markupreader/reader/Entity$ExternalId" "publicId" "Ljava/lang/String;").before a0 Z = true := hw _ (List.mem_of_getElem? (i := 192) rfl)
theorem wd_193 {Z : State} {a0 : Array Value} (hw : ∀ d ∈ tables_1, d.before a0 Z = true) : (Jvm.Cond.fieldLink "com/example/markup_reader/markupreader/reader/Entity$ExternalId" (13 : Nat) "com/example/markup_reader/markupreader/reader/Entity$ExternalId" "systemId" "Ljava/lang/String;").before a0 Z = true := hw _ (List.mem_of_getElem? (i := 193) rfl)
theorem wd_194 {Z : State} {a0 : Array Value} (hw : ∀ d ∈ tables_1, d.before a0 Z = true) : (Jvm.Cond.laysFinal "com/example/markup_reader/markupreader/reader/Entity$ExternalId" "com/example/markup_reader/markupreader/reader/Entity$ExternalId" "systemId" "Ljava/lang/String;").before a0 Z = true := hw _ (List.mem_of_getElem? (i := 194) rfl)
theorem wd_195 {Z : State} {a0 : Array Value} (hw : ∀ d ∈ tables_1, d.before a0 Z = true) : (Jvm.Cond.methodLink "com/example/markup_reader/markupreader/reader/DtdEntitiesMustBeDeclaredPinLaw" (33 : Nat) ({ cls := "com/example/markup_reader/markupreader/reader/Dtd", name := "parameterEntityNotRead", desc := "()V" } : Jvm.MethodName)).before a0 Z = true := hw _ (List.mem_of_getElem? (i := 195) rfl)
theorem wd_196 {Z : State} {a0 : Array Value} (hw : ∀ d ∈ tables_1, d.before a0 Z = true) : (Jvm.Cond.declares ({ cls := "com/example/markup_reader/markupreader/reader/Dtd", name := "parameterEntityNotRead", desc := "()V" } : Jvm.MethodName)).before a0 Z = true := hw _ (List.mem_of_getElem? (i := 196) rfl)
theorem wd_197 {Z : State} {a0 : Array Value} (hw : ∀ d ∈ tables_1, d.before a0 Z = true) : (Jvm.Cond.instanceMethod ({ cls := "com/example/markup_reader/markupreader/reader/Dtd", name := "parameterEntityNotRead", desc := "()V" } : Jvm.MethodName)).before a0 Z = true := hw _ (List.mem_of_getElem? (i := 197) rfl)
theorem wd_198 {Z : State} {a0 : Array Value} (hw : ∀ d ∈ tables_1, d.before a0 Z = true) : (Jvm.Cond.selects "com/example/markup_reader/markupreader/reader/Dtd" ({ cls := "com/example/markup_reader/markupreader/reader/Dtd", name := "parameterEntityNotRead", desc := "()V" } : Jvm.MethodName) ({ cls := "com/example/markup_reader/markupreader/reader/Dtd", name := "parameterEntityNotRead", desc := "()V" } : Jvm.MethodName)).before a0 Z = true := hw _ (List.mem_of_getElem? (i := 198) rfl)
theorem wd_199 {Z : State} {a0 : Array Value} (hw : ∀ d ∈ tables_1, d.before a0 Z = true) : (Jvm.Cond.code ({ cls := "com/example/markup_reader/markupreader/reader/Dtd", name := "parameterEntityNotRead", desc := "()V" } : Jvm.MethodName) prog_77_method_11_code (1 : Nat) (Option.none : Option Jvm.ClassFile.FieldType)).before a0 Z = true := hw _ (List.mem_of_getElem? (i := 199) rfl)
theorem wd_200 {Z : State} {a0 : Array Value} (hw : ∀ d ∈ tables_1, d.before a0 Z = true) : (Jvm.Cond.methodLink "com/example/markup_reader/markupreader/reader/KeptSize" (17 : Nat) ({ cls := "com/example/markup_reader/markupreader/reader/Entity$ExternalId", name := "publicId", desc := "()Ljava/lang/String;" } : Jvm.MethodName)).before a0 Z = true := hw _ (List.mem_of_getElem? (i := 200) rfl)
theorem wd_201 {Z : State} {a0 : Array Value} (hw : ∀ d ∈ tables_1, d.before a0 Z = true) : (Jvm.Cond.declares ({ cls := "com/example/markup_reader/markupreader/reader/Entity$ExternalId", name := "publicId", desc := "()Ljava/lang/String;" } : Jvm.MethodName)).before a0 Z = true := hw _ (List.mem_of_getElem? (i := 201) rfl)
theorem wd_202 {Z : State} {a0 : Array Value} (hw : ∀ d ∈ tables_1, d.before a0 Z = true) : (Jvm.Cond.instanceMethod ({ cls := "com/example/markup_reader/markupreader/reader/Entity$ExternalId", name := "publicId", desc := "()Ljava/lang/String;" } : Jvm.MethodName)).before a0 Z = true := hw _ (List.mem_of_getElem? (i := 202) rfl)
theorem wd_203 {Z : State} {a0 : Array Value} (hw : ∀ d ∈ tables_1, d.before a0 Z = true) : (Jvm.Cond.selects "com/example/markup_reader/markupreader/reader/Entity$ExternalId" ({ cls := "com/example/markup_reader/markupreader/reader/Entity$ExternalId", name := "publicId", desc := "()Ljava/lang/String;" } : Jvm.MethodName) ({ cls := "com/example/markup_reader/markupreader/reader/Entity$ExternalId", name := "publicId", desc := "()Ljava/lang/String;" } : Jvm.MethodName)).before a0 Z = true := hw _ (List.mem_of_getElem? (i := 203) rfl)
theorem wd_204 {Z : State} {a0 : Array Value} (hw : ∀ d ∈ tables_1, d.before a0 Z = true) : (Jvm.Cond.code ({ cls := "com/example/markup_reader/markupreader/reader/Entity$ExternalId", name := "publicId", desc := "()Ljava/lang/String;" } : Jvm.MethodName) prog_89_method_5_code (1 : Nat) (Option.some (Jvm.ClassFile.FieldType.object "java/lang/String"))).before a0 Z = true := hw _ (List.mem_of_getElem? (i := 204) rfl)
theorem wd_205 {Z : State} {a0 : Array Value} (hw : ∀ d ∈ tables_1, d.before a0 Z = true) : (Jvm.Cond.methodLink "com/example/markup_reader/markupreader/reader/KeptSize" (23 : Nat) ({ cls := "com/example/markup_reader/markupreader/reader/KeptSize", name := "length", desc := "(Ljava/lang/String;)J" } : Jvm.MethodName)).before a0 Z = true := hw _ (List.mem_of_getElem? (i := 205) rfl)
theorem wd_206 {Z : State} {a0 : Array Value} (hw : ∀ d ∈ tables_1, d.before a0 Z = true) : (Jvm.Cond.static ({ cls := "com/example/markup_reader/markupreader/reader/KeptSize", name := "length", desc := "(Ljava/lang/String;)J" } : Jvm.MethodName)).before a0 Z = true := hw _ (List.mem_of_getElem? (i := 206) rfl)
theorem wd_207 {Z : State} {a0 : Array Value} (hw : ∀ d ∈ tables_1, d.before a0 Z = true) : (Jvm.Cond.code ({ cls := "com/example/markup_reader/markupreader/reader/KeptSize", name := "length", desc := "(Ljava/lang/String;)J" } : Jvm.MethodName) prog_94_method_11_code (1 : Nat) (Option.some Jvm.ClassFile.FieldType.long)).before a0 Z = true := hw _ (List.mem_of_getElem? (i := 207) rfl)
theorem wd_208 {Z : State} {a0 : Array Value} (hw : ∀ d ∈ tables_1, d.before a0 Z = true) : (Jvm.Cond.methodLink "com/example/markup_reader/markupreader/reader/KeptSize" (26 : Nat) ({ cls := "com/example/markup_reader/markupreader/reader/Entity$ExternalId", name := "systemId", desc := "()Ljava/lang/String;" } : Jvm.MethodName)).before a0 Z = true := hw _ (List.mem_of_getElem? (i := 208) rfl)
theorem wd_209 {Z : State} {a0 : Array Value} (hw : ∀ d ∈ tables_1, d.before a0 Z = true) : (Jvm.Cond.declares ({ cls := "com/example/markup_reader/markupreader/reader/Entity$ExternalId", name := "systemId", desc := "()Ljava/lang/String;" } : Jvm.MethodName)).before a0 Z = true := hw _ (List.mem_of_getElem? (i := 209) rfl)
theorem wd_210 {Z : State} {a0 : Array Value} (hw : ∀ d ∈ tables_1, d.before a0 Z = true) : (Jvm.Cond.instanceMethod ({ cls := "com/example/markup_reader/markupreader/reader/Entity$ExternalId", name := "systemId", desc := "()Ljava/lang/String;" } : Jvm.MethodName)).before a0 Z = true := hw _ (List.mem_of_getElem? (i := 210) rfl)
theorem wd_211 {Z : State} {a0 : Array Value} (hw : ∀ d ∈ tables_1, d.before a0 Z = true) : (Jvm.Cond.selects "com/example/markup_reader/markupreader/reader/Entity$ExternalId" ({ cls := "com/example/markup_reader/markupreader/reader/Entity$ExternalId", name := "systemId", desc := "()Ljava/lang/String;" } : Jvm.MethodName) ({ cls := "com/example/markup_reader/markupreader/reader/Entity$ExternalId", name := "systemId", desc := "()Ljava/lang/String;" } : Jvm.MethodName)).before a0 Z = true := hw _ (List.mem_of_getElem? (i := 211) rfl)
theorem wd_212 {Z : State} {a0 : Array Value} (hw : ∀ d ∈ tables_1, d.before a0 Z = true) : (Jvm.Cond.code ({ cls := "com/example/markup_reader/markupreader/reader/Entity$ExternalId", name := "systemId", desc := "()Ljava/lang/String;" } : Jvm.MethodName) prog_89_method_6_code (1 : Nat) (Option.some (Jvm.ClassFile.FieldType.object "java/lang/String"))).before a0 Z = true := hw _ (List.mem_of_getElem? (i := 212) rfl)
theorem ef_rm10 : ∀ (m : MethodId) (oa : Addr), entryFrame m #[(.ref oa)] 1 = mkF m 0 #[.val (.ref oa)] [] := by intros; first | (simp [entryFrame, mkF, argsToLocals, Value.category]; done) | rfl
theorem d10_0 : decode jdk_71_method_1_code 0 = .ok (.aload_n 0, 1) := by decide +kernel
theorem d10_1 : decode jdk_71_method_1_code 1 = .ok (.invokespecial 1, 3) := by decide +kernel
theorem d10_4 : decode jdk_71_method_1_code 4 = .ok (.return_, 1) := by decide +kernel
theorem pn_10 : plainName "java/util/AbstractMap" = true := by first | (simp [plainName, overriddenIn]; done) | decide +kernel
theorem ef_rm14 : ∀ (m : MethodId) (oa : Addr), entryFrame m #[(.ref oa)] 1 = mkF m 0 #[.val (.ref oa)] [] := by intros; first | (simp [entryFrame, mkF, argsToLocals, Value.category]; done) | rfl
theorem d14_0 : decode jdk_22_method_1_code 0 = .ok (.aload_n 0, 1) := by decide +kernel
theorem d14_1 : decode jdk_22_method_1_code 1 = .ok (.invokespecial 1, 3) := by decide +kernel
theorem d14_4 : decode jdk_22_method_1_code 4 = .ok (.return_, 1) := by decide +kernel
theorem pn_14 : plainName "java/util/AbstractCollection" = true := by first | (simp [plainName, overriddenIn]; done) | decide +kernel
theorem ef_rm24 : ∀ (m : MethodId) (oa : Addr), entryFrame m #[(.ref oa)] 1 = mkF m 0 #[.val (.ref oa)] [] := by intros; first | (simp [entryFrame, mkF, argsToLocals, Value.category]; done) | rfl
theorem d24_0 : decode jdk_30_method_1_code 0 = .ok (.aload_n 0, 1) := by decide +kernel
theorem d24_1 : decode jdk_30_method_1_code 1 = .ok (.invokespecial 1, 3) := by decide +kernel
theorem d24_4 : decode jdk_30_method_1_code 4 = .ok (.return_, 1) := by decide +kernel
theorem pn_24 : plainName "java/lang/Record" = true := by first | (simp [plainName, overriddenIn]; done) | decide +kernel
theorem ef_rm9h : ∀ (m : MethodId) (oa : Addr), entryFrame m #[(.ref oa)] 1 = mkF m 0 #[.val (.ref oa)] [] := by intros; first | (simp [entryFrame, mkF, argsToLocals, Value.category]; done) | rfl
theorem d9_0 : decode jdk_69_method_7_code 0 = .ok (.aload_n 0, 1) := by decide +kernel
theorem pd_0 : parseMethodDescriptor "()V" = some ⟨[], none⟩ := by decide +kernel
theorem d9_1 : decode jdk_69_method_7_code 1 = .ok (.invokespecial 43, 3) := by decide +kernel
theorem d9_4 : decode jdk_69_method_7_code 4 = .ok (.aload_n 0, 1) := by decide +kernel
theorem d9_5 : decode jdk_69_method_7_code 5 = .ok (.ldc 92, 2) := by decide +kernel
theorem d9_7 : decode jdk_69_method_7_code 7 = .ok (.putfield 81, 3) := by decide +kernel
theorem d9_10 : decode jdk_69_method_7_code 10 = .ok (.return_, 1) := by decide +kernel
theorem pn_9 : plainName "java/util/HashMap" = true := by first | (simp [plainName, overriddenIn]; done) | decide +kernel
theorem ef_rm9l : ∀ (m : MethodId) (oa : Addr), entryFrame m #[(.ref oa)] 1 = mkF m 0 #[.val (.ref oa)] [] := by intros; first | (simp [entryFrame, mkF, argsToLocals, Value.category]; done) | rfl
theorem ef_rm11 : ∀ (m : MethodId) (oa : Addr), entryFrame m #[(.ref oa)] 1 = mkF m 0 #[.val (.ref oa)] [] := by intros; first | (simp [entryFrame, mkF, argsToLocals, Value.category]; done) | rfl
theorem d11_0 : decode jdk_94_method_16_code 0 = .ok (.aload_n 0, 1) := by decide +kernel
theorem d11_1 : decode jdk_94_method_16_code 1 = .ok (.invokespecial 87, 3) := by decide +kernel
theorem d11_4 : decode jdk_94_method_16_code 4 = .ok (.aload_n 0, 1) := by decide +kernel
theorem d11_5 : decode jdk_94_method_16_code 5 = .ok (.iconst 0, 1) := by decide +kernel
theorem d11_6 : decode jdk_94_method_16_code 6 = .ok (.putfield 1, 3) := by decide +kernel
theorem d11_9 : decode jdk_94_method_16_code 9 = .ok (.aload_n 0, 1) := by decide +kernel
theorem d11_10 : decode jdk_94_method_16_code 10 = .ok (.iconst 0, 1) := by decide +kernel
theorem d11_11 : decode jdk_94_method_16_code 11 = .ok (.putfield 64, 3) := by decide +kernel
theorem d11_14 : decode jdk_94_method_16_code 14 = .ok (.return_, 1) := by decide +kernel
theorem pn_11 : plainName "java/util/LinkedHashMap" = true := by first | (simp [plainName, overriddenIn]; done) | decide +kernel
theorem ef_rm13 : ∀ (m : MethodId) (oa : Addr), entryFrame m #[(.ref oa)] 1 = mkF m 0 #[.val (.ref oa)] [] := by intros; first | (simp [entryFrame, mkF, argsToLocals, Value.category]; done) | rfl
theorem d13_0 : decode jdk_39_method_1_code 0 = .ok (.aload_n 0, 1) := by decide +kernel
theorem d13_1 : decode jdk_39_method_1_code 1 = .ok (.invokespecial 1, 3) := by decide +kernel
theorem d13_4 : decode jdk_39_method_1_code 4 = .ok (.aload_n 0, 1) := by decide +kernel
theorem d13_5 : decode jdk_39_method_1_code 5 = .ok (.iconst 0, 1) := by decide +kernel
theorem d13_6 : decode jdk_39_method_1_code 6 = .ok (.putfield 7, 3) := by decide +kernel
theorem d13_9 : decode jdk_39_method_1_code 9 = .ok (.return_, 1) := by decide +kernel
theorem pn_13 : plainName "java/util/AbstractList" = true := by first | (simp [plainName, overriddenIn]; done) | decide +kernel
theorem ef_rm12 : ∀ (m : MethodId) (oa : Addr), entryFrame m #[(.ref oa)] 1 = mkF m 0 #[.val (.ref oa)] [] := by intros; first | (simp [entryFrame, mkF, argsToLocals, Value.category]; done) | rfl
theorem d12_0 : decode jdk_38_method_2_code 0 = .ok (.aload_n 0, 1) := by decide +kernel
theorem d12_1 : decode jdk_38_method_2_code 1 = .ok (.invokespecial 1, 3) := by decide +kernel
theorem d12_4 : decode jdk_38_method_2_code 4 = .ok (.aload_n 0, 1) := by decide +kernel
theorem d12_5 : decode jdk_38_method_2_code 5 = .ok (.getstatic 39, 3) := by decide +kernel
theorem d12_8 : decode jdk_38_method_2_code 8 = .ok (.putfield 9, 3) := by decide +kernel
theorem d12_11 : decode jdk_38_method_2_code 11 = .ok (.return_, 1) := by decide +kernel
theorem pn_12 : plainName "java/util/ArrayList" = true := by first | (simp [plainName, overriddenIn]; done) | decide +kernel
theorem ef_rm8 : ∀ (m : MethodId) (oa : Addr), entryFrame m #[(.ref oa)] 1 = mkF m 0 #[.val (.ref oa)] [] := by intros; first | (simp [entryFrame, mkF, argsToLocals, Value.category]; done) | rfl
theorem d8_0 : decode prog_76_method_1_code 0 = .ok (.aload_n 0, 1) := by decide +kernel
theorem d8_1 : decode prog_76_method_1_code 1 = .ok (.invokespecial 1, 3) := by decide +kernel
theorem d8_4 : decode prog_76_method_1_code 4 = .ok (.aload_n 0, 1) := by decide +kernel
theorem d8_5 : decode prog_76_method_1_code 5 = .ok (.new 7, 3) := by decide +kernel
theorem d8_8 : decode prog_76_method_1_code 8 = .ok (.dup, 1) := by decide +kernel
theorem d8_9 : decode prog_76_method_1_code 9 = .ok (.invokespecial 9, 3) := by decide +kernel
theorem d8_12 : decode prog_76_method_1_code 12 = .ok (.putfield 10, 3) := by decide +kernel
theorem d8_15 : decode prog_76_method_1_code 15 = .ok (.aload_n 0, 1) := by decide +kernel
theorem d8_16 : decode prog_76_method_1_code 16 = .ok (.new 7, 3) := by decide +kernel
theorem d8_19 : decode prog_76_method_1_code 19 = .ok (.dup, 1) := by decide +kernel
theorem d8_20 : decode prog_76_method_1_code 20 = .ok (.invokespecial 9, 3) := by decide +kernel
theorem d8_23 : decode prog_76_method_1_code 23 = .ok (.putfield 16, 3) := by decide +kernel
theorem d8_26 : decode prog_76_method_1_code 26 = .ok (.aload_n 0, 1) := by decide +kernel
theorem d8_27 : decode prog_76_method_1_code 27 = .ok (.new 7, 3) := by decide +kernel
theorem d8_30 : decode prog_76_method_1_code 30 = .ok (.dup, 1) := by decide +kernel
theorem d8_31 : decode prog_76_method_1_code 31 = .ok (.invokespecial 9, 3) := by decide +kernel
theorem d8_34 : decode prog_76_method_1_code 34 = .ok (.putfield 19, 3) := by decide +kernel
theorem d8_37 : decode prog_76_method_1_code 37 = .ok (.aload_n 0, 1) := by decide +kernel
theorem d8_38 : decode prog_76_method_1_code 38 = .ok (.new 22, 3) := by decide +kernel
theorem d8_41 : decode prog_76_method_1_code 41 = .ok (.dup, 1) := by decide +kernel
theorem d8_42 : decode prog_76_method_1_code 42 = .ok (.invokespecial 24, 3) := by decide +kernel
theorem d8_45 : decode prog_76_method_1_code 45 = .ok (.putfield 25, 3) := by decide +kernel
theorem d8_48 : decode prog_76_method_1_code 48 = .ok (.aload_n 0, 1) := by decide +kernel
theorem d8_49 : decode prog_76_method_1_code 49 = .ok (.new 28, 3) := by decide +kernel
theorem d8_52 : decode prog_76_method_1_code 52 = .ok (.dup, 1) := by decide +kernel
theorem d8_53 : decode prog_76_method_1_code 53 = .ok (.invokespecial 30, 3) := by decide +kernel
theorem d8_56 : decode prog_76_method_1_code 56 = .ok (.putfield 31, 3) := by decide +kernel
theorem d8_59 : decode prog_76_method_1_code 59 = .ok (.return_, 1) := by decide +kernel
theorem pn_8 : plainName "com/example/markup_reader/markupreader/reader/Declarations" = true := by first | (simp [plainName, overriddenIn]; done) | decide +kernel
theorem ef_rm23n : ∀ (m : MethodId) (oa : Addr) (sb : Addr), entryFrame m #[(.ref oa), .null, (.ref sb)] 3 = mkF m 0 #[.val (.ref oa), .val .null, .val (.ref sb)] [] := by intros; first | (simp [entryFrame, mkF, argsToLocals, Value.category]; done) | rfl
theorem d23_0 : decode prog_89_method_1_code 0 = .ok (.aload_n 0, 1) := by decide +kernel
theorem d23_1 : decode prog_89_method_1_code 1 = .ok (.invokespecial 1, 3) := by decide +kernel
theorem d23_4 : decode prog_89_method_1_code 4 = .ok (.aload_n 0, 1) := by decide +kernel
theorem d23_5 : decode prog_89_method_1_code 5 = .ok (.aload_n 1, 1) := by decide +kernel
theorem d23_6 : decode prog_89_method_1_code 6 = .ok (.putfield 7, 3) := by decide +kernel
theorem d23_9 : decode prog_89_method_1_code 9 = .ok (.aload_n 0, 1) := by decide +kernel
theorem d23_10 : decode prog_89_method_1_code 10 = .ok (.aload_n 2, 1) := by decide +kernel
theorem d23_11 : decode prog_89_method_1_code 11 = .ok (.putfield 13, 3) := by decide +kernel
theorem d23_14 : decode prog_89_method_1_code 14 = .ok (.return_, 1) := by decide +kernel
theorem pn_23 : plainName "com/example/markup_reader/markupreader/reader/Entity$ExternalId" = true := by first | (simp [plainName, overriddenIn]; done) | decide +kernel
theorem ef_rm23r : ∀ (m : MethodId) (oa : Addr) (pb : Addr) (sb : Addr), entryFrame m #[(.ref oa), (.ref pb), (.ref sb)] 3 = mkF m 0 #[.val (.ref oa), .val (.ref pb), .val (.ref sb)] [] := by intros; first | (simp [entryFrame, mkF, argsToLocals, Value.category]; done) | rfl
theorem ef_rm17 : ∀ (m : MethodId) (oa : Addr), entryFrame m #[(.ref oa)] 1 = mkF m 0 #[.val (.ref oa)] [] := by intros; first | (simp [entryFrame, mkF, argsToLocals, Value.category]; done) | rfl
theorem d17_0 : decode prog_77_method_10_code 0 = .ok (.aload_n 0, 1) := by decide +kernel
theorem d17_1 : decode prog_77_method_10_code 1 = .ok (.iconst 1, 1) := by decide +kernel
theorem d17_2 : decode prog_77_method_10_code 2 = .ok (.putfield 74, 3) := by decide +kernel
theorem d17_5 : decode prog_77_method_10_code 5 = .ok (.return_, 1) := by decide +kernel
theorem pn_17 : plainName "com/example/markup_reader/markupreader/reader/Dtd" = true := by first | (simp [plainName, overriddenIn]; done) | decide +kernel
theorem ef_rm22 : ∀ (m : MethodId) (oa : Addr), entryFrame m #[(.ref oa)] 1 = mkF m 0 #[.val (.ref oa)] [] := by intros; first | (simp [entryFrame, mkF, argsToLocals, Value.category]; done) | rfl
theorem d22_0 : decode prog_77_method_8_code 0 = .ok (.aload_n 0, 1) := by decide +kernel
theorem d22_1 : decode prog_77_method_8_code 1 = .ok (.iconst 1, 1) := by decide +kernel
theorem d22_2 : decode prog_77_method_8_code 2 = .ok (.putfield 71, 3) := by decide +kernel
theorem d22_5 : decode prog_77_method_8_code 5 = .ok (.return_, 1) := by decide +kernel
theorem pn_22 : plainName "com/example/markup_reader/markupreader/reader/Dtd" = true := by first | (simp [plainName, overriddenIn]; done) | decide +kernel
theorem ef_rm25 : ∀ (m : MethodId) (oa : Addr), entryFrame m #[(.ref oa)] 1 = mkF m 0 #[.val (.ref oa)] [] := by intros; first | (simp [entryFrame, mkF, argsToLocals, Value.category]; done) | rfl
theorem d25_0 : decode prog_77_method_11_code 0 = .ok (.aload_n 0, 1) := by decide +kernel
theorem d25_1 : decode prog_77_method_11_code 1 = .ok (.getfield 71, 3) := by decide +kernel
theorem d25_4 : decode prog_77_method_11_code 4 = .ok (.ifCond .ne 8, 3) := by decide +kernel
theorem d25_7 : decode prog_77_method_11_code 7 = .ok (.aload_n 0, 1) := by decide +kernel
theorem d25_8 : decode prog_77_method_11_code 8 = .ok (.iconst 1, 1) := by decide +kernel
theorem d25_9 : decode prog_77_method_11_code 9 = .ok (.putfield 44, 3) := by decide +kernel
theorem d25_12 : decode prog_77_method_11_code 12 = .ok (.return_, 1) := by decide +kernel
theorem pn_25 : plainName "com/example/markup_reader/markupreader/reader/Dtd" = true := by first | (simp [plainName, overriddenIn]; done) | decide +kernel
theorem ef_rm15 : ∀ (m : MethodId) (oa : Addr), entryFrame m #[(.ref oa)] 1 = mkF m 0 #[.val (.ref oa)] [] := by intros; first | (simp [entryFrame, mkF, argsToLocals, Value.category]; done) | rfl
theorem d15_0 : decode prog_77_method_12_code 0 = .ok (.aload_n 0, 1) := by decide +kernel
theorem d15_1 : decode prog_77_method_12_code 1 = .ok (.getfield 71, 3) := by decide +kernel
theorem d15_4 : decode prog_77_method_12_code 4 = .ok (.ifCond .ne 24, 3) := by decide +kernel
theorem d15_7 : decode prog_77_method_12_code 7 = .ok (.aload_n 0, 1) := by decide +kernel
theorem d15_8 : decode prog_77_method_12_code 8 = .ok (.getfield 40, 3) := by decide +kernel
theorem d15_11 : decode prog_77_method_12_code 11 = .ok (.ifCond .eq 17, 3) := by decide +kernel
theorem d15_28 : decode prog_77_method_12_code 28 = .ok (.iconst 1, 1) := by decide +kernel
theorem d15_29 : decode prog_77_method_12_code 29 = .ok (.goto 4, 3) := by decide +kernel
theorem d15_33 : decode prog_77_method_12_code 33 = .ok (.ireturn, 1) := by decide +kernel
theorem d15_14 : decode prog_77_method_12_code 14 = .ok (.aload_n 0, 1) := by decide +kernel
theorem d15_15 : decode prog_77_method_12_code 15 = .ok (.getfield 50, 3) := by decide +kernel
theorem d15_18 : decode prog_77_method_12_code 18 = .ok (.ifnonnull 14, 3) := by decide +kernel
theorem d15_21 : decode prog_77_method_12_code 21 = .ok (.aload_n 0, 1) := by decide +kernel
theorem d15_22 : decode prog_77_method_12_code 22 = .ok (.getfield 74, 3) := by decide +kernel
theorem d15_25 : decode prog_77_method_12_code 25 = .ok (.ifCond .ne 7, 3) := by decide +kernel
theorem d15_32 : decode prog_77_method_12_code 32 = .ok (.iconst 0, 1) := by decide +kernel
theorem pn_15 : plainName "com/example/markup_reader/markupreader/reader/Dtd" = true := by first | (simp [plainName, overriddenIn]; done) | decide +kernel
theorem ef_rm16 : ∀ (m : MethodId) (xu : Int32) (xs : Int32) (xe : Int32) (xp : Int32), entryFrame m #[(.int xu), (.int xs), (.int xe), (.int xp)] 4 = mkF m 0 #[.val (.int xu), .val (.int xs), .val (.int xe), .val (.int xp)] [] := by intros; first | (simp [entryFrame, mkF, argsToLocals, Value.category]; done) | rfl
theorem d16_0 : decode method_2_code 0 = .ok (.iload_n 1, 1) := by decide +kernel
theorem d16_1 : decode method_2_code 1 = .ok (.ifCond .eq 5, 3) := by decide +kernel
theorem d16_6 : decode method_2_code 6 = .ok (.iload_n 0, 1) := by decide +kernel
theorem d16_7 : decode method_2_code 7 = .ok (.ifCond .ne 5, 3) := by decide +kernel
theorem d16_10 : decode method_2_code 10 = .ok (.iconst 1, 1) := by decide +kernel
theorem d16_11 : decode method_2_code 11 = .ok (.ireturn, 1) := by decide +kernel
theorem d16_12 : decode method_2_code 12 = .ok (.iload_n 2, 1) := by decide +kernel
theorem d16_13 : decode method_2_code 13 = .ok (.ifCond .eq 5, 3) := by decide +kernel
theorem d16_18 : decode method_2_code 18 = .ok (.iload_n 3, 1) := by decide +kernel
theorem d16_19 : decode method_2_code 19 = .ok (.ifCond .ne 7, 3) := by decide +kernel
theorem d16_22 : decode method_2_code 22 = .ok (.iconst 1, 1) := by decide +kernel
theorem d16_23 : decode method_2_code 23 = .ok (.goto 4, 3) := by decide +kernel
theorem d16_27 : decode method_2_code 27 = .ok (.ireturn, 1) := by decide +kernel
theorem d16_26 : decode method_2_code 26 = .ok (.iconst 0, 1) := by decide +kernel
theorem d16_16 : decode method_2_code 16 = .ok (.iconst 0, 1) := by decide +kernel
theorem d16_17 : decode method_2_code 17 = .ok (.ireturn, 1) := by decide +kernel
theorem d16_4 : decode method_2_code 4 = .ok (.iconst 1, 1) := by decide +kernel
theorem d16_5 : decode method_2_code 5 = .ok (.ireturn, 1) := by decide +kernel
theorem pn_16 : plainName "com/example/markup_reader/markupreader/reader/DtdEntitiesMustBeDeclaredPinLaw" = true := by first | (simp [plainName, overriddenIn]; done) | decide +kernel
theorem ef_rm27n : ∀ (m : MethodId) , entryFrame m #[.null] 1 = mkF m 0 #[.val .null] [] := by intros; first | (simp [entryFrame, mkF, argsToLocals, Value.category]; done) | rfl
theorem d27_0 : decode prog_94_method_11_code 0 = .ok (.aload_n 0, 1) := by decide +kernel
theorem d27_1 : decode prog_94_method_11_code 1 = .ok (.ifnonnull 7, 3) := by decide +kernel
theorem d27_4 : decode prog_94_method_11_code 4 = .ok (.lconst 0, 1) := by decide +kernel
theorem d27_5 : decode prog_94_method_11_code 5 = .ok (.goto 8, 3) := by decide +kernel
theorem d27_13 : decode prog_94_method_11_code 13 = .ok (.lreturn, 1) := by decide +kernel
theorem pn_27 : plainName "com/example/markup_reader/markupreader/reader/KeptSize" = true := by first | (simp [plainName, overriddenIn]; done) | decide +kernel
theorem ef_rm27r : ∀ (m : MethodId) (ob : Addr), entryFrame m #[(.ref ob)] 1 = mkF m 0 #[.val (.ref ob)] [] := by intros; first | (simp [entryFrame, mkF, argsToLocals, Value.category]; done) | rfl
theorem d27_8 : decode prog_94_method_11_code 8 = .ok (.aload_n 0, 1) := by decide +kernel
theorem pd_1 : parseMethodDescriptor "()I" = some ⟨[], some .int⟩ := by decide +kernel
theorem d27_9 : decode prog_94_method_11_code 9 = .ok (.invokevirtual 11, 3) := by decide +kernel
theorem d27_12 : decode prog_94_method_11_code 12 = .ok (.i2l, 1) := by decide +kernel
theorem ef_rm26n : ∀ (m : MethodId) (oa : Addr), entryFrame m #[(.ref oa)] 1 = mkF m 0 #[.val (.ref oa)] [] := by intros; first | (simp [entryFrame, mkF, argsToLocals, Value.category]; done) | rfl
theorem d26_0 : decode prog_89_method_5_code 0 = .ok (.aload_n 0, 1) := by decide +kernel
theorem d26_1 : decode prog_89_method_5_code 1 = .ok (.getfield 7, 3) := by decide +kernel
theorem d26_4 : decode prog_89_method_5_code 4 = .ok (.areturn, 1) := by decide +kernel
theorem pn_26 : plainName "com/example/markup_reader/markupreader/reader/Entity$ExternalId" = true := by first | (simp [plainName, overriddenIn]; done) | decide +kernel
theorem ef_rm26r : ∀ (m : MethodId) (oa : Addr), entryFrame m #[(.ref oa)] 1 = mkF m 0 #[.val (.ref oa)] [] := by intros; first | (simp [entryFrame, mkF, argsToLocals, Value.category]; done) | rfl
theorem ef_rm28r : ∀ (m : MethodId) (oa : Addr), entryFrame m #[(.ref oa)] 1 = mkF m 0 #[.val (.ref oa)] [] := by intros; first | (simp [entryFrame, mkF, argsToLocals, Value.category]; done) | rfl
theorem d28_0 : decode prog_89_method_6_code 0 = .ok (.aload_n 0, 1) := by decide +kernel
theorem d28_1 : decode prog_89_method_6_code 1 = .ok (.getfield 13, 3) := by decide +kernel
theorem d28_4 : decode prog_89_method_6_code 4 = .ok (.areturn, 1) := by decide +kernel
theorem pn_28 : plainName "com/example/markup_reader/markupreader/reader/Entity$ExternalId" = true := by first | (simp [plainName, overriddenIn]; done) | decide +kernel
theorem ef_rm19n : ∀ (m : MethodId) (ob : Addr), entryFrame m #[(.ref ob), .null] 4 = mkF m 0 #[.val (.ref ob), .val .null, .unset, .unset] [] := by intros; first | (simp [entryFrame, mkF, argsToLocals, Value.category]; done) | rfl
theorem d19_0 : decode prog_94_method_2_code 0 = .ok (.ldc2_w 9, 3) := by decide +kernel
theorem d19_3 : decode prog_94_method_2_code 3 = .ok (.aload_n 0, 1) := by decide +kernel
theorem d19_4 : decode prog_94_method_2_code 4 = .ok (.invokevirtual 11, 3) := by decide +kernel
theorem d19_7 : decode prog_94_method_2_code 7 = .ok (.i2l, 1) := by decide +kernel
theorem d19_8 : decode prog_94_method_2_code 8 = .ok (.ladd, 1) := by decide +kernel
theorem d19_9 : decode prog_94_method_2_code 9 = .ok (.lstore_n 2, 1) := by decide +kernel
theorem d19_10 : decode prog_94_method_2_code 10 = .ok (.aload_n 1, 1) := by decide +kernel
theorem d19_11 : decode prog_94_method_2_code 11 = .ok (.ifnull 21, 3) := by decide +kernel
theorem d19_32 : decode prog_94_method_2_code 32 = .ok (.lload_n 2, 1) := by decide +kernel
theorem d19_33 : decode prog_94_method_2_code 33 = .ok (.lreturn, 1) := by decide +kernel
theorem pn_19 : plainName "com/example/markup_reader/markupreader/reader/KeptSize" = true := by first | (simp [plainName, overriddenIn]; done) | decide +kernel
theorem ef_rm19r : ∀ (m : MethodId) (ob : Addr) (ox : Addr), entryFrame m #[(.ref ob), (.ref ox)] 4 = mkF m 0 #[.val (.ref ob), .val (.ref ox), .unset, .unset] [] := by intros; first | (simp [entryFrame, mkF, argsToLocals, Value.category]; done) | rfl
theorem d19_14 : decode prog_94_method_2_code 14 = .ok (.lload_n 2, 1) := by decide +kernel
theorem d19_15 : decode prog_94_method_2_code 15 = .ok (.aload_n 1, 1) := by decide +kernel
theorem pd_2 : parseMethodDescriptor "()Ljava/lang/String;" = some ⟨[], some (.object "java/lang/String")⟩ := by decide +kernel
theorem d19_16 : decode prog_94_method_2_code 16 = .ok (.invokevirtual 17, 3) := by decide +kernel
theorem pd_3 : parseMethodDescriptor "(Ljava/lang/String;)J" = some ⟨[(.object "java/lang/String")], some .long⟩ := by decide +kernel
theorem d19_19 : decode prog_94_method_2_code 19 = .ok (.invokestatic 23, 3) := by decide +kernel
theorem d19_22 : decode prog_94_method_2_code 22 = .ok (.aload_n 1, 1) := by decide +kernel
theorem d19_23 : decode prog_94_method_2_code 23 = .ok (.invokevirtual 26, 3) := by decide +kernel
theorem d19_26 : decode prog_94_method_2_code 26 = .ok (.invokestatic 23, 3) := by decide +kernel
theorem d19_29 : decode prog_94_method_2_code 29 = .ok (.ladd, 1) := by decide +kernel
theorem d19_30 : decode prog_94_method_2_code 30 = .ok (.ladd, 1) := by decide +kernel
theorem d19_31 : decode prog_94_method_2_code 31 = .ok (.lstore_n 2, 1) := by decide +kernel
theorem ef_rm18n : ∀ (m : MethodId) (oa : Addr) (ob : Addr), entryFrame m #[(.ref oa), (.ref ob), .null] 3 = mkF m 0 #[.val (.ref oa), .val (.ref ob), .val .null] [] := by intros; first | (simp [entryFrame, mkF, argsToLocals, Value.category]; done) | rfl
theorem d18_0 : decode prog_77_method_3_code 0 = .ok (.aload_n 0, 1) := by decide +kernel
theorem d18_1 : decode prog_77_method_3_code 1 = .ok (.aload_n 1, 1) := by decide +kernel
theorem d18_2 : decode prog_77_method_3_code 2 = .ok (.putfield 47, 3) := by decide +kernel
theorem d18_5 : decode prog_77_method_3_code 5 = .ok (.aload_n 0, 1) := by decide +kernel
theorem d18_6 : decode prog_77_method_3_code 6 = .ok (.aload_n 2, 1) := by decide +kernel
theorem d18_7 : decode prog_77_method_3_code 7 = .ok (.putfield 50, 3) := by decide +kernel
theorem d18_10 : decode prog_77_method_3_code 10 = .ok (.aload_n 0, 1) := by decide +kernel
theorem d18_11 : decode prog_77_method_3_code 11 = .ok (.aload_n 1, 1) := by decide +kernel
theorem d18_12 : decode prog_77_method_3_code 12 = .ok (.aload_n 2, 1) := by decide +kernel
theorem pd_4 : parseMethodDescriptor "(Ljava/lang/String;Lcom/example/markup_reader/markupreader/reader/Entity$ExternalId;)J" = some ⟨[(.object "java/lang/String"), (.object "com/example/markup_reader/markupreader/reader/Entity$ExternalId")], some .long⟩ := by decide +kernel
theorem d18_13 : decode prog_77_method_3_code 13 = .ok (.invokestatic 54, 3) := by decide +kernel
theorem d18_16 : decode prog_77_method_3_code 16 = .ok (.putfield 60, 3) := by decide +kernel
theorem d18_19 : decode prog_77_method_3_code 19 = .ok (.return_, 1) := by decide +kernel
theorem pn_18 : plainName "com/example/markup_reader/markupreader/reader/Dtd" = true := by first | (simp [plainName, overriddenIn]; done) | decide +kernel
theorem ef_rm18r : ∀ (m : MethodId) (oa : Addr) (ob : Addr) (ox : Addr), entryFrame m #[(.ref oa), (.ref ob), (.ref ox)] 3 = mkF m 0 #[.val (.ref oa), .val (.ref ob), .val (.ref ox)] [] := by intros; first | (simp [entryFrame, mkF, argsToLocals, Value.category]; done) | rfl
theorem ef_rm7 : ∀ (m : MethodId) (oa : Addr) (xu : Int32), entryFrame m #[(.ref oa), (.int xu)] 2 = mkF m 0 #[.val (.ref oa), .val (.int xu)] [] := by intros; first | (simp [entryFrame, mkF, argsToLocals, Value.category]; done) | rfl
theorem d7_0 : decode prog_77_method_1_code 0 = .ok (.aload_n 0, 1) := by decide +kernel
theorem d7_1 : decode prog_77_method_1_code 1 = .ok (.invokespecial 1, 3) := by decide +kernel
theorem d7_4 : decode prog_77_method_1_code 4 = .ok (.aload_n 0, 1) := by decide +kernel
theorem d7_5 : decode prog_77_method_1_code 5 = .ok (.new 7, 3) := by decide +kernel
theorem d7_8 : decode prog_77_method_1_code 8 = .ok (.dup, 1) := by decide +kernel
theorem d7_9 : decode prog_77_method_1_code 9 = .ok (.invokespecial 9, 3) := by decide +kernel
theorem d7_12 : decode prog_77_method_1_code 12 = .ok (.putfield 10, 3) := by decide +kernel
theorem d7_15 : decode prog_77_method_1_code 15 = .ok (.aload_n 0, 1) := by decide +kernel
theorem d7_16 : decode prog_77_method_1_code 16 = .ok (.aload_n 0, 1) := by decide +kernel
theorem d7_17 : decode prog_77_method_1_code 17 = .ok (.getfield 10, 3) := by decide +kernel
theorem d7_20 : decode prog_77_method_1_code 20 = .ok (.putfield 16, 3) := by decide +kernel
theorem d7_23 : decode prog_77_method_1_code 23 = .ok (.aload_n 0, 1) := by decide +kernel
theorem d7_24 : decode prog_77_method_1_code 24 = .ok (.aload_n 0, 1) := by decide +kernel
theorem d7_25 : decode prog_77_method_1_code 25 = .ok (.getfield 10, 3) := by decide +kernel
theorem d7_28 : decode prog_77_method_1_code 28 = .ok (.getfield 19, 3) := by decide +kernel
theorem d7_31 : decode prog_77_method_1_code 31 = .ok (.putfield 23, 3) := by decide +kernel
theorem d7_34 : decode prog_77_method_1_code 34 = .ok (.aload_n 0, 1) := by decide +kernel
theorem d7_35 : decode prog_77_method_1_code 35 = .ok (.ldc 26, 2) := by decide +kernel
theorem d7_37 : decode prog_77_method_1_code 37 = .ok (.putfield 27, 3) := by decide +kernel
theorem d7_40 : decode prog_77_method_1_code 40 = .ok (.aload_n 0, 1) := by decide +kernel
theorem d7_41 : decode prog_77_method_1_code 41 = .ok (.ldc 26, 2) := by decide +kernel
theorem d7_43 : decode prog_77_method_1_code 43 = .ok (.putfield 31, 3) := by decide +kernel
theorem d7_46 : decode prog_77_method_1_code 46 = .ok (.aload_n 0, 1) := by decide +kernel
theorem d7_47 : decode prog_77_method_1_code 47 = .ok (.ldc 34, 2) := by decide +kernel
theorem d7_49 : decode prog_77_method_1_code 49 = .ok (.putfield 36, 3) := by decide +kernel
theorem d7_52 : decode prog_77_method_1_code 52 = .ok (.aload_n 0, 1) := by decide +kernel
theorem d7_53 : decode prog_77_method_1_code 53 = .ok (.iload_n 1, 1) := by decide +kernel
theorem d7_54 : decode prog_77_method_1_code 54 = .ok (.putfield 40, 3) := by decide +kernel
theorem d7_57 : decode prog_77_method_1_code 57 = .ok (.aload_n 0, 1) := by decide +kernel
theorem d7_58 : decode prog_77_method_1_code 58 = .ok (.iload_n 1, 1) := by decide +kernel
theorem d7_59 : decode prog_77_method_1_code 59 = .ok (.ifCond .ne 7, 3) := by decide +kernel
theorem d7_62 : decode prog_77_method_1_code 62 = .ok (.iconst 1, 1) := by decide +kernel
theorem d7_63 : decode prog_77_method_1_code 63 = .ok (.goto 4, 3) := by decide +kernel
theorem d7_67 : decode prog_77_method_1_code 67 = .ok (.putfield 44, 3) := by decide +kernel
theorem d7_70 : decode prog_77_method_1_code 70 = .ok (.return_, 1) := by decide +kernel
theorem d7_66 : decode prog_77_method_1_code 66 = .ok (.iconst 0, 1) := by decide +kernel
theorem pn_7 : plainName "com/example/markup_reader/markupreader/reader/Dtd" = true := by first | (simp [plainName, overriddenIn]; done) | decide +kernel
theorem ef_rm0 : ∀ (m : MethodId) (xf : Int32) (xc0 : Int32) (xc1 : Int32), entryFrame m #[(.int xf), (.int xc0), (.int xc1)] maxLocals = mkF m 0 #[.val (.int xf), .val (.int xc0), .val (.int xc1), .unset, .unset, .unset, .unset, .unset, .unset, .unset, .unset, .unset, .unset, .unset, .unset, .unset, .unset] [] := by intros; first | (simp [entryFrame, mkF, argsToLocals, Value.category, maxLocals]; done) | rfl
theorem pd_5 : parseMethodDescriptor "([C)V" = some ⟨[(.array .char)], none⟩ := by decide +kernel
theorem pd_6 : parseMethodDescriptor "(Z)V" = some ⟨[.boolean], none⟩ := by decide +kernel
theorem pd_7 : parseMethodDescriptor "()Z" = some ⟨[], some .boolean⟩ := by decide +kernel
theorem pd_8 : parseMethodDescriptor "(ZZZZ)Z" = some ⟨[.boolean, .boolean, .boolean, .boolean], some .boolean⟩ := by decide +kernel
theorem pd_9 : parseMethodDescriptor "(Ljava/lang/String;Lcom/example/markup_reader/markupreader/reader/Entity$ExternalId;)V" = some ⟨[(.object "java/lang/String"), (.object "com/example/markup_reader/markupreader/reader/Entity$ExternalId")], none⟩ := by decide +kernel
theorem pd_10 : parseMethodDescriptor "(Ljava/lang/String;Ljava/lang/String;)V" = some ⟨[(.object "java/lang/String"), (.object "java/lang/String")], none⟩ := by decide +kernel
theorem pn_0 : plainName "com/example/markup_reader/markupreader/reader/DtdEntitiesMustBeDeclaredPinLaw" = true := by first | (simp [plainName, overriddenIn]; done) | decide +kernel
def StrOK (Z : State) (h : Heap) (B : Nat) (b : Addr) : Prop := b < B ∧ ∃ (t : Addr) (kb : ClassId) (c : Int32), t < B ∧ Exa Z h b "java/lang/String" ∧ Fld Z h b "java/lang/String" "value" "[B" (.ref t) ∧ Fld Z h b "java/lang/String" "coder" "B" (.int 0) ∧ Arv Z h t kb .byte (1 : Int32) [(.int (c.toInt8.toInt32))] (.int 0) ∧ ¬ c < 0 ∧ ¬ (255 : Int32) < c
def ExtOK (Z : State) (h : Heap) (B : Nat) (v : Value) : Prop := v = .null ∨ ∃ (a : Addr) (pv : Value) (sb : Addr), v = .ref a ∧ a < B ∧ Exa Z h a "com/example/markup_reader/markupreader/reader/Entity$ExternalId" ∧ Fld Z h a "com/example/markup_reader/markupreader/reader/Entity$ExternalId" "publicId" "Ljava/lang/String;" pv ∧ Fld Z h a "com/example/markup_reader/markupreader/reader/Entity$ExternalId" "systemId" "Ljava/lang/String;" (.ref sb) ∧ (pv = .null ∨ ∃ pb, pv = .ref pb ∧ StrOK Z h B pb) ∧ StrOK Z h B sb
def DT (Z : State) (h : Heap) (a : Addr) (fu fs : Int32) (fe : Value) (fp : Int32) : Prop := Exa Z h a "com/example/markup_reader/markupreader/reader/Dtd" ∧ fe.isRef = true ∧ Fld Z h a "com/example/markup_reader/markupreader/reader/Dtd" "used" "Z" (.int fu) ∧ Fld Z h a "com/example/markup_reader/markupreader/reader/Dtd" "standalone" "Z" (.int fs) ∧ Fld Z h a "com/example/markup_reader/markupreader/reader/Dtd" "externalSubset" "Lcom/example/markup_reader/markupreader/reader/Entity$ExternalId;" fe ∧ Fld Z h a "com/example/markup_reader/markupreader/reader/Dtd" "parameterReferences" "Z" (.int fp) ∧ ∃ (fk : Int32) (fr : Value) (fd : Int64), Fld Z h a "com/example/markup_reader/markupreader/reader/Dtd" "skipping" "Z" (.int fk) ∧ Fld Z h a "com/example/markup_reader/markupreader/reader/Dtd" "rootName" "Ljava/lang/String;" fr ∧ Fld Z h a "com/example/markup_reader/markupreader/reader/Dtd" "doctypeSize" "J" (.long fd)
def FD (fu fs : Int32) (fe : Value) (fp : Int32) : Int32 := if fs = 0 then (if fu = 0 then 1 else if fe = .null then (if fp = 0 then 1 else 0) else 0) else 1
def FX (u s e p : Int32) : Int32 := if s = 0 then (if u = 0 then 1 else if e = 0 then (if p = 0 then 1 else 0) else 0) else 1
theorem StrOK.keep {Z : State} {h h' : Heap} {B : Nat} {b : Addr} {ws : List Addr} (S : StrOK Z h B b) (K : Keep h h' ws) (hw : ∀ x ∈ ws, B ≤ x) : StrOK Z h' B b := by
  obtain ⟨hb, t, kb, c, ht, E, V, C, A, c1, c2⟩ := S
  have nb : b ∉ ws := fun q => absurd (hw b q) (Nat.not_le.mpr hb)
  have nt : t ∉ ws := fun q => absurd (hw t q) (Nat.not_le.mpr ht)
  exact ⟨hb, t, kb, c, ht, E.keep K, V.keep K nb, C.keep K nb, A.keep K nt, c1, c2⟩
theorem StrOK.mono {Z : State} {h : Heap} {B B' : Nat} {b : Addr} (S : StrOK Z h B b) (q : B ≤ B') : StrOK Z h B' b := by
  obtain ⟨hb, t, kb, c, ht, r⟩ := S
  exact ⟨Nat.lt_of_lt_of_le hb q, t, kb, c, Nat.lt_of_lt_of_le ht q, r⟩
theorem ExtOK.keep {Z : State} {h h' : Heap} {B : Nat} {v : Value} {ws : List Addr} (S : ExtOK Z h B v) (K : Keep h h' ws) (hw : ∀ x ∈ ws, B ≤ x) : ExtOK Z h' B v := by
  rcases S with rfl | ⟨a, pv, sb, rfl, ha, E, P, Y, hp, hs⟩
  · exact Or.inl rfl
  · have na : a ∉ ws := fun q => absurd (hw a q) (Nat.not_le.mpr ha)
    refine Or.inr ⟨a, pv, sb, rfl, ha, E.keep K, P.keep K na, Y.keep K na, ?_, hs.keep K hw⟩
    rcases hp with rfl | ⟨pb, rfl, hp⟩
    · exact Or.inl rfl
    · exact Or.inr ⟨pb, rfl, hp.keep K hw⟩
theorem own_c255 (q : Int32) : ¬ nar .char ((q &&& (255 : Int32)).toUInt32.toUInt16.toUInt32.toInt32) < 0 ∧ ¬ (255 : Int32) < nar .char ((q &&& (255 : Int32)).toUInt32.toUInt16.toUInt32.toInt32) := by
  have e : (q &&& 255).toInt = q.toInt % (2 ^ 8 : Nat) := c_mask q 255 8 (by decide) (by decide)
  have h1 := c_i2c (q &&& 255)
  have h2 := c_i2c ((q &&& 255).toUInt32.toUInt16.toUInt32.toInt32)
  have h3 : nar .char ((q &&& (255 : Int32)).toUInt32.toUInt16.toUInt32.toInt32) = ((q &&& 255).toUInt32.toUInt16.toUInt32.toInt32).toUInt32.toUInt16.toUInt32.toInt32 := rfl
  rw [h3]
  simp only [Int32.lt_iff_toInt_lt, Int32.reduceToInt]
  omega
theorem own_up {c : Int32} (h1 : ¬ c < 0) (h2 : ¬ (255 : Int32) < c) : ∀ d ∈ [c], ¬ d < 0 ∧ ¬ (65535 : Int32) < d := by
  intro d hd
  rw [List.mem_singleton.mp hd]
  simp only [Int32.lt_iff_toInt_lt, Int32.reduceToInt] at *
  omega
theorem own_b1 {b : Int32} (h : b = 0 ∨ b = 1) : nar .boolean b = b := by rcases h with rfl | rfl <;> rfl
theorem own_fresh (u : Int32) : ¬ FD u 0 .null 0 = 0 := by
  unfold FD
  simp
theorem own_fin {u s p x : Int32} {e : Value} (hx : x = 0 ∨ x = 1) (h : e = .null ↔ x = 0) : FD u s e p = FX u s x p := by
  unfold FD FX
  by_cases q : x = 0
  · rw [if_pos (h.mpr q), if_pos q]
  · rw [if_neg (fun z => q (h.mp z)), if_neg q]
set_option maxRecDepth 65536 in
set_option maxHeartbeats 40000000 in
theorem rm10 (l : Launch) (Z : State) (a0 : Array Value) (hw : ∀ d ∈ tables_1, d.before a0 Z = true) (oa : Addr)  (h0 : Heap) (n0 : Nat) (Z0 : n0 ≤ h0.size)  :
    ownMet l Z (⟨"java/util/AbstractMap", "<init>", "()V"⟩ : MethodName) jdk_71_method_1_code 1 none [] ({ frames := 1, cells := 0, slots := 0, locals := 12 } : Room) #[(.ref oa)] h0 (fun v h L => v = none ∧ L = [] ∧ h = h0) := by
  refine ownMet.of (plainFor_of_name pn_10) ?_
  intro p e s m below meth c T0 hx hby hml hZ hown hnm hret hlk X0 e0
  refine ownEnds.cast (ef_rm10 m oa) ?_
  show ownEnds _ _ _ _ (T0.setTop (mkF m 0 #[.val (.ref oa)] []))
  refine ownEnds.law (fun t k => XS.aloadN X0.here hx rfl (hb hby d10_0) rfl rfl k) ?_
  show ownEnds _ _ _ _ (T0.setTop (mkF m 1 #[.val (.ref oa)] [(.ref oa)]))
  obtain ⟨T1, X1, e1, st1⟩ := initO X0 hx hZ hown (wd_56 hw) (wd_12 hw) (wd_13 hw) e0 (g := (mkF m 1 #[.val (.ref oa)] [(.ref oa)])) rfl (by rw [hml]; rfl) rfl (hb hby d10_1) (by decide) (W := 0) (by show 2 * 0 + _ ≤ _; exact Nat.le_of_eq rfl) (by decide)
  refine ownEnds.law st1 ?_
  show ownEnds _ _ _ _ (T1.setTop (mkF m 4 #[.val (.ref oa)] []))
  refine ownRetV X1 hlk hx hret (hb hby d10_4) (by decide) (by decide) ?_
  exact ⟨rfl, rfl, e1⟩
set_option maxRecDepth 65536 in
set_option maxHeartbeats 40000000 in
theorem rm14 (l : Launch) (Z : State) (a0 : Array Value) (hw : ∀ d ∈ tables_1, d.before a0 Z = true) (oa : Addr)  (h0 : Heap) (n0 : Nat) (Z0 : n0 ≤ h0.size)  :
    ownMet l Z (⟨"java/util/AbstractCollection", "<init>", "()V"⟩ : MethodName) jdk_22_method_1_code 1 none [] ({ frames := 1, cells := 0, slots := 0, locals := 12 } : Room) #[(.ref oa)] h0 (fun v h L => v = none ∧ L = [] ∧ h = h0) := by
  refine ownMet.of (plainFor_of_name pn_14) ?_
  intro p e s m below meth c T0 hx hby hml hZ hown hnm hret hlk X0 e0
  refine ownEnds.cast (ef_rm14 m oa) ?_
  show ownEnds _ _ _ _ (T0.setTop (mkF m 0 #[.val (.ref oa)] []))
  refine ownEnds.law (fun t k => XS.aloadN X0.here hx rfl (hb hby d14_0) rfl rfl k) ?_
  show ownEnds _ _ _ _ (T0.setTop (mkF m 1 #[.val (.ref oa)] [(.ref oa)]))
  obtain ⟨T1, X1, e1, st1⟩ := initO X0 hx hZ hown (wd_101 hw) (wd_12 hw) (wd_13 hw) e0 (g := (mkF m 1 #[.val (.ref oa)] [(.ref oa)])) rfl (by rw [hml]; rfl) rfl (hb hby d14_1) (by decide) (W := 0) (by show 2 * 0 + _ ≤ _; exact Nat.le_of_eq rfl) (by decide)
  refine ownEnds.law st1 ?_
  show ownEnds _ _ _ _ (T1.setTop (mkF m 4 #[.val (.ref oa)] []))
  refine ownRetV X1 hlk hx hret (hb hby d14_4) (by decide) (by decide) ?_
  exact ⟨rfl, rfl, e1⟩
set_option maxRecDepth 65536 in
set_option maxHeartbeats 40000000 in
theorem rm24 (l : Launch) (Z : State) (a0 : Array Value) (hw : ∀ d ∈ tables_1, d.before a0 Z = true) (oa : Addr)  (h0 : Heap) (n0 : Nat) (Z0 : n0 ≤ h0.size)  :
    ownMet l Z (⟨"java/lang/Record", "<init>", "()V"⟩ : MethodName) jdk_30_method_1_code 1 none [] ({ frames := 1, cells := 0, slots := 0, locals := 12 } : Room) #[(.ref oa)] h0 (fun v h L => v = none ∧ L = [] ∧ h = h0) := by
  refine ownMet.of (plainFor_of_name pn_24) ?_
  intro p e s m below meth c T0 hx hby hml hZ hown hnm hret hlk X0 e0
  refine ownEnds.cast (ef_rm24 m oa) ?_
  show ownEnds _ _ _ _ (T0.setTop (mkF m 0 #[.val (.ref oa)] []))
  refine ownEnds.law (fun t k => XS.aloadN X0.here hx rfl (hb hby d24_0) rfl rfl k) ?_
  show ownEnds _ _ _ _ (T0.setTop (mkF m 1 #[.val (.ref oa)] [(.ref oa)]))
  obtain ⟨T1, X1, e1, st1⟩ := initO X0 hx hZ hown (wd_190 hw) (wd_12 hw) (wd_13 hw) e0 (g := (mkF m 1 #[.val (.ref oa)] [(.ref oa)])) rfl (by rw [hml]; rfl) rfl (hb hby d24_1) (by decide) (W := 0) (by show 2 * 0 + _ ≤ _; exact Nat.le_of_eq rfl) (by decide)
  refine ownEnds.law st1 ?_
  show ownEnds _ _ _ _ (T1.setTop (mkF m 4 #[.val (.ref oa)] []))
  refine ownRetV X1 hlk hx hret (hb hby d24_4) (by decide) (by decide) ?_
  exact ⟨rfl, rfl, e1⟩
set_option maxRecDepth 65536 in
set_option maxHeartbeats 40000000 in
theorem rm9h (l : Launch) (Z : State) (a0 : Array Value) (hw : ∀ d ∈ tables_1, d.before a0 Z = true) (oa : Addr)  (h0 : Heap) (n0 : Nat) (Z0 : n0 ≤ h0.size) (E_oa : Exa Z h0 oa "java/util/HashMap") (g_oa : n0 ≤ oa) (F_oa_loadFactor : Fld Z h0 oa "java/util/HashMap" "loadFactor" "F" (.float (0 : UInt32))) :
    ownMet l Z (⟨"java/util/HashMap", "<init>", "()V"⟩ : MethodName) jdk_69_method_7_code 1 none [] ({ frames := 2, cells := 0, slots := 0, locals := 24 } : Room) #[(.ref oa)] h0 (fun v h L => v = none ∧ Fr n0 L ∧ Keep h0 h [oa] ∧ Exa Z h oa "java/util/HashMap") := by
  refine ownMet.of (plainFor_of_name pn_9) ?_
  intro p e s m below meth c T0 hx hby hml hZ hown hnm hret hlk X0 e0
  refine ownEnds.cast (ef_rm9h m oa) ?_
  show ownEnds _ _ _ _ (T0.setTop (mkF m 0 #[.val (.ref oa)] []))
  refine ownEnds.law (fun t k => XS.aloadN X0.here hx rfl (hb hby d9_0) rfl rfl k) ?_
  show ownEnds _ _ _ _ (T0.setTop (mkF m 1 #[.val (.ref oa)] [(.ref oa)]))
  obtain ⟨v1, T1, L1, X1, hQ1, st1⟩ := ownCallC X0 hx hZ hown (y := (⟨"java/util/AbstractMap", "<init>", "()V"⟩ : MethodName)) rfl (a := oa) (as := []) (wd_50 hw) (wd_51 hw) (wd_54 hw) (wd_55 hw) (by decide) (rm10 l Z a0 hw oa  h0 n0 Z0 ) e0 0 (by decide) (by decide) (by decide) (by decide) (g := (mkF m 1 #[.val (.ref oa)] [(.ref oa)])) rfl (by rw [hml]; rfl) (rest := []) pd_0 rfl rfl (by show 2 * 0 + _ ≤ _; exact Nat.le_of_eq rfl) (hb hby d9_1)
  obtain ⟨rfl, rfl, e1⟩ := hQ1
  rw [List.append_nil] at X1
  refine ownEnds.law st1 ?_
  show ownEnds _ _ _ _ (T1.setTop (mkF m 4 #[.val (.ref oa)] []))
  refine ownEnds.law (fun t k => XS.aloadN X1.here hx rfl (hb hby d9_4) rfl rfl (X1.ldcFloatC hx hown (mvT hZ (wd_57 hw)) (g := (mkF m 5 #[.val (.ref oa)] [(.ref oa)])) rfl (hb hby d9_5) _ k)) ?_
  show ownEnds _ _ _ _ (T1.setTop (mkF m 7 #[.val (.ref oa)] [(.float (1061158912 : UInt32)), (.ref oa)]))
  obtain ⟨T2, h2, X2, e2, W2, st2⟩ := putF X1 hx hZ hown (host := "") (Or.inl (wd_58 hw)) Via.refl e1 F_oa_loadFactor E_oa (Or.inr ⟨(wd_59 hw), rfl, hnm⟩) (wd_45 hw) (ty := .float) (by decide) rfl rfl (g := (mkF m 7 #[.val (.ref oa)] [(.float (1061158912 : UInt32)), (.ref oa)])) rfl rfl (hb hby d9_7)
  refine ownEnds.law st2 ?_
  have N2 := Fr.snoc X2 (Fr.nil n0) g_oa
  have KK2 : Keep h0 h2 [oa] := (Keep.refl h0 [oa]).wr W2 (Or.inl (List.mem_of_getElem? (i := 0) rfl))
  have Z2 : n0 ≤ h2.size := by rw [W2.size]; exact Z0
  have Fw2 : Fld Z h2 oa "java/util/HashMap" "loadFactor" "F" (.float (1061158912 : UInt32)) := Fld.same W2 F_oa_loadFactor
  show ownEnds _ _ _ _ (T2.setTop (mkF m 10 #[.val (.ref oa)] []))
  refine ownRetV X2 hlk hx hret (hb hby d9_10) (by decide) (by decide) ?_
  have f3 := (Exa.wr W2 E_oa)
  rw [e2]
  exact ⟨rfl, N2, KK2, f3⟩
set_option maxRecDepth 65536 in
set_option maxHeartbeats 40000000 in
theorem rm9l (l : Launch) (Z : State) (a0 : Array Value) (hw : ∀ d ∈ tables_1, d.before a0 Z = true) (oa : Addr)  (h0 : Heap) (n0 : Nat) (Z0 : n0 ≤ h0.size) (E_oa : Exa Z h0 oa "java/util/LinkedHashMap") (g_oa : n0 ≤ oa) (F_oa_loadFactor : Fld Z h0 oa "java/util/HashMap" "loadFactor" "F" (.float (0 : UInt32))) (F_oa_putMode : Fld Z h0 oa "java/util/LinkedHashMap" "putMode" "I" (.int (0 : Int32))) (F_oa_accessOrder : Fld Z h0 oa "java/util/LinkedHashMap" "accessOrder" "Z" (.int (0 : Int32))) :
    ownMet l Z (⟨"java/util/HashMap", "<init>", "()V"⟩ : MethodName) jdk_69_method_7_code 1 none [] ({ frames := 2, cells := 0, slots := 0, locals := 24 } : Room) #[(.ref oa)] h0 (fun v h L => v = none ∧ Fr n0 L ∧ Keep h0 h [oa] ∧ Exa Z h oa "java/util/LinkedHashMap" ∧ Fld Z h oa "java/util/LinkedHashMap" "putMode" "I" (.int (0 : Int32)) ∧ Fld Z h oa "java/util/LinkedHashMap" "accessOrder" "Z" (.int (0 : Int32))) := by
  refine ownMet.of (plainFor_of_name pn_9) ?_
  intro p e s m below meth c T0 hx hby hml hZ hown hnm hret hlk X0 e0
  refine ownEnds.cast (ef_rm9l m oa) ?_
  show ownEnds _ _ _ _ (T0.setTop (mkF m 0 #[.val (.ref oa)] []))
  refine ownEnds.law (fun t k => XS.aloadN X0.here hx rfl (hb hby d9_0) rfl rfl k) ?_
  show ownEnds _ _ _ _ (T0.setTop (mkF m 1 #[.val (.ref oa)] [(.ref oa)]))
  obtain ⟨v1, T1, L1, X1, hQ1, st1⟩ := ownCallC X0 hx hZ hown (y := (⟨"java/util/AbstractMap", "<init>", "()V"⟩ : MethodName)) rfl (a := oa) (as := []) (wd_50 hw) (wd_51 hw) (wd_54 hw) (wd_55 hw) (by decide) (rm10 l Z a0 hw oa  h0 n0 Z0 ) e0 0 (by decide) (by decide) (by decide) (by decide) (g := (mkF m 1 #[.val (.ref oa)] [(.ref oa)])) rfl (by rw [hml]; rfl) (rest := []) pd_0 rfl rfl (by show 2 * 0 + _ ≤ _; exact Nat.le_of_eq rfl) (hb hby d9_1)
  obtain ⟨rfl, rfl, e1⟩ := hQ1
  rw [List.append_nil] at X1
  refine ownEnds.law st1 ?_
  show ownEnds _ _ _ _ (T1.setTop (mkF m 4 #[.val (.ref oa)] []))
  refine ownEnds.law (fun t k => XS.aloadN X1.here hx rfl (hb hby d9_4) rfl rfl (X1.ldcFloatC hx hown (mvT hZ (wd_57 hw)) (g := (mkF m 5 #[.val (.ref oa)] [(.ref oa)])) rfl (hb hby d9_5) _ k)) ?_
  show ownEnds _ _ _ _ (T1.setTop (mkF m 7 #[.val (.ref oa)] [(.float (1061158912 : UInt32)), (.ref oa)]))
  obtain ⟨T2, h2, X2, e2, W2, st2⟩ := putF X1 hx hZ hown (host := "") (Or.inl (wd_58 hw)) Via.refl e1 F_oa_loadFactor E_oa (Or.inr ⟨(wd_76 hw), rfl, hnm⟩) (wd_67 hw) (ty := .float) (by decide) rfl rfl (g := (mkF m 7 #[.val (.ref oa)] [(.float (1061158912 : UInt32)), (.ref oa)])) rfl rfl (hb hby d9_7)
  refine ownEnds.law st2 ?_
  have N2 := Fr.snoc X2 (Fr.nil n0) g_oa
  have KK2 : Keep h0 h2 [oa] := (Keep.refl h0 [oa]).wr W2 (Or.inl (List.mem_of_getElem? (i := 0) rfl))
  have Z2 : n0 ≤ h2.size := by rw [W2.size]; exact Z0
  have Fw2 : Fld Z h2 oa "java/util/HashMap" "loadFactor" "F" (.float (1061158912 : UInt32)) := Fld.same W2 F_oa_loadFactor
  show ownEnds _ _ _ _ (T2.setTop (mkF m 10 #[.val (.ref oa)] []))
  refine ownRetV X2 hlk hx hret (hb hby d9_10) (by decide) (by decide) ?_
  have f3 := (Exa.wr W2 E_oa)
  have f4 := (Fld.other W2 F_oa_putMode (Or.inr (slot_ne (Or.inl (wd_78 hw)) (Or.inr (wd_76 hw)) (by decide) (t := .int) (t' := .float) (by decide) (by decide))))
  have f5 := (Fld.other W2 F_oa_accessOrder (Or.inr (slot_ne (Or.inr (wd_80 hw)) (Or.inr (wd_76 hw)) (by decide) (t := .boolean) (t' := .float) (by decide) (by decide))))
  rw [e2]
  exact ⟨rfl, N2, KK2, f3, f4, f5⟩
set_option maxRecDepth 65536 in
set_option maxHeartbeats 40000000 in
theorem rm11 (l : Launch) (Z : State) (a0 : Array Value) (hw : ∀ d ∈ tables_1, d.before a0 Z = true) (oa : Addr)  (h0 : Heap) (n0 : Nat) (Z0 : n0 ≤ h0.size) (E_oa : Exa Z h0 oa "java/util/LinkedHashMap") (g_oa : n0 ≤ oa) (F_oa_loadFactor : Fld Z h0 oa "java/util/HashMap" "loadFactor" "F" (.float (0 : UInt32))) (F_oa_putMode : Fld Z h0 oa "java/util/LinkedHashMap" "putMode" "I" (.int (0 : Int32))) (F_oa_accessOrder : Fld Z h0 oa "java/util/LinkedHashMap" "accessOrder" "Z" (.int (0 : Int32))) :
    ownMet l Z (⟨"java/util/LinkedHashMap", "<init>", "()V"⟩ : MethodName) jdk_94_method_16_code 1 none [] ({ frames := 3, cells := 0, slots := 0, locals := 36 } : Room) #[(.ref oa)] h0 (fun v h L => v = none ∧ Fr n0 L ∧ Keep h0 h [oa] ∧ Exa Z h oa "java/util/LinkedHashMap") := by
  refine ownMet.of (plainFor_of_name pn_11) ?_
  intro p e s m below meth c T0 hx hby hml hZ hown hnm hret hlk X0 e0
  refine ownEnds.cast (ef_rm11 m oa) ?_
  show ownEnds _ _ _ _ (T0.setTop (mkF m 0 #[.val (.ref oa)] []))
  refine ownEnds.law (fun t k => XS.aloadN X0.here hx rfl (hb hby d11_0) rfl rfl k) ?_
  show ownEnds _ _ _ _ (T0.setTop (mkF m 1 #[.val (.ref oa)] [(.ref oa)]))
  obtain ⟨v1, T1, L1, X1, hQ1, st1⟩ := ownCallC X0 hx hZ hown (y := (⟨"java/util/HashMap", "<init>", "()V"⟩ : MethodName)) rfl (a := oa) (as := []) (wd_72 hw) (wd_48 hw) (wd_46 hw) (wd_49 hw) (by decide) (rm9l l Z a0 hw oa  h0 n0 Z0 E_oa g_oa F_oa_loadFactor F_oa_putMode F_oa_accessOrder) e0 0 (by decide) (by decide) (by decide) (by decide) (g := (mkF m 1 #[.val (.ref oa)] [(.ref oa)])) rfl (by rw [hml]; rfl) (rest := []) pd_0 rfl rfl (by show 2 * 0 + _ ≤ _; exact Nat.le_of_eq rfl) (hb hby d11_1)
  obtain ⟨rfl, Nq1, Kq1, Eq1, Fc1_0, Fc1_1⟩ := hQ1
  have N1 := Fr.app (Fr.nil n0) Nq1
  have KK1 : Keep h0 T1.heap [oa] := Keep.trans (Keep.refl h0 [oa]) Kq1 (allS (Or.inl (List.mem_of_getElem? (i := 0) rfl)) all0)
  have Z1 : n0 ≤ T1.heap.size := Nat.le_trans Z0 Kq1.1
  refine ownEnds.law st1 ?_
  show ownEnds _ _ _ _ (T1.setTop (mkF m 4 #[.val (.ref oa)] []))
  refine ownEnds.law (fun t k => XS.aloadN X1.here hx rfl (hb hby d11_4) rfl rfl (XS.iconst X1.here hx rfl (hb hby d11_5) k)) ?_
  show ownEnds _ _ _ _ (T1.setTop (mkF m 6 #[.val (.ref oa)] [(.int (0 : Int32)), (.ref oa)]))
  obtain ⟨T2, h2, X2, e2, W2, st2⟩ := putF X1 hx hZ hown (host := "") (Or.inl (wd_77 hw)) Via.refl rfl Fc1_0 Eq1 (Or.inl (wd_78 hw)) (wd_67 hw) (ty := .int) (by decide) rfl rfl (g := (mkF m 6 #[.val (.ref oa)] [(.int (0 : Int32)), (.ref oa)])) rfl rfl (hb hby d11_6)
  refine ownEnds.law st2 ?_
  have N2 := Fr.snoc X2 N1 g_oa
  have KK2 : Keep h0 h2 [oa] := (KK1).wr W2 (Or.inl (List.mem_of_getElem? (i := 0) rfl))
  have Z2 : n0 ≤ h2.size := by rw [W2.size]; exact Z1
  have Fw2 : Fld Z h2 oa "java/util/LinkedHashMap" "putMode" "I" (.int (0 : Int32)) := Fld.same W2 Fc1_0
  show ownEnds _ _ _ _ (T2.setTop (mkF m 9 #[.val (.ref oa)] []))
  refine ownEnds.law (fun t k => XS.aloadN X2.here hx rfl (hb hby d11_9) rfl rfl (XS.iconst X2.here hx rfl (hb hby d11_10) k)) ?_
  show ownEnds _ _ _ _ (T2.setTop (mkF m 11 #[.val (.ref oa)] [(.int (0 : Int32)), (.ref oa)]))
  have f3 := (Exa.wr W2 Eq1)
  have f4 := (Fld.other W2 Fc1_1 (Or.inr (slot_ne (Or.inr (wd_80 hw)) (Or.inl (wd_78 hw)) (by decide) (t := .boolean) (t' := .int) (by decide) (by decide))))
  obtain ⟨T5, h5, X5, e5, W5, st5⟩ := putFN X2 hx hZ hown (wd_79 hw) Via.refl e2 f4 f3 (Or.inr ⟨(wd_80 hw), rfl, hnm⟩) (wd_67 hw) (ty := .boolean) (v' := (.int (0 : Int32))) (by decide) rfl rfl (g := (mkF m 11 #[.val (.ref oa)] [(.int (0 : Int32)), (.ref oa)])) rfl rfl (hb hby d11_11)
  refine ownEnds.law st5 ?_
  have N5 := Fr.snoc X5 N2 g_oa
  have KK5 : Keep h0 h5 [oa] := (KK2).wr W5 (Or.inl (List.mem_of_getElem? (i := 0) rfl))
  have Z5 : n0 ≤ h5.size := by rw [W5.size]; exact Z2
  have Fw5 : Fld Z h5 oa "java/util/LinkedHashMap" "accessOrder" "Z" (.int (0 : Int32)) := Fld.same W5 f4
  show ownEnds _ _ _ _ (T5.setTop (mkF m 14 #[.val (.ref oa)] []))
  refine ownRetV X5 hlk hx hret (hb hby d11_14) (by decide) (by decide) ?_
  have f6 := (Exa.wr W5 f3)
  rw [e5]
  exact ⟨rfl, N5, KK5, f6⟩
set_option maxRecDepth 65536 in
set_option maxHeartbeats 40000000 in
theorem rm13 (l : Launch) (Z : State) (a0 : Array Value) (hw : ∀ d ∈ tables_1, d.before a0 Z = true) (oa : Addr)  (h0 : Heap) (n0 : Nat) (Z0 : n0 ≤ h0.size) (E_oa : Exa Z h0 oa "java/util/ArrayList") (g_oa : n0 ≤ oa) (F_oa_modCount : Fld Z h0 oa "java/util/AbstractList" "modCount" "I" (.int (0 : Int32))) (F_oa_elementData : Fld Z h0 oa "java/util/ArrayList" "elementData" "[Ljava/lang/Object;" .null) :
    ownMet l Z (⟨"java/util/AbstractList", "<init>", "()V"⟩ : MethodName) jdk_39_method_1_code 1 none [] ({ frames := 2, cells := 0, slots := 0, locals := 24 } : Room) #[(.ref oa)] h0 (fun v h L => v = none ∧ Fr n0 L ∧ Keep h0 h [oa] ∧ Exa Z h oa "java/util/ArrayList" ∧ Fld Z h oa "java/util/ArrayList" "elementData" "[Ljava/lang/Object;" .null) := by
  refine ownMet.of (plainFor_of_name pn_13) ?_
  intro p e s m below meth c T0 hx hby hml hZ hown hnm hret hlk X0 e0
  refine ownEnds.cast (ef_rm13 m oa) ?_
  show ownEnds _ _ _ _ (T0.setTop (mkF m 0 #[.val (.ref oa)] []))
  refine ownEnds.law (fun t k => XS.aloadN X0.here hx rfl (hb hby d13_0) rfl rfl k) ?_
  show ownEnds _ _ _ _ (T0.setTop (mkF m 1 #[.val (.ref oa)] [(.ref oa)]))
  obtain ⟨v1, T1, L1, X1, hQ1, st1⟩ := ownCallC X0 hx hZ hown (y := (⟨"java/util/AbstractCollection", "<init>", "()V"⟩ : MethodName)) rfl (a := oa) (as := []) (wd_95 hw) (wd_96 hw) (wd_99 hw) (wd_100 hw) (by decide) (rm14 l Z a0 hw oa  h0 n0 Z0 ) e0 0 (by decide) (by decide) (by decide) (by decide) (g := (mkF m 1 #[.val (.ref oa)] [(.ref oa)])) rfl (by rw [hml]; rfl) (rest := []) pd_0 rfl rfl (by show 2 * 0 + _ ≤ _; exact Nat.le_of_eq rfl) (hb hby d13_1)
  obtain ⟨rfl, rfl, e1⟩ := hQ1
  rw [List.append_nil] at X1
  refine ownEnds.law st1 ?_
  show ownEnds _ _ _ _ (T1.setTop (mkF m 4 #[.val (.ref oa)] []))
  refine ownEnds.law (fun t k => XS.aloadN X1.here hx rfl (hb hby d13_4) rfl rfl (XS.iconst X1.here hx rfl (hb hby d13_5) k)) ?_
  show ownEnds _ _ _ _ (T1.setTop (mkF m 6 #[.val (.ref oa)] [(.int (0 : Int32)), (.ref oa)]))
  obtain ⟨T2, h2, X2, e2, W2, st2⟩ := putF X1 hx hZ hown (host := "") (Or.inl (wd_102 hw)) Via.refl e1 F_oa_modCount E_oa (Or.inl (wd_103 hw)) (wd_84 hw) (ty := .int) (by decide) rfl rfl (g := (mkF m 6 #[.val (.ref oa)] [(.int (0 : Int32)), (.ref oa)])) rfl rfl (hb hby d13_6)
  refine ownEnds.law st2 ?_
  have N2 := Fr.snoc X2 (Fr.nil n0) g_oa
  have KK2 : Keep h0 h2 [oa] := (Keep.refl h0 [oa]).wr W2 (Or.inl (List.mem_of_getElem? (i := 0) rfl))
  have Z2 : n0 ≤ h2.size := by rw [W2.size]; exact Z0
  have Fw2 : Fld Z h2 oa "java/util/AbstractList" "modCount" "I" (.int (0 : Int32)) := Fld.same W2 F_oa_modCount
  show ownEnds _ _ _ _ (T2.setTop (mkF m 9 #[.val (.ref oa)] []))
  refine ownRetV X2 hlk hx hret (hb hby d13_9) (by decide) (by decide) ?_
  have f3 := (Exa.wr W2 E_oa)
  have f4 := (Fld.other W2 F_oa_elementData (Or.inr (slot_ne (Or.inl (wd_106 hw)) (Or.inl (wd_103 hw)) (by decide) (t := (.array (.object "java/lang/Object"))) (t' := .int) (by decide) (by decide))))
  rw [e2]
  exact ⟨rfl, N2, KK2, f3, f4⟩
set_option maxRecDepth 65536 in
set_option maxHeartbeats 40000000 in
theorem rm12 (l : Launch) (Z : State) (a0 : Array Value) (hw : ∀ d ∈ tables_1, d.before a0 Z = true) (oa : Addr) (aD : Addr) (h0 : Heap) (n0 : Nat) (Z0 : n0 ≤ h0.size) (E_oa : Exa Z h0 oa "java/util/ArrayList") (g_oa : n0 ≤ oa) (F_oa_modCount : Fld Z h0 oa "java/util/AbstractList" "modCount" "I" (.int (0 : Int32))) (F_oa_elementData : Fld Z h0 oa "java/util/ArrayList" "elementData" "[Ljava/lang/Object;" .null) (O0 : Old Z n0 h0) (SD0 : Sta Z Z.heap "java/util/ArrayList" "DEFAULTCAPACITY_EMPTY_ELEMENTDATA" "[Ljava/lang/Object;" (.ref aD)) :
    ownMet l Z (⟨"java/util/ArrayList", "<init>", "()V"⟩ : MethodName) jdk_38_method_2_code 1 none [] ({ frames := 3, cells := 0, slots := 0, locals := 36 } : Room) #[(.ref oa)] h0 (fun v h L => v = none ∧ Fr n0 L ∧ Keep h0 h [oa] ∧ Exa Z h oa "java/util/ArrayList") := by
  refine ownMet.of (plainFor_of_name pn_12) ?_
  intro p e s m below meth c T0 hx hby hml hZ hown hnm hret hlk X0 e0
  refine ownEnds.cast (ef_rm12 m oa) ?_
  show ownEnds _ _ _ _ (T0.setTop (mkF m 0 #[.val (.ref oa)] []))
  refine ownEnds.law (fun t k => XS.aloadN X0.here hx rfl (hb hby d12_0) rfl rfl k) ?_
  show ownEnds _ _ _ _ (T0.setTop (mkF m 1 #[.val (.ref oa)] [(.ref oa)]))
  obtain ⟨v1, T1, L1, X1, hQ1, st1⟩ := ownCallC X0 hx hZ hown (y := (⟨"java/util/AbstractList", "<init>", "()V"⟩ : MethodName)) rfl (a := oa) (as := []) (wd_89 hw) (wd_90 hw) (wd_93 hw) (wd_94 hw) (by decide) (rm13 l Z a0 hw oa  h0 n0 Z0 E_oa g_oa F_oa_modCount F_oa_elementData) e0 0 (by decide) (by decide) (by decide) (by decide) (g := (mkF m 1 #[.val (.ref oa)] [(.ref oa)])) rfl (by rw [hml]; rfl) (rest := []) pd_0 rfl rfl (by show 2 * 0 + _ ≤ _; exact Nat.le_of_eq rfl) (hb hby d12_1)
  obtain ⟨rfl, Nq1, Kq1, Eq1, Fc1_0⟩ := hQ1
  have N1 := Fr.app (Fr.nil n0) Nq1
  have KK1 : Keep h0 T1.heap [oa] := Keep.trans (Keep.refl h0 [oa]) Kq1 (allS (Or.inl (List.mem_of_getElem? (i := 0) rfl)) all0)
  have Z1 : n0 ≤ T1.heap.size := Nat.le_trans Z0 Kq1.1
  have O_1 : Old Z n0 T1.heap := Old.keep O0 Kq1 (allS g_oa all0)
  refine ownEnds.law st1 ?_
  show ownEnds _ _ _ _ (T1.setTop (mkF m 4 #[.val (.ref oa)] []))
  refine ownEnds.law (fun t k => XS.aloadN X1.here hx rfl (hb hby d12_4) rfl rfl k) ?_
  show ownEnds _ _ _ _ (T1.setTop (mkF m 5 #[.val (.ref oa)] [(.ref oa)]))
  obtain ⟨T2, X2, e2, st2⟩ := getS2 X1 hx hZ hown (host := "") (Or.inl (wd_104 hw)) Via.refl rfl (Sta.ext O_1.2 SD0) (g := (mkF m 5 #[.val (.ref oa)] [(.ref oa)])) rfl (hb hby d12_5)
  refine ownEnds.law st2 ?_
  show ownEnds _ _ _ _ (T2.setTop (mkF m 8 #[.val (.ref oa)] [(.ref aD), (.ref oa)]))
  obtain ⟨T3, h3, X3, e3, W3, st3⟩ := putF X2 hx hZ hown (host := "") (Or.inl (wd_105 hw)) Via.refl e2 Fc1_0 Eq1 (Or.inl (wd_106 hw)) (wd_84 hw) (ty := (.array (.object "java/lang/Object"))) (by decide) rfl rfl (g := (mkF m 8 #[.val (.ref oa)] [(.ref aD), (.ref oa)])) rfl rfl (hb hby d12_8)
  refine ownEnds.law st3 ?_
  have N3 := Fr.snoc X3 N1 g_oa
  have KK3 : Keep h0 h3 [oa] := (KK1).wr W3 (Or.inl (List.mem_of_getElem? (i := 0) rfl))
  have Z3 : n0 ≤ h3.size := by rw [W3.size]; exact Z1
  have O_3 : Old Z n0 h3 := Old.wr O_1 W3 g_oa
  have Fw3 : Fld Z h3 oa "java/util/ArrayList" "elementData" "[Ljava/lang/Object;" (.ref aD) := Fld.same W3 Fc1_0
  show ownEnds _ _ _ _ (T3.setTop (mkF m 11 #[.val (.ref oa)] []))
  refine ownRetV X3 hlk hx hret (hb hby d12_11) (by decide) (by decide) ?_
  have f4 := (Exa.wr W3 Eq1)
  rw [e3]
  exact ⟨rfl, N3, KK3, f4⟩
set_option maxRecDepth 65536 in
set_option maxHeartbeats 40000000 in
theorem rm8 (l : Launch) (Z : State) (a0 : Array Value) (hw : ∀ d ∈ tables_1, d.before a0 Z = true) (oa : Addr) (aD : Addr) (h0 : Heap) (n0 : Nat) (Z0 : n0 ≤ h0.size) (E_oa : Exa Z h0 oa "com/example/markup_reader/markupreader/reader/Declarations") (g_oa : n0 ≤ oa) (F_oa_generalEntities : Fld Z h0 oa "com/example/markup_reader/markupreader/reader/Declarations" "generalEntities" "Ljava/util/Map;" .null) (F_oa_parameterEntities : Fld Z h0 oa "com/example/markup_reader/markupreader/reader/Declarations" "parameterEntities" "Ljava/util/Map;" .null) (F_oa_elementTypes : Fld Z h0 oa "com/example/markup_reader/markupreader/reader/Declarations" "elementTypes" "Ljava/util/Map;" .null) (F_oa_notations : Fld Z h0 oa "com/example/markup_reader/markupreader/reader/Declarations" "notations" "Ljava/util/Map;" .null) (F_oa_unparsedEntities : Fld Z h0 oa "com/example/markup_reader/markupreader/reader/Declarations" "unparsedEntities" "Ljava/util/List;" .null) (O0 : Old Z n0 h0) (SD0 : Sta Z Z.heap "java/util/ArrayList" "DEFAULTCAPACITY_EMPTY_ELEMENTDATA" "[Ljava/lang/Object;" (.ref aD)) :
    ownMet l Z (⟨"com/example/markup_reader/markupreader/reader/Declarations", "<init>", "()V"⟩ : MethodName) prog_76_method_1_code 1 none [] ({ frames := 4, cells := 5, slots := 39, locals := 50 } : Room) #[(.ref oa)] h0 (fun v h L => v = none ∧ Fr n0 L ∧ Keep h0 h [oa] ∧ Exa Z h oa "com/example/markup_reader/markupreader/reader/Declarations" ∧ ∃ em : Addr, Fld Z h oa "com/example/markup_reader/markupreader/reader/Declarations" "elementTypes" "Ljava/util/Map;" (.ref em)) := by
  refine ownMet.of (plainFor_of_name pn_8) ?_
  intro p e s m below meth c T0 hx hby hml hZ hown hnm hret hlk X0 e0
  refine ownEnds.cast (ef_rm8 m oa) ?_
  show ownEnds _ _ _ _ (T0.setTop (mkF m 0 #[.val (.ref oa)] []))
  refine ownEnds.law (fun t k => XS.aloadN X0.here hx rfl (hb hby d8_0) rfl rfl k) ?_
  show ownEnds _ _ _ _ (T0.setTop (mkF m 1 #[.val (.ref oa)] [(.ref oa)]))
  obtain ⟨T1, X1, e1, st1⟩ := initO X0 hx hZ hown (wd_43 hw) (wd_12 hw) (wd_13 hw) e0 (g := (mkF m 1 #[.val (.ref oa)] [(.ref oa)])) rfl (by rw [hml]; rfl) rfl (hb hby d8_1) (by decide) (W := 0) (by show 2 * 0 + _ ≤ _; exact Nat.le_of_eq rfl) (by decide)
  refine ownEnds.law st1 ?_
  show ownEnds _ _ _ _ (T1.setTop (mkF m 4 #[.val (.ref oa)] []))
  refine ownEnds.law (fun t k => XS.aloadN X1.here hx rfl (hb hby d8_4) rfl rfl k) ?_
  show ownEnds _ _ _ _ (T1.setTop (mkF m 5 #[.val (.ref oa)] [(.ref oa)]))
  obtain ⟨T2, h2, X2, e2, E2, A2, D2, -, st2⟩ := newO X1 hx hZ hown (wd_44 hw) (wd_45 hw) (wd_46 hw) e1 (g := (mkF m 5 #[.val (.ref oa)] [(.ref oa)])) rfl (hb hby d8_5) (by decide) (by decide)
  obtain ⟨b2, g2⟩ : ∃ z, z = h0.size := ⟨_, rfl⟩
  rw [← g2] at A2 D2 st2
  refine ownEnds.law st2 ?_
  have ne_oa_b2 : oa ≠ b2 := Nat.ne_of_lt (Nat.lt_of_lt_of_eq E_oa.lt g2.symm)
  have g_b2 : n0 ≤ b2 := Nat.le_trans Z0 (Nat.le_of_eq g2.symm)
  have sz_b2 : h0.size ≤ b2 := Nat.le_trans (Keep.refl h0 [oa]).1 (Nat.le_of_eq g2.symm)
  have Z2 : n0 ≤ h2.size := Nat.le_trans Z0 E2.1
  have O_2 : Old Z n0 h2 := Old.ext O0 E2
  have KK2 : Keep h0 h2 [oa] := (Keep.refl h0 [oa]).ext E2
  have F3 : Fld Z h2 b2 "java/util/HashMap" "loadFactor" "F" (.float (0 : UInt32)) := D2 (Or.inr (wd_59 hw)) (ty := .float) (by decide)
  show ownEnds _ _ _ _ (T2.setTop (mkF m 8 #[.val (.ref oa)] [(.ref b2), (.ref oa)]))
  refine ownEnds.law (fun t k => XS.dup X2.here hx rfl (hb hby d8_8) rfl rfl k) ?_
  show ownEnds _ _ _ _ (T2.setTop (mkF m 9 #[.val (.ref oa)] [(.ref b2), (.ref b2), (.ref oa)]))
  obtain ⟨v4, T4, L4, X4, hQ4, st4⟩ := ownCallC X2 hx hZ hown (y := (⟨"java/util/HashMap", "<init>", "()V"⟩ : MethodName)) rfl (a := b2) (as := []) (wd_47 hw) (wd_48 hw) (wd_46 hw) (wd_49 hw) (by decide) (rm9h l Z a0 hw b2  h2 n0 Z2 A2 g_b2 F3) e2 2 (by decide) (by decide) (by decide) (by decide) (g := (mkF m 9 #[.val (.ref oa)] [(.ref b2), (.ref b2), (.ref oa)])) rfl (by rw [hml]; rfl) (rest := [(.ref b2), (.ref oa)]) pd_0 rfl rfl (by show 2 * 0 + _ ≤ _; exact Nat.le_of_eq rfl) (hb hby d8_9)
  obtain ⟨rfl, Nq4, Kq4, Eq4⟩ := hQ4
  have N4 := Fr.app (Fr.nil n0) Nq4
  have KK4 : Keep h0 T4.heap [oa] := Keep.trans (KK2) Kq4 (allS (Or.inr sz_b2) all0)
  have Z4 : n0 ≤ T4.heap.size := Nat.le_trans Z2 Kq4.1
  have O_4 : Old Z n0 T4.heap := Old.keep O_2 Kq4 (allS g_b2 all0)
  refine ownEnds.law st4 ?_
  show ownEnds _ _ _ _ (T4.setTop (mkF m 12 #[.val (.ref oa)] [(.ref b2), (.ref oa)]))
  have f5 := (Exa.keep (Exa.ext E2 E_oa) Kq4)
  have f6 := (Fld.keep (Fld.ext E2 F_oa_generalEntities) Kq4 (ninS ne_oa_b2 nin0))
  obtain ⟨T7, h7, X7, e7, W7, st7⟩ := putF X4 hx hZ hown (host := "") (Or.inl (wd_60 hw)) Via.refl rfl f6 f5 (Or.inr ⟨(wd_61 hw), rfl, hnm⟩) (wd_38 hw) (ty := (.object "java/util/Map")) (by decide) rfl rfl (g := (mkF m 12 #[.val (.ref oa)] [(.ref b2), (.ref oa)])) rfl rfl (hb hby d8_12)
  refine ownEnds.law st7 ?_
  have N7 := Fr.snoc X7 N4 g_oa
  have KK7 : Keep h0 h7 [oa] := (KK4).wr W7 (Or.inl (List.mem_of_getElem? (i := 0) rfl))
  have Z7 : n0 ≤ h7.size := by rw [W7.size]; exact Z4
  have O_7 : Old Z n0 h7 := Old.wr O_4 W7 g_oa
  have Fw7 : Fld Z h7 oa "com/example/markup_reader/markupreader/reader/Declarations" "generalEntities" "Ljava/util/Map;" (.ref b2) := Fld.same W7 f6
  show ownEnds _ _ _ _ (T7.setTop (mkF m 15 #[.val (.ref oa)] []))
  refine ownEnds.law (fun t k => XS.aloadN X7.here hx rfl (hb hby d8_15) rfl rfl k) ?_
  show ownEnds _ _ _ _ (T7.setTop (mkF m 16 #[.val (.ref oa)] [(.ref oa)]))
  obtain ⟨T8, h8, X8, e8, E8, A8, D8, -, st8⟩ := newO X7 hx hZ hown (wd_44 hw) (wd_45 hw) (wd_46 hw) e7 (g := (mkF m 16 #[.val (.ref oa)] [(.ref oa)])) rfl (hb hby d8_16) (by decide) (by decide)
  obtain ⟨b8, g8⟩ : ∃ z, z = h7.size := ⟨_, rfl⟩
  rw [← g8] at A8 D8 st8
  refine ownEnds.law st8 ?_
  have f9 := (Exa.wr W7 f5)
  have ne_oa_b8 : oa ≠ b8 := Nat.ne_of_lt (Nat.lt_of_lt_of_eq f9.lt g8.symm)
  have f10 := (Exa.wr W7 Eq4)
  have ne_b2_b8 : b2 ≠ b8 := Nat.ne_of_lt (Nat.lt_of_lt_of_eq f10.lt g8.symm)
  have g_b8 : n0 ≤ b8 := Nat.le_trans Z7 (Nat.le_of_eq g8.symm)
  have sz_b8 : h0.size ≤ b8 := Nat.le_trans (KK7).1 (Nat.le_of_eq g8.symm)
  have Z8 : n0 ≤ h8.size := Nat.le_trans Z7 E8.1
  have O_8 : Old Z n0 h8 := Old.ext O_7 E8
  have KK8 : Keep h0 h8 [oa] := (KK7).ext E8
  have F11 : Fld Z h8 b8 "java/util/HashMap" "loadFactor" "F" (.float (0 : UInt32)) := D8 (Or.inr (wd_59 hw)) (ty := .float) (by decide)
  show ownEnds _ _ _ _ (T8.setTop (mkF m 19 #[.val (.ref oa)] [(.ref b8), (.ref oa)]))
  refine ownEnds.law (fun t k => XS.dup X8.here hx rfl (hb hby d8_19) rfl rfl k) ?_
  show ownEnds _ _ _ _ (T8.setTop (mkF m 20 #[.val (.ref oa)] [(.ref b8), (.ref b8), (.ref oa)]))
  obtain ⟨v12, T12, L12, X12, hQ12, st12⟩ := ownCallC X8 hx hZ hown (y := (⟨"java/util/HashMap", "<init>", "()V"⟩ : MethodName)) rfl (a := b8) (as := []) (wd_47 hw) (wd_48 hw) (wd_46 hw) (wd_49 hw) (by decide) (rm9h l Z a0 hw b8  h8 n0 Z8 A8 g_b8 F11) e8 2 (by decide) (by decide) (by decide) (by decide) (g := (mkF m 20 #[.val (.ref oa)] [(.ref b8), (.ref b8), (.ref oa)])) rfl (by rw [hml]; rfl) (rest := [(.ref b8), (.ref oa)]) pd_0 rfl rfl (by show 2 * 0 + _ ≤ _; exact Nat.le_of_eq rfl) (hb hby d8_20)
  obtain ⟨rfl, Nq12, Kq12, Eq12⟩ := hQ12
  have N12 := Fr.app N7 Nq12
  have KK12 : Keep h0 T12.heap [oa] := Keep.trans (KK8) Kq12 (allS (Or.inr sz_b8) all0)
  have Z12 : n0 ≤ T12.heap.size := Nat.le_trans Z8 Kq12.1
  have O_12 : Old Z n0 T12.heap := Old.keep O_8 Kq12 (allS g_b8 all0)
  refine ownEnds.law st12 ?_
  show ownEnds _ _ _ _ (T12.setTop (mkF m 23 #[.val (.ref oa)] [(.ref b8), (.ref oa)]))
  have f13 := (Exa.keep (Exa.ext E8 f9) Kq12)
  have f14 := (Fld.keep (Fld.ext E8 (Fld.other W7 (Fld.keep (Fld.ext E2 F_oa_parameterEntities) Kq4 (ninS ne_oa_b2 nin0)) (Or.inr (slot_ne (Or.inr (wd_63 hw)) (Or.inr (wd_61 hw)) (by decide) (t := (.object "java/util/Map")) (t' := (.object "java/util/Map")) (by decide) (by decide))))) Kq12 (ninS ne_oa_b8 nin0))
  obtain ⟨T15, h15, X15, e15, W15, st15⟩ := putF X12 hx hZ hown (host := "") (Or.inl (wd_62 hw)) Via.refl rfl f14 f13 (Or.inr ⟨(wd_63 hw), rfl, hnm⟩) (wd_38 hw) (ty := (.object "java/util/Map")) (by decide) rfl rfl (g := (mkF m 23 #[.val (.ref oa)] [(.ref b8), (.ref oa)])) rfl rfl (hb hby d8_23)
  refine ownEnds.law st15 ?_
  have N15 := Fr.snoc X15 N12 g_oa
  have KK15 : Keep h0 h15 [oa] := (KK12).wr W15 (Or.inl (List.mem_of_getElem? (i := 0) rfl))
  have Z15 : n0 ≤ h15.size := by rw [W15.size]; exact Z12
  have O_15 : Old Z n0 h15 := Old.wr O_12 W15 g_oa
  have Fw15 : Fld Z h15 oa "com/example/markup_reader/markupreader/reader/Declarations" "parameterEntities" "Ljava/util/Map;" (.ref b8) := Fld.same W15 f14
  show ownEnds _ _ _ _ (T15.setTop (mkF m 26 #[.val (.ref oa)] []))
  refine ownEnds.law (fun t k => XS.aloadN X15.here hx rfl (hb hby d8_26) rfl rfl k) ?_
  show ownEnds _ _ _ _ (T15.setTop (mkF m 27 #[.val (.ref oa)] [(.ref oa)]))
  obtain ⟨T16, h16, X16, e16, E16, A16, D16, -, st16⟩ := newO X15 hx hZ hown (wd_44 hw) (wd_45 hw) (wd_46 hw) e15 (g := (mkF m 27 #[.val (.ref oa)] [(.ref oa)])) rfl (hb hby d8_27) (by decide) (by decide)
  obtain ⟨b16, g16⟩ : ∃ z, z = h15.size := ⟨_, rfl⟩
  rw [← g16] at A16 D16 st16
  refine ownEnds.law st16 ?_
  have f17 := (Exa.wr W15 f13)
  have ne_oa_b16 : oa ≠ b16 := Nat.ne_of_lt (Nat.lt_of_lt_of_eq f17.lt g16.symm)
  have f18 := (Exa.wr W15 (Exa.keep (Exa.ext E8 f10) Kq12))
  have ne_b2_b16 : b2 ≠ b16 := Nat.ne_of_lt (Nat.lt_of_lt_of_eq f18.lt g16.symm)
  have f19 := (Exa.wr W15 Eq12)
  have ne_b8_b16 : b8 ≠ b16 := Nat.ne_of_lt (Nat.lt_of_lt_of_eq f19.lt g16.symm)
  have g_b16 : n0 ≤ b16 := Nat.le_trans Z15 (Nat.le_of_eq g16.symm)
  have sz_b16 : h0.size ≤ b16 := Nat.le_trans (KK15).1 (Nat.le_of_eq g16.symm)
  have Z16 : n0 ≤ h16.size := Nat.le_trans Z15 E16.1
  have O_16 : Old Z n0 h16 := Old.ext O_15 E16
  have KK16 : Keep h0 h16 [oa] := (KK15).ext E16
  have F20 : Fld Z h16 b16 "java/util/HashMap" "loadFactor" "F" (.float (0 : UInt32)) := D16 (Or.inr (wd_59 hw)) (ty := .float) (by decide)
  show ownEnds _ _ _ _ (T16.setTop (mkF m 30 #[.val (.ref oa)] [(.ref b16), (.ref oa)]))
  refine ownEnds.law (fun t k => XS.dup X16.here hx rfl (hb hby d8_30) rfl rfl k) ?_
  show ownEnds _ _ _ _ (T16.setTop (mkF m 31 #[.val (.ref oa)] [(.ref b16), (.ref b16), (.ref oa)]))
  obtain ⟨v21, T21, L21, X21, hQ21, st21⟩ := ownCallC X16 hx hZ hown (y := (⟨"java/util/HashMap", "<init>", "()V"⟩ : MethodName)) rfl (a := b16) (as := []) (wd_47 hw) (wd_48 hw) (wd_46 hw) (wd_49 hw) (by decide) (rm9h l Z a0 hw b16  h16 n0 Z16 A16 g_b16 F20) e16 2 (by decide) (by decide) (by decide) (by decide) (g := (mkF m 31 #[.val (.ref oa)] [(.ref b16), (.ref b16), (.ref oa)])) rfl (by rw [hml]; rfl) (rest := [(.ref b16), (.ref oa)]) pd_0 rfl rfl (by show 2 * 0 + _ ≤ _; exact Nat.le_of_eq rfl) (hb hby d8_31)
  obtain ⟨rfl, Nq21, Kq21, Eq21⟩ := hQ21
  have N21 := Fr.app N15 Nq21
  have KK21 : Keep h0 T21.heap [oa] := Keep.trans (KK16) Kq21 (allS (Or.inr sz_b16) all0)
  have Z21 : n0 ≤ T21.heap.size := Nat.le_trans Z16 Kq21.1
  have O_21 : Old Z n0 T21.heap := Old.keep O_16 Kq21 (allS g_b16 all0)
  refine ownEnds.law st21 ?_
  show ownEnds _ _ _ _ (T21.setTop (mkF m 34 #[.val (.ref oa)] [(.ref b16), (.ref oa)]))
  have f22 := (Exa.keep (Exa.ext E16 f17) Kq21)
  have f23 := (Fld.keep (Fld.ext E16 (Fld.other W15 (Fld.keep (Fld.ext E8 (Fld.other W7 (Fld.keep (Fld.ext E2 F_oa_elementTypes) Kq4 (ninS ne_oa_b2 nin0)) (Or.inr (slot_ne (Or.inr (wd_65 hw)) (Or.inr (wd_61 hw)) (by decide) (t := (.object "java/util/Map")) (t' := (.object "java/util/Map")) (by decide) (by decide))))) Kq12 (ninS ne_oa_b8 nin0)) (Or.inr (slot_ne (Or.inr (wd_65 hw)) (Or.inr (wd_63 hw)) (by decide) (t := (.object "java/util/Map")) (t' := (.object "java/util/Map")) (by decide) (by decide))))) Kq21 (ninS ne_oa_b16 nin0))
  obtain ⟨T24, h24, X24, e24, W24, st24⟩ := putF X21 hx hZ hown (host := "") (Or.inl (wd_64 hw)) Via.refl rfl f23 f22 (Or.inr ⟨(wd_65 hw), rfl, hnm⟩) (wd_38 hw) (ty := (.object "java/util/Map")) (by decide) rfl rfl (g := (mkF m 34 #[.val (.ref oa)] [(.ref b16), (.ref oa)])) rfl rfl (hb hby d8_34)
  refine ownEnds.law st24 ?_
  have N24 := Fr.snoc X24 N21 g_oa
  have KK24 : Keep h0 h24 [oa] := (KK21).wr W24 (Or.inl (List.mem_of_getElem? (i := 0) rfl))
  have Z24 : n0 ≤ h24.size := by rw [W24.size]; exact Z21
  have O_24 : Old Z n0 h24 := Old.wr O_21 W24 g_oa
  have Fw24 : Fld Z h24 oa "com/example/markup_reader/markupreader/reader/Declarations" "elementTypes" "Ljava/util/Map;" (.ref b16) := Fld.same W24 f23
  show ownEnds _ _ _ _ (T24.setTop (mkF m 37 #[.val (.ref oa)] []))
  refine ownEnds.law (fun t k => XS.aloadN X24.here hx rfl (hb hby d8_37) rfl rfl k) ?_
  show ownEnds _ _ _ _ (T24.setTop (mkF m 38 #[.val (.ref oa)] [(.ref oa)]))
  obtain ⟨T25, h25, X25, e25, E25, A25, D25, -, st25⟩ := newO X24 hx hZ hown (wd_66 hw) (wd_67 hw) (wd_68 hw) e24 (g := (mkF m 38 #[.val (.ref oa)] [(.ref oa)])) rfl (hb hby d8_38) (by decide) (by decide)
  obtain ⟨b25, g25⟩ : ∃ z, z = h24.size := ⟨_, rfl⟩
  rw [← g25] at A25 D25 st25
  refine ownEnds.law st25 ?_
  have f26 := (Exa.wr W24 f22)
  have ne_oa_b25 : oa ≠ b25 := Nat.ne_of_lt (Nat.lt_of_lt_of_eq f26.lt g25.symm)
  have f27 := (Exa.wr W24 (Exa.keep (Exa.ext E16 f18) Kq21))
  have ne_b2_b25 : b2 ≠ b25 := Nat.ne_of_lt (Nat.lt_of_lt_of_eq f27.lt g25.symm)
  have f28 := (Exa.wr W24 (Exa.keep (Exa.ext E16 f19) Kq21))
  have ne_b8_b25 : b8 ≠ b25 := Nat.ne_of_lt (Nat.lt_of_lt_of_eq f28.lt g25.symm)
  have f29 := (Exa.wr W24 Eq21)
  have ne_b16_b25 : b16 ≠ b25 := Nat.ne_of_lt (Nat.lt_of_lt_of_eq f29.lt g25.symm)
  have g_b25 : n0 ≤ b25 := Nat.le_trans Z24 (Nat.le_of_eq g25.symm)
  have sz_b25 : h0.size ≤ b25 := Nat.le_trans (KK24).1 (Nat.le_of_eq g25.symm)
  have Z25 : n0 ≤ h25.size := Nat.le_trans Z24 E25.1
  have O_25 : Old Z n0 h25 := Old.ext O_24 E25
  have KK25 : Keep h0 h25 [oa] := (KK24).ext E25
  have F30 : Fld Z h25 b25 "java/util/HashMap" "loadFactor" "F" (.float (0 : UInt32)) := D25 (Or.inr (wd_76 hw)) (ty := .float) (by decide)
  have F31 : Fld Z h25 b25 "java/util/LinkedHashMap" "putMode" "I" (.int (0 : Int32)) := D25 (Or.inl (wd_78 hw)) (ty := .int) (by decide)
  have F32 : Fld Z h25 b25 "java/util/LinkedHashMap" "accessOrder" "Z" (.int (0 : Int32)) := D25 (Or.inr (wd_80 hw)) (ty := .boolean) (by decide)
  show ownEnds _ _ _ _ (T25.setTop (mkF m 41 #[.val (.ref oa)] [(.ref b25), (.ref oa)]))
  refine ownEnds.law (fun t k => XS.dup X25.here hx rfl (hb hby d8_41) rfl rfl k) ?_
  show ownEnds _ _ _ _ (T25.setTop (mkF m 42 #[.val (.ref oa)] [(.ref b25), (.ref b25), (.ref oa)]))
  obtain ⟨v33, T33, L33, X33, hQ33, st33⟩ := ownCallC X25 hx hZ hown (y := (⟨"java/util/LinkedHashMap", "<init>", "()V"⟩ : MethodName)) rfl (a := b25) (as := []) (wd_69 hw) (wd_70 hw) (wd_68 hw) (wd_71 hw) (by decide) (rm11 l Z a0 hw b25  h25 n0 Z25 A25 g_b25 F30 F31 F32) e25 2 (by decide) (by decide) (by decide) (by decide) (g := (mkF m 42 #[.val (.ref oa)] [(.ref b25), (.ref b25), (.ref oa)])) rfl (by rw [hml]; rfl) (rest := [(.ref b25), (.ref oa)]) pd_0 rfl rfl (by show 2 * 0 + _ ≤ _; exact Nat.le_of_eq rfl) (hb hby d8_42)
  obtain ⟨rfl, Nq33, Kq33, Eq33⟩ := hQ33
  have N33 := Fr.app N24 Nq33
  have KK33 : Keep h0 T33.heap [oa] := Keep.trans (KK25) Kq33 (allS (Or.inr sz_b25) all0)
  have Z33 : n0 ≤ T33.heap.size := Nat.le_trans Z25 Kq33.1
  have O_33 : Old Z n0 T33.heap := Old.keep O_25 Kq33 (allS g_b25 all0)
  refine ownEnds.law st33 ?_
  show ownEnds _ _ _ _ (T33.setTop (mkF m 45 #[.val (.ref oa)] [(.ref b25), (.ref oa)]))
  have f34 := (Exa.keep (Exa.ext E25 f26) Kq33)
  have f35 := (Fld.keep (Fld.ext E25 (Fld.other W24 (Fld.keep (Fld.ext E16 (Fld.other W15 (Fld.keep (Fld.ext E8 (Fld.other W7 (Fld.keep (Fld.ext E2 F_oa_notations) Kq4 (ninS ne_oa_b2 nin0)) (Or.inr (slot_ne (Or.inr (wd_82 hw)) (Or.inr (wd_61 hw)) (by decide) (t := (.object "java/util/Map")) (t' := (.object "java/util/Map")) (by decide) (by decide))))) Kq12 (ninS ne_oa_b8 nin0)) (Or.inr (slot_ne (Or.inr (wd_82 hw)) (Or.inr (wd_63 hw)) (by decide) (t := (.object "java/util/Map")) (t' := (.object "java/util/Map")) (by decide) (by decide))))) Kq21 (ninS ne_oa_b16 nin0)) (Or.inr (slot_ne (Or.inr (wd_82 hw)) (Or.inr (wd_65 hw)) (by decide) (t := (.object "java/util/Map")) (t' := (.object "java/util/Map")) (by decide) (by decide))))) Kq33 (ninS ne_oa_b25 nin0))
  obtain ⟨T36, h36, X36, e36, W36, st36⟩ := putF X33 hx hZ hown (host := "") (Or.inl (wd_81 hw)) Via.refl rfl f35 f34 (Or.inr ⟨(wd_82 hw), rfl, hnm⟩) (wd_38 hw) (ty := (.object "java/util/Map")) (by decide) rfl rfl (g := (mkF m 45 #[.val (.ref oa)] [(.ref b25), (.ref oa)])) rfl rfl (hb hby d8_45)
  refine ownEnds.law st36 ?_
  have N36 := Fr.snoc X36 N33 g_oa
  have KK36 : Keep h0 h36 [oa] := (KK33).wr W36 (Or.inl (List.mem_of_getElem? (i := 0) rfl))
  have Z36 : n0 ≤ h36.size := by rw [W36.size]; exact Z33
  have O_36 : Old Z n0 h36 := Old.wr O_33 W36 g_oa
  have Fw36 : Fld Z h36 oa "com/example/markup_reader/markupreader/reader/Declarations" "notations" "Ljava/util/Map;" (.ref b25) := Fld.same W36 f35
  show ownEnds _ _ _ _ (T36.setTop (mkF m 48 #[.val (.ref oa)] []))
  refine ownEnds.law (fun t k => XS.aloadN X36.here hx rfl (hb hby d8_48) rfl rfl k) ?_
  show ownEnds _ _ _ _ (T36.setTop (mkF m 49 #[.val (.ref oa)] [(.ref oa)]))
  obtain ⟨T37, h37, X37, e37, E37, A37, D37, -, st37⟩ := newO X36 hx hZ hown (wd_83 hw) (wd_84 hw) (wd_85 hw) e36 (g := (mkF m 49 #[.val (.ref oa)] [(.ref oa)])) rfl (hb hby d8_49) (by decide) (by decide)
  obtain ⟨b37, g37⟩ : ∃ z, z = h36.size := ⟨_, rfl⟩
  rw [← g37] at A37 D37 st37
  refine ownEnds.law st37 ?_
  have f38 := (Exa.wr W36 f34)
  have ne_oa_b37 : oa ≠ b37 := Nat.ne_of_lt (Nat.lt_of_lt_of_eq f38.lt g37.symm)
  have f39 := (Exa.wr W36 (Exa.keep (Exa.ext E25 f27) Kq33))
  have ne_b2_b37 : b2 ≠ b37 := Nat.ne_of_lt (Nat.lt_of_lt_of_eq f39.lt g37.symm)
  have f40 := (Exa.wr W36 (Exa.keep (Exa.ext E25 f28) Kq33))
  have ne_b8_b37 : b8 ≠ b37 := Nat.ne_of_lt (Nat.lt_of_lt_of_eq f40.lt g37.symm)
  have f41 := (Exa.wr W36 (Exa.keep (Exa.ext E25 f29) Kq33))
  have ne_b16_b37 : b16 ≠ b37 := Nat.ne_of_lt (Nat.lt_of_lt_of_eq f41.lt g37.symm)
  have f42 := (Exa.wr W36 Eq33)
  have ne_b25_b37 : b25 ≠ b37 := Nat.ne_of_lt (Nat.lt_of_lt_of_eq f42.lt g37.symm)
  have g_b37 : n0 ≤ b37 := Nat.le_trans Z36 (Nat.le_of_eq g37.symm)
  have sz_b37 : h0.size ≤ b37 := Nat.le_trans (KK36).1 (Nat.le_of_eq g37.symm)
  have Z37 : n0 ≤ h37.size := Nat.le_trans Z36 E37.1
  have O_37 : Old Z n0 h37 := Old.ext O_36 E37
  have KK37 : Keep h0 h37 [oa] := (KK36).ext E37
  have F43 : Fld Z h37 b37 "java/util/AbstractList" "modCount" "I" (.int (0 : Int32)) := D37 (Or.inl (wd_103 hw)) (ty := .int) (by decide)
  have F44 : Fld Z h37 b37 "java/util/ArrayList" "elementData" "[Ljava/lang/Object;" .null := D37 (Or.inl (wd_106 hw)) (ty := (.array (.object "java/lang/Object"))) (by decide)
  show ownEnds _ _ _ _ (T37.setTop (mkF m 52 #[.val (.ref oa)] [(.ref b37), (.ref oa)]))
  refine ownEnds.law (fun t k => XS.dup X37.here hx rfl (hb hby d8_52) rfl rfl k) ?_
  show ownEnds _ _ _ _ (T37.setTop (mkF m 53 #[.val (.ref oa)] [(.ref b37), (.ref b37), (.ref oa)]))
  obtain ⟨v45, T45, L45, X45, hQ45, st45⟩ := ownCallC X37 hx hZ hown (y := (⟨"java/util/ArrayList", "<init>", "()V"⟩ : MethodName)) rfl (a := b37) (as := []) (wd_86 hw) (wd_87 hw) (wd_85 hw) (wd_88 hw) (by decide) (rm12 l Z a0 hw b37 aD h37 n0 Z37 A37 g_b37 F43 F44 O_37 SD0) e37 2 (by decide) (by decide) (by decide) (by decide) (g := (mkF m 53 #[.val (.ref oa)] [(.ref b37), (.ref b37), (.ref oa)])) rfl (by rw [hml]; rfl) (rest := [(.ref b37), (.ref oa)]) pd_0 rfl rfl (by show 2 * 0 + _ ≤ _; exact Nat.le_of_eq rfl) (hb hby d8_53)
  obtain ⟨rfl, Nq45, Kq45, Eq45⟩ := hQ45
  have N45 := Fr.app N36 Nq45
  have KK45 : Keep h0 T45.heap [oa] := Keep.trans (KK37) Kq45 (allS (Or.inr sz_b37) all0)
  have Z45 : n0 ≤ T45.heap.size := Nat.le_trans Z37 Kq45.1
  have O_45 : Old Z n0 T45.heap := Old.keep O_37 Kq45 (allS g_b37 all0)
  refine ownEnds.law st45 ?_
  show ownEnds _ _ _ _ (T45.setTop (mkF m 56 #[.val (.ref oa)] [(.ref b37), (.ref oa)]))
  have f46 := (Exa.keep (Exa.ext E37 f38) Kq45)
  have f47 := (Fld.keep (Fld.ext E37 (Fld.other W36 (Fld.keep (Fld.ext E25 (Fld.other W24 (Fld.keep (Fld.ext E16 (Fld.other W15 (Fld.keep (Fld.ext E8 (Fld.other W7 (Fld.keep (Fld.ext E2 F_oa_unparsedEntities) Kq4 (ninS ne_oa_b2 nin0)) (Or.inr (slot_ne (Or.inr (wd_108 hw)) (Or.inr (wd_61 hw)) (by decide) (t := (.object "java/util/List")) (t' := (.object "java/util/Map")) (by decide) (by decide))))) Kq12 (ninS ne_oa_b8 nin0)) (Or.inr (slot_ne (Or.inr (wd_108 hw)) (Or.inr (wd_63 hw)) (by decide) (t := (.object "java/util/List")) (t' := (.object "java/util/Map")) (by decide) (by decide))))) Kq21 (ninS ne_oa_b16 nin0)) (Or.inr (slot_ne (Or.inr (wd_108 hw)) (Or.inr (wd_65 hw)) (by decide) (t := (.object "java/util/List")) (t' := (.object "java/util/Map")) (by decide) (by decide))))) Kq33 (ninS ne_oa_b25 nin0)) (Or.inr (slot_ne (Or.inr (wd_108 hw)) (Or.inr (wd_82 hw)) (by decide) (t := (.object "java/util/List")) (t' := (.object "java/util/Map")) (by decide) (by decide))))) Kq45 (ninS ne_oa_b37 nin0))
  obtain ⟨T48, h48, X48, e48, W48, st48⟩ := putF X45 hx hZ hown (host := "") (Or.inl (wd_107 hw)) Via.refl rfl f47 f46 (Or.inr ⟨(wd_108 hw), rfl, hnm⟩) (wd_38 hw) (ty := (.object "java/util/List")) (by decide) rfl rfl (g := (mkF m 56 #[.val (.ref oa)] [(.ref b37), (.ref oa)])) rfl rfl (hb hby d8_56)
  refine ownEnds.law st48 ?_
  have N48 := Fr.snoc X48 N45 g_oa
  have KK48 : Keep h0 h48 [oa] := (KK45).wr W48 (Or.inl (List.mem_of_getElem? (i := 0) rfl))
  have Z48 : n0 ≤ h48.size := by rw [W48.size]; exact Z45
  have O_48 : Old Z n0 h48 := Old.wr O_45 W48 g_oa
  have Fw48 : Fld Z h48 oa "com/example/markup_reader/markupreader/reader/Declarations" "unparsedEntities" "Ljava/util/List;" (.ref b37) := Fld.same W48 f47
  show ownEnds _ _ _ _ (T48.setTop (mkF m 59 #[.val (.ref oa)] []))
  refine ownRetV X48 hlk hx hret (hb hby d8_59) (by decide) (by decide) ?_
  have f49 := (Exa.wr W48 f46)
  have f50 := (Fld.other W48 (Fld.keep (Fld.ext E37 (Fld.other W36 (Fld.keep (Fld.ext E25 Fw24) Kq33 (ninS ne_oa_b25 nin0)) (Or.inr (slot_ne (Or.inr (wd_65 hw)) (Or.inr (wd_82 hw)) (by decide) (t := (.object "java/util/Map")) (t' := (.object "java/util/Map")) (by decide) (by decide))))) Kq45 (ninS ne_oa_b37 nin0)) (Or.inr (slot_ne (Or.inr (wd_65 hw)) (Or.inr (wd_108 hw)) (by decide) (t := (.object "java/util/Map")) (t' := (.object "java/util/List")) (by decide) (by decide))))
  rw [e48]
  exact ⟨rfl, N48, KK48, f49, _, f50⟩
set_option maxRecDepth 65536 in
set_option maxHeartbeats 40000000 in
theorem rm23n (l : Launch) (Z : State) (a0 : Array Value) (hw : ∀ d ∈ tables_1, d.before a0 Z = true) (oa : Addr) (sb : Addr)  (h0 : Heap) (n0 : Nat) (Z0 : n0 ≤ h0.size) (E_oa : Exa Z h0 oa "com/example/markup_reader/markupreader/reader/Entity$ExternalId") (g_oa : n0 ≤ oa) (F_oa_publicId : Fld Z h0 oa "com/example/markup_reader/markupreader/reader/Entity$ExternalId" "publicId" "Ljava/lang/String;" .null) (F_oa_systemId : Fld Z h0 oa "com/example/markup_reader/markupreader/reader/Entity$ExternalId" "systemId" "Ljava/lang/String;" .null) :
    ownMet l Z (⟨"com/example/markup_reader/markupreader/reader/Entity$ExternalId", "<init>", "(Ljava/lang/String;Ljava/lang/String;)V"⟩ : MethodName) prog_89_method_1_code 3 none [] ({ frames := 2, cells := 0, slots := 0, locals := 24 } : Room) #[(.ref oa), .null, (.ref sb)] h0 (fun v h L => v = none ∧ Fr n0 L ∧ Keep h0 h [oa] ∧ Exa Z h oa "com/example/markup_reader/markupreader/reader/Entity$ExternalId" ∧ Fld Z h oa "com/example/markup_reader/markupreader/reader/Entity$ExternalId" "publicId" "Ljava/lang/String;" .null ∧ Fld Z h oa "com/example/markup_reader/markupreader/reader/Entity$ExternalId" "systemId" "Ljava/lang/String;" (.ref sb)) := by
  refine ownMet.of (plainFor_of_name pn_23) ?_
  intro p e s m below meth c T0 hx hby hml hZ hown hnm hret hlk X0 e0
  refine ownEnds.cast (ef_rm23n m oa sb) ?_
  show ownEnds _ _ _ _ (T0.setTop (mkF m 0 #[.val (.ref oa), .val .null, .val (.ref sb)] []))
  refine ownEnds.law (fun t k => XS.aloadN X0.here hx rfl (hb hby d23_0) rfl rfl k) ?_
  show ownEnds _ _ _ _ (T0.setTop (mkF m 1 #[.val (.ref oa), .val .null, .val (.ref sb)] [(.ref oa)]))
  obtain ⟨v1, T1, L1, X1, hQ1, st1⟩ := ownCallC X0 hx hZ hown (y := (⟨"java/lang/Record", "<init>", "()V"⟩ : MethodName)) rfl (a := oa) (as := []) (wd_185 hw) (wd_186 hw) (wd_188 hw) (wd_189 hw) (by decide) (rm24 l Z a0 hw oa  h0 n0 Z0 ) e0 0 (by decide) (by decide) (by decide) (by decide) (g := (mkF m 1 #[.val (.ref oa), .val .null, .val (.ref sb)] [(.ref oa)])) rfl (by rw [hml]; rfl) (rest := []) pd_0 rfl rfl (by show 2 * 0 + _ ≤ _; exact Nat.le_of_eq rfl) (hb hby d23_1)
  obtain ⟨rfl, rfl, e1⟩ := hQ1
  rw [List.append_nil] at X1
  refine ownEnds.law st1 ?_
  show ownEnds _ _ _ _ (T1.setTop (mkF m 4 #[.val (.ref oa), .val .null, .val (.ref sb)] []))
  refine ownEnds.law (fun t k => XS.aloadN X1.here hx rfl (hb hby d23_4) rfl rfl (XS.aloadN X1.here hx rfl (hb hby d23_5) rfl rfl k)) ?_
  show ownEnds _ _ _ _ (T1.setTop (mkF m 6 #[.val (.ref oa), .val .null, .val (.ref sb)] [.null, (.ref oa)]))
  obtain ⟨T2, h2, X2, e2, W2, st2⟩ := putF X1 hx hZ hown (host := "") (Or.inl (wd_191 hw)) Via.refl e1 F_oa_publicId E_oa (Or.inr ⟨(wd_192 hw), rfl, hnm⟩) (wd_180 hw) (ty := (.object "java/lang/String")) (by decide) rfl rfl (g := (mkF m 6 #[.val (.ref oa), .val .null, .val (.ref sb)] [.null, (.ref oa)])) rfl rfl (hb hby d23_6)
  refine ownEnds.law st2 ?_
  have N2 := Fr.snoc X2 (Fr.nil n0) g_oa
  have KK2 : Keep h0 h2 [oa] := (Keep.refl h0 [oa]).wr W2 (Or.inl (List.mem_of_getElem? (i := 0) rfl))
  have Z2 : n0 ≤ h2.size := by rw [W2.size]; exact Z0
  have Fw2 : Fld Z h2 oa "com/example/markup_reader/markupreader/reader/Entity$ExternalId" "publicId" "Ljava/lang/String;" .null := Fld.same W2 F_oa_publicId
  show ownEnds _ _ _ _ (T2.setTop (mkF m 9 #[.val (.ref oa), .val .null, .val (.ref sb)] []))
  refine ownEnds.law (fun t k => XS.aloadN X2.here hx rfl (hb hby d23_9) rfl rfl (XS.aloadN X2.here hx rfl (hb hby d23_10) rfl rfl k)) ?_
  show ownEnds _ _ _ _ (T2.setTop (mkF m 11 #[.val (.ref oa), .val .null, .val (.ref sb)] [(.ref sb), (.ref oa)]))
  have f3 := (Exa.wr W2 E_oa)
  have f4 := (Fld.other W2 F_oa_systemId (Or.inr (slot_ne (Or.inr (wd_194 hw)) (Or.inr (wd_192 hw)) (by decide) (t := (.object "java/lang/String")) (t' := (.object "java/lang/String")) (by decide) (by decide))))
  obtain ⟨T5, h5, X5, e5, W5, st5⟩ := putF X2 hx hZ hown (host := "") (Or.inl (wd_193 hw)) Via.refl e2 f4 f3 (Or.inr ⟨(wd_194 hw), rfl, hnm⟩) (wd_180 hw) (ty := (.object "java/lang/String")) (by decide) rfl rfl (g := (mkF m 11 #[.val (.ref oa), .val .null, .val (.ref sb)] [(.ref sb), (.ref oa)])) rfl rfl (hb hby d23_11)
  refine ownEnds.law st5 ?_
  have N5 := Fr.snoc X5 N2 g_oa
  have KK5 : Keep h0 h5 [oa] := (KK2).wr W5 (Or.inl (List.mem_of_getElem? (i := 0) rfl))
  have Z5 : n0 ≤ h5.size := by rw [W5.size]; exact Z2
  have Fw5 : Fld Z h5 oa "com/example/markup_reader/markupreader/reader/Entity$ExternalId" "systemId" "Ljava/lang/String;" (.ref sb) := Fld.same W5 f4
  show ownEnds _ _ _ _ (T5.setTop (mkF m 14 #[.val (.ref oa), .val .null, .val (.ref sb)] []))
  refine ownRetV X5 hlk hx hret (hb hby d23_14) (by decide) (by decide) ?_
  have f6 := (Exa.wr W5 f3)
  have f7 := (Fld.other W5 Fw2 (Or.inr (slot_ne (Or.inr (wd_192 hw)) (Or.inr (wd_194 hw)) (by decide) (t := (.object "java/lang/String")) (t' := (.object "java/lang/String")) (by decide) (by decide))))
  rw [e5]
  exact ⟨rfl, N5, KK5, f6, f7, Fw5⟩
set_option maxRecDepth 65536 in
set_option maxHeartbeats 40000000 in
theorem rm23r (l : Launch) (Z : State) (a0 : Array Value) (hw : ∀ d ∈ tables_1, d.before a0 Z = true) (oa : Addr) (pb : Addr) (sb : Addr)  (h0 : Heap) (n0 : Nat) (Z0 : n0 ≤ h0.size) (E_oa : Exa Z h0 oa "com/example/markup_reader/markupreader/reader/Entity$ExternalId") (g_oa : n0 ≤ oa) (F_oa_publicId : Fld Z h0 oa "com/example/markup_reader/markupreader/reader/Entity$ExternalId" "publicId" "Ljava/lang/String;" .null) (F_oa_systemId : Fld Z h0 oa "com/example/markup_reader/markupreader/reader/Entity$ExternalId" "systemId" "Ljava/lang/String;" .null) :
    ownMet l Z (⟨"com/example/markup_reader/markupreader/reader/Entity$ExternalId", "<init>", "(Ljava/lang/String;Ljava/lang/String;)V"⟩ : MethodName) prog_89_method_1_code 3 none [] ({ frames := 2, cells := 0, slots := 0, locals := 24 } : Room) #[(.ref oa), (.ref pb), (.ref sb)] h0 (fun v h L => v = none ∧ Fr n0 L ∧ Keep h0 h [oa] ∧ Exa Z h oa "com/example/markup_reader/markupreader/reader/Entity$ExternalId" ∧ Fld Z h oa "com/example/markup_reader/markupreader/reader/Entity$ExternalId" "publicId" "Ljava/lang/String;" (.ref pb) ∧ Fld Z h oa "com/example/markup_reader/markupreader/reader/Entity$ExternalId" "systemId" "Ljava/lang/String;" (.ref sb)) := by
  refine ownMet.of (plainFor_of_name pn_23) ?_
  intro p e s m below meth c T0 hx hby hml hZ hown hnm hret hlk X0 e0
  refine ownEnds.cast (ef_rm23r m oa pb sb) ?_
  show ownEnds _ _ _ _ (T0.setTop (mkF m 0 #[.val (.ref oa), .val (.ref pb), .val (.ref sb)] []))
  refine ownEnds.law (fun t k => XS.aloadN X0.here hx rfl (hb hby d23_0) rfl rfl k) ?_
  show ownEnds _ _ _ _ (T0.setTop (mkF m 1 #[.val (.ref oa), .val (.ref pb), .val (.ref sb)] [(.ref oa)]))
  obtain ⟨v1, T1, L1, X1, hQ1, st1⟩ := ownCallC X0 hx hZ hown (y := (⟨"java/lang/Record", "<init>", "()V"⟩ : MethodName)) rfl (a := oa) (as := []) (wd_185 hw) (wd_186 hw) (wd_188 hw) (wd_189 hw) (by decide) (rm24 l Z a0 hw oa  h0 n0 Z0 ) e0 0 (by decide) (by decide) (by decide) (by decide) (g := (mkF m 1 #[.val (.ref oa), .val (.ref pb), .val (.ref sb)] [(.ref oa)])) rfl (by rw [hml]; rfl) (rest := []) pd_0 rfl rfl (by show 2 * 0 + _ ≤ _; exact Nat.le_of_eq rfl) (hb hby d23_1)
  obtain ⟨rfl, rfl, e1⟩ := hQ1
  rw [List.append_nil] at X1
  refine ownEnds.law st1 ?_
  show ownEnds _ _ _ _ (T1.setTop (mkF m 4 #[.val (.ref oa), .val (.ref pb), .val (.ref sb)] []))
  refine ownEnds.law (fun t k => XS.aloadN X1.here hx rfl (hb hby d23_4) rfl rfl (XS.aloadN X1.here hx rfl (hb hby d23_5) rfl rfl k)) ?_
  show ownEnds _ _ _ _ (T1.setTop (mkF m 6 #[.val (.ref oa), .val (.ref pb), .val (.ref sb)] [(.ref pb), (.ref oa)]))
  obtain ⟨T2, h2, X2, e2, W2, st2⟩ := putF X1 hx hZ hown (host := "") (Or.inl (wd_191 hw)) Via.refl e1 F_oa_publicId E_oa (Or.inr ⟨(wd_192 hw), rfl, hnm⟩) (wd_180 hw) (ty := (.object "java/lang/String")) (by decide) rfl rfl (g := (mkF m 6 #[.val (.ref oa), .val (.ref pb), .val (.ref sb)] [(.ref pb), (.ref oa)])) rfl rfl (hb hby d23_6)
  refine ownEnds.law st2 ?_
  have N2 := Fr.snoc X2 (Fr.nil n0) g_oa
  have KK2 : Keep h0 h2 [oa] := (Keep.refl h0 [oa]).wr W2 (Or.inl (List.mem_of_getElem? (i := 0) rfl))
  have Z2 : n0 ≤ h2.size := by rw [W2.size]; exact Z0
  have Fw2 : Fld Z h2 oa "com/example/markup_reader/markupreader/reader/Entity$ExternalId" "publicId" "Ljava/lang/String;" (.ref pb) := Fld.same W2 F_oa_publicId
  show ownEnds _ _ _ _ (T2.setTop (mkF m 9 #[.val (.ref oa), .val (.ref pb), .val (.ref sb)] []))
  refine ownEnds.law (fun t k => XS.aloadN X2.here hx rfl (hb hby d23_9) rfl rfl (XS.aloadN X2.here hx rfl (hb hby d23_10) rfl rfl k)) ?_
  show ownEnds _ _ _ _ (T2.setTop (mkF m 11 #[.val (.ref oa), .val (.ref pb), .val (.ref sb)] [(.ref sb), (.ref oa)]))
  have f3 := (Exa.wr W2 E_oa)
  have f4 := (Fld.other W2 F_oa_systemId (Or.inr (slot_ne (Or.inr (wd_194 hw)) (Or.inr (wd_192 hw)) (by decide) (t := (.object "java/lang/String")) (t' := (.object "java/lang/String")) (by decide) (by decide))))
  obtain ⟨T5, h5, X5, e5, W5, st5⟩ := putF X2 hx hZ hown (host := "") (Or.inl (wd_193 hw)) Via.refl e2 f4 f3 (Or.inr ⟨(wd_194 hw), rfl, hnm⟩) (wd_180 hw) (ty := (.object "java/lang/String")) (by decide) rfl rfl (g := (mkF m 11 #[.val (.ref oa), .val (.ref pb), .val (.ref sb)] [(.ref sb), (.ref oa)])) rfl rfl (hb hby d23_11)
  refine ownEnds.law st5 ?_
  have N5 := Fr.snoc X5 N2 g_oa
  have KK5 : Keep h0 h5 [oa] := (KK2).wr W5 (Or.inl (List.mem_of_getElem? (i := 0) rfl))
  have Z5 : n0 ≤ h5.size := by rw [W5.size]; exact Z2
  have Fw5 : Fld Z h5 oa "com/example/markup_reader/markupreader/reader/Entity$ExternalId" "systemId" "Ljava/lang/String;" (.ref sb) := Fld.same W5 f4
  show ownEnds _ _ _ _ (T5.setTop (mkF m 14 #[.val (.ref oa), .val (.ref pb), .val (.ref sb)] []))
  refine ownRetV X5 hlk hx hret (hb hby d23_14) (by decide) (by decide) ?_
  have f6 := (Exa.wr W5 f3)
  have f7 := (Fld.other W5 Fw2 (Or.inr (slot_ne (Or.inr (wd_192 hw)) (Or.inr (wd_194 hw)) (by decide) (t := (.object "java/lang/String")) (t' := (.object "java/lang/String")) (by decide) (by decide))))
  rw [e5]
  exact ⟨rfl, N5, KK5, f6, f7, Fw5⟩
set_option maxRecDepth 65536 in
set_option maxHeartbeats 40000000 in
theorem rm17 (l : Launch) (Z : State) (a0 : Array Value) (hw : ∀ d ∈ tables_1, d.before a0 Z = true) (oa : Addr) (fu fs fp : Int32) (fe : Value) (h0 : Heap) (n0 : Nat) (Z0 : n0 ≤ h0.size) (D0 : DT Z h0 oa fu fs fe fp) (g_oa : n0 ≤ oa) :
    ownMet l Z (⟨"com/example/markup_reader/markupreader/reader/Dtd", "parameterReferenced", "()V"⟩ : MethodName) prog_77_method_10_code 1 none [] ({ frames := 0, cells := 0, slots := 0, locals := 0 } : Room) #[(.ref oa)] h0 (fun v h L => v = none ∧ Fr n0 L ∧ Keep h0 h [oa] ∧ DT Z h oa fu fs fe (1 : Int32)) := by
  refine ownMet.of (plainFor_of_name pn_17) ?_
  intro p e s m below meth c T0 hx hby hml hZ hown hnm hret hlk X0 e0
  refine ownEnds.cast (ef_rm17 m oa) ?_
  obtain ⟨E_oa, h_fe, F1, F2, F3, F4, fk, fr, fd, F5, F6, F7⟩ := id D0
  show ownEnds _ _ _ _ (T0.setTop (mkF m 0 #[.val (.ref oa)] []))
  refine ownEnds.law (fun t k => XS.aloadN X0.here hx rfl (hb hby d17_0) rfl rfl (XS.iconst X0.here hx rfl (hb hby d17_1) k)) ?_
  show ownEnds _ _ _ _ (T0.setTop (mkF m 2 #[.val (.ref oa)] [(.int (1 : Int32)), (.ref oa)]))
  obtain ⟨T1, h1, X1, e1, W1, st1⟩ := putFN X0 hx hZ hown (wd_143 hw) Via.refl e0 F4 E_oa (Or.inl (wd_144 hw)) (wd_31 hw) (ty := .boolean) (v' := (.int (1 : Int32))) (by decide) rfl rfl (g := (mkF m 2 #[.val (.ref oa)] [(.int (1 : Int32)), (.ref oa)])) rfl rfl (hb hby d17_2)
  refine ownEnds.law st1 ?_
  have N1 := Fr.snoc X1 (Fr.nil n0) g_oa
  have KK1 : Keep h0 h1 [oa] := (Keep.refl h0 [oa]).wr W1 (Or.inl (List.mem_of_getElem? (i := 0) rfl))
  have Z1 : n0 ≤ h1.size := by rw [W1.size]; exact Z0
  have Fw1 : Fld Z h1 oa "com/example/markup_reader/markupreader/reader/Dtd" "parameterReferences" "Z" (.int (1 : Int32)) := Fld.same W1 F4
  show ownEnds _ _ _ _ (T1.setTop (mkF m 5 #[.val (.ref oa)] []))
  refine ownRetV X1 hlk hx hret (hb hby d17_5) (by decide) (by decide) ?_
  have f2 := (Fld.other W1 F1 (Or.inr (slot_ne (Or.inr (wd_127 hw)) (Or.inl (wd_144 hw)) (by decide) (t := .boolean) (t' := .boolean) (by decide) (by decide))))
  have f3 := (Fld.other W1 F2 (Or.inr (slot_ne (Or.inl (wd_136 hw)) (Or.inl (wd_144 hw)) (by decide) (t := .boolean) (t' := .boolean) (by decide) (by decide))))
  have f4 := (Fld.other W1 F3 (Or.inr (slot_ne (Or.inl (wd_142 hw)) (Or.inl (wd_144 hw)) (by decide) (t := (.object "com/example/markup_reader/markupreader/reader/Entity$ExternalId")) (t' := .boolean) (by decide) (by decide))))
  have f5 := (Fld.other W1 F5 (Or.inr (slot_ne (Or.inl (wd_129 hw)) (Or.inl (wd_144 hw)) (by decide) (t := .boolean) (t' := .boolean) (by decide) (by decide))))
  have f6 := (Fld.other W1 F6 (Or.inr (slot_ne (Or.inl (wd_156 hw)) (Or.inl (wd_144 hw)) (by decide) (t := (.object "java/lang/String")) (t' := .boolean) (by decide) (by decide))))
  have f7 := (Fld.other W1 F7 (Or.inr (slot_ne (Or.inl (wd_173 hw)) (Or.inl (wd_144 hw)) (by decide) (t := .long) (t' := .boolean) (by decide) (by decide))))
  have f8 := (Exa.wr W1 E_oa)
  rw [e1]
  exact ⟨rfl, N1, KK1, ⟨f8, h_fe, f2, f3, f4, Fw1, fk, fr, fd, f5, f6, f7⟩⟩
set_option maxRecDepth 65536 in
set_option maxHeartbeats 40000000 in
theorem rm22 (l : Launch) (Z : State) (a0 : Array Value) (hw : ∀ d ∈ tables_1, d.before a0 Z = true) (oa : Addr) (fu fs fp : Int32) (fe : Value) (h0 : Heap) (n0 : Nat) (Z0 : n0 ≤ h0.size) (D0 : DT Z h0 oa fu fs fe fp) (g_oa : n0 ≤ oa) :
    ownMet l Z (⟨"com/example/markup_reader/markupreader/reader/Dtd", "declareStandalone", "()V"⟩ : MethodName) prog_77_method_8_code 1 none [] ({ frames := 0, cells := 0, slots := 0, locals := 0 } : Room) #[(.ref oa)] h0 (fun v h L => v = none ∧ Fr n0 L ∧ Keep h0 h [oa] ∧ DT Z h oa fu (1 : Int32) fe fp) := by
  refine ownMet.of (plainFor_of_name pn_22) ?_
  intro p e s m below meth c T0 hx hby hml hZ hown hnm hret hlk X0 e0
  refine ownEnds.cast (ef_rm22 m oa) ?_
  obtain ⟨E_oa, h_fe, F1, F2, F3, F4, fk, fr, fd, F5, F6, F7⟩ := id D0
  show ownEnds _ _ _ _ (T0.setTop (mkF m 0 #[.val (.ref oa)] []))
  refine ownEnds.law (fun t k => XS.aloadN X0.here hx rfl (hb hby d22_0) rfl rfl (XS.iconst X0.here hx rfl (hb hby d22_1) k)) ?_
  show ownEnds _ _ _ _ (T0.setTop (mkF m 2 #[.val (.ref oa)] [(.int (1 : Int32)), (.ref oa)]))
  obtain ⟨T1, h1, X1, e1, W1, st1⟩ := putFN X0 hx hZ hown (wd_135 hw) Via.refl e0 F2 E_oa (Or.inl (wd_136 hw)) (wd_31 hw) (ty := .boolean) (v' := (.int (1 : Int32))) (by decide) rfl rfl (g := (mkF m 2 #[.val (.ref oa)] [(.int (1 : Int32)), (.ref oa)])) rfl rfl (hb hby d22_2)
  refine ownEnds.law st1 ?_
  have N1 := Fr.snoc X1 (Fr.nil n0) g_oa
  have KK1 : Keep h0 h1 [oa] := (Keep.refl h0 [oa]).wr W1 (Or.inl (List.mem_of_getElem? (i := 0) rfl))
  have Z1 : n0 ≤ h1.size := by rw [W1.size]; exact Z0
  have Fw1 : Fld Z h1 oa "com/example/markup_reader/markupreader/reader/Dtd" "standalone" "Z" (.int (1 : Int32)) := Fld.same W1 F2
  show ownEnds _ _ _ _ (T1.setTop (mkF m 5 #[.val (.ref oa)] []))
  refine ownRetV X1 hlk hx hret (hb hby d22_5) (by decide) (by decide) ?_
  have f2 := (Fld.other W1 F1 (Or.inr (slot_ne (Or.inr (wd_127 hw)) (Or.inl (wd_136 hw)) (by decide) (t := .boolean) (t' := .boolean) (by decide) (by decide))))
  have f3 := (Fld.other W1 F3 (Or.inr (slot_ne (Or.inl (wd_142 hw)) (Or.inl (wd_136 hw)) (by decide) (t := (.object "com/example/markup_reader/markupreader/reader/Entity$ExternalId")) (t' := .boolean) (by decide) (by decide))))
  have f4 := (Fld.other W1 F4 (Or.inr (slot_ne (Or.inl (wd_144 hw)) (Or.inl (wd_136 hw)) (by decide) (t := .boolean) (t' := .boolean) (by decide) (by decide))))
  have f5 := (Fld.other W1 F5 (Or.inr (slot_ne (Or.inl (wd_129 hw)) (Or.inl (wd_136 hw)) (by decide) (t := .boolean) (t' := .boolean) (by decide) (by decide))))
  have f6 := (Fld.other W1 F6 (Or.inr (slot_ne (Or.inl (wd_156 hw)) (Or.inl (wd_136 hw)) (by decide) (t := (.object "java/lang/String")) (t' := .boolean) (by decide) (by decide))))
  have f7 := (Fld.other W1 F7 (Or.inr (slot_ne (Or.inl (wd_173 hw)) (Or.inl (wd_136 hw)) (by decide) (t := .long) (t' := .boolean) (by decide) (by decide))))
  have f8 := (Exa.wr W1 E_oa)
  rw [e1]
  exact ⟨rfl, N1, KK1, ⟨f8, h_fe, f2, Fw1, f3, f4, fk, fr, fd, f5, f6, f7⟩⟩
set_option maxRecDepth 65536 in
set_option maxHeartbeats 40000000 in
theorem rm25 (l : Launch) (Z : State) (a0 : Array Value) (hw : ∀ d ∈ tables_1, d.before a0 Z = true) (oa : Addr) (fu fs fp : Int32) (fe : Value) (h0 : Heap) (n0 : Nat) (Z0 : n0 ≤ h0.size) (D0 : DT Z h0 oa fu fs fe fp) (g_oa : n0 ≤ oa) :
    ownMet l Z (⟨"com/example/markup_reader/markupreader/reader/Dtd", "parameterEntityNotRead", "()V"⟩ : MethodName) prog_77_method_11_code 1 none [] ({ frames := 0, cells := 0, slots := 0, locals := 0 } : Room) #[(.ref oa)] h0 (fun v h L => v = none ∧ Fr n0 L ∧ Keep h0 h [oa] ∧ DT Z h oa fu fs fe fp) := by
  refine ownMet.of (plainFor_of_name pn_25) ?_
  intro p e s m below meth c T0 hx hby hml hZ hown hnm hret hlk X0 e0
  refine ownEnds.cast (ef_rm25 m oa) ?_
  obtain ⟨E_oa, h_fe, F1, F2, F3, F4, fk, fr, fd, F5, F6, F7⟩ := id D0
  show ownEnds _ _ _ _ (T0.setTop (mkF m 0 #[.val (.ref oa)] []))
  refine ownEnds.law (fun t k => XS.aloadN X0.here hx rfl (hb hby d25_0) rfl rfl k) ?_
  show ownEnds _ _ _ _ (T0.setTop (mkF m 1 #[.val (.ref oa)] [(.ref oa)]))
  obtain ⟨T1, X1, e1, st1⟩ := getF X0 hx hZ hown (host := "") (Or.inl (wd_135 hw)) Via.refl e0 F2 (g := (mkF m 1 #[.val (.ref oa)] [(.ref oa)])) rfl rfl (hb hby d25_1)
  refine ownEnds.law st1 ?_
  show ownEnds _ _ _ _ (T1.setTop (mkF m 4 #[.val (.ref oa)] [(.int fs)]))
  by_cases hc4 : fs = (0 : Int32)
  · refine ownEnds.law (fun t => XS.ifNo X1.here hx rfl (hb hby d25_4) rfl ((if0 _ _).trans (teq hc4).2)) ?_
    show ownEnds _ _ _ _ (T1.setTop (mkF m 7 #[.val (.ref oa)] []))
    refine ownEnds.law (fun t k => XS.aloadN X1.here hx rfl (hb hby d25_7) rfl rfl (XS.iconst X1.here hx rfl (hb hby d25_8) k)) ?_
    show ownEnds _ _ _ _ (T1.setTop (mkF m 9 #[.val (.ref oa)] [(.int (1 : Int32)), (.ref oa)]))
    obtain ⟨T2, h2, X2, e2, W2, st2⟩ := putFN X1 hx hZ hown (wd_128 hw) Via.refl e1 F5 E_oa (Or.inl (wd_129 hw)) (wd_31 hw) (ty := .boolean) (v' := (.int (1 : Int32))) (by decide) rfl rfl (g := (mkF m 9 #[.val (.ref oa)] [(.int (1 : Int32)), (.ref oa)])) rfl rfl (hb hby d25_9)
    refine ownEnds.law st2 ?_
    have N2 := Fr.snoc X2 (Fr.nil n0) g_oa
    have KK2 : Keep h0 h2 [oa] := (Keep.refl h0 [oa]).wr W2 (Or.inl (List.mem_of_getElem? (i := 0) rfl))
    have Z2 : n0 ≤ h2.size := by rw [W2.size]; exact Z0
    have Fw2 : Fld Z h2 oa "com/example/markup_reader/markupreader/reader/Dtd" "skipping" "Z" (.int (1 : Int32)) := Fld.same W2 F5
    show ownEnds _ _ _ _ (T2.setTop (mkF m 12 #[.val (.ref oa)] []))
    refine ownRetV X2 hlk hx hret (hb hby d25_12) (by decide) (by decide) ?_
    have f3 := (Fld.other W2 F1 (Or.inr (slot_ne (Or.inr (wd_127 hw)) (Or.inl (wd_129 hw)) (by decide) (t := .boolean) (t' := .boolean) (by decide) (by decide))))
    have f4 := (Fld.other W2 F2 (Or.inr (slot_ne (Or.inl (wd_136 hw)) (Or.inl (wd_129 hw)) (by decide) (t := .boolean) (t' := .boolean) (by decide) (by decide))))
    have f5 := (Fld.other W2 F3 (Or.inr (slot_ne (Or.inl (wd_142 hw)) (Or.inl (wd_129 hw)) (by decide) (t := (.object "com/example/markup_reader/markupreader/reader/Entity$ExternalId")) (t' := .boolean) (by decide) (by decide))))
    have f6 := (Fld.other W2 F4 (Or.inr (slot_ne (Or.inl (wd_144 hw)) (Or.inl (wd_129 hw)) (by decide) (t := .boolean) (t' := .boolean) (by decide) (by decide))))
    have f7 := (Fld.other W2 F6 (Or.inr (slot_ne (Or.inl (wd_156 hw)) (Or.inl (wd_129 hw)) (by decide) (t := (.object "java/lang/String")) (t' := .boolean) (by decide) (by decide))))
    have f8 := (Fld.other W2 F7 (Or.inr (slot_ne (Or.inl (wd_173 hw)) (Or.inl (wd_129 hw)) (by decide) (t := .long) (t' := .boolean) (by decide) (by decide))))
    have f9 := (Exa.wr W2 E_oa)
    rw [e2]
    exact ⟨rfl, N2, KK2, ⟨f9, h_fe, f3, f4, f5, f6, (1 : Int32), fr, fd, Fw2, f7, f8⟩⟩
  · refine ownEnds.law (fun t => XS.ifYes X1.here hx rfl (pc0 := 4) (pc' := 12) rfl (hb hby d25_4) rfl ((if0 _ _).trans (feq hc4).2) (by decide) (by decide)) ?_
    show ownEnds _ _ _ _ (T1.setTop (mkF m 12 #[.val (.ref oa)] []))
    refine ownRetV X1 hlk hx hret (hb hby d25_12) (by decide) (by decide) ?_
    rw [e1]
    exact ⟨rfl, (Fr.nil n0), Keep.refl h0 [oa], ⟨E_oa, h_fe, F1, F2, F3, F4, fk, fr, fd, F5, F6, F7⟩⟩
set_option maxRecDepth 65536 in
set_option maxHeartbeats 40000000 in
theorem rm15 (l : Launch) (Z : State) (a0 : Array Value) (hw : ∀ d ∈ tables_1, d.before a0 Z = true) (oa : Addr) (fu fs fp : Int32) (fe : Value) (h0 : Heap) (n0 : Nat) (Z0 : n0 ≤ h0.size) (D0 : DT Z h0 oa fu fs fe fp) :
    ownMet l Z (⟨"com/example/markup_reader/markupreader/reader/Dtd", "entitiesMustBeDeclared", "()Z"⟩ : MethodName) prog_77_method_12_code 1 (some .boolean) [] ({ frames := 0, cells := 0, slots := 0, locals := 0 } : Room) #[(.ref oa)] h0 (fun v h L => v = some (.int (FD fu fs fe fp)) ∧ L = [] ∧ h = h0) := by
  refine ownMet.of (plainFor_of_name pn_15) ?_
  intro p e s m below meth c T0 hx hby hml hZ hown hnm hret hlk X0 e0
  refine ownEnds.cast (ef_rm15 m oa) ?_
  obtain ⟨E_oa, h_fe, F1, F2, F3, F4, fk, fr, fd, F5, F6, F7⟩ := id D0
  rcases ref_cases h_fe with rfl | ⟨ea, rfl⟩
  · show ownEnds _ _ _ _ (T0.setTop (mkF m 0 #[.val (.ref oa)] []))
    refine ownEnds.law (fun t k => XS.aloadN X0.here hx rfl (hb hby d15_0) rfl rfl k) ?_
    show ownEnds _ _ _ _ (T0.setTop (mkF m 1 #[.val (.ref oa)] [(.ref oa)]))
    obtain ⟨T1, X1, e1, st1⟩ := getF X0 hx hZ hown (host := "") (Or.inl (wd_135 hw)) Via.refl e0 F2 (g := (mkF m 1 #[.val (.ref oa)] [(.ref oa)])) rfl rfl (hb hby d15_1)
    refine ownEnds.law st1 ?_
    show ownEnds _ _ _ _ (T1.setTop (mkF m 4 #[.val (.ref oa)] [(.int fs)]))
    by_cases hc4 : fs = (0 : Int32)
    · refine ownEnds.law (fun t => XS.ifNo X1.here hx rfl (hb hby d15_4) rfl ((if0 _ _).trans (teq hc4).2)) ?_
      show ownEnds _ _ _ _ (T1.setTop (mkF m 7 #[.val (.ref oa)] []))
      refine ownEnds.law (fun t k => XS.aloadN X1.here hx rfl (hb hby d15_7) rfl rfl k) ?_
      show ownEnds _ _ _ _ (T1.setTop (mkF m 8 #[.val (.ref oa)] [(.ref oa)]))
      obtain ⟨T2, X2, e2, st2⟩ := getF X1 hx hZ hown (host := "") (Or.inl (wd_126 hw)) Via.refl e1 F1 (g := (mkF m 8 #[.val (.ref oa)] [(.ref oa)])) rfl rfl (hb hby d15_8)
      refine ownEnds.law st2 ?_
      show ownEnds _ _ _ _ (T2.setTop (mkF m 11 #[.val (.ref oa)] [(.int fu)]))
      by_cases hc11 : fu = (0 : Int32)
      · refine ownEnds.law (fun t => XS.ifYes X2.here hx rfl (pc0 := 11) (pc' := 28) rfl (hb hby d15_11) rfl ((if0 _ _).trans (teq hc11).1) (by decide) (by decide)) ?_
        show ownEnds _ _ _ _ (T2.setTop (mkF m 28 #[.val (.ref oa)] []))
        refine ownEnds.law (fun t k => XS.iconst X2.here hx rfl (hb hby d15_28) (XS.goto X2.here hx rfl (pc0 := 29) (pc' := 33) rfl (hb hby d15_29) (by decide) (by decide) k)) ?_
        show ownEnds _ _ _ _ (T2.setTop (mkF m 33 #[.val (.ref oa)] [(.int (1 : Int32))]))
        refine ownRetN X2 hlk hx (t := .boolean) hret (by simp) (hb hby d15_33) (by decide) (by decide) ?_
        exact ⟨by rw [show FD fu fs .null fp = 1 from by simp [FD, hc4, hc11]]; rfl, rfl, e2⟩
      · refine ownEnds.law (fun t => XS.ifNo X2.here hx rfl (hb hby d15_11) rfl ((if0 _ _).trans (feq hc11).1)) ?_
        show ownEnds _ _ _ _ (T2.setTop (mkF m 14 #[.val (.ref oa)] []))
        refine ownEnds.law (fun t k => XS.aloadN X2.here hx rfl (hb hby d15_14) rfl rfl k) ?_
        show ownEnds _ _ _ _ (T2.setTop (mkF m 15 #[.val (.ref oa)] [(.ref oa)]))
        obtain ⟨T3, X3, e3, st3⟩ := getF X2 hx hZ hown (host := "") (Or.inl (wd_141 hw)) Via.refl e2 F3 (g := (mkF m 15 #[.val (.ref oa)] [(.ref oa)])) rfl rfl (hb hby d15_15)
        refine ownEnds.law st3 ?_
        show ownEnds _ _ _ _ (T3.setTop (mkF m 18 #[.val (.ref oa)] [.null]))
        refine ownEnds.law (fun t k => XS.ifnonnullNo X3.here hx rfl (hb hby d15_18) rfl (XS.aloadN X3.here hx rfl (hb hby d15_21) rfl rfl k)) ?_
        show ownEnds _ _ _ _ (T3.setTop (mkF m 22 #[.val (.ref oa)] [(.ref oa)]))
        obtain ⟨T4, X4, e4, st4⟩ := getF X3 hx hZ hown (host := "") (Or.inl (wd_143 hw)) Via.refl e3 F4 (g := (mkF m 22 #[.val (.ref oa)] [(.ref oa)])) rfl rfl (hb hby d15_22)
        refine ownEnds.law st4 ?_
        show ownEnds _ _ _ _ (T4.setTop (mkF m 25 #[.val (.ref oa)] [(.int fp)]))
        by_cases hc25 : fp = (0 : Int32)
        · refine ownEnds.law (fun t => XS.ifNo X4.here hx rfl (hb hby d15_25) rfl ((if0 _ _).trans (teq hc25).2)) ?_
          show ownEnds _ _ _ _ (T4.setTop (mkF m 28 #[.val (.ref oa)] []))
          refine ownEnds.law (fun t k => XS.iconst X4.here hx rfl (hb hby d15_28) (XS.goto X4.here hx rfl (pc0 := 29) (pc' := 33) rfl (hb hby d15_29) (by decide) (by decide) k)) ?_
          show ownEnds _ _ _ _ (T4.setTop (mkF m 33 #[.val (.ref oa)] [(.int (1 : Int32))]))
          refine ownRetN X4 hlk hx (t := .boolean) hret (by simp) (hb hby d15_33) (by decide) (by decide) ?_
          exact ⟨by rw [show FD fu fs .null fp = 1 from by simp [FD, hc4, hc11, hc25]]; rfl, rfl, e4⟩
        · refine ownEnds.law (fun t => XS.ifYes X4.here hx rfl (pc0 := 25) (pc' := 32) rfl (hb hby d15_25) rfl ((if0 _ _).trans (feq hc25).2) (by decide) (by decide)) ?_
          show ownEnds _ _ _ _ (T4.setTop (mkF m 32 #[.val (.ref oa)] []))
          refine ownEnds.law (fun t k => XS.iconst X4.here hx rfl (hb hby d15_32) k) ?_
          show ownEnds _ _ _ _ (T4.setTop (mkF m 33 #[.val (.ref oa)] [(.int (0 : Int32))]))
          refine ownRetN X4 hlk hx (t := .boolean) hret (by simp) (hb hby d15_33) (by decide) (by decide) ?_
          exact ⟨by rw [show FD fu fs .null fp = 0 from by simp [FD, hc4, hc11, hc25]]; rfl, rfl, e4⟩
    · refine ownEnds.law (fun t => XS.ifYes X1.here hx rfl (pc0 := 4) (pc' := 28) rfl (hb hby d15_4) rfl ((if0 _ _).trans (feq hc4).2) (by decide) (by decide)) ?_
      show ownEnds _ _ _ _ (T1.setTop (mkF m 28 #[.val (.ref oa)] []))
      refine ownEnds.law (fun t k => XS.iconst X1.here hx rfl (hb hby d15_28) (XS.goto X1.here hx rfl (pc0 := 29) (pc' := 33) rfl (hb hby d15_29) (by decide) (by decide) k)) ?_
      show ownEnds _ _ _ _ (T1.setTop (mkF m 33 #[.val (.ref oa)] [(.int (1 : Int32))]))
      refine ownRetN X1 hlk hx (t := .boolean) hret (by simp) (hb hby d15_33) (by decide) (by decide) ?_
      exact ⟨by rw [show FD fu fs .null fp = 1 from by simp [FD, hc4]]; rfl, rfl, e1⟩
  · show ownEnds _ _ _ _ (T0.setTop (mkF m 0 #[.val (.ref oa)] []))
    refine ownEnds.law (fun t k => XS.aloadN X0.here hx rfl (hb hby d15_0) rfl rfl k) ?_
    show ownEnds _ _ _ _ (T0.setTop (mkF m 1 #[.val (.ref oa)] [(.ref oa)]))
    obtain ⟨T5, X5, e5, st5⟩ := getF X0 hx hZ hown (host := "") (Or.inl (wd_135 hw)) Via.refl e0 F2 (g := (mkF m 1 #[.val (.ref oa)] [(.ref oa)])) rfl rfl (hb hby d15_1)
    refine ownEnds.law st5 ?_
    show ownEnds _ _ _ _ (T5.setTop (mkF m 4 #[.val (.ref oa)] [(.int fs)]))
    by_cases hc4 : fs = (0 : Int32)
    · refine ownEnds.law (fun t => XS.ifNo X5.here hx rfl (hb hby d15_4) rfl ((if0 _ _).trans (teq hc4).2)) ?_
      show ownEnds _ _ _ _ (T5.setTop (mkF m 7 #[.val (.ref oa)] []))
      refine ownEnds.law (fun t k => XS.aloadN X5.here hx rfl (hb hby d15_7) rfl rfl k) ?_
      show ownEnds _ _ _ _ (T5.setTop (mkF m 8 #[.val (.ref oa)] [(.ref oa)]))
      obtain ⟨T6, X6, e6, st6⟩ := getF X5 hx hZ hown (host := "") (Or.inl (wd_126 hw)) Via.refl e5 F1 (g := (mkF m 8 #[.val (.ref oa)] [(.ref oa)])) rfl rfl (hb hby d15_8)
      refine ownEnds.law st6 ?_
      show ownEnds _ _ _ _ (T6.setTop (mkF m 11 #[.val (.ref oa)] [(.int fu)]))
      by_cases hc11 : fu = (0 : Int32)
      · refine ownEnds.law (fun t => XS.ifYes X6.here hx rfl (pc0 := 11) (pc' := 28) rfl (hb hby d15_11) rfl ((if0 _ _).trans (teq hc11).1) (by decide) (by decide)) ?_
        show ownEnds _ _ _ _ (T6.setTop (mkF m 28 #[.val (.ref oa)] []))
        refine ownEnds.law (fun t k => XS.iconst X6.here hx rfl (hb hby d15_28) (XS.goto X6.here hx rfl (pc0 := 29) (pc' := 33) rfl (hb hby d15_29) (by decide) (by decide) k)) ?_
        show ownEnds _ _ _ _ (T6.setTop (mkF m 33 #[.val (.ref oa)] [(.int (1 : Int32))]))
        refine ownRetN X6 hlk hx (t := .boolean) hret (by simp) (hb hby d15_33) (by decide) (by decide) ?_
        exact ⟨by rw [show FD fu fs (.ref ea) fp = 1 from by simp [FD, hc4, hc11]]; rfl, rfl, e6⟩
      · refine ownEnds.law (fun t => XS.ifNo X6.here hx rfl (hb hby d15_11) rfl ((if0 _ _).trans (feq hc11).1)) ?_
        show ownEnds _ _ _ _ (T6.setTop (mkF m 14 #[.val (.ref oa)] []))
        refine ownEnds.law (fun t k => XS.aloadN X6.here hx rfl (hb hby d15_14) rfl rfl k) ?_
        show ownEnds _ _ _ _ (T6.setTop (mkF m 15 #[.val (.ref oa)] [(.ref oa)]))
        obtain ⟨T7, X7, e7, st7⟩ := getF X6 hx hZ hown (host := "") (Or.inl (wd_141 hw)) Via.refl e6 F3 (g := (mkF m 15 #[.val (.ref oa)] [(.ref oa)])) rfl rfl (hb hby d15_15)
        refine ownEnds.law st7 ?_
        show ownEnds _ _ _ _ (T7.setTop (mkF m 18 #[.val (.ref oa)] [(.ref ea)]))
        refine ownEnds.law (fun t k => XS.ifnonnullYes X7.here hx rfl (pc0 := 18) (pc' := 32) rfl (hb hby d15_18) rfl (by decide) (by decide) (XS.iconst X7.here hx rfl (hb hby d15_32) k)) ?_
        show ownEnds _ _ _ _ (T7.setTop (mkF m 33 #[.val (.ref oa)] [(.int (0 : Int32))]))
        refine ownRetN X7 hlk hx (t := .boolean) hret (by simp) (hb hby d15_33) (by decide) (by decide) ?_
        exact ⟨by rw [show FD fu fs (.ref ea) fp = 0 from by simp [FD, hc4, hc11]]; rfl, rfl, e7⟩
    · refine ownEnds.law (fun t => XS.ifYes X5.here hx rfl (pc0 := 4) (pc' := 28) rfl (hb hby d15_4) rfl ((if0 _ _).trans (feq hc4).2) (by decide) (by decide)) ?_
      show ownEnds _ _ _ _ (T5.setTop (mkF m 28 #[.val (.ref oa)] []))
      refine ownEnds.law (fun t k => XS.iconst X5.here hx rfl (hb hby d15_28) (XS.goto X5.here hx rfl (pc0 := 29) (pc' := 33) rfl (hb hby d15_29) (by decide) (by decide) k)) ?_
      show ownEnds _ _ _ _ (T5.setTop (mkF m 33 #[.val (.ref oa)] [(.int (1 : Int32))]))
      refine ownRetN X5 hlk hx (t := .boolean) hret (by simp) (hb hby d15_33) (by decide) (by decide) ?_
      exact ⟨by rw [show FD fu fs (.ref ea) fp = 1 from by simp [FD, hc4]]; rfl, rfl, e5⟩
set_option maxRecDepth 65536 in
set_option maxHeartbeats 40000000 in
theorem rm16 (l : Launch) (Z : State) (a0 : Array Value) (hw : ∀ d ∈ tables_1, d.before a0 Z = true) (xu : Int32) (xs : Int32) (xe : Int32) (xp : Int32)  (h0 : Heap) (n0 : Nat) (Z0 : n0 ≤ h0.size)  :
    ownMet l Z (⟨"com/example/markup_reader/markupreader/reader/DtdEntitiesMustBeDeclaredPinLaw", "expected", "(ZZZZ)Z"⟩ : MethodName) method_2_code 4 (some .boolean) [] ({ frames := 0, cells := 0, slots := 0, locals := 0 } : Room) #[(.int xu), (.int xs), (.int xe), (.int xp)] h0 (fun v h L => v = some (.int (FX xu xs xe xp)) ∧ L = [] ∧ h = h0) := by
  refine ownMet.of (plainFor_of_name pn_16) ?_
  intro p e s m below meth c T0 hx hby hml hZ hown hnm hret hlk X0 e0
  refine ownEnds.cast (ef_rm16 m xu xs xe xp) ?_
  show ownEnds _ _ _ _ (T0.setTop (mkF m 0 #[.val (.int xu), .val (.int xs), .val (.int xe), .val (.int xp)] []))
  refine ownEnds.law (fun t k => XS.iloadN X0.here hx rfl (hb hby d16_0) rfl k) ?_
  show ownEnds _ _ _ _ (T0.setTop (mkF m 1 #[.val (.int xu), .val (.int xs), .val (.int xe), .val (.int xp)] [(.int xs)]))
  by_cases hc1 : xs = (0 : Int32)
  · refine ownEnds.law (fun t => XS.ifYes X0.here hx rfl (pc0 := 1) (pc' := 6) rfl (hb hby d16_1) rfl ((if0 _ _).trans (teq hc1).1) (by decide) (by decide)) ?_
    show ownEnds _ _ _ _ (T0.setTop (mkF m 6 #[.val (.int xu), .val (.int xs), .val (.int xe), .val (.int xp)] []))
    refine ownEnds.law (fun t k => XS.iloadN X0.here hx rfl (hb hby d16_6) rfl k) ?_
    show ownEnds _ _ _ _ (T0.setTop (mkF m 7 #[.val (.int xu), .val (.int xs), .val (.int xe), .val (.int xp)] [(.int xu)]))
    by_cases hc7 : xu = (0 : Int32)
    · refine ownEnds.law (fun t => XS.ifNo X0.here hx rfl (hb hby d16_7) rfl ((if0 _ _).trans (teq hc7).2)) ?_
      show ownEnds _ _ _ _ (T0.setTop (mkF m 10 #[.val (.int xu), .val (.int xs), .val (.int xe), .val (.int xp)] []))
      refine ownEnds.law (fun t k => XS.iconst X0.here hx rfl (hb hby d16_10) k) ?_
      show ownEnds _ _ _ _ (T0.setTop (mkF m 11 #[.val (.int xu), .val (.int xs), .val (.int xe), .val (.int xp)] [(.int (1 : Int32))]))
      refine ownRetN X0 hlk hx (t := .boolean) hret (by simp) (hb hby d16_11) (by decide) (by decide) ?_
      exact ⟨by rw [show FX xu xs xe xp = 1 from by simp [FX, hc1, hc7]]; rfl, rfl, e0⟩
    · refine ownEnds.law (fun t => XS.ifYes X0.here hx rfl (pc0 := 7) (pc' := 12) rfl (hb hby d16_7) rfl ((if0 _ _).trans (feq hc7).2) (by decide) (by decide)) ?_
      show ownEnds _ _ _ _ (T0.setTop (mkF m 12 #[.val (.int xu), .val (.int xs), .val (.int xe), .val (.int xp)] []))
      refine ownEnds.law (fun t k => XS.iloadN X0.here hx rfl (hb hby d16_12) rfl k) ?_
      show ownEnds _ _ _ _ (T0.setTop (mkF m 13 #[.val (.int xu), .val (.int xs), .val (.int xe), .val (.int xp)] [(.int xe)]))
      by_cases hc13 : xe = (0 : Int32)
      · refine ownEnds.law (fun t => XS.ifYes X0.here hx rfl (pc0 := 13) (pc' := 18) rfl (hb hby d16_13) rfl ((if0 _ _).trans (teq hc13).1) (by decide) (by decide)) ?_
        show ownEnds _ _ _ _ (T0.setTop (mkF m 18 #[.val (.int xu), .val (.int xs), .val (.int xe), .val (.int xp)] []))
        refine ownEnds.law (fun t k => XS.iloadN X0.here hx rfl (hb hby d16_18) rfl k) ?_
        show ownEnds _ _ _ _ (T0.setTop (mkF m 19 #[.val (.int xu), .val (.int xs), .val (.int xe), .val (.int xp)] [(.int xp)]))
        by_cases hc19 : xp = (0 : Int32)
        · refine ownEnds.law (fun t => XS.ifNo X0.here hx rfl (hb hby d16_19) rfl ((if0 _ _).trans (teq hc19).2)) ?_
          show ownEnds _ _ _ _ (T0.setTop (mkF m 22 #[.val (.int xu), .val (.int xs), .val (.int xe), .val (.int xp)] []))
          refine ownEnds.law (fun t k => XS.iconst X0.here hx rfl (hb hby d16_22) (XS.goto X0.here hx rfl (pc0 := 23) (pc' := 27) rfl (hb hby d16_23) (by decide) (by decide) k)) ?_
          show ownEnds _ _ _ _ (T0.setTop (mkF m 27 #[.val (.int xu), .val (.int xs), .val (.int xe), .val (.int xp)] [(.int (1 : Int32))]))
          refine ownRetN X0 hlk hx (t := .boolean) hret (by simp) (hb hby d16_27) (by decide) (by decide) ?_
          exact ⟨by rw [show FX xu xs xe xp = 1 from by simp [FX, hc1, hc7, hc13, hc19]]; rfl, rfl, e0⟩
        · refine ownEnds.law (fun t => XS.ifYes X0.here hx rfl (pc0 := 19) (pc' := 26) rfl (hb hby d16_19) rfl ((if0 _ _).trans (feq hc19).2) (by decide) (by decide)) ?_
          show ownEnds _ _ _ _ (T0.setTop (mkF m 26 #[.val (.int xu), .val (.int xs), .val (.int xe), .val (.int xp)] []))
          refine ownEnds.law (fun t k => XS.iconst X0.here hx rfl (hb hby d16_26) k) ?_
          show ownEnds _ _ _ _ (T0.setTop (mkF m 27 #[.val (.int xu), .val (.int xs), .val (.int xe), .val (.int xp)] [(.int (0 : Int32))]))
          refine ownRetN X0 hlk hx (t := .boolean) hret (by simp) (hb hby d16_27) (by decide) (by decide) ?_
          exact ⟨by rw [show FX xu xs xe xp = 0 from by simp [FX, hc1, hc7, hc13, hc19]]; rfl, rfl, e0⟩
      · refine ownEnds.law (fun t => XS.ifNo X0.here hx rfl (hb hby d16_13) rfl ((if0 _ _).trans (feq hc13).1)) ?_
        show ownEnds _ _ _ _ (T0.setTop (mkF m 16 #[.val (.int xu), .val (.int xs), .val (.int xe), .val (.int xp)] []))
        refine ownEnds.law (fun t k => XS.iconst X0.here hx rfl (hb hby d16_16) k) ?_
        show ownEnds _ _ _ _ (T0.setTop (mkF m 17 #[.val (.int xu), .val (.int xs), .val (.int xe), .val (.int xp)] [(.int (0 : Int32))]))
        refine ownRetN X0 hlk hx (t := .boolean) hret (by simp) (hb hby d16_17) (by decide) (by decide) ?_
        exact ⟨by rw [show FX xu xs xe xp = 0 from by simp [FX, hc1, hc7, hc13]]; rfl, rfl, e0⟩
  · refine ownEnds.law (fun t => XS.ifNo X0.here hx rfl (hb hby d16_1) rfl ((if0 _ _).trans (feq hc1).1)) ?_
    show ownEnds _ _ _ _ (T0.setTop (mkF m 4 #[.val (.int xu), .val (.int xs), .val (.int xe), .val (.int xp)] []))
    refine ownEnds.law (fun t k => XS.iconst X0.here hx rfl (hb hby d16_4) k) ?_
    show ownEnds _ _ _ _ (T0.setTop (mkF m 5 #[.val (.int xu), .val (.int xs), .val (.int xe), .val (.int xp)] [(.int (1 : Int32))]))
    refine ownRetN X0 hlk hx (t := .boolean) hret (by simp) (hb hby d16_5) (by decide) (by decide) ?_
    exact ⟨by rw [show FX xu xs xe xp = 1 from by simp [FX, hc1]]; rfl, rfl, e0⟩
set_option maxRecDepth 65536 in
set_option maxHeartbeats 40000000 in
theorem rm27n (l : Launch) (Z : State) (a0 : Array Value) (hw : ∀ d ∈ tables_1, d.before a0 Z = true)  (h0 : Heap) (n0 : Nat) (Z0 : n0 ≤ h0.size)  :
    ownMet l Z (⟨"com/example/markup_reader/markupreader/reader/KeptSize", "length", "(Ljava/lang/String;)J"⟩ : MethodName) prog_94_method_11_code 1 (some .long) [] ({ frames := 0, cells := 0, slots := 0, locals := 0 } : Room) #[.null] h0 (fun v h L => ∃ z : Int64, v = some (.long z) ∧ L = [] ∧ h = h0) := by
  refine ownMet.of (plainFor_of_name pn_27) ?_
  intro p e s m below meth c T0 hx hby hml hZ hown hnm hret hlk X0 e0
  refine ownEnds.cast (ef_rm27n m ) ?_
  show ownEnds _ _ _ _ (T0.setTop (mkF m 0 #[.val .null] []))
  refine ownEnds.law (fun t k => XS.aloadN X0.here hx rfl (hb hby d27_0) rfl rfl k) ?_
  show ownEnds _ _ _ _ (T0.setTop (mkF m 1 #[.val .null] [.null]))
  refine ownEnds.law (fun t k => XS.ifnonnullNo X0.here hx rfl (hb hby d27_1) rfl (XS.lconst X0.here hx rfl (hb hby d27_4) (XS.goto X0.here hx rfl (pc0 := 5) (pc' := 13) rfl (hb hby d27_5) (by decide) (by decide) k))) ?_
  show ownEnds _ _ _ _ (T0.setTop (mkF m 13 #[.val .null] [(.long (0 : Int64))]))
  refine ownRetL X0 hlk hx hret (hb hby d27_13) (by decide) (by decide) ?_
  exact ⟨_, rfl, rfl, e0⟩
set_option maxRecDepth 65536 in
set_option maxHeartbeats 40000000 in
theorem rm27r (l : Launch) (Z : State) (a0 : Array Value) (hw : ∀ d ∈ tables_1, d.before a0 Z = true) (ob : Addr) (zc : Int32) (B : Nat) (h0 : Heap) (n0 : Nat) (Z0 : n0 ≤ h0.size) (SO : StrOK Z h0 B ob) (S0 : Sta Z h0 "java/lang/String" "COMPACT_STRINGS" "Z" (.int zc)) (hzc : ¬ zc = 0) :
    ownMet l Z (⟨"com/example/markup_reader/markupreader/reader/KeptSize", "length", "(Ljava/lang/String;)J"⟩ : MethodName) prog_94_method_11_code 1 (some .long) [] ({ frames := 2, cells := 0, slots := 0, locals := 25 } : Room) #[(.ref ob)] h0 (fun v h L => ∃ z : Int64, v = some (.long z) ∧ L = [] ∧ h = h0) := by
  refine ownMet.of (plainFor_of_name pn_27) ?_
  intro p e s m below meth c T0 hx hby hml hZ hown hnm hret hlk X0 e0
  refine ownEnds.cast (ef_rm27r m ob) ?_
  show ownEnds _ _ _ _ (T0.setTop (mkF m 0 #[.val (.ref ob)] []))
  refine ownEnds.law (fun t k => XS.aloadN X0.here hx rfl (hb hby d27_0) rfl rfl k) ?_
  show ownEnds _ _ _ _ (T0.setTop (mkF m 1 #[.val (.ref ob)] [(.ref ob)]))
  refine ownEnds.law (fun t k => XS.ifnonnullYes X0.here hx rfl (pc0 := 1) (pc' := 8) rfl (hb hby d27_1) rfl (by decide) (by decide) (XS.aloadN X0.here hx rfl (hb hby d27_8) rfl rfl k)) ?_
  show ownEnds _ _ _ _ (T0.setTop (mkF m 9 #[.val (.ref ob)] [(.ref ob)]))
  obtain ⟨_, t1, kb1, cc1, _, Es1, Vs1, Cs1, As1, u1, v1'⟩ := id SO
  obtain ⟨v1, T1, L1, X1, hQ1, st1⟩ := ownCallVB X0 hx hZ hown (y := (⟨"java/lang/String", "length", "()I"⟩ : MethodName)) (z := (⟨"java/lang/String", "length", "()I"⟩ : MethodName)) (a := ob) (as := []) (wd_162 hw) (wd_163 hw) (notFace_of_selects (args := #[]) (mvT hZ (wd_165 hw))) (wd_165 hw) (wd_164 hw) (by decide) (Q := fun v H L => v = some (.int (Int32.ofNat ([cc1] : List Int32).length)) ∧ L = [] ∧ H = h0) (cc := 0) (ss := 0) (StrChars.Road.lenW (W := 0) hZ (fun d hd => hw d ((by decide +kernel : ∀ d ∈ StrChars.Road.wordsLen, d ∈ tables_1) d hd)) (kI := 4) (wd_1 hw) (cs := [cc1]) Es1 Vs1 Cs1 As1 (StrChars.Road.codOf (n := 1) rfl (fun d hd => by rw [List.mem_singleton.mp hd]; exact v1')) (own_up u1 v1') S0 hzc (by show 1 ≤ 4000; decide) (by decide) (by decide)) e0 Es1 (by decide) (by decide) (g := (mkF m 9 #[.val (.ref ob)] [(.ref ob)])) rfl (by rw [hml]; rfl) (rest := []) pd_1 rfl rfl (by show 2 * 0 + _ ≤ _; exact Nat.le_of_eq rfl) (hb hby d27_9)
  obtain ⟨rfl, rfl, e1⟩ := hQ1
  rw [List.append_nil] at X1
  refine ownEnds.law st1 ?_
  show ownEnds _ _ _ _ (T1.setTop (mkF m 12 #[.val (.ref ob)] [(.int (Int32.ofNat ([cc1] : List Int32).length))]))
  refine ownEnds.law (fun t k => XS.i2l X1.here hx rfl (hb hby d27_12) rfl k) ?_
  show ownEnds _ _ _ _ (T1.setTop (mkF m 13 #[.val (.ref ob)] [(.long ((Int32.ofNat ([cc1] : List Int32).length).toInt64))]))
  refine ownRetL X1 hlk hx hret (hb hby d27_13) (by decide) (by decide) ?_
  exact ⟨_, rfl, rfl, e1⟩
set_option maxRecDepth 65536 in
set_option maxHeartbeats 40000000 in
theorem rm26n (l : Launch) (Z : State) (a0 : Array Value) (hw : ∀ d ∈ tables_1, d.before a0 Z = true) (oa : Addr)  (h0 : Heap) (n0 : Nat) (Z0 : n0 ≤ h0.size) (F0 : Fld Z h0 oa "com/example/markup_reader/markupreader/reader/Entity$ExternalId" "publicId" "Ljava/lang/String;" .null) :
    ownMet l Z (⟨"com/example/markup_reader/markupreader/reader/Entity$ExternalId", "publicId", "()Ljava/lang/String;"⟩ : MethodName) prog_89_method_5_code 1 (some (.object "java/lang/String")) [] ({ frames := 0, cells := 0, slots := 0, locals := 0 } : Room) #[(.ref oa)] h0 (fun v h L => v = some .null ∧ L = [] ∧ h = h0) := by
  refine ownMet.of (plainFor_of_name pn_26) ?_
  intro p e s m below meth c T0 hx hby hml hZ hown hnm hret hlk X0 e0
  refine ownEnds.cast (ef_rm26n m oa) ?_
  show ownEnds _ _ _ _ (T0.setTop (mkF m 0 #[.val (.ref oa)] []))
  refine ownEnds.law (fun t k => XS.aloadN X0.here hx rfl (hb hby d26_0) rfl rfl k) ?_
  show ownEnds _ _ _ _ (T0.setTop (mkF m 1 #[.val (.ref oa)] [(.ref oa)]))
  obtain ⟨T1, X1, e1, st1⟩ := getF X0 hx hZ hown (host := "") (Or.inl (wd_191 hw)) Via.refl e0 F0 (g := (mkF m 1 #[.val (.ref oa)] [(.ref oa)])) rfl rfl (hb hby d26_1)
  refine ownEnds.law st1 ?_
  show ownEnds _ _ _ _ (T1.setTop (mkF m 4 #[.val (.ref oa)] [.null]))
  refine ownRetA X1 hlk hx hret rfl rfl (hb hby d26_4) (by decide) (by decide) ?_
  exact ⟨rfl, rfl, e1⟩
set_option maxRecDepth 65536 in
set_option maxHeartbeats 40000000 in
theorem rm26r (l : Launch) (Z : State) (a0 : Array Value) (hw : ∀ d ∈ tables_1, d.before a0 Z = true) (oa : Addr) (va : Addr) (h0 : Heap) (n0 : Nat) (Z0 : n0 ≤ h0.size) (F0 : Fld Z h0 oa "com/example/markup_reader/markupreader/reader/Entity$ExternalId" "publicId" "Ljava/lang/String;" (.ref va)) :
    ownMet l Z (⟨"com/example/markup_reader/markupreader/reader/Entity$ExternalId", "publicId", "()Ljava/lang/String;"⟩ : MethodName) prog_89_method_5_code 1 (some (.object "java/lang/String")) [] ({ frames := 0, cells := 0, slots := 0, locals := 0 } : Room) #[(.ref oa)] h0 (fun v h L => v = some (.ref va) ∧ L = [] ∧ h = h0) := by
  refine ownMet.of (plainFor_of_name pn_26) ?_
  intro p e s m below meth c T0 hx hby hml hZ hown hnm hret hlk X0 e0
  refine ownEnds.cast (ef_rm26r m oa) ?_
  show ownEnds _ _ _ _ (T0.setTop (mkF m 0 #[.val (.ref oa)] []))
  refine ownEnds.law (fun t k => XS.aloadN X0.here hx rfl (hb hby d26_0) rfl rfl k) ?_
  show ownEnds _ _ _ _ (T0.setTop (mkF m 1 #[.val (.ref oa)] [(.ref oa)]))
  obtain ⟨T1, X1, e1, st1⟩ := getF X0 hx hZ hown (host := "") (Or.inl (wd_191 hw)) Via.refl e0 F0 (g := (mkF m 1 #[.val (.ref oa)] [(.ref oa)])) rfl rfl (hb hby d26_1)
  refine ownEnds.law st1 ?_
  show ownEnds _ _ _ _ (T1.setTop (mkF m 4 #[.val (.ref oa)] [(.ref va)]))
  refine ownRetA X1 hlk hx hret rfl rfl (hb hby d26_4) (by decide) (by decide) ?_
  exact ⟨rfl, rfl, e1⟩
set_option maxRecDepth 65536 in
set_option maxHeartbeats 40000000 in
theorem rm28r (l : Launch) (Z : State) (a0 : Array Value) (hw : ∀ d ∈ tables_1, d.before a0 Z = true) (oa : Addr) (va : Addr) (h0 : Heap) (n0 : Nat) (Z0 : n0 ≤ h0.size) (F0 : Fld Z h0 oa "com/example/markup_reader/markupreader/reader/Entity$ExternalId" "systemId" "Ljava/lang/String;" (.ref va)) :
    ownMet l Z (⟨"com/example/markup_reader/markupreader/reader/Entity$ExternalId", "systemId", "()Ljava/lang/String;"⟩ : MethodName) prog_89_method_6_code 1 (some (.object "java/lang/String")) [] ({ frames := 0, cells := 0, slots := 0, locals := 0 } : Room) #[(.ref oa)] h0 (fun v h L => v = some (.ref va) ∧ L = [] ∧ h = h0) := by
  refine ownMet.of (plainFor_of_name pn_28) ?_
  intro p e s m below meth c T0 hx hby hml hZ hown hnm hret hlk X0 e0
  refine ownEnds.cast (ef_rm28r m oa) ?_
  show ownEnds _ _ _ _ (T0.setTop (mkF m 0 #[.val (.ref oa)] []))
  refine ownEnds.law (fun t k => XS.aloadN X0.here hx rfl (hb hby d28_0) rfl rfl k) ?_
  show ownEnds _ _ _ _ (T0.setTop (mkF m 1 #[.val (.ref oa)] [(.ref oa)]))
  obtain ⟨T1, X1, e1, st1⟩ := getF X0 hx hZ hown (host := "") (Or.inl (wd_193 hw)) Via.refl e0 F0 (g := (mkF m 1 #[.val (.ref oa)] [(.ref oa)])) rfl rfl (hb hby d28_1)
  refine ownEnds.law st1 ?_
  show ownEnds _ _ _ _ (T1.setTop (mkF m 4 #[.val (.ref oa)] [(.ref va)]))
  refine ownRetA X1 hlk hx hret rfl rfl (hb hby d28_4) (by decide) (by decide) ?_
  exact ⟨rfl, rfl, e1⟩
set_option maxRecDepth 65536 in
set_option maxHeartbeats 40000000 in
theorem rm19n (l : Launch) (Z : State) (a0 : Array Value) (hw : ∀ d ∈ tables_1, d.before a0 Z = true) (ob : Addr) (zc : Int32) (B : Nat) (h0 : Heap) (n0 : Nat) (Z0 : n0 ≤ h0.size) (SO : StrOK Z h0 B ob) (S0 : Sta Z h0 "java/lang/String" "COMPACT_STRINGS" "Z" (.int zc)) (hzc : ¬ zc = 0) :
    ownMet l Z (⟨"com/example/markup_reader/markupreader/reader/KeptSize", "doctype", "(Ljava/lang/String;Lcom/example/markup_reader/markupreader/reader/Entity$ExternalId;)J"⟩ : MethodName) prog_94_method_2_code 4 (some .long) [] ({ frames := 3, cells := 0, slots := 0, locals := 44 } : Room) #[(.ref ob), .null] h0 (fun v h L => ∃ z : Int64, v = some (.long z) ∧ L = [] ∧ h = h0) := by
  refine ownMet.of (plainFor_of_name pn_19) ?_
  intro p e s m below meth c T0 hx hby hml hZ hown hnm hret hlk X0 e0
  refine ownEnds.cast (ef_rm19n m ob) ?_
  show ownEnds _ _ _ _ (T0.setTop (mkF m 0 #[.val (.ref ob), .val .null, .unset, .unset] []))
  refine ownEnds.law (fun t k => X0.ldc2Long hx hown (mvT hZ (wd_161 hw)) (g := (mkF m 0 #[.val (.ref ob), .val .null, .unset, .unset] [])) rfl (hb hby d19_0) _ (XS.aloadN X0.here hx rfl (hb hby d19_3) rfl rfl k)) ?_
  show ownEnds _ _ _ _ (T0.setTop (mkF m 4 #[.val (.ref ob), .val .null, .unset, .unset] [(.ref ob), (.long (64 : Int64))]))
  obtain ⟨_, t1, kb1, cc1, _, Es1, Vs1, Cs1, As1, u1, v1'⟩ := id SO
  obtain ⟨v1, T1, L1, X1, hQ1, st1⟩ := ownCallVB X0 hx hZ hown (y := (⟨"java/lang/String", "length", "()I"⟩ : MethodName)) (z := (⟨"java/lang/String", "length", "()I"⟩ : MethodName)) (a := ob) (as := []) (wd_162 hw) (wd_163 hw) (notFace_of_selects (args := #[]) (mvT hZ (wd_165 hw))) (wd_165 hw) (wd_164 hw) (by decide) (Q := fun v H L => v = some (.int (Int32.ofNat ([cc1] : List Int32).length)) ∧ L = [] ∧ H = h0) (cc := 0) (ss := 0) (StrChars.Road.lenW (W := 2) hZ (fun d hd => hw d ((by decide +kernel : ∀ d ∈ StrChars.Road.wordsLen, d ∈ tables_1) d hd)) (kI := 4) (wd_1 hw) (cs := [cc1]) Es1 Vs1 Cs1 As1 (StrChars.Road.codOf (n := 1) rfl (fun d hd => by rw [List.mem_singleton.mp hd]; exact v1')) (own_up u1 v1') S0 hzc (by show 1 ≤ 4000; decide) (by decide) (by decide)) e0 Es1 (by decide) (by decide) (g := (mkF m 4 #[.val (.ref ob), .val .null, .unset, .unset] [(.ref ob), (.long (64 : Int64))])) rfl (by rw [hml]; rfl) (rest := [(.long (64 : Int64))]) pd_1 rfl rfl (by show 2 * 0 + _ ≤ _; exact Nat.le_of_eq rfl) (hb hby d19_4)
  obtain ⟨rfl, rfl, e1⟩ := hQ1
  rw [List.append_nil] at X1
  refine ownEnds.law st1 ?_
  show ownEnds _ _ _ _ (T1.setTop (mkF m 7 #[.val (.ref ob), .val .null, .unset, .unset] [(.int (Int32.ofNat ([cc1] : List Int32).length)), (.long (64 : Int64))]))
  refine ownEnds.law (fun t k => XS.i2l X1.here hx rfl (hb hby d19_7) rfl (XS.ladd X1.here hx rfl (hb hby d19_8) rfl (XS.lstoreN X1.here hx rfl (hb hby d19_9) rfl (l' := #[.val (.ref ob), .val .null, .val (.long ((64 : Int64) + ((Int32.ofNat ([cc1] : List Int32).length).toInt64))), .second]) rfl (XS.aloadN X1.here hx rfl (hb hby d19_10) rfl rfl k)))) ?_
  show ownEnds _ _ _ _ (T1.setTop (mkF m 11 #[.val (.ref ob), .val .null, .val (.long ((64 : Int64) + ((Int32.ofNat ([cc1] : List Int32).length).toInt64))), .second] [.null]))
  refine ownEnds.law (fun t k => XS.ifnullYes X1.here hx rfl (pc0 := 11) (pc' := 32) rfl (hb hby d19_11) rfl (by decide) (by decide) (XS.lloadN X1.here hx rfl (hb hby d19_32) rfl k)) ?_
  show ownEnds _ _ _ _ (T1.setTop (mkF m 33 #[.val (.ref ob), .val .null, .val (.long ((64 : Int64) + ((Int32.ofNat ([cc1] : List Int32).length).toInt64))), .second] [(.long ((64 : Int64) + ((Int32.ofNat ([cc1] : List Int32).length).toInt64)))]))
  refine ownRetL X1 hlk hx hret (hb hby d19_33) (by decide) (by decide) ?_
  exact ⟨_, rfl, rfl, e1⟩
set_option maxRecDepth 65536 in
set_option maxHeartbeats 40000000 in
theorem rm19r (l : Launch) (Z : State) (a0 : Array Value) (hw : ∀ d ∈ tables_1, d.before a0 Z = true) (ob : Addr) (ox : Addr) (zc : Int32) (B : Nat) (pv : Value) (sb : Addr) (h0 : Heap) (n0 : Nat) (Z0 : n0 ≤ h0.size) (SO : StrOK Z h0 B ob) (Ex : Exa Z h0 ox "com/example/markup_reader/markupreader/reader/Entity$ExternalId") (Fp : Fld Z h0 ox "com/example/markup_reader/markupreader/reader/Entity$ExternalId" "publicId" "Ljava/lang/String;" pv) (Fs : Fld Z h0 ox "com/example/markup_reader/markupreader/reader/Entity$ExternalId" "systemId" "Ljava/lang/String;" (.ref sb)) (hpv : pv = .null ∨ ∃ pb, pv = .ref pb ∧ StrOK Z h0 B pb) (SS : StrOK Z h0 B sb) (S0 : Sta Z h0 "java/lang/String" "COMPACT_STRINGS" "Z" (.int zc)) (hzc : ¬ zc = 0) :
    ownMet l Z (⟨"com/example/markup_reader/markupreader/reader/KeptSize", "doctype", "(Ljava/lang/String;Lcom/example/markup_reader/markupreader/reader/Entity$ExternalId;)J"⟩ : MethodName) prog_94_method_2_code 4 (some .long) [] ({ frames := 3, cells := 0, slots := 0, locals := 44 } : Room) #[(.ref ob), (.ref ox)] h0 (fun v h L => ∃ z : Int64, v = some (.long z) ∧ L = [] ∧ h = h0) := by
  refine ownMet.of (plainFor_of_name pn_19) ?_
  intro p e s m below meth c T0 hx hby hml hZ hown hnm hret hlk X0 e0
  refine ownEnds.cast (ef_rm19r m ob ox) ?_
  rcases hpv with rfl | ⟨pb, rfl, PS⟩
  · show ownEnds _ _ _ _ (T0.setTop (mkF m 0 #[.val (.ref ob), .val (.ref ox), .unset, .unset] []))
    refine ownEnds.law (fun t k => X0.ldc2Long hx hown (mvT hZ (wd_161 hw)) (g := (mkF m 0 #[.val (.ref ob), .val (.ref ox), .unset, .unset] [])) rfl (hb hby d19_0) _ (XS.aloadN X0.here hx rfl (hb hby d19_3) rfl rfl k)) ?_
    show ownEnds _ _ _ _ (T0.setTop (mkF m 4 #[.val (.ref ob), .val (.ref ox), .unset, .unset] [(.ref ob), (.long (64 : Int64))]))
    obtain ⟨_, t1, kb1, cc1, _, Es1, Vs1, Cs1, As1, u1, v1'⟩ := id SO
    obtain ⟨v1, T1, L1, X1, hQ1, st1⟩ := ownCallVB X0 hx hZ hown (y := (⟨"java/lang/String", "length", "()I"⟩ : MethodName)) (z := (⟨"java/lang/String", "length", "()I"⟩ : MethodName)) (a := ob) (as := []) (wd_162 hw) (wd_163 hw) (notFace_of_selects (args := #[]) (mvT hZ (wd_165 hw))) (wd_165 hw) (wd_164 hw) (by decide) (Q := fun v H L => v = some (.int (Int32.ofNat ([cc1] : List Int32).length)) ∧ L = [] ∧ H = h0) (cc := 0) (ss := 0) (StrChars.Road.lenW (W := 2) hZ (fun d hd => hw d ((by decide +kernel : ∀ d ∈ StrChars.Road.wordsLen, d ∈ tables_1) d hd)) (kI := 4) (wd_1 hw) (cs := [cc1]) Es1 Vs1 Cs1 As1 (StrChars.Road.codOf (n := 1) rfl (fun d hd => by rw [List.mem_singleton.mp hd]; exact v1')) (own_up u1 v1') S0 hzc (by show 1 ≤ 4000; decide) (by decide) (by decide)) e0 Es1 (by decide) (by decide) (g := (mkF m 4 #[.val (.ref ob), .val (.ref ox), .unset, .unset] [(.ref ob), (.long (64 : Int64))])) rfl (by rw [hml]; rfl) (rest := [(.long (64 : Int64))]) pd_1 rfl rfl (by show 2 * 0 + _ ≤ _; exact Nat.le_of_eq rfl) (hb hby d19_4)
    obtain ⟨rfl, rfl, e1⟩ := hQ1
    rw [List.append_nil] at X1
    refine ownEnds.law st1 ?_
    show ownEnds _ _ _ _ (T1.setTop (mkF m 7 #[.val (.ref ob), .val (.ref ox), .unset, .unset] [(.int (Int32.ofNat ([cc1] : List Int32).length)), (.long (64 : Int64))]))
    refine ownEnds.law (fun t k => XS.i2l X1.here hx rfl (hb hby d19_7) rfl (XS.ladd X1.here hx rfl (hb hby d19_8) rfl (XS.lstoreN X1.here hx rfl (hb hby d19_9) rfl (l' := #[.val (.ref ob), .val (.ref ox), .val (.long ((64 : Int64) + ((Int32.ofNat ([cc1] : List Int32).length).toInt64))), .second]) rfl (XS.aloadN X1.here hx rfl (hb hby d19_10) rfl rfl k)))) ?_
    show ownEnds _ _ _ _ (T1.setTop (mkF m 11 #[.val (.ref ob), .val (.ref ox), .val (.long ((64 : Int64) + ((Int32.ofNat ([cc1] : List Int32).length).toInt64))), .second] [(.ref ox)]))
    refine ownEnds.law (fun t k => XS.ifnullNo X1.here hx rfl (hb hby d19_11) rfl (XS.lloadN X1.here hx rfl (hb hby d19_14) rfl (XS.aloadN X1.here hx rfl (hb hby d19_15) rfl rfl k))) ?_
    show ownEnds _ _ _ _ (T1.setTop (mkF m 16 #[.val (.ref ob), .val (.ref ox), .val (.long ((64 : Int64) + ((Int32.ofNat ([cc1] : List Int32).length).toInt64))), .second] [(.ref ox), (.long ((64 : Int64) + ((Int32.ofNat ([cc1] : List Int32).length).toInt64)))]))
    obtain ⟨v2, T2, L2, X2, hQ2, st2⟩ := ownCallV X1 hx hZ hown (y := (⟨"com/example/markup_reader/markupreader/reader/Entity$ExternalId", "publicId", "()Ljava/lang/String;"⟩ : MethodName)) (z := (⟨"com/example/markup_reader/markupreader/reader/Entity$ExternalId", "publicId", "()Ljava/lang/String;"⟩ : MethodName)) (a := ox) (as := []) (wd_200 hw) (wd_201 hw) (notFace_of_selects (args := #[]) (mvT hZ (wd_203 hw))) (wd_203 hw) (wd_202 hw) (wd_181 hw) (wd_204 hw) (by decide) (rm26n l Z a0 hw ox  h0 n0 Z0 Fp) e1 Ex 2 (by decide) (by decide) (by decide) (by decide) (g := (mkF m 16 #[.val (.ref ob), .val (.ref ox), .val (.long ((64 : Int64) + ((Int32.ofNat ([cc1] : List Int32).length).toInt64))), .second] [(.ref ox), (.long ((64 : Int64) + ((Int32.ofNat ([cc1] : List Int32).length).toInt64)))])) rfl (by rw [hml]; rfl) (rest := [(.long ((64 : Int64) + ((Int32.ofNat ([cc1] : List Int32).length).toInt64)))]) pd_2 rfl rfl (by show 2 * 0 + _ ≤ _; exact Nat.le_of_eq rfl) (hb hby d19_16)
    obtain ⟨rfl, rfl, e2⟩ := hQ2
    rw [List.append_nil] at X2
    refine ownEnds.law st2 ?_
    show ownEnds _ _ _ _ (T2.setTop (mkF m 19 #[.val (.ref ob), .val (.ref ox), .val (.long ((64 : Int64) + ((Int32.ofNat ([cc1] : List Int32).length).toInt64))), .second] [.null, (.long ((64 : Int64) + ((Int32.ofNat ([cc1] : List Int32).length).toInt64)))]))
    obtain ⟨v3, T3, L3, X3, hQ3, st3⟩ := ownCallS X2 hx hZ hown (y := (⟨"com/example/markup_reader/markupreader/reader/KeptSize", "length", "(Ljava/lang/String;)J"⟩ : MethodName)) (as := [.null]) (wd_205 hw) (wd_206 hw) (wd_159 hw) (wd_207 hw) (by decide) (rm27n l Z a0 hw h0 n0 Z0) e2 2 (by decide) (by decide) (by decide) (by decide) (g := (mkF m 19 #[.val (.ref ob), .val (.ref ox), .val (.long ((64 : Int64) + ((Int32.ofNat ([cc1] : List Int32).length).toInt64))), .second] [.null, (.long ((64 : Int64) + ((Int32.ofNat ([cc1] : List Int32).length).toInt64)))])) rfl (by rw [hml]; rfl) (rest := [(.long ((64 : Int64) + ((Int32.ofNat ([cc1] : List Int32).length).toInt64)))]) pd_3 rfl rfl (by show 2 * 0 + _ ≤ _; exact Nat.le_of_eq rfl) (hb hby d19_19)
    obtain ⟨z3, rfl, rfl, e3⟩ := hQ3
    rw [List.append_nil] at X3
    refine ownEnds.law st3 ?_
    show ownEnds _ _ _ _ (T3.setTop (mkF m 22 #[.val (.ref ob), .val (.ref ox), .val (.long ((64 : Int64) + ((Int32.ofNat ([cc1] : List Int32).length).toInt64))), .second] [(.long z3), (.long ((64 : Int64) + ((Int32.ofNat ([cc1] : List Int32).length).toInt64)))]))
    refine ownEnds.law (fun t k => XS.aloadN X3.here hx rfl (hb hby d19_22) rfl rfl k) ?_
    show ownEnds _ _ _ _ (T3.setTop (mkF m 23 #[.val (.ref ob), .val (.ref ox), .val (.long ((64 : Int64) + ((Int32.ofNat ([cc1] : List Int32).length).toInt64))), .second] [(.ref ox), (.long z3), (.long ((64 : Int64) + ((Int32.ofNat ([cc1] : List Int32).length).toInt64)))]))
    obtain ⟨v4, T4, L4, X4, hQ4, st4⟩ := ownCallV X3 hx hZ hown (y := (⟨"com/example/markup_reader/markupreader/reader/Entity$ExternalId", "systemId", "()Ljava/lang/String;"⟩ : MethodName)) (z := (⟨"com/example/markup_reader/markupreader/reader/Entity$ExternalId", "systemId", "()Ljava/lang/String;"⟩ : MethodName)) (a := ox) (as := []) (wd_208 hw) (wd_209 hw) (notFace_of_selects (args := #[]) (mvT hZ (wd_211 hw))) (wd_211 hw) (wd_210 hw) (wd_181 hw) (wd_212 hw) (by decide) (rm28r l Z a0 hw ox sb h0 n0 Z0 Fs) e3 Ex 4 (by decide) (by decide) (by decide) (by decide) (g := (mkF m 23 #[.val (.ref ob), .val (.ref ox), .val (.long ((64 : Int64) + ((Int32.ofNat ([cc1] : List Int32).length).toInt64))), .second] [(.ref ox), (.long z3), (.long ((64 : Int64) + ((Int32.ofNat ([cc1] : List Int32).length).toInt64)))])) rfl (by rw [hml]; rfl) (rest := [(.long z3), (.long ((64 : Int64) + ((Int32.ofNat ([cc1] : List Int32).length).toInt64)))]) pd_2 rfl rfl (by show 2 * 0 + _ ≤ _; exact Nat.le_of_eq rfl) (hb hby d19_23)
    obtain ⟨rfl, rfl, e4⟩ := hQ4
    rw [List.append_nil] at X4
    refine ownEnds.law st4 ?_
    show ownEnds _ _ _ _ (T4.setTop (mkF m 26 #[.val (.ref ob), .val (.ref ox), .val (.long ((64 : Int64) + ((Int32.ofNat ([cc1] : List Int32).length).toInt64))), .second] [(.ref sb), (.long z3), (.long ((64 : Int64) + ((Int32.ofNat ([cc1] : List Int32).length).toInt64)))]))
    obtain ⟨v5, T5, L5, X5, hQ5, st5⟩ := ownCallS X4 hx hZ hown (y := (⟨"com/example/markup_reader/markupreader/reader/KeptSize", "length", "(Ljava/lang/String;)J"⟩ : MethodName)) (as := [(.ref sb)]) (wd_205 hw) (wd_206 hw) (wd_159 hw) (wd_207 hw) (by decide) (rm27r l Z a0 hw sb zc B h0 n0 Z0 SS S0 hzc) e4 4 (by decide) (by decide) (by decide) (by decide) (g := (mkF m 26 #[.val (.ref ob), .val (.ref ox), .val (.long ((64 : Int64) + ((Int32.ofNat ([cc1] : List Int32).length).toInt64))), .second] [(.ref sb), (.long z3), (.long ((64 : Int64) + ((Int32.ofNat ([cc1] : List Int32).length).toInt64)))])) rfl (by rw [hml]; rfl) (rest := [(.long z3), (.long ((64 : Int64) + ((Int32.ofNat ([cc1] : List Int32).length).toInt64)))]) pd_3 rfl rfl (by show 2 * 0 + _ ≤ _; exact Nat.le_of_eq rfl) (hb hby d19_26)
    obtain ⟨z5, rfl, rfl, e5⟩ := hQ5
    rw [List.append_nil] at X5
    refine ownEnds.law st5 ?_
    show ownEnds _ _ _ _ (T5.setTop (mkF m 29 #[.val (.ref ob), .val (.ref ox), .val (.long ((64 : Int64) + ((Int32.ofNat ([cc1] : List Int32).length).toInt64))), .second] [(.long z5), (.long z3), (.long ((64 : Int64) + ((Int32.ofNat ([cc1] : List Int32).length).toInt64)))]))
    refine ownEnds.law (fun t k => XS.ladd X5.here hx rfl (hb hby d19_29) rfl (XS.ladd X5.here hx rfl (hb hby d19_30) rfl (XS.lstoreN X5.here hx rfl (hb hby d19_31) rfl (l' := #[.val (.ref ob), .val (.ref ox), .val (.long (((64 : Int64) + ((Int32.ofNat ([cc1] : List Int32).length).toInt64)) + (z3 + z5))), .second]) rfl (XS.lloadN X5.here hx rfl (hb hby d19_32) rfl k)))) ?_
    show ownEnds _ _ _ _ (T5.setTop (mkF m 33 #[.val (.ref ob), .val (.ref ox), .val (.long (((64 : Int64) + ((Int32.ofNat ([cc1] : List Int32).length).toInt64)) + (z3 + z5))), .second] [(.long (((64 : Int64) + ((Int32.ofNat ([cc1] : List Int32).length).toInt64)) + (z3 + z5)))]))
    refine ownRetL X5 hlk hx hret (hb hby d19_33) (by decide) (by decide) ?_
    exact ⟨_, rfl, rfl, e5⟩
  · show ownEnds _ _ _ _ (T0.setTop (mkF m 0 #[.val (.ref ob), .val (.ref ox), .unset, .unset] []))
    refine ownEnds.law (fun t k => X0.ldc2Long hx hown (mvT hZ (wd_161 hw)) (g := (mkF m 0 #[.val (.ref ob), .val (.ref ox), .unset, .unset] [])) rfl (hb hby d19_0) _ (XS.aloadN X0.here hx rfl (hb hby d19_3) rfl rfl k)) ?_
    show ownEnds _ _ _ _ (T0.setTop (mkF m 4 #[.val (.ref ob), .val (.ref ox), .unset, .unset] [(.ref ob), (.long (64 : Int64))]))
    obtain ⟨_, t6, kb6, cc6, _, Es6, Vs6, Cs6, As6, u6, v6'⟩ := id SO
    obtain ⟨v6, T6, L6, X6, hQ6, st6⟩ := ownCallVB X0 hx hZ hown (y := (⟨"java/lang/String", "length", "()I"⟩ : MethodName)) (z := (⟨"java/lang/String", "length", "()I"⟩ : MethodName)) (a := ob) (as := []) (wd_162 hw) (wd_163 hw) (notFace_of_selects (args := #[]) (mvT hZ (wd_165 hw))) (wd_165 hw) (wd_164 hw) (by decide) (Q := fun v H L => v = some (.int (Int32.ofNat ([cc6] : List Int32).length)) ∧ L = [] ∧ H = h0) (cc := 0) (ss := 0) (StrChars.Road.lenW (W := 2) hZ (fun d hd => hw d ((by decide +kernel : ∀ d ∈ StrChars.Road.wordsLen, d ∈ tables_1) d hd)) (kI := 4) (wd_1 hw) (cs := [cc6]) Es6 Vs6 Cs6 As6 (StrChars.Road.codOf (n := 1) rfl (fun d hd => by rw [List.mem_singleton.mp hd]; exact v6')) (own_up u6 v6') S0 hzc (by show 1 ≤ 4000; decide) (by decide) (by decide)) e0 Es6 (by decide) (by decide) (g := (mkF m 4 #[.val (.ref ob), .val (.ref ox), .unset, .unset] [(.ref ob), (.long (64 : Int64))])) rfl (by rw [hml]; rfl) (rest := [(.long (64 : Int64))]) pd_1 rfl rfl (by show 2 * 0 + _ ≤ _; exact Nat.le_of_eq rfl) (hb hby d19_4)
    obtain ⟨rfl, rfl, e6⟩ := hQ6
    rw [List.append_nil] at X6
    refine ownEnds.law st6 ?_
    show ownEnds _ _ _ _ (T6.setTop (mkF m 7 #[.val (.ref ob), .val (.ref ox), .unset, .unset] [(.int (Int32.ofNat ([cc6] : List Int32).length)), (.long (64 : Int64))]))
    refine ownEnds.law (fun t k => XS.i2l X6.here hx rfl (hb hby d19_7) rfl (XS.ladd X6.here hx rfl (hb hby d19_8) rfl (XS.lstoreN X6.here hx rfl (hb hby d19_9) rfl (l' := #[.val (.ref ob), .val (.ref ox), .val (.long ((64 : Int64) + ((Int32.ofNat ([cc6] : List Int32).length).toInt64))), .second]) rfl (XS.aloadN X6.here hx rfl (hb hby d19_10) rfl rfl k)))) ?_
    show ownEnds _ _ _ _ (T6.setTop (mkF m 11 #[.val (.ref ob), .val (.ref ox), .val (.long ((64 : Int64) + ((Int32.ofNat ([cc6] : List Int32).length).toInt64))), .second] [(.ref ox)]))
    refine ownEnds.law (fun t k => XS.ifnullNo X6.here hx rfl (hb hby d19_11) rfl (XS.lloadN X6.here hx rfl (hb hby d19_14) rfl (XS.aloadN X6.here hx rfl (hb hby d19_15) rfl rfl k))) ?_
    show ownEnds _ _ _ _ (T6.setTop (mkF m 16 #[.val (.ref ob), .val (.ref ox), .val (.long ((64 : Int64) + ((Int32.ofNat ([cc6] : List Int32).length).toInt64))), .second] [(.ref ox), (.long ((64 : Int64) + ((Int32.ofNat ([cc6] : List Int32).length).toInt64)))]))
    obtain ⟨v7, T7, L7, X7, hQ7, st7⟩ := ownCallV X6 hx hZ hown (y := (⟨"com/example/markup_reader/markupreader/reader/Entity$ExternalId", "publicId", "()Ljava/lang/String;"⟩ : MethodName)) (z := (⟨"com/example/markup_reader/markupreader/reader/Entity$ExternalId", "publicId", "()Ljava/lang/String;"⟩ : MethodName)) (a := ox) (as := []) (wd_200 hw) (wd_201 hw) (notFace_of_selects (args := #[]) (mvT hZ (wd_203 hw))) (wd_203 hw) (wd_202 hw) (wd_181 hw) (wd_204 hw) (by decide) (rm26r l Z a0 hw ox pb h0 n0 Z0 Fp) e6 Ex 2 (by decide) (by decide) (by decide) (by decide) (g := (mkF m 16 #[.val (.ref ob), .val (.ref ox), .val (.long ((64 : Int64) + ((Int32.ofNat ([cc6] : List Int32).length).toInt64))), .second] [(.ref ox), (.long ((64 : Int64) + ((Int32.ofNat ([cc6] : List Int32).length).toInt64)))])) rfl (by rw [hml]; rfl) (rest := [(.long ((64 : Int64) + ((Int32.ofNat ([cc6] : List Int32).length).toInt64)))]) pd_2 rfl rfl (by show 2 * 0 + _ ≤ _; exact Nat.le_of_eq rfl) (hb hby d19_16)
    obtain ⟨rfl, rfl, e7⟩ := hQ7
    rw [List.append_nil] at X7
    refine ownEnds.law st7 ?_
    show ownEnds _ _ _ _ (T7.setTop (mkF m 19 #[.val (.ref ob), .val (.ref ox), .val (.long ((64 : Int64) + ((Int32.ofNat ([cc6] : List Int32).length).toInt64))), .second] [(.ref pb), (.long ((64 : Int64) + ((Int32.ofNat ([cc6] : List Int32).length).toInt64)))]))
    obtain ⟨v8, T8, L8, X8, hQ8, st8⟩ := ownCallS X7 hx hZ hown (y := (⟨"com/example/markup_reader/markupreader/reader/KeptSize", "length", "(Ljava/lang/String;)J"⟩ : MethodName)) (as := [(.ref pb)]) (wd_205 hw) (wd_206 hw) (wd_159 hw) (wd_207 hw) (by decide) (rm27r l Z a0 hw pb zc B h0 n0 Z0 PS S0 hzc) e7 2 (by decide) (by decide) (by decide) (by decide) (g := (mkF m 19 #[.val (.ref ob), .val (.ref ox), .val (.long ((64 : Int64) + ((Int32.ofNat ([cc6] : List Int32).length).toInt64))), .second] [(.ref pb), (.long ((64 : Int64) + ((Int32.ofNat ([cc6] : List Int32).length).toInt64)))])) rfl (by rw [hml]; rfl) (rest := [(.long ((64 : Int64) + ((Int32.ofNat ([cc6] : List Int32).length).toInt64)))]) pd_3 rfl rfl (by show 2 * 0 + _ ≤ _; exact Nat.le_of_eq rfl) (hb hby d19_19)
    obtain ⟨z8, rfl, rfl, e8⟩ := hQ8
    rw [List.append_nil] at X8
    refine ownEnds.law st8 ?_
    show ownEnds _ _ _ _ (T8.setTop (mkF m 22 #[.val (.ref ob), .val (.ref ox), .val (.long ((64 : Int64) + ((Int32.ofNat ([cc6] : List Int32).length).toInt64))), .second] [(.long z8), (.long ((64 : Int64) + ((Int32.ofNat ([cc6] : List Int32).length).toInt64)))]))
    refine ownEnds.law (fun t k => XS.aloadN X8.here hx rfl (hb hby d19_22) rfl rfl k) ?_
    show ownEnds _ _ _ _ (T8.setTop (mkF m 23 #[.val (.ref ob), .val (.ref ox), .val (.long ((64 : Int64) + ((Int32.ofNat ([cc6] : List Int32).length).toInt64))), .second] [(.ref ox), (.long z8), (.long ((64 : Int64) + ((Int32.ofNat ([cc6] : List Int32).length).toInt64)))]))
    obtain ⟨v9, T9, L9, X9, hQ9, st9⟩ := ownCallV X8 hx hZ hown (y := (⟨"com/example/markup_reader/markupreader/reader/Entity$ExternalId", "systemId", "()Ljava/lang/String;"⟩ : MethodName)) (z := (⟨"com/example/markup_reader/markupreader/reader/Entity$ExternalId", "systemId", "()Ljava/lang/String;"⟩ : MethodName)) (a := ox) (as := []) (wd_208 hw) (wd_209 hw) (notFace_of_selects (args := #[]) (mvT hZ (wd_211 hw))) (wd_211 hw) (wd_210 hw) (wd_181 hw) (wd_212 hw) (by decide) (rm28r l Z a0 hw ox sb h0 n0 Z0 Fs) e8 Ex 4 (by decide) (by decide) (by decide) (by decide) (g := (mkF m 23 #[.val (.ref ob), .val (.ref ox), .val (.long ((64 : Int64) + ((Int32.ofNat ([cc6] : List Int32).length).toInt64))), .second] [(.ref ox), (.long z8), (.long ((64 : Int64) + ((Int32.ofNat ([cc6] : List Int32).length).toInt64)))])) rfl (by rw [hml]; rfl) (rest := [(.long z8), (.long ((64 : Int64) + ((Int32.ofNat ([cc6] : List Int32).length).toInt64)))]) pd_2 rfl rfl (by show 2 * 0 + _ ≤ _; exact Nat.le_of_eq rfl) (hb hby d19_23)
    obtain ⟨rfl, rfl, e9⟩ := hQ9
    rw [List.append_nil] at X9
    refine ownEnds.law st9 ?_
    show ownEnds _ _ _ _ (T9.setTop (mkF m 26 #[.val (.ref ob), .val (.ref ox), .val (.long ((64 : Int64) + ((Int32.ofNat ([cc6] : List Int32).length).toInt64))), .second] [(.ref sb), (.long z8), (.long ((64 : Int64) + ((Int32.ofNat ([cc6] : List Int32).length).toInt64)))]))
    obtain ⟨v10, T10, L10, X10, hQ10, st10⟩ := ownCallS X9 hx hZ hown (y := (⟨"com/example/markup_reader/markupreader/reader/KeptSize", "length", "(Ljava/lang/String;)J"⟩ : MethodName)) (as := [(.ref sb)]) (wd_205 hw) (wd_206 hw) (wd_159 hw) (wd_207 hw) (by decide) (rm27r l Z a0 hw sb zc B h0 n0 Z0 SS S0 hzc) e9 4 (by decide) (by decide) (by decide) (by decide) (g := (mkF m 26 #[.val (.ref ob), .val (.ref ox), .val (.long ((64 : Int64) + ((Int32.ofNat ([cc6] : List Int32).length).toInt64))), .second] [(.ref sb), (.long z8), (.long ((64 : Int64) + ((Int32.ofNat ([cc6] : List Int32).length).toInt64)))])) rfl (by rw [hml]; rfl) (rest := [(.long z8), (.long ((64 : Int64) + ((Int32.ofNat ([cc6] : List Int32).length).toInt64)))]) pd_3 rfl rfl (by show 2 * 0 + _ ≤ _; exact Nat.le_of_eq rfl) (hb hby d19_26)
    obtain ⟨z10, rfl, rfl, e10⟩ := hQ10
    rw [List.append_nil] at X10
    refine ownEnds.law st10 ?_
    show ownEnds _ _ _ _ (T10.setTop (mkF m 29 #[.val (.ref ob), .val (.ref ox), .val (.long ((64 : Int64) + ((Int32.ofNat ([cc6] : List Int32).length).toInt64))), .second] [(.long z10), (.long z8), (.long ((64 : Int64) + ((Int32.ofNat ([cc6] : List Int32).length).toInt64)))]))
    refine ownEnds.law (fun t k => XS.ladd X10.here hx rfl (hb hby d19_29) rfl (XS.ladd X10.here hx rfl (hb hby d19_30) rfl (XS.lstoreN X10.here hx rfl (hb hby d19_31) rfl (l' := #[.val (.ref ob), .val (.ref ox), .val (.long (((64 : Int64) + ((Int32.ofNat ([cc6] : List Int32).length).toInt64)) + (z8 + z10))), .second]) rfl (XS.lloadN X10.here hx rfl (hb hby d19_32) rfl k)))) ?_
    show ownEnds _ _ _ _ (T10.setTop (mkF m 33 #[.val (.ref ob), .val (.ref ox), .val (.long (((64 : Int64) + ((Int32.ofNat ([cc6] : List Int32).length).toInt64)) + (z8 + z10))), .second] [(.long (((64 : Int64) + ((Int32.ofNat ([cc6] : List Int32).length).toInt64)) + (z8 + z10)))]))
    refine ownRetL X10 hlk hx hret (hb hby d19_33) (by decide) (by decide) ?_
    exact ⟨_, rfl, rfl, e10⟩
set_option maxRecDepth 65536 in
set_option maxHeartbeats 40000000 in
theorem rm18n (l : Launch) (Z : State) (a0 : Array Value) (hw : ∀ d ∈ tables_1, d.before a0 Z = true) (oa : Addr) (ob : Addr) (fu fs fp : Int32) (fe : Value) (zc : Int32) (h0 : Heap) (n0 : Nat) (Z0 : n0 ≤ h0.size) (D0 : DT Z h0 oa fu fs fe fp) (g_oa : n0 ≤ oa) (SO : StrOK Z h0 oa ob) (S0 : Sta Z h0 "java/lang/String" "COMPACT_STRINGS" "Z" (.int zc)) (hzc : ¬ zc = 0) :
    ownMet l Z (⟨"com/example/markup_reader/markupreader/reader/Dtd", "start", "(Ljava/lang/String;Lcom/example/markup_reader/markupreader/reader/Entity$ExternalId;)V"⟩ : MethodName) prog_77_method_3_code 3 none [] ({ frames := 4, cells := 0, slots := 0, locals := 62 } : Room) #[(.ref oa), (.ref ob), .null] h0 (fun v h L => v = none ∧ Fr n0 L ∧ Keep h0 h [oa] ∧ DT Z h oa fu fs .null fp) := by
  refine ownMet.of (plainFor_of_name pn_18) ?_
  intro p e s m below meth c T0 hx hby hml hZ hown hnm hret hlk X0 e0
  refine ownEnds.cast (ef_rm18n m oa ob) ?_
  obtain ⟨E_oa, h_fe, F1, F2, F3, F4, fk, fr, fd, F5, F6, F7⟩ := id D0
  show ownEnds _ _ _ _ (T0.setTop (mkF m 0 #[.val (.ref oa), .val (.ref ob), .val .null] []))
  refine ownEnds.law (fun t k => XS.aloadN X0.here hx rfl (hb hby d18_0) rfl rfl (XS.aloadN X0.here hx rfl (hb hby d18_1) rfl rfl k)) ?_
  show ownEnds _ _ _ _ (T0.setTop (mkF m 2 #[.val (.ref oa), .val (.ref ob), .val .null] [(.ref ob), (.ref oa)]))
  obtain ⟨T1, h1, X1, e1, W1, st1⟩ := putF X0 hx hZ hown (host := "") (Or.inl (wd_155 hw)) Via.refl e0 F6 E_oa (Or.inl (wd_156 hw)) (wd_31 hw) (ty := (.object "java/lang/String")) (by decide) rfl rfl (g := (mkF m 2 #[.val (.ref oa), .val (.ref ob), .val .null] [(.ref ob), (.ref oa)])) rfl rfl (hb hby d18_2)
  refine ownEnds.law st1 ?_
  have N1 := Fr.snoc X1 (Fr.nil n0) g_oa
  have KK1 : Keep h0 h1 [oa] := (Keep.refl h0 [oa]).wr W1 (Or.inl (List.mem_of_getElem? (i := 0) rfl))
  have Z1 : n0 ≤ h1.size := by rw [W1.size]; exact Z0
  have Fw1 : Fld Z h1 oa "com/example/markup_reader/markupreader/reader/Dtd" "rootName" "Ljava/lang/String;" (.ref ob) := Fld.same W1 F6
  show ownEnds _ _ _ _ (T1.setTop (mkF m 5 #[.val (.ref oa), .val (.ref ob), .val .null] []))
  refine ownEnds.law (fun t k => XS.aloadN X1.here hx rfl (hb hby d18_5) rfl rfl (XS.aloadN X1.here hx rfl (hb hby d18_6) rfl rfl k)) ?_
  show ownEnds _ _ _ _ (T1.setTop (mkF m 7 #[.val (.ref oa), .val (.ref ob), .val .null] [.null, (.ref oa)]))
  have f2 := (Exa.wr W1 E_oa)
  have f3 := (Fld.other W1 F3 (Or.inr (slot_ne (Or.inl (wd_142 hw)) (Or.inl (wd_156 hw)) (by decide) (t := (.object "com/example/markup_reader/markupreader/reader/Entity$ExternalId")) (t' := (.object "java/lang/String")) (by decide) (by decide))))
  obtain ⟨T4, h4, X4, e4, W4, st4⟩ := putF X1 hx hZ hown (host := "") (Or.inl (wd_141 hw)) Via.refl e1 f3 f2 (Or.inl (wd_142 hw)) (wd_31 hw) (ty := (.object "com/example/markup_reader/markupreader/reader/Entity$ExternalId")) (by decide) rfl rfl (g := (mkF m 7 #[.val (.ref oa), .val (.ref ob), .val .null] [.null, (.ref oa)])) rfl rfl (hb hby d18_7)
  refine ownEnds.law st4 ?_
  have N4 := Fr.snoc X4 N1 g_oa
  have KK4 : Keep h0 h4 [oa] := (KK1).wr W4 (Or.inl (List.mem_of_getElem? (i := 0) rfl))
  have Z4 : n0 ≤ h4.size := by rw [W4.size]; exact Z1
  have Fw4 : Fld Z h4 oa "com/example/markup_reader/markupreader/reader/Dtd" "externalSubset" "Lcom/example/markup_reader/markupreader/reader/Entity$ExternalId;" .null := Fld.same W4 f3
  show ownEnds _ _ _ _ (T4.setTop (mkF m 10 #[.val (.ref oa), .val (.ref ob), .val .null] []))
  refine ownEnds.law (fun t k => XS.aloadN X4.here hx rfl (hb hby d18_10) rfl rfl (XS.aloadN X4.here hx rfl (hb hby d18_11) rfl rfl (XS.aloadN X4.here hx rfl (hb hby d18_12) rfl rfl k))) ?_
  show ownEnds _ _ _ _ (T4.setTop (mkF m 13 #[.val (.ref oa), .val (.ref ob), .val .null] [.null, (.ref ob), (.ref oa)]))
  have f6 := (Sta.wr W4 (Sta.wr W1 S0))
  obtain ⟨v5, T5, L5, X5, hQ5, st5⟩ := ownCallS X4 hx hZ hown (y := (⟨"com/example/markup_reader/markupreader/reader/KeptSize", "doctype", "(Ljava/lang/String;Lcom/example/markup_reader/markupreader/reader/Entity$ExternalId;)J"⟩ : MethodName)) (as := [(.ref ob), .null]) (wd_157 hw) (wd_158 hw) (wd_159 hw) (wd_160 hw) (by decide) (rm19n l Z a0 hw ob zc oa h4 n0 Z4 (StrOK.keep SO KK4 (allS (Nat.le_refl _) all0)) f6 hzc) e4 1 (by decide) (by decide) (by decide) (by decide) (g := (mkF m 13 #[.val (.ref oa), .val (.ref ob), .val .null] [.null, (.ref ob), (.ref oa)])) rfl (by rw [hml]; rfl) (rest := [(.ref oa)]) pd_4 rfl rfl (by show 2 * 0 + _ ≤ _; exact Nat.le_of_eq rfl) (hb hby d18_13)
  obtain ⟨z5, rfl, rfl, e5⟩ := hQ5
  rw [List.append_nil] at X5
  refine ownEnds.law st5 ?_
  show ownEnds _ _ _ _ (T5.setTop (mkF m 16 #[.val (.ref oa), .val (.ref ob), .val .null] [(.long z5), (.ref oa)]))
  have f7 := (Exa.wr W4 f2)
  have f8 := (Fld.other W4 (Fld.other W1 F7 (Or.inr (slot_ne (Or.inl (wd_173 hw)) (Or.inl (wd_156 hw)) (by decide) (t := .long) (t' := (.object "java/lang/String")) (by decide) (by decide)))) (Or.inr (slot_ne (Or.inl (wd_173 hw)) (Or.inl (wd_142 hw)) (by decide) (t := .long) (t' := (.object "com/example/markup_reader/markupreader/reader/Entity$ExternalId")) (by decide) (by decide))))
  obtain ⟨T9, h9, X9, e9, W9, st9⟩ := putF X5 hx hZ hown (host := "") (Or.inl (wd_172 hw)) Via.refl e5 f8 f7 (Or.inl (wd_173 hw)) (wd_31 hw) (ty := .long) (by decide) rfl rfl (g := (mkF m 16 #[.val (.ref oa), .val (.ref ob), .val .null] [(.long z5), (.ref oa)])) rfl rfl (hb hby d18_16)
  refine ownEnds.law st9 ?_
  have N9 := Fr.snoc X9 N4 g_oa
  have KK9 : Keep h0 h9 [oa] := (KK4).wr W9 (Or.inl (List.mem_of_getElem? (i := 0) rfl))
  have Z9 : n0 ≤ h9.size := by rw [W9.size]; exact Z4
  have Fw9 : Fld Z h9 oa "com/example/markup_reader/markupreader/reader/Dtd" "doctypeSize" "J" (.long z5) := Fld.same W9 f8
  show ownEnds _ _ _ _ (T9.setTop (mkF m 19 #[.val (.ref oa), .val (.ref ob), .val .null] []))
  refine ownRetV X9 hlk hx hret (hb hby d18_19) (by decide) (by decide) ?_
  have f10 := (Fld.other W9 (Fld.other W4 (Fld.other W1 F1 (Or.inr (slot_ne (Or.inr (wd_127 hw)) (Or.inl (wd_156 hw)) (by decide) (t := .boolean) (t' := (.object "java/lang/String")) (by decide) (by decide)))) (Or.inr (slot_ne (Or.inr (wd_127 hw)) (Or.inl (wd_142 hw)) (by decide) (t := .boolean) (t' := (.object "com/example/markup_reader/markupreader/reader/Entity$ExternalId")) (by decide) (by decide)))) (Or.inr (slot_ne (Or.inr (wd_127 hw)) (Or.inl (wd_173 hw)) (by decide) (t := .boolean) (t' := .long) (by decide) (by decide))))
  have f11 := (Fld.other W9 (Fld.other W4 (Fld.other W1 F2 (Or.inr (slot_ne (Or.inl (wd_136 hw)) (Or.inl (wd_156 hw)) (by decide) (t := .boolean) (t' := (.object "java/lang/String")) (by decide) (by decide)))) (Or.inr (slot_ne (Or.inl (wd_136 hw)) (Or.inl (wd_142 hw)) (by decide) (t := .boolean) (t' := (.object "com/example/markup_reader/markupreader/reader/Entity$ExternalId")) (by decide) (by decide)))) (Or.inr (slot_ne (Or.inl (wd_136 hw)) (Or.inl (wd_173 hw)) (by decide) (t := .boolean) (t' := .long) (by decide) (by decide))))
  have f12 := (Fld.other W9 Fw4 (Or.inr (slot_ne (Or.inl (wd_142 hw)) (Or.inl (wd_173 hw)) (by decide) (t := (.object "com/example/markup_reader/markupreader/reader/Entity$ExternalId")) (t' := .long) (by decide) (by decide))))
  have f13 := (Fld.other W9 (Fld.other W4 (Fld.other W1 F4 (Or.inr (slot_ne (Or.inl (wd_144 hw)) (Or.inl (wd_156 hw)) (by decide) (t := .boolean) (t' := (.object "java/lang/String")) (by decide) (by decide)))) (Or.inr (slot_ne (Or.inl (wd_144 hw)) (Or.inl (wd_142 hw)) (by decide) (t := .boolean) (t' := (.object "com/example/markup_reader/markupreader/reader/Entity$ExternalId")) (by decide) (by decide)))) (Or.inr (slot_ne (Or.inl (wd_144 hw)) (Or.inl (wd_173 hw)) (by decide) (t := .boolean) (t' := .long) (by decide) (by decide))))
  have f14 := (Fld.other W9 (Fld.other W4 (Fld.other W1 F5 (Or.inr (slot_ne (Or.inl (wd_129 hw)) (Or.inl (wd_156 hw)) (by decide) (t := .boolean) (t' := (.object "java/lang/String")) (by decide) (by decide)))) (Or.inr (slot_ne (Or.inl (wd_129 hw)) (Or.inl (wd_142 hw)) (by decide) (t := .boolean) (t' := (.object "com/example/markup_reader/markupreader/reader/Entity$ExternalId")) (by decide) (by decide)))) (Or.inr (slot_ne (Or.inl (wd_129 hw)) (Or.inl (wd_173 hw)) (by decide) (t := .boolean) (t' := .long) (by decide) (by decide))))
  have f15 := (Fld.other W9 (Fld.other W4 Fw1 (Or.inr (slot_ne (Or.inl (wd_156 hw)) (Or.inl (wd_142 hw)) (by decide) (t := (.object "java/lang/String")) (t' := (.object "com/example/markup_reader/markupreader/reader/Entity$ExternalId")) (by decide) (by decide)))) (Or.inr (slot_ne (Or.inl (wd_156 hw)) (Or.inl (wd_173 hw)) (by decide) (t := (.object "java/lang/String")) (t' := .long) (by decide) (by decide))))
  have f16 := (Exa.wr W9 f7)
  rw [e9]
  exact ⟨rfl, N9, KK9, ⟨f16, rfl, f10, f11, f12, f13, fk, (.ref ob), z5, f14, f15, Fw9⟩⟩
set_option maxRecDepth 65536 in
set_option maxHeartbeats 40000000 in
theorem rm18r (l : Launch) (Z : State) (a0 : Array Value) (hw : ∀ d ∈ tables_1, d.before a0 Z = true) (oa : Addr) (ob : Addr) (ox : Addr) (fu fs fp : Int32) (fe : Value) (zc : Int32) (pv : Value) (sb : Addr) (h0 : Heap) (n0 : Nat) (Z0 : n0 ≤ h0.size) (D0 : DT Z h0 oa fu fs fe fp) (g_oa : n0 ≤ oa) (SO : StrOK Z h0 oa ob) (hox : ox < oa) (Ex : Exa Z h0 ox "com/example/markup_reader/markupreader/reader/Entity$ExternalId") (Fp : Fld Z h0 ox "com/example/markup_reader/markupreader/reader/Entity$ExternalId" "publicId" "Ljava/lang/String;" pv) (Fs : Fld Z h0 ox "com/example/markup_reader/markupreader/reader/Entity$ExternalId" "systemId" "Ljava/lang/String;" (.ref sb)) (hpv : pv = .null ∨ ∃ pb, pv = .ref pb ∧ StrOK Z h0 oa pb) (SS : StrOK Z h0 oa sb) (S0 : Sta Z h0 "java/lang/String" "COMPACT_STRINGS" "Z" (.int zc)) (hzc : ¬ zc = 0) :
    ownMet l Z (⟨"com/example/markup_reader/markupreader/reader/Dtd", "start", "(Ljava/lang/String;Lcom/example/markup_reader/markupreader/reader/Entity$ExternalId;)V"⟩ : MethodName) prog_77_method_3_code 3 none [] ({ frames := 4, cells := 0, slots := 0, locals := 62 } : Room) #[(.ref oa), (.ref ob), (.ref ox)] h0 (fun v h L => v = none ∧ Fr n0 L ∧ Keep h0 h [oa] ∧ DT Z h oa fu fs (.ref ox) fp) := by
  refine ownMet.of (plainFor_of_name pn_18) ?_
  intro p e s m below meth c T0 hx hby hml hZ hown hnm hret hlk X0 e0
  refine ownEnds.cast (ef_rm18r m oa ob ox) ?_
  obtain ⟨E_oa, h_fe, F1, F2, F3, F4, fk, fr, fd, F5, F6, F7⟩ := id D0
  show ownEnds _ _ _ _ (T0.setTop (mkF m 0 #[.val (.ref oa), .val (.ref ob), .val (.ref ox)] []))
  refine ownEnds.law (fun t k => XS.aloadN X0.here hx rfl (hb hby d18_0) rfl rfl (XS.aloadN X0.here hx rfl (hb hby d18_1) rfl rfl k)) ?_
  show ownEnds _ _ _ _ (T0.setTop (mkF m 2 #[.val (.ref oa), .val (.ref ob), .val (.ref ox)] [(.ref ob), (.ref oa)]))
  obtain ⟨T1, h1, X1, e1, W1, st1⟩ := putF X0 hx hZ hown (host := "") (Or.inl (wd_155 hw)) Via.refl e0 F6 E_oa (Or.inl (wd_156 hw)) (wd_31 hw) (ty := (.object "java/lang/String")) (by decide) rfl rfl (g := (mkF m 2 #[.val (.ref oa), .val (.ref ob), .val (.ref ox)] [(.ref ob), (.ref oa)])) rfl rfl (hb hby d18_2)
  refine ownEnds.law st1 ?_
  have N1 := Fr.snoc X1 (Fr.nil n0) g_oa
  have KK1 : Keep h0 h1 [oa] := (Keep.refl h0 [oa]).wr W1 (Or.inl (List.mem_of_getElem? (i := 0) rfl))
  have Z1 : n0 ≤ h1.size := by rw [W1.size]; exact Z0
  have Fw1 : Fld Z h1 oa "com/example/markup_reader/markupreader/reader/Dtd" "rootName" "Ljava/lang/String;" (.ref ob) := Fld.same W1 F6
  show ownEnds _ _ _ _ (T1.setTop (mkF m 5 #[.val (.ref oa), .val (.ref ob), .val (.ref ox)] []))
  refine ownEnds.law (fun t k => XS.aloadN X1.here hx rfl (hb hby d18_5) rfl rfl (XS.aloadN X1.here hx rfl (hb hby d18_6) rfl rfl k)) ?_
  show ownEnds _ _ _ _ (T1.setTop (mkF m 7 #[.val (.ref oa), .val (.ref ob), .val (.ref ox)] [(.ref ox), (.ref oa)]))
  have f2 := (Exa.wr W1 E_oa)
  have f3 := (Fld.other W1 F3 (Or.inr (slot_ne (Or.inl (wd_142 hw)) (Or.inl (wd_156 hw)) (by decide) (t := (.object "com/example/markup_reader/markupreader/reader/Entity$ExternalId")) (t' := (.object "java/lang/String")) (by decide) (by decide))))
  obtain ⟨T4, h4, X4, e4, W4, st4⟩ := putF X1 hx hZ hown (host := "") (Or.inl (wd_141 hw)) Via.refl e1 f3 f2 (Or.inl (wd_142 hw)) (wd_31 hw) (ty := (.object "com/example/markup_reader/markupreader/reader/Entity$ExternalId")) (by decide) rfl rfl (g := (mkF m 7 #[.val (.ref oa), .val (.ref ob), .val (.ref ox)] [(.ref ox), (.ref oa)])) rfl rfl (hb hby d18_7)
  refine ownEnds.law st4 ?_
  have N4 := Fr.snoc X4 N1 g_oa
  have KK4 : Keep h0 h4 [oa] := (KK1).wr W4 (Or.inl (List.mem_of_getElem? (i := 0) rfl))
  have Z4 : n0 ≤ h4.size := by rw [W4.size]; exact Z1
  have Fw4 : Fld Z h4 oa "com/example/markup_reader/markupreader/reader/Dtd" "externalSubset" "Lcom/example/markup_reader/markupreader/reader/Entity$ExternalId;" (.ref ox) := Fld.same W4 f3
  show ownEnds _ _ _ _ (T4.setTop (mkF m 10 #[.val (.ref oa), .val (.ref ob), .val (.ref ox)] []))
  refine ownEnds.law (fun t k => XS.aloadN X4.here hx rfl (hb hby d18_10) rfl rfl (XS.aloadN X4.here hx rfl (hb hby d18_11) rfl rfl (XS.aloadN X4.here hx rfl (hb hby d18_12) rfl rfl k))) ?_
  show ownEnds _ _ _ _ (T4.setTop (mkF m 13 #[.val (.ref oa), .val (.ref ob), .val (.ref ox)] [(.ref ox), (.ref ob), (.ref oa)]))
  have f6 := (Sta.wr W4 (Sta.wr W1 S0))
  have f7 := (Exa.wr W4 (Exa.wr W1 Ex))
  have f8 := (Fld.other W4 (Fld.other W1 Fp (Or.inl (Nat.ne_of_lt hox))) (Or.inl (Nat.ne_of_lt hox)))
  have f9 := (Fld.other W4 (Fld.other W1 Fs (Or.inl (Nat.ne_of_lt hox))) (Or.inl (Nat.ne_of_lt hox)))
  obtain ⟨v5, T5, L5, X5, hQ5, st5⟩ := ownCallS X4 hx hZ hown (y := (⟨"com/example/markup_reader/markupreader/reader/KeptSize", "doctype", "(Ljava/lang/String;Lcom/example/markup_reader/markupreader/reader/Entity$ExternalId;)J"⟩ : MethodName)) (as := [(.ref ob), (.ref ox)]) (wd_157 hw) (wd_158 hw) (wd_159 hw) (wd_160 hw) (by decide) (rm19r l Z a0 hw ob ox zc oa pv sb h4 n0 Z4 (StrOK.keep SO KK4 (allS (Nat.le_refl _) all0)) f7 f8 f9 (hpv.imp id fun ⟨pb, q1, q2⟩ => ⟨pb, q1, StrOK.keep q2 KK4 (allS (Nat.le_refl _) all0)⟩) (StrOK.keep SS KK4 (allS (Nat.le_refl _) all0)) f6 hzc) e4 1 (by decide) (by decide) (by decide) (by decide) (g := (mkF m 13 #[.val (.ref oa), .val (.ref ob), .val (.ref ox)] [(.ref ox), (.ref ob), (.ref oa)])) rfl (by rw [hml]; rfl) (rest := [(.ref oa)]) pd_4 rfl rfl (by show 2 * 0 + _ ≤ _; exact Nat.le_of_eq rfl) (hb hby d18_13)
  obtain ⟨z5, rfl, rfl, e5⟩ := hQ5
  rw [List.append_nil] at X5
  refine ownEnds.law st5 ?_
  show ownEnds _ _ _ _ (T5.setTop (mkF m 16 #[.val (.ref oa), .val (.ref ob), .val (.ref ox)] [(.long z5), (.ref oa)]))
  have f10 := (Exa.wr W4 f2)
  have f11 := (Fld.other W4 (Fld.other W1 F7 (Or.inr (slot_ne (Or.inl (wd_173 hw)) (Or.inl (wd_156 hw)) (by decide) (t := .long) (t' := (.object "java/lang/String")) (by decide) (by decide)))) (Or.inr (slot_ne (Or.inl (wd_173 hw)) (Or.inl (wd_142 hw)) (by decide) (t := .long) (t' := (.object "com/example/markup_reader/markupreader/reader/Entity$ExternalId")) (by decide) (by decide))))
  obtain ⟨T12, h12, X12, e12, W12, st12⟩ := putF X5 hx hZ hown (host := "") (Or.inl (wd_172 hw)) Via.refl e5 f11 f10 (Or.inl (wd_173 hw)) (wd_31 hw) (ty := .long) (by decide) rfl rfl (g := (mkF m 16 #[.val (.ref oa), .val (.ref ob), .val (.ref ox)] [(.long z5), (.ref oa)])) rfl rfl (hb hby d18_16)
  refine ownEnds.law st12 ?_
  have N12 := Fr.snoc X12 N4 g_oa
  have KK12 : Keep h0 h12 [oa] := (KK4).wr W12 (Or.inl (List.mem_of_getElem? (i := 0) rfl))
  have Z12 : n0 ≤ h12.size := by rw [W12.size]; exact Z4
  have Fw12 : Fld Z h12 oa "com/example/markup_reader/markupreader/reader/Dtd" "doctypeSize" "J" (.long z5) := Fld.same W12 f11
  show ownEnds _ _ _ _ (T12.setTop (mkF m 19 #[.val (.ref oa), .val (.ref ob), .val (.ref ox)] []))
  refine ownRetV X12 hlk hx hret (hb hby d18_19) (by decide) (by decide) ?_
  have f13 := (Fld.other W12 (Fld.other W4 (Fld.other W1 F1 (Or.inr (slot_ne (Or.inr (wd_127 hw)) (Or.inl (wd_156 hw)) (by decide) (t := .boolean) (t' := (.object "java/lang/String")) (by decide) (by decide)))) (Or.inr (slot_ne (Or.inr (wd_127 hw)) (Or.inl (wd_142 hw)) (by decide) (t := .boolean) (t' := (.object "com/example/markup_reader/markupreader/reader/Entity$ExternalId")) (by decide) (by decide)))) (Or.inr (slot_ne (Or.inr (wd_127 hw)) (Or.inl (wd_173 hw)) (by decide) (t := .boolean) (t' := .long) (by decide) (by decide))))
  have f14 := (Fld.other W12 (Fld.other W4 (Fld.other W1 F2 (Or.inr (slot_ne (Or.inl (wd_136 hw)) (Or.inl (wd_156 hw)) (by decide) (t := .boolean) (t' := (.object "java/lang/String")) (by decide) (by decide)))) (Or.inr (slot_ne (Or.inl (wd_136 hw)) (Or.inl (wd_142 hw)) (by decide) (t := .boolean) (t' := (.object "com/example/markup_reader/markupreader/reader/Entity$ExternalId")) (by decide) (by decide)))) (Or.inr (slot_ne (Or.inl (wd_136 hw)) (Or.inl (wd_173 hw)) (by decide) (t := .boolean) (t' := .long) (by decide) (by decide))))
  have f15 := (Fld.other W12 Fw4 (Or.inr (slot_ne (Or.inl (wd_142 hw)) (Or.inl (wd_173 hw)) (by decide) (t := (.object "com/example/markup_reader/markupreader/reader/Entity$ExternalId")) (t' := .long) (by decide) (by decide))))
  have f16 := (Fld.other W12 (Fld.other W4 (Fld.other W1 F4 (Or.inr (slot_ne (Or.inl (wd_144 hw)) (Or.inl (wd_156 hw)) (by decide) (t := .boolean) (t' := (.object "java/lang/String")) (by decide) (by decide)))) (Or.inr (slot_ne (Or.inl (wd_144 hw)) (Or.inl (wd_142 hw)) (by decide) (t := .boolean) (t' := (.object "com/example/markup_reader/markupreader/reader/Entity$ExternalId")) (by decide) (by decide)))) (Or.inr (slot_ne (Or.inl (wd_144 hw)) (Or.inl (wd_173 hw)) (by decide) (t := .boolean) (t' := .long) (by decide) (by decide))))
  have f17 := (Fld.other W12 (Fld.other W4 (Fld.other W1 F5 (Or.inr (slot_ne (Or.inl (wd_129 hw)) (Or.inl (wd_156 hw)) (by decide) (t := .boolean) (t' := (.object "java/lang/String")) (by decide) (by decide)))) (Or.inr (slot_ne (Or.inl (wd_129 hw)) (Or.inl (wd_142 hw)) (by decide) (t := .boolean) (t' := (.object "com/example/markup_reader/markupreader/reader/Entity$ExternalId")) (by decide) (by decide)))) (Or.inr (slot_ne (Or.inl (wd_129 hw)) (Or.inl (wd_173 hw)) (by decide) (t := .boolean) (t' := .long) (by decide) (by decide))))
  have f18 := (Fld.other W12 (Fld.other W4 Fw1 (Or.inr (slot_ne (Or.inl (wd_156 hw)) (Or.inl (wd_142 hw)) (by decide) (t := (.object "java/lang/String")) (t' := (.object "com/example/markup_reader/markupreader/reader/Entity$ExternalId")) (by decide) (by decide)))) (Or.inr (slot_ne (Or.inl (wd_156 hw)) (Or.inl (wd_173 hw)) (by decide) (t := (.object "java/lang/String")) (t' := .long) (by decide) (by decide))))
  have f19 := (Exa.wr W12 f10)
  rw [e12]
  exact ⟨rfl, N12, KK12, ⟨f19, rfl, f13, f14, f15, f16, fk, (.ref ob), z5, f17, f18, Fw12⟩⟩
set_option maxRecDepth 65536 in
set_option maxHeartbeats 40000000 in
theorem rm7 (l : Launch) (Z : State) (a0 : Array Value) (hw : ∀ d ∈ tables_1, d.before a0 Z = true) (oa : Addr) (xu : Int32) (aD : Addr) (h0 : Heap) (n0 : Nat) (Z0 : n0 ≤ h0.size) (E_oa : Exa Z h0 oa "com/example/markup_reader/markupreader/reader/Dtd") (g_oa : n0 ≤ oa) (F_oa_internal : Fld Z h0 oa "com/example/markup_reader/markupreader/reader/Dtd" "internal" "Lcom/example/markup_reader/markupreader/reader/Declarations;" .null) (F_oa_declaring : Fld Z h0 oa "com/example/markup_reader/markupreader/reader/Dtd" "declaring" "Lcom/example/markup_reader/markupreader/reader/Declarations;" .null) (F_oa_elementTypes : Fld Z h0 oa "com/example/markup_reader/markupreader/reader/Dtd" "elementTypes" "Ljava/util/Map;" .null) (F_oa_externalNotations : Fld Z h0 oa "com/example/markup_reader/markupreader/reader/Dtd" "externalNotations" "I" (.int (0 : Int32))) (F_oa_externalUnparsedEntities : Fld Z h0 oa "com/example/markup_reader/markupreader/reader/Dtd" "externalUnparsedEntities" "I" (.int (0 : Int32))) (F_oa_version : Fld Z h0 oa "com/example/markup_reader/markupreader/reader/Dtd" "version" "Ljava/lang/String;" .null) (F_oa_used : Fld Z h0 oa "com/example/markup_reader/markupreader/reader/Dtd" "used" "Z" (.int (0 : Int32))) (F_oa_skipping : Fld Z h0 oa "com/example/markup_reader/markupreader/reader/Dtd" "skipping" "Z" (.int (0 : Int32))) (F_oa_standalone : Fld Z h0 oa "com/example/markup_reader/markupreader/reader/Dtd" "standalone" "Z" (.int (0 : Int32))) (F_oa_externalSubset : Fld Z h0 oa "com/example/markup_reader/markupreader/reader/Dtd" "externalSubset" "Lcom/example/markup_reader/markupreader/reader/Entity$ExternalId;" .null) (F_oa_parameterReferences : Fld Z h0 oa "com/example/markup_reader/markupreader/reader/Dtd" "parameterReferences" "Z" (.int (0 : Int32))) (F_oa_rootName : Fld Z h0 oa "com/example/markup_reader/markupreader/reader/Dtd" "rootName" "Ljava/lang/String;" .null) (F_oa_doctypeSize : Fld Z h0 oa "com/example/markup_reader/markupreader/reader/Dtd" "doctypeSize" "J" (.long (0 : Int64))) (O0 : Old Z n0 h0) (SD0 : Sta Z Z.heap "java/util/ArrayList" "DEFAULTCAPACITY_EMPTY_ELEMENTDATA" "[Ljava/lang/Object;" (.ref aD)) :
    ownMetW l Z (⟨"com/example/markup_reader/markupreader/reader/Dtd", "<init>", "(Z)V"⟩ : MethodName) prog_77_method_1_code 2 none [] ({ frames := 5, cells := 8, slots := 61, locals := 66 } : Room) #[(.ref oa), (.int xu)] h0 (fun v h L => v = none ∧ Fr n0 L ∧ Keep h0 h [oa] ∧ DT Z h oa (nar .boolean xu) (0 : Int32) .null (0 : Int32)) := by
  refine ownMetW.of (plainFor_of_name pn_7) ?_
  intro p e s m below meth c T0 hx hby hml hZ hown hnm hret hlk X0 e0
  refine ownEnds.cast (ef_rm7 m oa xu) ?_
  show ownEnds _ _ _ _ (T0.setTop (mkF m 0 #[.val (.ref oa), .val (.int xu)] []))
  refine ownEnds.law (fun t k => XS.aloadN X0.here hx rfl (hb hby d7_0) rfl rfl k) ?_
  show ownEnds _ _ _ _ (T0.setTop (mkF m 1 #[.val (.ref oa), .val (.int xu)] [(.ref oa)]))
  obtain ⟨T1, X1, e1, st1⟩ := initO X0 hx hZ hown (wd_36 hw) (wd_12 hw) (wd_13 hw) e0 (g := (mkF m 1 #[.val (.ref oa), .val (.int xu)] [(.ref oa)])) rfl (by rw [hml]; rfl) rfl (hb hby d7_1) (by decide) (W := 0) (by show 2 * 0 + _ ≤ _; exact Nat.le_of_eq rfl) (by decide)
  refine ownEnds.law st1 ?_
  show ownEnds _ _ _ _ (T1.setTop (mkF m 4 #[.val (.ref oa), .val (.int xu)] []))
  refine ownEnds.law (fun t k => XS.aloadN X1.here hx rfl (hb hby d7_4) rfl rfl k) ?_
  show ownEnds _ _ _ _ (T1.setTop (mkF m 5 #[.val (.ref oa), .val (.int xu)] [(.ref oa)]))
  obtain ⟨T2, h2, X2, e2, E2, A2, D2, -, st2⟩ := newO X1 hx hZ hown (wd_37 hw) (wd_38 hw) (wd_39 hw) e1 (g := (mkF m 5 #[.val (.ref oa), .val (.int xu)] [(.ref oa)])) rfl (hb hby d7_5) (by decide) (by decide)
  obtain ⟨b2, g2⟩ : ∃ z, z = h0.size := ⟨_, rfl⟩
  rw [← g2] at A2 D2 st2
  refine ownEnds.law st2 ?_
  have ne_oa_b2 : oa ≠ b2 := Nat.ne_of_lt (Nat.lt_of_lt_of_eq E_oa.lt g2.symm)
  have g_b2 : n0 ≤ b2 := Nat.le_trans Z0 (Nat.le_of_eq g2.symm)
  have sz_b2 : h0.size ≤ b2 := Nat.le_trans (Keep.refl h0 [oa]).1 (Nat.le_of_eq g2.symm)
  have Z2 : n0 ≤ h2.size := Nat.le_trans Z0 E2.1
  have O_2 : Old Z n0 h2 := Old.ext O0 E2
  have KK2 : Keep h0 h2 [oa] := (Keep.refl h0 [oa]).ext E2
  have F3 : Fld Z h2 b2 "com/example/markup_reader/markupreader/reader/Declarations" "generalEntities" "Ljava/util/Map;" .null := D2 (Or.inr (wd_61 hw)) (ty := (.object "java/util/Map")) (by decide)
  have F4 : Fld Z h2 b2 "com/example/markup_reader/markupreader/reader/Declarations" "parameterEntities" "Ljava/util/Map;" .null := D2 (Or.inr (wd_63 hw)) (ty := (.object "java/util/Map")) (by decide)
  have F5 : Fld Z h2 b2 "com/example/markup_reader/markupreader/reader/Declarations" "elementTypes" "Ljava/util/Map;" .null := D2 (Or.inr (wd_65 hw)) (ty := (.object "java/util/Map")) (by decide)
  have F6 : Fld Z h2 b2 "com/example/markup_reader/markupreader/reader/Declarations" "notations" "Ljava/util/Map;" .null := D2 (Or.inr (wd_82 hw)) (ty := (.object "java/util/Map")) (by decide)
  have F7 : Fld Z h2 b2 "com/example/markup_reader/markupreader/reader/Declarations" "unparsedEntities" "Ljava/util/List;" .null := D2 (Or.inr (wd_108 hw)) (ty := (.object "java/util/List")) (by decide)
  show ownEnds _ _ _ _ (T2.setTop (mkF m 8 #[.val (.ref oa), .val (.int xu)] [(.ref b2), (.ref oa)]))
  refine ownEnds.law (fun t k => XS.dup X2.here hx rfl (hb hby d7_8) rfl rfl k) ?_
  show ownEnds _ _ _ _ (T2.setTop (mkF m 9 #[.val (.ref oa), .val (.int xu)] [(.ref b2), (.ref b2), (.ref oa)]))
  obtain ⟨v8, T8, L8, X8, hQ8, st8⟩ := ownCallC X2 hx hZ hown (y := (⟨"com/example/markup_reader/markupreader/reader/Declarations", "<init>", "()V"⟩ : MethodName)) rfl (a := b2) (as := []) (wd_40 hw) (wd_41 hw) (wd_39 hw) (wd_42 hw) (by decide) (rm8 l Z a0 hw b2 aD h2 n0 Z2 A2 g_b2 F3 F4 F5 F6 F7 O_2 SD0) e2 2 (by decide) (by decide) (by decide) (by decide) (g := (mkF m 9 #[.val (.ref oa), .val (.int xu)] [(.ref b2), (.ref b2), (.ref oa)])) rfl (by rw [hml]; rfl) (rest := [(.ref b2), (.ref oa)]) pd_0 rfl rfl (by show 2 * 0 + _ ≤ _; exact Nat.le_of_eq rfl) (hb hby d7_9)
  obtain ⟨rfl, Nq8, Kq8, Eq8, em8, Fe8⟩ := hQ8
  have N8 := Fr.app (Fr.nil n0) Nq8
  have KK8 : Keep h0 T8.heap [oa] := Keep.trans (KK2) Kq8 (allS (Or.inr sz_b2) all0)
  have Z8 : n0 ≤ T8.heap.size := Nat.le_trans Z2 Kq8.1
  have O_8 : Old Z n0 T8.heap := Old.keep O_2 Kq8 (allS g_b2 all0)
  refine ownEnds.law st8 ?_
  show ownEnds _ _ _ _ (T8.setTop (mkF m 12 #[.val (.ref oa), .val (.int xu)] [(.ref b2), (.ref oa)]))
  have f9 := (Exa.keep (Exa.ext E2 E_oa) Kq8)
  have f10 := (Fld.keep (Fld.ext E2 F_oa_internal) Kq8 (ninS ne_oa_b2 nin0))
  obtain ⟨T11, h11, X11, e11, W11, st11⟩ := putF X8 hx hZ hown (host := "") (Or.inl (wd_109 hw)) Via.refl rfl f10 f9 (Or.inr ⟨(wd_110 hw), rfl, hnm⟩) (wd_31 hw) (ty := (.object "com/example/markup_reader/markupreader/reader/Declarations")) (by decide) rfl rfl (g := (mkF m 12 #[.val (.ref oa), .val (.int xu)] [(.ref b2), (.ref oa)])) rfl rfl (hb hby d7_12)
  refine ownEnds.law st11 ?_
  have N11 := Fr.snoc X11 N8 g_oa
  have KK11 : Keep h0 h11 [oa] := (KK8).wr W11 (Or.inl (List.mem_of_getElem? (i := 0) rfl))
  have Z11 : n0 ≤ h11.size := by rw [W11.size]; exact Z8
  have O_11 : Old Z n0 h11 := Old.wr O_8 W11 g_oa
  have Fw11 : Fld Z h11 oa "com/example/markup_reader/markupreader/reader/Dtd" "internal" "Lcom/example/markup_reader/markupreader/reader/Declarations;" (.ref b2) := Fld.same W11 f10
  show ownEnds _ _ _ _ (T11.setTop (mkF m 15 #[.val (.ref oa), .val (.int xu)] []))
  refine ownEnds.law (fun t k => XS.aloadN X11.here hx rfl (hb hby d7_15) rfl rfl (XS.aloadN X11.here hx rfl (hb hby d7_16) rfl rfl k)) ?_
  show ownEnds _ _ _ _ (T11.setTop (mkF m 17 #[.val (.ref oa), .val (.int xu)] [(.ref oa), (.ref oa)]))
  obtain ⟨T12, X12, e12, st12⟩ := getF X11 hx hZ hown (host := "") (Or.inl (wd_109 hw)) Via.refl e11 Fw11 (g := (mkF m 17 #[.val (.ref oa), .val (.int xu)] [(.ref oa), (.ref oa)])) rfl rfl (hb hby d7_17)
  refine ownEnds.law st12 ?_
  show ownEnds _ _ _ _ (T12.setTop (mkF m 20 #[.val (.ref oa), .val (.int xu)] [(.ref b2), (.ref oa)]))
  have f13 := (Exa.wr W11 f9)
  have f14 := (Fld.other W11 (Fld.keep (Fld.ext E2 F_oa_declaring) Kq8 (ninS ne_oa_b2 nin0)) (Or.inr (slot_ne (Or.inl (wd_112 hw)) (Or.inr (wd_110 hw)) (by decide) (t := (.object "com/example/markup_reader/markupreader/reader/Declarations")) (t' := (.object "com/example/markup_reader/markupreader/reader/Declarations")) (by decide) (by decide))))
  obtain ⟨T15, h15, X15, e15, W15, st15⟩ := putF X12 hx hZ hown (host := "") (Or.inl (wd_111 hw)) Via.refl e12 f14 f13 (Or.inl (wd_112 hw)) (wd_31 hw) (ty := (.object "com/example/markup_reader/markupreader/reader/Declarations")) (by decide) rfl rfl (g := (mkF m 20 #[.val (.ref oa), .val (.int xu)] [(.ref b2), (.ref oa)])) rfl rfl (hb hby d7_20)
  refine ownEnds.law st15 ?_
  have N15 := Fr.snoc X15 N11 g_oa
  have KK15 : Keep h0 h15 [oa] := (KK11).wr W15 (Or.inl (List.mem_of_getElem? (i := 0) rfl))
  have Z15 : n0 ≤ h15.size := by rw [W15.size]; exact Z11
  have O_15 : Old Z n0 h15 := Old.wr O_11 W15 g_oa
  have Fw15 : Fld Z h15 oa "com/example/markup_reader/markupreader/reader/Dtd" "declaring" "Lcom/example/markup_reader/markupreader/reader/Declarations;" (.ref b2) := Fld.same W15 f14
  show ownEnds _ _ _ _ (T15.setTop (mkF m 23 #[.val (.ref oa), .val (.int xu)] []))
  refine ownEnds.law (fun t k => XS.aloadN X15.here hx rfl (hb hby d7_23) rfl rfl (XS.aloadN X15.here hx rfl (hb hby d7_24) rfl rfl k)) ?_
  show ownEnds _ _ _ _ (T15.setTop (mkF m 25 #[.val (.ref oa), .val (.int xu)] [(.ref oa), (.ref oa)]))
  have f16 := (Fld.other W15 Fw11 (Or.inr (slot_ne (Or.inr (wd_110 hw)) (Or.inl (wd_112 hw)) (by decide) (t := (.object "com/example/markup_reader/markupreader/reader/Declarations")) (t' := (.object "com/example/markup_reader/markupreader/reader/Declarations")) (by decide) (by decide))))
  obtain ⟨T17, X17, e17, st17⟩ := getF X15 hx hZ hown (host := "") (Or.inl (wd_109 hw)) Via.refl e15 f16 (g := (mkF m 25 #[.val (.ref oa), .val (.int xu)] [(.ref oa), (.ref oa)])) rfl rfl (hb hby d7_25)
  refine ownEnds.law st17 ?_
  show ownEnds _ _ _ _ (T17.setTop (mkF m 28 #[.val (.ref oa), .val (.int xu)] [(.ref b2), (.ref oa)]))
  have f18 := (Fld.other W15 (Fld.other W11 Fe8 (Or.inl (Ne.symm ne_oa_b2))) (Or.inl (Ne.symm ne_oa_b2)))
  obtain ⟨T19, X19, e19, st19⟩ := getF X17 hx hZ hown (host := "") (Or.inl (wd_113 hw)) Via.refl e17 f18 (g := (mkF m 28 #[.val (.ref oa), .val (.int xu)] [(.ref b2), (.ref oa)])) rfl rfl (hb hby d7_28)
  refine ownEnds.law st19 ?_
  show ownEnds _ _ _ _ (T19.setTop (mkF m 31 #[.val (.ref oa), .val (.int xu)] [(.ref em8), (.ref oa)]))
  have f20 := (Exa.wr W15 f13)
  have f21 := (Fld.other W15 (Fld.other W11 (Fld.keep (Fld.ext E2 F_oa_elementTypes) Kq8 (ninS ne_oa_b2 nin0)) (Or.inr (slot_ne (Or.inl (wd_115 hw)) (Or.inr (wd_110 hw)) (by decide) (t := (.object "java/util/Map")) (t' := (.object "com/example/markup_reader/markupreader/reader/Declarations")) (by decide) (by decide)))) (Or.inr (slot_ne (Or.inl (wd_115 hw)) (Or.inl (wd_112 hw)) (by decide) (t := (.object "java/util/Map")) (t' := (.object "com/example/markup_reader/markupreader/reader/Declarations")) (by decide) (by decide))))
  obtain ⟨T22, h22, X22, e22, W22, st22⟩ := putF X19 hx hZ hown (host := "") (Or.inl (wd_114 hw)) Via.refl e19 f21 f20 (Or.inl (wd_115 hw)) (wd_31 hw) (ty := (.object "java/util/Map")) (by decide) rfl rfl (g := (mkF m 31 #[.val (.ref oa), .val (.int xu)] [(.ref em8), (.ref oa)])) rfl rfl (hb hby d7_31)
  refine ownEnds.law st22 ?_
  have N22 := Fr.snoc X22 N15 g_oa
  have KK22 : Keep h0 h22 [oa] := (KK15).wr W22 (Or.inl (List.mem_of_getElem? (i := 0) rfl))
  have Z22 : n0 ≤ h22.size := by rw [W22.size]; exact Z15
  have O_22 : Old Z n0 h22 := Old.wr O_15 W22 g_oa
  have Fw22 : Fld Z h22 oa "com/example/markup_reader/markupreader/reader/Dtd" "elementTypes" "Ljava/util/Map;" (.ref em8) := Fld.same W22 f21
  show ownEnds _ _ _ _ (T22.setTop (mkF m 34 #[.val (.ref oa), .val (.int xu)] []))
  refine ownEnds.law (fun t k => XS.aloadN X22.here hx rfl (hb hby d7_34) rfl rfl (X22.ldcInt hx hown (mvT hZ (wd_116 hw)) (g := (mkF m 35 #[.val (.ref oa), .val (.int xu)] [(.ref oa)])) rfl (hb hby d7_35) _ k)) ?_
  show ownEnds _ _ _ _ (T22.setTop (mkF m 37 #[.val (.ref oa), .val (.int xu)] [(.int (2147483647 : Int32)), (.ref oa)]))
  have f23 := (Exa.wr W22 f20)
  have f24 := (Fld.other W22 (Fld.other W15 (Fld.other W11 (Fld.keep (Fld.ext E2 F_oa_externalNotations) Kq8 (ninS ne_oa_b2 nin0)) (Or.inr (slot_ne (Or.inl (wd_118 hw)) (Or.inr (wd_110 hw)) (by decide) (t := .int) (t' := (.object "com/example/markup_reader/markupreader/reader/Declarations")) (by decide) (by decide)))) (Or.inr (slot_ne (Or.inl (wd_118 hw)) (Or.inl (wd_112 hw)) (by decide) (t := .int) (t' := (.object "com/example/markup_reader/markupreader/reader/Declarations")) (by decide) (by decide)))) (Or.inr (slot_ne (Or.inl (wd_118 hw)) (Or.inl (wd_115 hw)) (by decide) (t := .int) (t' := (.object "java/util/Map")) (by decide) (by decide))))
  obtain ⟨T25, h25, X25, e25, W25, st25⟩ := putF X22 hx hZ hown (host := "") (Or.inl (wd_117 hw)) Via.refl e22 f24 f23 (Or.inl (wd_118 hw)) (wd_31 hw) (ty := .int) (by decide) rfl rfl (g := (mkF m 37 #[.val (.ref oa), .val (.int xu)] [(.int (2147483647 : Int32)), (.ref oa)])) rfl rfl (hb hby d7_37)
  refine ownEnds.law st25 ?_
  have N25 := Fr.snoc X25 N22 g_oa
  have KK25 : Keep h0 h25 [oa] := (KK22).wr W25 (Or.inl (List.mem_of_getElem? (i := 0) rfl))
  have Z25 : n0 ≤ h25.size := by rw [W25.size]; exact Z22
  have O_25 : Old Z n0 h25 := Old.wr O_22 W25 g_oa
  have Fw25 : Fld Z h25 oa "com/example/markup_reader/markupreader/reader/Dtd" "externalNotations" "I" (.int (2147483647 : Int32)) := Fld.same W25 f24
  show ownEnds _ _ _ _ (T25.setTop (mkF m 40 #[.val (.ref oa), .val (.int xu)] []))
  refine ownEnds.law (fun t k => XS.aloadN X25.here hx rfl (hb hby d7_40) rfl rfl (X25.ldcInt hx hown (mvT hZ (wd_116 hw)) (g := (mkF m 41 #[.val (.ref oa), .val (.int xu)] [(.ref oa)])) rfl (hb hby d7_41) _ k)) ?_
  show ownEnds _ _ _ _ (T25.setTop (mkF m 43 #[.val (.ref oa), .val (.int xu)] [(.int (2147483647 : Int32)), (.ref oa)]))
  have f26 := (Exa.wr W25 f23)
  have f27 := (Fld.other W25 (Fld.other W22 (Fld.other W15 (Fld.other W11 (Fld.keep (Fld.ext E2 F_oa_externalUnparsedEntities) Kq8 (ninS ne_oa_b2 nin0)) (Or.inr (slot_ne (Or.inl (wd_120 hw)) (Or.inr (wd_110 hw)) (by decide) (t := .int) (t' := (.object "com/example/markup_reader/markupreader/reader/Declarations")) (by decide) (by decide)))) (Or.inr (slot_ne (Or.inl (wd_120 hw)) (Or.inl (wd_112 hw)) (by decide) (t := .int) (t' := (.object "com/example/markup_reader/markupreader/reader/Declarations")) (by decide) (by decide)))) (Or.inr (slot_ne (Or.inl (wd_120 hw)) (Or.inl (wd_115 hw)) (by decide) (t := .int) (t' := (.object "java/util/Map")) (by decide) (by decide)))) (Or.inr (slot_ne (Or.inl (wd_120 hw)) (Or.inl (wd_118 hw)) (by decide) (t := .int) (t' := .int) (by decide) (by decide))))
  obtain ⟨T28, h28, X28, e28, W28, st28⟩ := putF X25 hx hZ hown (host := "") (Or.inl (wd_119 hw)) Via.refl e25 f27 f26 (Or.inl (wd_120 hw)) (wd_31 hw) (ty := .int) (by decide) rfl rfl (g := (mkF m 43 #[.val (.ref oa), .val (.int xu)] [(.int (2147483647 : Int32)), (.ref oa)])) rfl rfl (hb hby d7_43)
  refine ownEnds.law st28 ?_
  have N28 := Fr.snoc X28 N25 g_oa
  have KK28 : Keep h0 h28 [oa] := (KK25).wr W28 (Or.inl (List.mem_of_getElem? (i := 0) rfl))
  have Z28 : n0 ≤ h28.size := by rw [W28.size]; exact Z25
  have O_28 : Old Z n0 h28 := Old.wr O_25 W28 g_oa
  have Fw28 : Fld Z h28 oa "com/example/markup_reader/markupreader/reader/Dtd" "externalUnparsedEntities" "I" (.int (2147483647 : Int32)) := Fld.same W28 f27
  show ownEnds _ _ _ _ (T28.setTop (mkF m 46 #[.val (.ref oa), .val (.int xu)] []))
  refine ownEnds.law (fun t k => XS.aloadN X28.here hx rfl (hb hby d7_46) rfl rfl k) ?_
  show ownEnds _ _ _ _ (T28.setTop (mkF m 47 #[.val (.ref oa), .val (.int xu)] [(.ref oa)]))
  obtain ⟨a29, T29, h29, k29, X29, e29, E29, hS29, hk29, hZ, hown, st29⟩ := ldcS (s := s) (vm0 := s.vm) X28 hx hZ hown (wd_121 hw) (fun d hd => hw d ((by decide +kernel : ∀ d ∈ Bundle.stringAtoms, d ∈ tables_1) d hd)) e28 (k0 := 0) ((State.WarmedH.refl s).since 0) (Nat.zero_le _) (g := (mkF m 47 #[.val (.ref oa), .val (.int xu)] [(.ref oa)])) rfl (hb hby d7_47) (n := 12) (by decide) (by decide) (by decide) (by decide)
  refine ownEnds.law st29 ?_
  have Z29 : n0 ≤ h29.size := Nat.le_trans Z28 E29.1
  have O_29 : Old Z n0 h29 := Old.ext O_28 E29
  have KK29 : Keep h0 h29 [oa] := (KK28).ext E29
  show ownEnds _ _ _ _ (T29.setTop (mkF m 49 #[.val (.ref oa), .val (.int xu)] [(.ref a29), (.ref oa)]))
  have f30 := (Exa.ext E29 (Exa.wr W28 f26))
  have f31 := (Fld.ext E29 (Fld.other W28 (Fld.other W25 (Fld.other W22 (Fld.other W15 (Fld.other W11 (Fld.keep (Fld.ext E2 F_oa_version) Kq8 (ninS ne_oa_b2 nin0)) (Or.inr (slot_ne (Or.inl (wd_125 hw)) (Or.inr (wd_110 hw)) (by decide) (t := (.object "java/lang/String")) (t' := (.object "com/example/markup_reader/markupreader/reader/Declarations")) (by decide) (by decide)))) (Or.inr (slot_ne (Or.inl (wd_125 hw)) (Or.inl (wd_112 hw)) (by decide) (t := (.object "java/lang/String")) (t' := (.object "com/example/markup_reader/markupreader/reader/Declarations")) (by decide) (by decide)))) (Or.inr (slot_ne (Or.inl (wd_125 hw)) (Or.inl (wd_115 hw)) (by decide) (t := (.object "java/lang/String")) (t' := (.object "java/util/Map")) (by decide) (by decide)))) (Or.inr (slot_ne (Or.inl (wd_125 hw)) (Or.inl (wd_118 hw)) (by decide) (t := (.object "java/lang/String")) (t' := .int) (by decide) (by decide)))) (Or.inr (slot_ne (Or.inl (wd_125 hw)) (Or.inl (wd_120 hw)) (by decide) (t := (.object "java/lang/String")) (t' := .int) (by decide) (by decide)))))
  obtain ⟨T32, h32, X32, e32, W32, st32⟩ := putF X29 hx hZ hown (host := "") (Or.inl (wd_124 hw)) Via.refl e29 f31 f30 (Or.inl (wd_125 hw)) (wd_31 hw) (ty := (.object "java/lang/String")) (by decide) rfl rfl (g := (mkF m 49 #[.val (.ref oa), .val (.int xu)] [(.ref a29), (.ref oa)])) rfl rfl (hb hby d7_49)
  refine ownEnds.law st32 ?_
  have N32 := Fr.snoc X32 N28 g_oa
  have KK32 : Keep h0 h32 [oa] := (KK29).wr W32 (Or.inl (List.mem_of_getElem? (i := 0) rfl))
  have Z32 : n0 ≤ h32.size := by rw [W32.size]; exact Z29
  have Y32 : k29 ≤ h32.size := by rw [W32.size]; exact hk29
  have O_32 : Old Z n0 h32 := Old.wr O_29 W32 g_oa
  have Fw32 : Fld Z h32 oa "com/example/markup_reader/markupreader/reader/Dtd" "version" "Ljava/lang/String;" (.ref a29) := Fld.same W32 f31
  show ownEnds _ _ _ _ (T32.setTop (mkF m 52 #[.val (.ref oa), .val (.int xu)] []))
  refine ownEnds.law (fun t k => XS.aloadN X32.here hx rfl (hb hby d7_52) rfl rfl (XS.iloadN X32.here hx rfl (hb hby d7_53) rfl k)) ?_
  show ownEnds _ _ _ _ (T32.setTop (mkF m 54 #[.val (.ref oa), .val (.int xu)] [(.int xu), (.ref oa)]))
  have f33 := (Exa.wr W32 f30)
  have f34 := (Fld.other W32 (Fld.ext E29 (Fld.other W28 (Fld.other W25 (Fld.other W22 (Fld.other W15 (Fld.other W11 (Fld.keep (Fld.ext E2 F_oa_used) Kq8 (ninS ne_oa_b2 nin0)) (Or.inr (slot_ne (Or.inr (wd_127 hw)) (Or.inr (wd_110 hw)) (by decide) (t := .boolean) (t' := (.object "com/example/markup_reader/markupreader/reader/Declarations")) (by decide) (by decide)))) (Or.inr (slot_ne (Or.inr (wd_127 hw)) (Or.inl (wd_112 hw)) (by decide) (t := .boolean) (t' := (.object "com/example/markup_reader/markupreader/reader/Declarations")) (by decide) (by decide)))) (Or.inr (slot_ne (Or.inr (wd_127 hw)) (Or.inl (wd_115 hw)) (by decide) (t := .boolean) (t' := (.object "java/util/Map")) (by decide) (by decide)))) (Or.inr (slot_ne (Or.inr (wd_127 hw)) (Or.inl (wd_118 hw)) (by decide) (t := .boolean) (t' := .int) (by decide) (by decide)))) (Or.inr (slot_ne (Or.inr (wd_127 hw)) (Or.inl (wd_120 hw)) (by decide) (t := .boolean) (t' := .int) (by decide) (by decide))))) (Or.inr (slot_ne (Or.inr (wd_127 hw)) (Or.inl (wd_125 hw)) (by decide) (t := .boolean) (t' := (.object "java/lang/String")) (by decide) (by decide))))
  obtain ⟨T35, h35, X35, e35, W35, st35⟩ := putFN X32 hx hZ hown (wd_126 hw) Via.refl e32 f34 f33 (Or.inr ⟨(wd_127 hw), rfl, hnm⟩) (wd_31 hw) (ty := .boolean) (v' := (.int (nar .boolean xu))) (by decide) rfl (fits_nar_bool _) (g := (mkF m 54 #[.val (.ref oa), .val (.int xu)] [(.int xu), (.ref oa)])) rfl rfl (hb hby d7_54)
  refine ownEnds.law st35 ?_
  have N35 := Fr.snoc X35 N32 g_oa
  have KK35 : Keep h0 h35 [oa] := (KK32).wr W35 (Or.inl (List.mem_of_getElem? (i := 0) rfl))
  have Z35 : n0 ≤ h35.size := by rw [W35.size]; exact Z32
  have Y35 : k29 ≤ h35.size := by rw [W35.size]; exact Y32
  have O_35 : Old Z n0 h35 := Old.wr O_32 W35 g_oa
  have Fw35 : Fld Z h35 oa "com/example/markup_reader/markupreader/reader/Dtd" "used" "Z" (.int (nar .boolean xu)) := Fld.same W35 f34
  show ownEnds _ _ _ _ (T35.setTop (mkF m 57 #[.val (.ref oa), .val (.int xu)] []))
  refine ownEnds.law (fun t k => XS.aloadN X35.here hx rfl (hb hby d7_57) rfl rfl (XS.iloadN X35.here hx rfl (hb hby d7_58) rfl k)) ?_
  show ownEnds _ _ _ _ (T35.setTop (mkF m 59 #[.val (.ref oa), .val (.int xu)] [(.int xu), (.ref oa)]))
  by_cases hc59 : xu = (0 : Int32)
  · refine ownEnds.law (fun t => XS.ifNo X35.here hx rfl (hb hby d7_59) rfl ((if0 _ _).trans (teq hc59).2)) ?_
    show ownEnds _ _ _ _ (T35.setTop (mkF m 62 #[.val (.ref oa), .val (.int xu)] [(.ref oa)]))
    refine ownEnds.law (fun t k => XS.iconst X35.here hx rfl (hb hby d7_62) (XS.goto X35.here hx rfl (pc0 := 63) (pc' := 67) rfl (hb hby d7_63) (by decide) (by decide) k)) ?_
    show ownEnds _ _ _ _ (T35.setTop (mkF m 67 #[.val (.ref oa), .val (.int xu)] [(.int (1 : Int32)), (.ref oa)]))
    have f36 := (Exa.wr W35 f33)
    have f37 := (Fld.other W35 (Fld.other W32 (Fld.ext E29 (Fld.other W28 (Fld.other W25 (Fld.other W22 (Fld.other W15 (Fld.other W11 (Fld.keep (Fld.ext E2 F_oa_skipping) Kq8 (ninS ne_oa_b2 nin0)) (Or.inr (slot_ne (Or.inl (wd_129 hw)) (Or.inr (wd_110 hw)) (by decide) (t := .boolean) (t' := (.object "com/example/markup_reader/markupreader/reader/Declarations")) (by decide) (by decide)))) (Or.inr (slot_ne (Or.inl (wd_129 hw)) (Or.inl (wd_112 hw)) (by decide) (t := .boolean) (t' := (.object "com/example/markup_reader/markupreader/reader/Declarations")) (by decide) (by decide)))) (Or.inr (slot_ne (Or.inl (wd_129 hw)) (Or.inl (wd_115 hw)) (by decide) (t := .boolean) (t' := (.object "java/util/Map")) (by decide) (by decide)))) (Or.inr (slot_ne (Or.inl (wd_129 hw)) (Or.inl (wd_118 hw)) (by decide) (t := .boolean) (t' := .int) (by decide) (by decide)))) (Or.inr (slot_ne (Or.inl (wd_129 hw)) (Or.inl (wd_120 hw)) (by decide) (t := .boolean) (t' := .int) (by decide) (by decide))))) (Or.inr (slot_ne (Or.inl (wd_129 hw)) (Or.inl (wd_125 hw)) (by decide) (t := .boolean) (t' := (.object "java/lang/String")) (by decide) (by decide)))) (Or.inr (slot_ne (Or.inl (wd_129 hw)) (Or.inr (wd_127 hw)) (by decide) (t := .boolean) (t' := .boolean) (by decide) (by decide))))
    obtain ⟨T38, h38, X38, e38, W38, st38⟩ := putFN X35 hx hZ hown (wd_128 hw) Via.refl e35 f37 f36 (Or.inl (wd_129 hw)) (wd_31 hw) (ty := .boolean) (v' := (.int (1 : Int32))) (by decide) rfl rfl (g := (mkF m 67 #[.val (.ref oa), .val (.int xu)] [(.int (1 : Int32)), (.ref oa)])) rfl rfl (hb hby d7_67)
    refine ownEnds.law st38 ?_
    have N38 := Fr.snoc X38 N35 g_oa
    have KK38 : Keep h0 h38 [oa] := (KK35).wr W38 (Or.inl (List.mem_of_getElem? (i := 0) rfl))
    have Z38 : n0 ≤ h38.size := by rw [W38.size]; exact Z35
    have Y38 : k29 ≤ h38.size := by rw [W38.size]; exact Y35
    have O_38 : Old Z n0 h38 := Old.wr O_35 W38 g_oa
    have Fw38 : Fld Z h38 oa "com/example/markup_reader/markupreader/reader/Dtd" "skipping" "Z" (.int (1 : Int32)) := Fld.same W38 f37
    show ownEnds _ _ _ _ (T38.setTop (mkF m 70 #[.val (.ref oa), .val (.int xu)] []))
    refine ownRetVW X38 hlk hS29 (by rw [e38]; exact Y38) hx hret (hb hby d7_70) (by decide) (by decide) ?_
    have f39 := (Fld.other W38 Fw35 (Or.inr (slot_ne (Or.inr (wd_127 hw)) (Or.inl (wd_129 hw)) (by decide) (t := .boolean) (t' := .boolean) (by decide) (by decide))))
    have f40 := (Fld.other W38 (Fld.other W35 (Fld.other W32 (Fld.ext E29 (Fld.other W28 (Fld.other W25 (Fld.other W22 (Fld.other W15 (Fld.other W11 (Fld.keep (Fld.ext E2 F_oa_standalone) Kq8 (ninS ne_oa_b2 nin0)) (Or.inr (slot_ne (Or.inl (wd_136 hw)) (Or.inr (wd_110 hw)) (by decide) (t := .boolean) (t' := (.object "com/example/markup_reader/markupreader/reader/Declarations")) (by decide) (by decide)))) (Or.inr (slot_ne (Or.inl (wd_136 hw)) (Or.inl (wd_112 hw)) (by decide) (t := .boolean) (t' := (.object "com/example/markup_reader/markupreader/reader/Declarations")) (by decide) (by decide)))) (Or.inr (slot_ne (Or.inl (wd_136 hw)) (Or.inl (wd_115 hw)) (by decide) (t := .boolean) (t' := (.object "java/util/Map")) (by decide) (by decide)))) (Or.inr (slot_ne (Or.inl (wd_136 hw)) (Or.inl (wd_118 hw)) (by decide) (t := .boolean) (t' := .int) (by decide) (by decide)))) (Or.inr (slot_ne (Or.inl (wd_136 hw)) (Or.inl (wd_120 hw)) (by decide) (t := .boolean) (t' := .int) (by decide) (by decide))))) (Or.inr (slot_ne (Or.inl (wd_136 hw)) (Or.inl (wd_125 hw)) (by decide) (t := .boolean) (t' := (.object "java/lang/String")) (by decide) (by decide)))) (Or.inr (slot_ne (Or.inl (wd_136 hw)) (Or.inr (wd_127 hw)) (by decide) (t := .boolean) (t' := .boolean) (by decide) (by decide)))) (Or.inr (slot_ne (Or.inl (wd_136 hw)) (Or.inl (wd_129 hw)) (by decide) (t := .boolean) (t' := .boolean) (by decide) (by decide))))
    have f41 := (Fld.other W38 (Fld.other W35 (Fld.other W32 (Fld.ext E29 (Fld.other W28 (Fld.other W25 (Fld.other W22 (Fld.other W15 (Fld.other W11 (Fld.keep (Fld.ext E2 F_oa_externalSubset) Kq8 (ninS ne_oa_b2 nin0)) (Or.inr (slot_ne (Or.inl (wd_142 hw)) (Or.inr (wd_110 hw)) (by decide) (t := (.object "com/example/markup_reader/markupreader/reader/Entity$ExternalId")) (t' := (.object "com/example/markup_reader/markupreader/reader/Declarations")) (by decide) (by decide)))) (Or.inr (slot_ne (Or.inl (wd_142 hw)) (Or.inl (wd_112 hw)) (by decide) (t := (.object "com/example/markup_reader/markupreader/reader/Entity$ExternalId")) (t' := (.object "com/example/markup_reader/markupreader/reader/Declarations")) (by decide) (by decide)))) (Or.inr (slot_ne (Or.inl (wd_142 hw)) (Or.inl (wd_115 hw)) (by decide) (t := (.object "com/example/markup_reader/markupreader/reader/Entity$ExternalId")) (t' := (.object "java/util/Map")) (by decide) (by decide)))) (Or.inr (slot_ne (Or.inl (wd_142 hw)) (Or.inl (wd_118 hw)) (by decide) (t := (.object "com/example/markup_reader/markupreader/reader/Entity$ExternalId")) (t' := .int) (by decide) (by decide)))) (Or.inr (slot_ne (Or.inl (wd_142 hw)) (Or.inl (wd_120 hw)) (by decide) (t := (.object "com/example/markup_reader/markupreader/reader/Entity$ExternalId")) (t' := .int) (by decide) (by decide))))) (Or.inr (slot_ne (Or.inl (wd_142 hw)) (Or.inl (wd_125 hw)) (by decide) (t := (.object "com/example/markup_reader/markupreader/reader/Entity$ExternalId")) (t' := (.object "java/lang/String")) (by decide) (by decide)))) (Or.inr (slot_ne (Or.inl (wd_142 hw)) (Or.inr (wd_127 hw)) (by decide) (t := (.object "com/example/markup_reader/markupreader/reader/Entity$ExternalId")) (t' := .boolean) (by decide) (by decide)))) (Or.inr (slot_ne (Or.inl (wd_142 hw)) (Or.inl (wd_129 hw)) (by decide) (t := (.object "com/example/markup_reader/markupreader/reader/Entity$ExternalId")) (t' := .boolean) (by decide) (by decide))))
    have f42 := (Fld.other W38 (Fld.other W35 (Fld.other W32 (Fld.ext E29 (Fld.other W28 (Fld.other W25 (Fld.other W22 (Fld.other W15 (Fld.other W11 (Fld.keep (Fld.ext E2 F_oa_parameterReferences) Kq8 (ninS ne_oa_b2 nin0)) (Or.inr (slot_ne (Or.inl (wd_144 hw)) (Or.inr (wd_110 hw)) (by decide) (t := .boolean) (t' := (.object "com/example/markup_reader/markupreader/reader/Declarations")) (by decide) (by decide)))) (Or.inr (slot_ne (Or.inl (wd_144 hw)) (Or.inl (wd_112 hw)) (by decide) (t := .boolean) (t' := (.object "com/example/markup_reader/markupreader/reader/Declarations")) (by decide) (by decide)))) (Or.inr (slot_ne (Or.inl (wd_144 hw)) (Or.inl (wd_115 hw)) (by decide) (t := .boolean) (t' := (.object "java/util/Map")) (by decide) (by decide)))) (Or.inr (slot_ne (Or.inl (wd_144 hw)) (Or.inl (wd_118 hw)) (by decide) (t := .boolean) (t' := .int) (by decide) (by decide)))) (Or.inr (slot_ne (Or.inl (wd_144 hw)) (Or.inl (wd_120 hw)) (by decide) (t := .boolean) (t' := .int) (by decide) (by decide))))) (Or.inr (slot_ne (Or.inl (wd_144 hw)) (Or.inl (wd_125 hw)) (by decide) (t := .boolean) (t' := (.object "java/lang/String")) (by decide) (by decide)))) (Or.inr (slot_ne (Or.inl (wd_144 hw)) (Or.inr (wd_127 hw)) (by decide) (t := .boolean) (t' := .boolean) (by decide) (by decide)))) (Or.inr (slot_ne (Or.inl (wd_144 hw)) (Or.inl (wd_129 hw)) (by decide) (t := .boolean) (t' := .boolean) (by decide) (by decide))))
    have f43 := (Fld.other W38 (Fld.other W35 (Fld.other W32 (Fld.ext E29 (Fld.other W28 (Fld.other W25 (Fld.other W22 (Fld.other W15 (Fld.other W11 (Fld.keep (Fld.ext E2 F_oa_rootName) Kq8 (ninS ne_oa_b2 nin0)) (Or.inr (slot_ne (Or.inl (wd_156 hw)) (Or.inr (wd_110 hw)) (by decide) (t := (.object "java/lang/String")) (t' := (.object "com/example/markup_reader/markupreader/reader/Declarations")) (by decide) (by decide)))) (Or.inr (slot_ne (Or.inl (wd_156 hw)) (Or.inl (wd_112 hw)) (by decide) (t := (.object "java/lang/String")) (t' := (.object "com/example/markup_reader/markupreader/reader/Declarations")) (by decide) (by decide)))) (Or.inr (slot_ne (Or.inl (wd_156 hw)) (Or.inl (wd_115 hw)) (by decide) (t := (.object "java/lang/String")) (t' := (.object "java/util/Map")) (by decide) (by decide)))) (Or.inr (slot_ne (Or.inl (wd_156 hw)) (Or.inl (wd_118 hw)) (by decide) (t := (.object "java/lang/String")) (t' := .int) (by decide) (by decide)))) (Or.inr (slot_ne (Or.inl (wd_156 hw)) (Or.inl (wd_120 hw)) (by decide) (t := (.object "java/lang/String")) (t' := .int) (by decide) (by decide))))) (Or.inr (slot_ne (Or.inl (wd_156 hw)) (Or.inl (wd_125 hw)) (by decide) (t := (.object "java/lang/String")) (t' := (.object "java/lang/String")) (by decide) (by decide)))) (Or.inr (slot_ne (Or.inl (wd_156 hw)) (Or.inr (wd_127 hw)) (by decide) (t := (.object "java/lang/String")) (t' := .boolean) (by decide) (by decide)))) (Or.inr (slot_ne (Or.inl (wd_156 hw)) (Or.inl (wd_129 hw)) (by decide) (t := (.object "java/lang/String")) (t' := .boolean) (by decide) (by decide))))
    have f44 := (Fld.other W38 (Fld.other W35 (Fld.other W32 (Fld.ext E29 (Fld.other W28 (Fld.other W25 (Fld.other W22 (Fld.other W15 (Fld.other W11 (Fld.keep (Fld.ext E2 F_oa_doctypeSize) Kq8 (ninS ne_oa_b2 nin0)) (Or.inr (slot_ne (Or.inl (wd_173 hw)) (Or.inr (wd_110 hw)) (by decide) (t := .long) (t' := (.object "com/example/markup_reader/markupreader/reader/Declarations")) (by decide) (by decide)))) (Or.inr (slot_ne (Or.inl (wd_173 hw)) (Or.inl (wd_112 hw)) (by decide) (t := .long) (t' := (.object "com/example/markup_reader/markupreader/reader/Declarations")) (by decide) (by decide)))) (Or.inr (slot_ne (Or.inl (wd_173 hw)) (Or.inl (wd_115 hw)) (by decide) (t := .long) (t' := (.object "java/util/Map")) (by decide) (by decide)))) (Or.inr (slot_ne (Or.inl (wd_173 hw)) (Or.inl (wd_118 hw)) (by decide) (t := .long) (t' := .int) (by decide) (by decide)))) (Or.inr (slot_ne (Or.inl (wd_173 hw)) (Or.inl (wd_120 hw)) (by decide) (t := .long) (t' := .int) (by decide) (by decide))))) (Or.inr (slot_ne (Or.inl (wd_173 hw)) (Or.inl (wd_125 hw)) (by decide) (t := .long) (t' := (.object "java/lang/String")) (by decide) (by decide)))) (Or.inr (slot_ne (Or.inl (wd_173 hw)) (Or.inr (wd_127 hw)) (by decide) (t := .long) (t' := .boolean) (by decide) (by decide)))) (Or.inr (slot_ne (Or.inl (wd_173 hw)) (Or.inl (wd_129 hw)) (by decide) (t := .long) (t' := .boolean) (by decide) (by decide))))
    have f45 := (Exa.wr W38 f36)
    rw [e38]
    exact ⟨rfl, N38, KK38, ⟨f45, rfl, f39, f40, f41, f42, (1 : Int32), .null, (0 : Int64), Fw38, f43, f44⟩⟩
  · refine ownEnds.law (fun t => XS.ifYes X35.here hx rfl (pc0 := 59) (pc' := 66) rfl (hb hby d7_59) rfl ((if0 _ _).trans (feq hc59).2) (by decide) (by decide)) ?_
    show ownEnds _ _ _ _ (T35.setTop (mkF m 66 #[.val (.ref oa), .val (.int xu)] [(.ref oa)]))
    refine ownEnds.law (fun t k => XS.iconst X35.here hx rfl (hb hby d7_66) k) ?_
    show ownEnds _ _ _ _ (T35.setTop (mkF m 67 #[.val (.ref oa), .val (.int xu)] [(.int (0 : Int32)), (.ref oa)]))
    have f46 := (Exa.wr W35 f33)
    have f47 := (Fld.other W35 (Fld.other W32 (Fld.ext E29 (Fld.other W28 (Fld.other W25 (Fld.other W22 (Fld.other W15 (Fld.other W11 (Fld.keep (Fld.ext E2 F_oa_skipping) Kq8 (ninS ne_oa_b2 nin0)) (Or.inr (slot_ne (Or.inl (wd_129 hw)) (Or.inr (wd_110 hw)) (by decide) (t := .boolean) (t' := (.object "com/example/markup_reader/markupreader/reader/Declarations")) (by decide) (by decide)))) (Or.inr (slot_ne (Or.inl (wd_129 hw)) (Or.inl (wd_112 hw)) (by decide) (t := .boolean) (t' := (.object "com/example/markup_reader/markupreader/reader/Declarations")) (by decide) (by decide)))) (Or.inr (slot_ne (Or.inl (wd_129 hw)) (Or.inl (wd_115 hw)) (by decide) (t := .boolean) (t' := (.object "java/util/Map")) (by decide) (by decide)))) (Or.inr (slot_ne (Or.inl (wd_129 hw)) (Or.inl (wd_118 hw)) (by decide) (t := .boolean) (t' := .int) (by decide) (by decide)))) (Or.inr (slot_ne (Or.inl (wd_129 hw)) (Or.inl (wd_120 hw)) (by decide) (t := .boolean) (t' := .int) (by decide) (by decide))))) (Or.inr (slot_ne (Or.inl (wd_129 hw)) (Or.inl (wd_125 hw)) (by decide) (t := .boolean) (t' := (.object "java/lang/String")) (by decide) (by decide)))) (Or.inr (slot_ne (Or.inl (wd_129 hw)) (Or.inr (wd_127 hw)) (by decide) (t := .boolean) (t' := .boolean) (by decide) (by decide))))
    obtain ⟨T48, h48, X48, e48, W48, st48⟩ := putFN X35 hx hZ hown (wd_128 hw) Via.refl e35 f47 f46 (Or.inl (wd_129 hw)) (wd_31 hw) (ty := .boolean) (v' := (.int (0 : Int32))) (by decide) rfl rfl (g := (mkF m 67 #[.val (.ref oa), .val (.int xu)] [(.int (0 : Int32)), (.ref oa)])) rfl rfl (hb hby d7_67)
    refine ownEnds.law st48 ?_
    have N48 := Fr.snoc X48 N35 g_oa
    have KK48 : Keep h0 h48 [oa] := (KK35).wr W48 (Or.inl (List.mem_of_getElem? (i := 0) rfl))
    have Z48 : n0 ≤ h48.size := by rw [W48.size]; exact Z35
    have Y48 : k29 ≤ h48.size := by rw [W48.size]; exact Y35
    have O_48 : Old Z n0 h48 := Old.wr O_35 W48 g_oa
    have Fw48 : Fld Z h48 oa "com/example/markup_reader/markupreader/reader/Dtd" "skipping" "Z" (.int (0 : Int32)) := Fld.same W48 f47
    show ownEnds _ _ _ _ (T48.setTop (mkF m 70 #[.val (.ref oa), .val (.int xu)] []))
    refine ownRetVW X48 hlk hS29 (by rw [e48]; exact Y48) hx hret (hb hby d7_70) (by decide) (by decide) ?_
    have f49 := (Fld.other W48 Fw35 (Or.inr (slot_ne (Or.inr (wd_127 hw)) (Or.inl (wd_129 hw)) (by decide) (t := .boolean) (t' := .boolean) (by decide) (by decide))))
    have f50 := (Fld.other W48 (Fld.other W35 (Fld.other W32 (Fld.ext E29 (Fld.other W28 (Fld.other W25 (Fld.other W22 (Fld.other W15 (Fld.other W11 (Fld.keep (Fld.ext E2 F_oa_standalone) Kq8 (ninS ne_oa_b2 nin0)) (Or.inr (slot_ne (Or.inl (wd_136 hw)) (Or.inr (wd_110 hw)) (by decide) (t := .boolean) (t' := (.object "com/example/markup_reader/markupreader/reader/Declarations")) (by decide) (by decide)))) (Or.inr (slot_ne (Or.inl (wd_136 hw)) (Or.inl (wd_112 hw)) (by decide) (t := .boolean) (t' := (.object "com/example/markup_reader/markupreader/reader/Declarations")) (by decide) (by decide)))) (Or.inr (slot_ne (Or.inl (wd_136 hw)) (Or.inl (wd_115 hw)) (by decide) (t := .boolean) (t' := (.object "java/util/Map")) (by decide) (by decide)))) (Or.inr (slot_ne (Or.inl (wd_136 hw)) (Or.inl (wd_118 hw)) (by decide) (t := .boolean) (t' := .int) (by decide) (by decide)))) (Or.inr (slot_ne (Or.inl (wd_136 hw)) (Or.inl (wd_120 hw)) (by decide) (t := .boolean) (t' := .int) (by decide) (by decide))))) (Or.inr (slot_ne (Or.inl (wd_136 hw)) (Or.inl (wd_125 hw)) (by decide) (t := .boolean) (t' := (.object "java/lang/String")) (by decide) (by decide)))) (Or.inr (slot_ne (Or.inl (wd_136 hw)) (Or.inr (wd_127 hw)) (by decide) (t := .boolean) (t' := .boolean) (by decide) (by decide)))) (Or.inr (slot_ne (Or.inl (wd_136 hw)) (Or.inl (wd_129 hw)) (by decide) (t := .boolean) (t' := .boolean) (by decide) (by decide))))
    have f51 := (Fld.other W48 (Fld.other W35 (Fld.other W32 (Fld.ext E29 (Fld.other W28 (Fld.other W25 (Fld.other W22 (Fld.other W15 (Fld.other W11 (Fld.keep (Fld.ext E2 F_oa_externalSubset) Kq8 (ninS ne_oa_b2 nin0)) (Or.inr (slot_ne (Or.inl (wd_142 hw)) (Or.inr (wd_110 hw)) (by decide) (t := (.object "com/example/markup_reader/markupreader/reader/Entity$ExternalId")) (t' := (.object "com/example/markup_reader/markupreader/reader/Declarations")) (by decide) (by decide)))) (Or.inr (slot_ne (Or.inl (wd_142 hw)) (Or.inl (wd_112 hw)) (by decide) (t := (.object "com/example/markup_reader/markupreader/reader/Entity$ExternalId")) (t' := (.object "com/example/markup_reader/markupreader/reader/Declarations")) (by decide) (by decide)))) (Or.inr (slot_ne (Or.inl (wd_142 hw)) (Or.inl (wd_115 hw)) (by decide) (t := (.object "com/example/markup_reader/markupreader/reader/Entity$ExternalId")) (t' := (.object "java/util/Map")) (by decide) (by decide)))) (Or.inr (slot_ne (Or.inl (wd_142 hw)) (Or.inl (wd_118 hw)) (by decide) (t := (.object "com/example/markup_reader/markupreader/reader/Entity$ExternalId")) (t' := .int) (by decide) (by decide)))) (Or.inr (slot_ne (Or.inl (wd_142 hw)) (Or.inl (wd_120 hw)) (by decide) (t := (.object "com/example/markup_reader/markupreader/reader/Entity$ExternalId")) (t' := .int) (by decide) (by decide))))) (Or.inr (slot_ne (Or.inl (wd_142 hw)) (Or.inl (wd_125 hw)) (by decide) (t := (.object "com/example/markup_reader/markupreader/reader/Entity$ExternalId")) (t' := (.object "java/lang/String")) (by decide) (by decide)))) (Or.inr (slot_ne (Or.inl (wd_142 hw)) (Or.inr (wd_127 hw)) (by decide) (t := (.object "com/example/markup_reader/markupreader/reader/Entity$ExternalId")) (t' := .boolean) (by decide) (by decide)))) (Or.inr (slot_ne (Or.inl (wd_142 hw)) (Or.inl (wd_129 hw)) (by decide) (t := (.object "com/example/markup_reader/markupreader/reader/Entity$ExternalId")) (t' := .boolean) (by decide) (by decide))))
    have f52 := (Fld.other W48 (Fld.other W35 (Fld.other W32 (Fld.ext E29 (Fld.other W28 (Fld.other W25 (Fld.other W22 (Fld.other W15 (Fld.other W11 (Fld.keep (Fld.ext E2 F_oa_parameterReferences) Kq8 (ninS ne_oa_b2 nin0)) (Or.inr (slot_ne (Or.inl (wd_144 hw)) (Or.inr (wd_110 hw)) (by decide) (t := .boolean) (t' := (.object "com/example/markup_reader/markupreader/reader/Declarations")) (by decide) (by decide)))) (Or.inr (slot_ne (Or.inl (wd_144 hw)) (Or.inl (wd_112 hw)) (by decide) (t := .boolean) (t' := (.object "com/example/markup_reader/markupreader/reader/Declarations")) (by decide) (by decide)))) (Or.inr (slot_ne (Or.inl (wd_144 hw)) (Or.inl (wd_115 hw)) (by decide) (t := .boolean) (t' := (.object "java/util/Map")) (by decide) (by decide)))) (Or.inr (slot_ne (Or.inl (wd_144 hw)) (Or.inl (wd_118 hw)) (by decide) (t := .boolean) (t' := .int) (by decide) (by decide)))) (Or.inr (slot_ne (Or.inl (wd_144 hw)) (Or.inl (wd_120 hw)) (by decide) (t := .boolean) (t' := .int) (by decide) (by decide))))) (Or.inr (slot_ne (Or.inl (wd_144 hw)) (Or.inl (wd_125 hw)) (by decide) (t := .boolean) (t' := (.object "java/lang/String")) (by decide) (by decide)))) (Or.inr (slot_ne (Or.inl (wd_144 hw)) (Or.inr (wd_127 hw)) (by decide) (t := .boolean) (t' := .boolean) (by decide) (by decide)))) (Or.inr (slot_ne (Or.inl (wd_144 hw)) (Or.inl (wd_129 hw)) (by decide) (t := .boolean) (t' := .boolean) (by decide) (by decide))))
    have f53 := (Fld.other W48 (Fld.other W35 (Fld.other W32 (Fld.ext E29 (Fld.other W28 (Fld.other W25 (Fld.other W22 (Fld.other W15 (Fld.other W11 (Fld.keep (Fld.ext E2 F_oa_rootName) Kq8 (ninS ne_oa_b2 nin0)) (Or.inr (slot_ne (Or.inl (wd_156 hw)) (Or.inr (wd_110 hw)) (by decide) (t := (.object "java/lang/String")) (t' := (.object "com/example/markup_reader/markupreader/reader/Declarations")) (by decide) (by decide)))) (Or.inr (slot_ne (Or.inl (wd_156 hw)) (Or.inl (wd_112 hw)) (by decide) (t := (.object "java/lang/String")) (t' := (.object "com/example/markup_reader/markupreader/reader/Declarations")) (by decide) (by decide)))) (Or.inr (slot_ne (Or.inl (wd_156 hw)) (Or.inl (wd_115 hw)) (by decide) (t := (.object "java/lang/String")) (t' := (.object "java/util/Map")) (by decide) (by decide)))) (Or.inr (slot_ne (Or.inl (wd_156 hw)) (Or.inl (wd_118 hw)) (by decide) (t := (.object "java/lang/String")) (t' := .int) (by decide) (by decide)))) (Or.inr (slot_ne (Or.inl (wd_156 hw)) (Or.inl (wd_120 hw)) (by decide) (t := (.object "java/lang/String")) (t' := .int) (by decide) (by decide))))) (Or.inr (slot_ne (Or.inl (wd_156 hw)) (Or.inl (wd_125 hw)) (by decide) (t := (.object "java/lang/String")) (t' := (.object "java/lang/String")) (by decide) (by decide)))) (Or.inr (slot_ne (Or.inl (wd_156 hw)) (Or.inr (wd_127 hw)) (by decide) (t := (.object "java/lang/String")) (t' := .boolean) (by decide) (by decide)))) (Or.inr (slot_ne (Or.inl (wd_156 hw)) (Or.inl (wd_129 hw)) (by decide) (t := (.object "java/lang/String")) (t' := .boolean) (by decide) (by decide))))
    have f54 := (Fld.other W48 (Fld.other W35 (Fld.other W32 (Fld.ext E29 (Fld.other W28 (Fld.other W25 (Fld.other W22 (Fld.other W15 (Fld.other W11 (Fld.keep (Fld.ext E2 F_oa_doctypeSize) Kq8 (ninS ne_oa_b2 nin0)) (Or.inr (slot_ne (Or.inl (wd_173 hw)) (Or.inr (wd_110 hw)) (by decide) (t := .long) (t' := (.object "com/example/markup_reader/markupreader/reader/Declarations")) (by decide) (by decide)))) (Or.inr (slot_ne (Or.inl (wd_173 hw)) (Or.inl (wd_112 hw)) (by decide) (t := .long) (t' := (.object "com/example/markup_reader/markupreader/reader/Declarations")) (by decide) (by decide)))) (Or.inr (slot_ne (Or.inl (wd_173 hw)) (Or.inl (wd_115 hw)) (by decide) (t := .long) (t' := (.object "java/util/Map")) (by decide) (by decide)))) (Or.inr (slot_ne (Or.inl (wd_173 hw)) (Or.inl (wd_118 hw)) (by decide) (t := .long) (t' := .int) (by decide) (by decide)))) (Or.inr (slot_ne (Or.inl (wd_173 hw)) (Or.inl (wd_120 hw)) (by decide) (t := .long) (t' := .int) (by decide) (by decide))))) (Or.inr (slot_ne (Or.inl (wd_173 hw)) (Or.inl (wd_125 hw)) (by decide) (t := .long) (t' := (.object "java/lang/String")) (by decide) (by decide)))) (Or.inr (slot_ne (Or.inl (wd_173 hw)) (Or.inr (wd_127 hw)) (by decide) (t := .long) (t' := .boolean) (by decide) (by decide)))) (Or.inr (slot_ne (Or.inl (wd_173 hw)) (Or.inl (wd_129 hw)) (by decide) (t := .long) (t' := .boolean) (by decide) (by decide))))
    have f55 := (Exa.wr W48 f46)
    rw [e48]
    exact ⟨rfl, N48, KK48, ⟨f55, rfl, f49, f50, f51, f52, (0 : Int32), .null, (0 : Int64), Fw48, f53, f54⟩⟩
set_option maxRecDepth 65536 in
set_option maxHeartbeats 40000000 in
theorem rm0 (l : Launch) (Z : State) (a0 : Array Value) (hw : ∀ d ∈ tables_1, d.before a0 Z = true) (xf : Int32) (xc0 : Int32) (xc1 : Int32) (zc : Int32) (aD : Addr) (h0 : Heap) (n0 : Nat) (Z0 : n0 ≤ h0.size) (O0 : Old Z n0 h0) (SD0 : Sta Z Z.heap "java/util/ArrayList" "DEFAULTCAPACITY_EMPTY_ELEMENTDATA" "[Ljava/lang/Object;" (.ref aD)) (SC0 : Sta Z Z.heap "java/lang/String" "COMPACT_STRINGS" "Z" (.int zc)) (hzc : ¬ zc = 0) :
    ownMetW l Z x code maxLocals ret tables_1 room_1 #[(.int xf), (.int xc0), (.int xc1)] h0 (fun v h L => v = some (.int 1) ∧ Fr n0 L) := by
  refine ownMetW.of (plainFor_of_name pn_0) ?_
  intro p e s m below meth c T0 hx hby hml hZ hown hnm hret hlk X0 e0
  have hown : s.vm.findClass "com/example/markup_reader/markupreader/reader/DtdEntitiesMustBeDeclaredPinLaw" = some m.cls := hown
  have hml : c.maxLocals = 17 := hml
  have hret : meth.sig.returnType = some .boolean := hret
  refine ownEnds.cast (ef_rm0 m xf xc0 xc1) ?_
  have JB0 : ∀ (bu : Int32) (hbu : bu = 0 ∨ bu = 1), ownEnds p.tables e below (ownPostW s (fun v h L => v = some (.int 1) ∧ Fr n0 L) room_1.cells room_1.slots) (T0.setTop (mkF m 11 #[.val (.int xf), .val (.int xc0), .val (.int xc1), .unset, .unset, .unset, .unset, .unset, .unset, .unset, .unset, .unset, .unset, .unset, .unset, .unset, .unset] [(.int bu)])) := by
    intro bu hbu
    have JB1 : ∀ (bs : Int32) (hbs : bs = 0 ∨ bs = 1), ownEnds p.tables e below (ownPostW s (fun v h L => v = some (.int 1) ∧ Fr n0 L) room_1.cells room_1.slots) (T0.setTop (mkF m 23 #[.val (.int xf), .val (.int xc0), .val (.int xc1), .val (.int bu), .unset, .unset, .unset, .unset, .unset, .unset, .unset, .unset, .unset, .unset, .unset, .unset, .unset] [(.int bs)])) := by
      intro bs hbs
      have JB2 : ∀ (bp : Int32) (hbp : bp = 0 ∨ bp = 1), ownEnds p.tables e below (ownPostW s (fun v h L => v = some (.int 1) ∧ Fr n0 L) room_1.cells room_1.slots) (T0.setTop (mkF m 36 #[.val (.int xf), .val (.int xc0), .val (.int xc1), .val (.int bu), .val (.int bs), .unset, .unset, .unset, .unset, .unset, .unset, .unset, .unset, .unset, .unset, .unset, .unset] [(.int bp)])) := by
        intro bp hbp
        have JB3 : ∀ (bc : Int32) (hbc : bc = 0 ∨ bc = 1), ownEnds p.tables e below (ownPostW s (fun v h L => v = some (.int 1) ∧ Fr n0 L) room_1.cells room_1.slots) (T0.setTop (mkF m 50 #[.val (.int xf), .val (.int xc0), .val (.int xc1), .val (.int bu), .val (.int bs), .val (.int bp), .unset, .unset, .unset, .unset, .unset, .unset, .unset, .unset, .unset, .unset, .unset] [(.int bc)])) := by
          intro bc hbc
          have JB4 : ∀ (be : Int32) (hbe : be = 0 ∨ be = 1), ownEnds p.tables e below (ownPostW s (fun v h L => v = some (.int 1) ∧ Fr n0 L) room_1.cells room_1.slots) (T0.setTop (mkF m 64 #[.val (.int xf), .val (.int xc0), .val (.int xc1), .val (.int bu), .val (.int bs), .val (.int bp), .val (.int bc), .unset, .unset, .unset, .unset, .unset, .unset, .unset, .unset, .unset, .unset] [(.int be)])) := by
            intro be hbe
            have JB5 : ∀ (bq : Int32) (hbq : bq = 0 ∨ bq = 1), ownEnds p.tables e below (ownPostW s (fun v h L => v = some (.int 1) ∧ Fr n0 L) room_1.cells room_1.slots) (T0.setTop (mkF m 78 #[.val (.int xf), .val (.int xc0), .val (.int xc1), .val (.int bu), .val (.int bs), .val (.int bp), .val (.int bc), .val (.int be), .unset, .unset, .unset, .unset, .unset, .unset, .unset, .unset, .unset] [(.int bq)])) := by
              intro bq hbq
              have JB6 : ∀ (bn : Int32) (hbn : bn = 0 ∨ bn = 1), ownEnds p.tables e below (ownPostW s (fun v h L => v = some (.int 1) ∧ Fr n0 L) room_1.cells room_1.slots) (T0.setTop (mkF m 92 #[.val (.int xf), .val (.int xc0), .val (.int xc1), .val (.int bu), .val (.int bs), .val (.int bp), .val (.int bc), .val (.int be), .val (.int bq), .unset, .unset, .unset, .unset, .unset, .unset, .unset, .unset] [(.int bn)])) := by
                intro bn hbn
                show ownEnds _ _ _ _ (T0.setTop (mkF m 92 #[.val (.int xf), .val (.int xc0), .val (.int xc1), .val (.int bu), .val (.int bs), .val (.int bp), .val (.int bc), .val (.int be), .val (.int bq), .unset, .unset, .unset, .unset, .unset, .unset, .unset, .unset] [(.int bn)]))
                refine ownEnds.law (fun t k => XS.istore X0.here hx rfl (hb hby at_92) rfl (l' := #[.val (.int xf), .val (.int xc0), .val (.int xc1), .val (.int bu), .val (.int bs), .val (.int bp), .val (.int bc), .val (.int be), .val (.int bq), .val (.int bn), .unset, .unset, .unset, .unset, .unset, .unset, .unset]) rfl k) ?_
                show ownEnds _ _ _ _ (T0.setTop (mkF m 94 #[.val (.int xf), .val (.int xc0), .val (.int xc1), .val (.int bu), .val (.int bs), .val (.int bp), .val (.int bc), .val (.int be), .val (.int bq), .val (.int bn), .unset, .unset, .unset, .unset, .unset, .unset, .unset] []))
                obtain ⟨T1, h1, X1, e1, E1, A1, D1, -, st1⟩ := newO X0 hx hZ hown (wd_0 hw) (wd_1 hw) (wd_2 hw) e0 (g := (mkF m 94 #[.val (.int xf), .val (.int xc0), .val (.int xc1), .val (.int bu), .val (.int bs), .val (.int bp), .val (.int bc), .val (.int be), .val (.int bq), .val (.int bn), .unset, .unset, .unset, .unset, .unset, .unset, .unset] [])) rfl (hb hby at_94) (by decide) (by decide)
                obtain ⟨b1, g1⟩ : ∃ z, z = h0.size := ⟨_, rfl⟩
                rw [← g1] at A1 D1 st1
                refine ownEnds.law st1 ?_
                have g_b1 : n0 ≤ b1 := Nat.le_trans Z0 (Nat.le_of_eq g1.symm)
                have Z1 : n0 ≤ h1.size := Nat.le_trans Z0 E1.1
                have O_1 : Old Z n0 h1 := Old.ext O0 E1
                have F2 : Fld Z h1 b1 "java/lang/String" "coder" "B" (.int (0 : Int32)) := D1 (Or.inr (wd_27 hw)) (ty := .byte) (by decide)
                have F3 : Fld Z h1 b1 "java/lang/String" "value" "[B" .null := D1 (Or.inr (wd_29 hw)) (ty := (.array .byte)) (by decide)
                show ownEnds _ _ _ _ (T1.setTop (mkF m 97 #[.val (.int xf), .val (.int xc0), .val (.int xc1), .val (.int bu), .val (.int bs), .val (.int bp), .val (.int bc), .val (.int be), .val (.int bq), .val (.int bn), .unset, .unset, .unset, .unset, .unset, .unset, .unset] [(.ref b1)]))
                refine ownEnds.law (fun t k => XS.dup X1.here hx rfl (hb hby at_97) rfl rfl (XS.iconst X1.here hx rfl (hb hby at_98) k)) ?_
                show ownEnds _ _ _ _ (T1.setTop (mkF m 99 #[.val (.int xf), .val (.int xc0), .val (.int xc1), .val (.int bu), .val (.int bs), .val (.int bp), .val (.int bc), .val (.int be), .val (.int bq), .val (.int bn), .unset, .unset, .unset, .unset, .unset, .unset, .unset] [(.int (1 : Int32)), (.ref b1), (.ref b1)]))
                obtain ⟨T4, h4, k4, X4, e4, E4, A4, st4⟩ := newP X1 hx hZ (aty := .char) (wd_3 hw) e1 (g := (mkF m 99 #[.val (.int xf), .val (.int xc0), .val (.int xc1), .val (.int bu), .val (.int bs), .val (.int bp), .val (.int bc), .val (.int be), .val (.int bq), .val (.int bn), .unset, .unset, .unset, .unset, .unset, .unset, .unset] [(.int (1 : Int32)), (.ref b1), (.ref b1)])) rfl (hb hby at_99) rfl (by decide) (cap := 1) (by decide) (by decide) (by decide) (by decide)
                obtain ⟨b4, g4⟩ : ∃ z, z = h1.size := ⟨_, rfl⟩
                rw [← g4] at A4 st4
                refine ownEnds.law st4 ?_
                have V_b4 : Arv Z h4 b4 k4 .char (1 : Int32) [(.int (0 : Int32))] (.int (0 : Int32)) := (Arv.new A4 (by decide)).pad (pad_rep [] (.int (0 : Int32)) 1)
                have ne_b1_b4 : b1 ≠ b4 := Nat.ne_of_lt (Nat.lt_of_lt_of_eq A1.lt g4.symm)
                have g_b4 : n0 ≤ b4 := Nat.le_trans Z1 (Nat.le_of_eq g4.symm)
                have Z4 : n0 ≤ h4.size := Nat.le_trans Z1 E4.1
                have O_4 : Old Z n0 h4 := Old.ext O_1 E4
                show ownEnds _ _ _ _ (T4.setTop (mkF m 101 #[.val (.int xf), .val (.int xc0), .val (.int xc1), .val (.int bu), .val (.int bs), .val (.int bp), .val (.int bc), .val (.int be), .val (.int bq), .val (.int bn), .unset, .unset, .unset, .unset, .unset, .unset, .unset] [(.ref b4), (.ref b1), (.ref b1)]))
                refine ownEnds.law (fun t k => XS.dup X4.here hx rfl (hb hby at_101) rfl rfl (XS.iconst X4.here hx rfl (hb hby at_102) (XS.iloadN X4.here hx rfl (hb hby at_103) rfl (XS.sipush X4.here hx rfl (hb hby at_104) (XS.iand X4.here hx rfl (hb hby at_107) rfl (XS.i2c X4.here hx rfl (hb hby at_108) rfl k)))))) ?_
                show ownEnds _ _ _ _ (T4.setTop (mkF m 109 #[.val (.int xf), .val (.int xc0), .val (.int xc1), .val (.int bu), .val (.int bs), .val (.int bp), .val (.int bc), .val (.int be), .val (.int bq), .val (.int bn), .unset, .unset, .unset, .unset, .unset, .unset, .unset] [(.int ((xc0 &&& (255 : Int32)).toUInt32.toUInt16.toUInt32.toInt32)), (.int (0 : Int32)), (.ref b4), (.ref b4), (.ref b1), (.ref b1)]))
                obtain ⟨cl5, Ar5, q5, S5, N5, H5, G5⟩ := id V_b4
                obtain ⟨T5, h5, X5, e5, W5, st5⟩ := stC X4 hx hZ e4 Ar5 (j := (0 : Int32)) (inb_of S5 ⟨by decide, by decide⟩) (g := (mkF m 109 #[.val (.int xf), .val (.int xc0), .val (.int xc1), .val (.int bu), .val (.int bs), .val (.int bp), .val (.int bc), .val (.int be), .val (.int bq), .val (.int bn), .unset, .unset, .unset, .unset, .unset, .unset, .unset] [(.int ((xc0 &&& (255 : Int32)).toUInt32.toUInt16.toUInt32.toInt32)), (.int (0 : Int32)), (.ref b4), (.ref b4), (.ref b1), (.ref b1)])) rfl rfl (hb hby at_109)
                refine ownEnds.law st5 ?_
                have V5 : Arv Z h5 b4 k4 .char (1 : Int32) [(.int (nar .char ((xc0 &&& (255 : Int32)).toUInt32.toUInt16.toUInt32.toInt32)))] (.int (0 : Int32)) := Arv.set Ar5 q5 S5 N5 H5 G5 (fits_nar_char _) W5 0 rfl (Nat.le_of_ble_eq_true rfl)
                have N5 := Fr.snoc X5 (Fr.nil n0) g_b4
                have Z5 : n0 ≤ h5.size := by rw [W5.size]; exact Z4
                have O_5 : Old Z n0 h5 := Old.wr O_4 W5 g_b4
                show ownEnds _ _ _ _ (T5.setTop (mkF m 110 #[.val (.int xf), .val (.int xc0), .val (.int xc1), .val (.int bu), .val (.int bs), .val (.int bp), .val (.int bc), .val (.int be), .val (.int bq), .val (.int bn), .unset, .unset, .unset, .unset, .unset, .unset, .unset] [(.ref b4), (.ref b1), (.ref b1)]))
                have f7 := (Exa.wr W5 (Exa.ext E4 A1))
                have f8 := (Fld.other W5 (Fld.ext E4 F3) (Or.inl ne_b1_b4))
                have f9 := (Fld.other W5 (Fld.ext E4 F2) (Or.inl ne_b1_b4))
                obtain ⟨v6, T6, L6, X6, hQ6, st6⟩ := ownCallCB X5 hx hZ hown (y := (⟨"java/lang/String", "<init>", "([C)V"⟩ : MethodName)) rfl (a := b1) (as := [(.ref b4)]) (wd_4 hw) (wd_5 hw) (wd_6 hw) (by decide) (StrChars.Road.backV (W := 1) hZ (fun d hd => hw d ((by decide +kernel : ∀ d ∈ StrChars.Road.words, d ∈ tables_1) d hd)) (kI := 4) (wd_1 hw) (cs := [(nar .char ((xc0 &&& (255 : Int32)).toUInt32.toUInt16.toUInt32.toInt32))]) (bs := ([(nar .char ((xc0 &&& (255 : Int32)).toUInt32.toUInt16.toUInt32.toInt32))] : List Int32).map (fun c => c.toInt8.toInt32)) (n := 1) g_b1 Z5 f7 f8 f9 V5 (Sta.ext O_5.2 SC0) hzc rfl rfl (by decide) (by decide) (fun d hd => by rw [List.mem_singleton.mp hd]; exact own_c255 xc0) rfl (by decide) (by decide)) e5 (by decide) (by decide) (g := (mkF m 110 #[.val (.int xf), .val (.int xc0), .val (.int xc1), .val (.int bu), .val (.int bs), .val (.int bp), .val (.int bc), .val (.int be), .val (.int bq), .val (.int bn), .unset, .unset, .unset, .unset, .unset, .unset, .unset] [(.ref b4), (.ref b1), (.ref b1)])) rfl (by rw [hml]; rfl) (rest := [(.ref b1)]) pd_5 rfl rfl (by show 2 * 0 + _ ≤ _; exact Nat.le_of_eq rfl) (hb hby at_110)
                obtain ⟨rfl, Nq6, Kq6, Eq6, Fc6, t6, kt6, gt6, zt6, nt6, Fv6, Vt6⟩ := hQ6
                have lt_t6 : b1 < T6.heap.size := Fld.lt Fv6
                have N6 := Fr.app N5 Nq6
                have Z6 : n0 ≤ T6.heap.size := Nat.le_trans Z5 Kq6.1
                have O_6 : Old Z n0 T6.heap := Old.keep O_5 Kq6 (allS g_b1 all0)
                have SO_b1 : StrOK Z T6.heap T6.heap.size b1 := ⟨Eq6.lt, t6, kt6, _, Vt6.lt, Eq6, Fv6, Fc6, Vt6, (own_c255 xc0).1, (own_c255 xc0).2⟩
                refine ownEnds.law st6 ?_
                show ownEnds _ _ _ _ (T6.setTop (mkF m 113 #[.val (.int xf), .val (.int xc0), .val (.int xc1), .val (.int bu), .val (.int bs), .val (.int bp), .val (.int bc), .val (.int be), .val (.int bq), .val (.int bn), .unset, .unset, .unset, .unset, .unset, .unset, .unset] [(.ref b1)]))
                refine ownEnds.law (fun t k => XS.astore X6.here hx rfl (hb hby at_113) rfl rfl (l' := #[.val (.int xf), .val (.int xc0), .val (.int xc1), .val (.int bu), .val (.int bs), .val (.int bp), .val (.int bc), .val (.int be), .val (.int bq), .val (.int bn), .val (.ref b1), .unset, .unset, .unset, .unset, .unset, .unset]) rfl k) ?_
                show ownEnds _ _ _ _ (T6.setTop (mkF m 115 #[.val (.int xf), .val (.int xc0), .val (.int xc1), .val (.int bu), .val (.int bs), .val (.int bp), .val (.int bc), .val (.int be), .val (.int bq), .val (.int bn), .val (.ref b1), .unset, .unset, .unset, .unset, .unset, .unset] []))
                obtain ⟨T10, h10, X10, e10, E10, A10, D10, -, st10⟩ := newO X6 hx hZ hown (wd_0 hw) (wd_1 hw) (wd_2 hw) rfl (g := (mkF m 115 #[.val (.int xf), .val (.int xc0), .val (.int xc1), .val (.int bu), .val (.int bs), .val (.int bp), .val (.int bc), .val (.int be), .val (.int bq), .val (.int bn), .val (.ref b1), .unset, .unset, .unset, .unset, .unset, .unset] [])) rfl (hb hby at_115) (by decide) (by decide)
                obtain ⟨b10, g10⟩ : ∃ z, z = T6.heap.size := ⟨_, rfl⟩
                rw [← g10] at A10 D10 st10
                refine ownEnds.law st10 ?_
                have ne_b1_b10 : b1 ≠ b10 := Nat.ne_of_lt (Nat.lt_of_lt_of_eq Eq6.lt g10.symm)
                have f11 := (Arv.keep V5 Kq6 (ninS (Ne.symm ne_b1_b4) nin0))
                have ne_b4_b10 : b4 ≠ b10 := Nat.ne_of_lt (Nat.lt_of_lt_of_eq f11.lt g10.symm)
                have g_b10 : n0 ≤ b10 := Nat.le_trans Z6 (Nat.le_of_eq g10.symm)
                have Z10 : n0 ≤ h10.size := Nat.le_trans Z6 E10.1
                have O_10 : Old Z n0 h10 := Old.ext O_6 E10
                have le_b1_b10 : T6.heap.size ≤ b10 := Nat.le_of_eq g10.symm
                have F12 : Fld Z h10 b10 "java/lang/String" "coder" "B" (.int (0 : Int32)) := D10 (Or.inr (wd_27 hw)) (ty := .byte) (by decide)
                have F13 : Fld Z h10 b10 "java/lang/String" "value" "[B" .null := D10 (Or.inr (wd_29 hw)) (ty := (.array .byte)) (by decide)
                show ownEnds _ _ _ _ (T10.setTop (mkF m 118 #[.val (.int xf), .val (.int xc0), .val (.int xc1), .val (.int bu), .val (.int bs), .val (.int bp), .val (.int bc), .val (.int be), .val (.int bq), .val (.int bn), .val (.ref b1), .unset, .unset, .unset, .unset, .unset, .unset] [(.ref b10)]))
                refine ownEnds.law (fun t k => XS.dup X10.here hx rfl (hb hby at_118) rfl rfl (XS.iconst X10.here hx rfl (hb hby at_119) k)) ?_
                show ownEnds _ _ _ _ (T10.setTop (mkF m 120 #[.val (.int xf), .val (.int xc0), .val (.int xc1), .val (.int bu), .val (.int bs), .val (.int bp), .val (.int bc), .val (.int be), .val (.int bq), .val (.int bn), .val (.ref b1), .unset, .unset, .unset, .unset, .unset, .unset] [(.int (1 : Int32)), (.ref b10), (.ref b10)]))
                obtain ⟨T14, h14, k14, X14, e14, E14, A14, st14⟩ := newP X10 hx hZ (aty := .char) (wd_3 hw) e10 (g := (mkF m 120 #[.val (.int xf), .val (.int xc0), .val (.int xc1), .val (.int bu), .val (.int bs), .val (.int bp), .val (.int bc), .val (.int be), .val (.int bq), .val (.int bn), .val (.ref b1), .unset, .unset, .unset, .unset, .unset, .unset] [(.int (1 : Int32)), (.ref b10), (.ref b10)])) rfl (hb hby at_120) rfl (by decide) (cap := 1) (by decide) (by decide) (by decide) (by decide)
                obtain ⟨b14, g14⟩ : ∃ z, z = h10.size := ⟨_, rfl⟩
                rw [← g14] at A14 st14
                refine ownEnds.law st14 ?_
                have V_b14 : Arv Z h14 b14 k14 .char (1 : Int32) [(.int (0 : Int32))] (.int (0 : Int32)) := (Arv.new A14 (by decide)).pad (pad_rep [] (.int (0 : Int32)) 1)
                have f15 := (Exa.ext E10 Eq6)
                have ne_b1_b14 : b1 ≠ b14 := Nat.ne_of_lt (Nat.lt_of_lt_of_eq f15.lt g14.symm)
                have f16 := (Arv.ext f11 E10)
                have ne_b4_b14 : b4 ≠ b14 := Nat.ne_of_lt (Nat.lt_of_lt_of_eq f16.lt g14.symm)
                have ne_b10_b14 : b10 ≠ b14 := Nat.ne_of_lt (Nat.lt_of_lt_of_eq A10.lt g14.symm)
                have g_b14 : n0 ≤ b14 := Nat.le_trans Z10 (Nat.le_of_eq g14.symm)
                have Z14 : n0 ≤ h14.size := Nat.le_trans Z10 E14.1
                have O_14 : Old Z n0 h14 := Old.ext O_10 E14
                have le_b1_b14 : T6.heap.size ≤ b14 := Nat.le_trans (Nat.le_trans (Nat.le_refl _) E10.1) (Nat.le_of_eq g14.symm)
                show ownEnds _ _ _ _ (T14.setTop (mkF m 122 #[.val (.int xf), .val (.int xc0), .val (.int xc1), .val (.int bu), .val (.int bs), .val (.int bp), .val (.int bc), .val (.int be), .val (.int bq), .val (.int bn), .val (.ref b1), .unset, .unset, .unset, .unset, .unset, .unset] [(.ref b14), (.ref b10), (.ref b10)]))
                refine ownEnds.law (fun t k => XS.dup X14.here hx rfl (hb hby at_122) rfl rfl (XS.iconst X14.here hx rfl (hb hby at_123) (XS.iloadN X14.here hx rfl (hb hby at_124) rfl (XS.sipush X14.here hx rfl (hb hby at_125) (XS.iand X14.here hx rfl (hb hby at_128) rfl (XS.i2c X14.here hx rfl (hb hby at_129) rfl k)))))) ?_
                show ownEnds _ _ _ _ (T14.setTop (mkF m 130 #[.val (.int xf), .val (.int xc0), .val (.int xc1), .val (.int bu), .val (.int bs), .val (.int bp), .val (.int bc), .val (.int be), .val (.int bq), .val (.int bn), .val (.ref b1), .unset, .unset, .unset, .unset, .unset, .unset] [(.int ((xc1 &&& (255 : Int32)).toUInt32.toUInt16.toUInt32.toInt32)), (.int (0 : Int32)), (.ref b14), (.ref b14), (.ref b10), (.ref b10)]))
                obtain ⟨cl17, Ar17, q17, S17, N17, H17, G17⟩ := id V_b14
                obtain ⟨T17, h17, X17, e17, W17, st17⟩ := stC X14 hx hZ e14 Ar17 (j := (0 : Int32)) (inb_of S17 ⟨by decide, by decide⟩) (g := (mkF m 130 #[.val (.int xf), .val (.int xc0), .val (.int xc1), .val (.int bu), .val (.int bs), .val (.int bp), .val (.int bc), .val (.int be), .val (.int bq), .val (.int bn), .val (.ref b1), .unset, .unset, .unset, .unset, .unset, .unset] [(.int ((xc1 &&& (255 : Int32)).toUInt32.toUInt16.toUInt32.toInt32)), (.int (0 : Int32)), (.ref b14), (.ref b14), (.ref b10), (.ref b10)])) rfl rfl (hb hby at_130)
                refine ownEnds.law st17 ?_
                have V17 : Arv Z h17 b14 k14 .char (1 : Int32) [(.int (nar .char ((xc1 &&& (255 : Int32)).toUInt32.toUInt16.toUInt32.toInt32)))] (.int (0 : Int32)) := Arv.set Ar17 q17 S17 N17 H17 G17 (fits_nar_char _) W17 0 rfl (Nat.le_of_ble_eq_true rfl)
                have N17 := Fr.snoc X17 N6 g_b14
                have Z17 : n0 ≤ h17.size := by rw [W17.size]; exact Z14
                have O_17 : Old Z n0 h17 := Old.wr O_14 W17 g_b14
                show ownEnds _ _ _ _ (T17.setTop (mkF m 131 #[.val (.int xf), .val (.int xc0), .val (.int xc1), .val (.int bu), .val (.int bs), .val (.int bp), .val (.int bc), .val (.int be), .val (.int bq), .val (.int bn), .val (.ref b1), .unset, .unset, .unset, .unset, .unset, .unset] [(.ref b14), (.ref b10), (.ref b10)]))
                have f19 := (Exa.wr W17 (Exa.ext E14 A10))
                have f20 := (Fld.other W17 (Fld.ext E14 F13) (Or.inl ne_b10_b14))
                have f21 := (Fld.other W17 (Fld.ext E14 F12) (Or.inl ne_b10_b14))
                obtain ⟨v18, T18, L18, X18, hQ18, st18⟩ := ownCallCB X17 hx hZ hown (y := (⟨"java/lang/String", "<init>", "([C)V"⟩ : MethodName)) rfl (a := b10) (as := [(.ref b14)]) (wd_4 hw) (wd_5 hw) (wd_6 hw) (by decide) (StrChars.Road.backV (W := 1) hZ (fun d hd => hw d ((by decide +kernel : ∀ d ∈ StrChars.Road.words, d ∈ tables_1) d hd)) (kI := 4) (wd_1 hw) (cs := [(nar .char ((xc1 &&& (255 : Int32)).toUInt32.toUInt16.toUInt32.toInt32))]) (bs := ([(nar .char ((xc1 &&& (255 : Int32)).toUInt32.toUInt16.toUInt32.toInt32))] : List Int32).map (fun c => c.toInt8.toInt32)) (n := 1) g_b10 Z17 f19 f20 f21 V17 (Sta.ext O_17.2 SC0) hzc rfl rfl (by decide) (by decide) (fun d hd => by rw [List.mem_singleton.mp hd]; exact own_c255 xc1) rfl (by decide) (by decide)) e17 (by decide) (by decide) (g := (mkF m 131 #[.val (.int xf), .val (.int xc0), .val (.int xc1), .val (.int bu), .val (.int bs), .val (.int bp), .val (.int bc), .val (.int be), .val (.int bq), .val (.int bn), .val (.ref b1), .unset, .unset, .unset, .unset, .unset, .unset] [(.ref b14), (.ref b10), (.ref b10)])) rfl (by rw [hml]; rfl) (rest := [(.ref b10)]) pd_5 rfl rfl (by show 2 * 0 + _ ≤ _; exact Nat.le_of_eq rfl) (hb hby at_131)
                obtain ⟨rfl, Nq18, Kq18, Eq18, Fc18, t18, kt18, gt18, zt18, nt18, Fv18, Vt18⟩ := hQ18
                have f22 := (Exa.wr W17 (Exa.ext E14 f15))
                have f23 := (Arv.other (Arv.ext f16 E14) W17 ne_b4_b14)
                have lt_t18 : b10 < T18.heap.size := Fld.lt Fv18
                have N18 := Fr.app N17 Nq18
                have Z18 : n0 ≤ T18.heap.size := Nat.le_trans Z17 Kq18.1
                have O_18 : Old Z n0 T18.heap := Old.keep O_17 Kq18 (allS g_b10 all0)
                have SO_b10 : StrOK Z T18.heap T18.heap.size b10 := ⟨Eq18.lt, t18, kt18, _, Vt18.lt, Eq18, Fv18, Fc18, Vt18, (own_c255 xc1).1, (own_c255 xc1).2⟩
                refine ownEnds.law st18 ?_
                show ownEnds _ _ _ _ (T18.setTop (mkF m 134 #[.val (.int xf), .val (.int xc0), .val (.int xc1), .val (.int bu), .val (.int bs), .val (.int bp), .val (.int bc), .val (.int be), .val (.int bq), .val (.int bn), .val (.ref b1), .unset, .unset, .unset, .unset, .unset, .unset] [(.ref b10)]))
                refine ownEnds.law (fun t k => XS.astore X18.here hx rfl (hb hby at_134) rfl rfl (l' := #[.val (.int xf), .val (.int xc0), .val (.int xc1), .val (.int bu), .val (.int bs), .val (.int bp), .val (.int bc), .val (.int be), .val (.int bq), .val (.int bn), .val (.ref b1), .val (.ref b10), .unset, .unset, .unset, .unset, .unset]) rfl k) ?_
                show ownEnds _ _ _ _ (T18.setTop (mkF m 136 #[.val (.int xf), .val (.int xc0), .val (.int xc1), .val (.int bu), .val (.int bs), .val (.int bp), .val (.int bc), .val (.int be), .val (.int bq), .val (.int bn), .val (.ref b1), .val (.ref b10), .unset, .unset, .unset, .unset, .unset] []))
                have J167 : ∀ (T24 : State) (lc24 : List Loc) (hp : Heap) (X24 : Stand p l e room_1 s m #[(.int xf), (.int xc0), (.int xc1)] below meth c T24 lc24 7 14) (N24 : Fr n0 lc24) (e24 : T24.heap = hp) (Zp : n0 ≤ hp.size) (Op : Old Z n0 hp) (s1 s2 : Addr) (SBp : StrOK Z hp hp.size s1) (xv : Value) (h_xv : xv.isRef = true) (EBp : ExtOK Z hp hp.size xv) (hrel : xv = .null ↔ be = 0), ownEnds p.tables e below (ownPostW s (fun v h L => v = some (.int 1) ∧ Fr n0 L) room_1.cells room_1.slots) (T24.setTop (mkF m 167 #[.val (.int xf), .val (.int xc0), .val (.int xc1), .val (.int bu), .val (.int bs), .val (.int bp), .val (.int bc), .val (.int be), .val (.int bq), .val (.int bn), .val (.ref s1), .val (.ref s2), .val xv, .unset, .unset, .unset, .unset] [])) := by
                  intro T24 lc24 hp X24 N24 e24 Zp Op s1 s2 SBp xv h_xv EBp hrel
                  show ownEnds _ _ _ _ (T24.setTop (mkF m 167 #[.val (.int xf), .val (.int xc0), .val (.int xc1), .val (.int bu), .val (.int bs), .val (.int bp), .val (.int bc), .val (.int be), .val (.int bq), .val (.int bn), .val (.ref s1), .val (.ref s2), .val xv, .unset, .unset, .unset, .unset] []))
                  obtain ⟨T25, h25, X25, e25, E25, A25, D25, -, st25⟩ := newO X24 hx hZ hown (wd_30 hw) (wd_31 hw) (wd_32 hw) e24 (g := (mkF m 167 #[.val (.int xf), .val (.int xc0), .val (.int xc1), .val (.int bu), .val (.int bs), .val (.int bp), .val (.int bc), .val (.int be), .val (.int bq), .val (.int bn), .val (.ref s1), .val (.ref s2), .val xv, .unset, .unset, .unset, .unset] [])) rfl (hb hby at_167) (by decide) (by decide)
                  obtain ⟨b25, g25⟩ : ∃ z, z = hp.size := ⟨_, rfl⟩
                  rw [← g25] at A25 D25 st25
                  refine ownEnds.law st25 ?_
                  have g_b25 : n0 ≤ b25 := Nat.le_trans Zp (Nat.le_of_eq g25.symm)
                  have Z25 : n0 ≤ h25.size := Nat.le_trans Zp E25.1
                  have O_25 : Old Z n0 h25 := Old.ext Op E25
                  have F26 : Fld Z h25 b25 "com/example/markup_reader/markupreader/reader/Dtd" "internal" "Lcom/example/markup_reader/markupreader/reader/Declarations;" .null := D25 (Or.inr (wd_110 hw)) (ty := (.object "com/example/markup_reader/markupreader/reader/Declarations")) (by decide)
                  have F27 : Fld Z h25 b25 "com/example/markup_reader/markupreader/reader/Dtd" "declaring" "Lcom/example/markup_reader/markupreader/reader/Declarations;" .null := D25 (Or.inl (wd_112 hw)) (ty := (.object "com/example/markup_reader/markupreader/reader/Declarations")) (by decide)
                  have F28 : Fld Z h25 b25 "com/example/markup_reader/markupreader/reader/Dtd" "elementTypes" "Ljava/util/Map;" .null := D25 (Or.inl (wd_115 hw)) (ty := (.object "java/util/Map")) (by decide)
                  have F29 : Fld Z h25 b25 "com/example/markup_reader/markupreader/reader/Dtd" "externalNotations" "I" (.int (0 : Int32)) := D25 (Or.inl (wd_118 hw)) (ty := .int) (by decide)
                  have F30 : Fld Z h25 b25 "com/example/markup_reader/markupreader/reader/Dtd" "externalUnparsedEntities" "I" (.int (0 : Int32)) := D25 (Or.inl (wd_120 hw)) (ty := .int) (by decide)
                  have F31 : Fld Z h25 b25 "com/example/markup_reader/markupreader/reader/Dtd" "version" "Ljava/lang/String;" .null := D25 (Or.inl (wd_125 hw)) (ty := (.object "java/lang/String")) (by decide)
                  have F32 : Fld Z h25 b25 "com/example/markup_reader/markupreader/reader/Dtd" "used" "Z" (.int (0 : Int32)) := D25 (Or.inr (wd_127 hw)) (ty := .boolean) (by decide)
                  have F33 : Fld Z h25 b25 "com/example/markup_reader/markupreader/reader/Dtd" "skipping" "Z" (.int (0 : Int32)) := D25 (Or.inl (wd_129 hw)) (ty := .boolean) (by decide)
                  have F34 : Fld Z h25 b25 "com/example/markup_reader/markupreader/reader/Dtd" "standalone" "Z" (.int (0 : Int32)) := D25 (Or.inl (wd_136 hw)) (ty := .boolean) (by decide)
                  have F35 : Fld Z h25 b25 "com/example/markup_reader/markupreader/reader/Dtd" "externalSubset" "Lcom/example/markup_reader/markupreader/reader/Entity$ExternalId;" .null := D25 (Or.inl (wd_142 hw)) (ty := (.object "com/example/markup_reader/markupreader/reader/Entity$ExternalId")) (by decide)
                  have F36 : Fld Z h25 b25 "com/example/markup_reader/markupreader/reader/Dtd" "parameterReferences" "Z" (.int (0 : Int32)) := D25 (Or.inl (wd_144 hw)) (ty := .boolean) (by decide)
                  have F37 : Fld Z h25 b25 "com/example/markup_reader/markupreader/reader/Dtd" "rootName" "Ljava/lang/String;" .null := D25 (Or.inl (wd_156 hw)) (ty := (.object "java/lang/String")) (by decide)
                  have F38 : Fld Z h25 b25 "com/example/markup_reader/markupreader/reader/Dtd" "doctypeSize" "J" (.long (0 : Int64)) := D25 (Or.inl (wd_173 hw)) (ty := .long) (by decide)
                  have SBa : StrOK Z h25 b25 s1 := StrOK.keep (g25 ▸ SBp) ((Keep.refl _ []).ext E25) all0
                  have EBa : ExtOK Z h25 b25 xv := ExtOK.keep (g25 ▸ EBp) ((Keep.refl _ []).ext E25) all0
                  show ownEnds _ _ _ _ (T25.setTop (mkF m 170 #[.val (.int xf), .val (.int xc0), .val (.int xc1), .val (.int bu), .val (.int bs), .val (.int bp), .val (.int bc), .val (.int be), .val (.int bq), .val (.int bn), .val (.ref s1), .val (.ref s2), .val xv, .unset, .unset, .unset, .unset] [(.ref b25)]))
                  refine ownEnds.law (fun t k => XS.dup X25.here hx rfl (hb hby at_170) rfl rfl (XS.iloadN X25.here hx rfl (hb hby at_171) rfl k)) ?_
                  show ownEnds _ _ _ _ (T25.setTop (mkF m 172 #[.val (.int xf), .val (.int xc0), .val (.int xc1), .val (.int bu), .val (.int bs), .val (.int bp), .val (.int bc), .val (.int be), .val (.int bq), .val (.int bn), .val (.ref s1), .val (.ref s2), .val xv, .unset, .unset, .unset, .unset] [(.int bu), (.ref b25), (.ref b25)]))
                  obtain ⟨v39, T39, L39, X39, hS39, hZ, hown, hQ39, st39⟩ := ownCallCW X25 hx hZ hown (y := (⟨"com/example/markup_reader/markupreader/reader/Dtd", "<init>", "(Z)V"⟩ : MethodName)) rfl (a := b25) (as := [(.int bu)]) (wd_33 hw) (wd_34 hw) (wd_32 hw) (wd_35 hw) (by decide) (rm7 l Z a0 hw b25 bu aD h25 n0 Z25 A25 g_b25 F26 F27 F28 F29 F30 F31 F32 F33 F34 F35 F36 F37 F38 O_25 SD0) e25 1 (by decide) (by decide) (by decide) (by decide) (g := (mkF m 172 #[.val (.int xf), .val (.int xc0), .val (.int xc1), .val (.int bu), .val (.int bs), .val (.int bp), .val (.int bc), .val (.int be), .val (.int bq), .val (.int bn), .val (.ref s1), .val (.ref s2), .val xv, .unset, .unset, .unset, .unset] [(.int bu), (.ref b25), (.ref b25)])) rfl (by rw [hml]; rfl) (rest := [(.ref b25)]) pd_6 rfl rfl (by show 2 * 0 + _ ≤ _; exact Nat.le_of_eq rfl) (hb hby at_172)
                  obtain ⟨rfl, Nq39, Kq39, D39⟩ := hQ39
                  rw [own_b1 hbu] at D39
                  have N39 := Fr.app N24 Nq39
                  have Z39 : n0 ≤ T39.heap.size := Nat.le_trans Z25 Kq39.1
                  have O_39 : Old Z n0 T39.heap := Old.keep O_25 Kq39 (allS g_b25 all0)
                  have SB39 : StrOK Z T39.heap b25 s1 := StrOK.keep SBa Kq39 (allS (Nat.le_refl _) all0)
                  have EB39 : ExtOK Z T39.heap b25 xv := ExtOK.keep EBa Kq39 (allS (Nat.le_refl _) all0)
                  refine ownEnds.law st39 ?_
                  show ownEnds _ _ _ _ (T39.setTop (mkF m 175 #[.val (.int xf), .val (.int xc0), .val (.int xc1), .val (.int bu), .val (.int bs), .val (.int bp), .val (.int bc), .val (.int be), .val (.int bq), .val (.int bn), .val (.ref s1), .val (.ref s2), .val xv, .unset, .unset, .unset, .unset] [(.ref b25)]))
                  refine ownEnds.law (fun t k => XS.astore X39.here hx rfl (hb hby at_175) rfl rfl (l' := #[.val (.int xf), .val (.int xc0), .val (.int xc1), .val (.int bu), .val (.int bs), .val (.int bp), .val (.int bc), .val (.int be), .val (.int bq), .val (.int bn), .val (.ref s1), .val (.ref s2), .val xv, .val (.ref b25), .unset, .unset, .unset]) rfl (XS.aload X39.here hx rfl (hb hby at_177) rfl rfl k)) ?_
                  show ownEnds _ _ _ _ (T39.setTop (mkF m 179 #[.val (.int xf), .val (.int xc0), .val (.int xc1), .val (.int bu), .val (.int bs), .val (.int bp), .val (.int bc), .val (.int be), .val (.int bq), .val (.int bn), .val (.ref s1), .val (.ref s2), .val xv, .val (.ref b25), .unset, .unset, .unset] [(.ref b25)]))
                  obtain ⟨v40, T40, L40, X40, hQ40, st40⟩ := ownCallV X39 hx hZ hown (y := (⟨"com/example/markup_reader/markupreader/reader/Dtd", "entitiesMustBeDeclared", "()Z"⟩ : MethodName)) (z := (⟨"com/example/markup_reader/markupreader/reader/Dtd", "entitiesMustBeDeclared", "()Z"⟩ : MethodName)) (a := b25) (as := []) (wd_130 hw) (wd_131 hw) (notFace_of_selects (args := #[]) (mvT hZ (wd_133 hw))) (wd_133 hw) (wd_132 hw) (wd_32 hw) (wd_134 hw) (by decide) (rm15 l Z a0 hw b25 bu (0 : Int32) (0 : Int32) .null T39.heap n0 Z39 D39) rfl D39.1 0 (by decide) (by decide) (by decide) (by decide) (g := (mkF m 179 #[.val (.int xf), .val (.int xc0), .val (.int xc1), .val (.int bu), .val (.int bs), .val (.int bp), .val (.int bc), .val (.int be), .val (.int bq), .val (.int bn), .val (.ref s1), .val (.ref s2), .val xv, .val (.ref b25), .unset, .unset, .unset] [(.ref b25)])) rfl (by rw [hml]; rfl) (rest := []) pd_7 rfl rfl (by show 2 * 0 + _ ≤ _; exact Nat.le_of_eq rfl) (hb hby at_179)
                  obtain ⟨rfl, rfl, e40⟩ := hQ40
                  rw [List.append_nil] at X40
                  refine ownEnds.law st40 ?_
                  show ownEnds _ _ _ _ (T40.setTop (mkF m 182 #[.val (.int xf), .val (.int xc0), .val (.int xc1), .val (.int bu), .val (.int bs), .val (.int bp), .val (.int bc), .val (.int be), .val (.int bq), .val (.int bn), .val (.ref s1), .val (.ref s2), .val xv, .val (.ref b25), .unset, .unset, .unset] [(.int (FD bu (0 : Int32) .null (0 : Int32)))]))
                  refine ownEnds.law (fun t k => XS.istore X40.here hx rfl (hb hby at_182) rfl (l' := #[.val (.int xf), .val (.int xc0), .val (.int xc1), .val (.int bu), .val (.int bs), .val (.int bp), .val (.int bc), .val (.int be), .val (.int bq), .val (.int bn), .val (.ref s1), .val (.ref s2), .val xv, .val (.ref b25), .val (.int (FD bu (0 : Int32) .null (0 : Int32))), .unset, .unset]) rfl k) ?_
                  show ownEnds _ _ _ _ (T40.setTop (mkF m 184 #[.val (.int xf), .val (.int xc0), .val (.int xc1), .val (.int bu), .val (.int bs), .val (.int bp), .val (.int bc), .val (.int be), .val (.int bq), .val (.int bn), .val (.ref s1), .val (.ref s2), .val xv, .val (.ref b25), .val (.int (FD bu (0 : Int32) .null (0 : Int32))), .unset, .unset] []))
                  have J198 : ∀ (T41 : State) (lc41 : List Loc) (hq : Heap) (X41 : Stand p l e room_1 (s.setVm T39.vm) m #[(.int xf), (.int xc0), (.int xc1)] below meth c T41 lc41 16 90) (N41 : Fr n0 lc41) (e41 : T41.heap = hq) (Zq : n0 ≤ hq.size) (Oq : Old Z n0 hq) (Yq : T39.heap.size ≤ hq.size) (fe : Value) (hfe : fe = .null ↔ (bc = 0 ∨ be = 0)) (Dq : DT Z hq b25 bu (0 : Int32) fe (0 : Int32)), ownEnds p.tables e below (ownPostW s (fun v h L => v = some (.int 1) ∧ Fr n0 L) room_1.cells room_1.slots) (T41.setTop (mkF m 198 #[.val (.int xf), .val (.int xc0), .val (.int xc1), .val (.int bu), .val (.int bs), .val (.int bp), .val (.int bc), .val (.int be), .val (.int bq), .val (.int bn), .val (.ref s1), .val (.ref s2), .val xv, .val (.ref b25), .val (.int (FD bu (0 : Int32) .null (0 : Int32))), .unset, .unset] [])) := by
                    intro T41 lc41 hq X41 N41 e41 Zq Oq Yq fe hfe Dq
                    have J208 : ∀ (T42 : State) (lc42 : List Loc) (hq : Heap) (X42 : Stand p l e room_1 (s.setVm T39.vm) m #[(.int xf), (.int xc0), (.int xc1)] below meth c T42 lc42 16 90) (N42 : Fr n0 lc42) (e42 : T42.heap = hq) (Zq : n0 ≤ hq.size) (Oq : Old Z n0 hq) (Yq : T39.heap.size ≤ hq.size)  (Dq : DT Z hq b25 bu (0 : Int32) fe bp), ownEnds p.tables e below (ownPostW s (fun v h L => v = some (.int 1) ∧ Fr n0 L) room_1.cells room_1.slots) (T42.setTop (mkF m 208 #[.val (.int xf), .val (.int xc0), .val (.int xc1), .val (.int bu), .val (.int bs), .val (.int bp), .val (.int bc), .val (.int be), .val (.int bq), .val (.int bn), .val (.ref s1), .val (.ref s2), .val xv, .val (.ref b25), .val (.int (FD bu (0 : Int32) .null (0 : Int32))), .unset, .unset] [])) := by
                      intro T42 lc42 hq X42 N42 e42 Zq Oq Yq  Dq
                      have J218 : ∀ (T43 : State) (lc43 : List Loc) (hq : Heap) (X43 : Stand p l e room_1 (s.setVm T39.vm) m #[(.int xf), (.int xc0), (.int xc1)] below meth c T43 lc43 16 90) (N43 : Fr n0 lc43) (e43 : T43.heap = hq) (Zq : n0 ≤ hq.size) (Oq : Old Z n0 hq) (Yq : T39.heap.size ≤ hq.size)  (Dq : DT Z hq b25 bu (0 : Int32) fe bp), ownEnds p.tables e below (ownPostW s (fun v h L => v = some (.int 1) ∧ Fr n0 L) room_1.cells room_1.slots) (T43.setTop (mkF m 218 #[.val (.int xf), .val (.int xc0), .val (.int xc1), .val (.int bu), .val (.int bs), .val (.int bp), .val (.int bc), .val (.int be), .val (.int bq), .val (.int bn), .val (.ref s1), .val (.ref s2), .val xv, .val (.ref b25), .val (.int (FD bu (0 : Int32) .null (0 : Int32))), .unset, .unset] [])) := by
                        intro T43 lc43 hq X43 N43 e43 Zq Oq Yq  Dq
                        have J228 : ∀ (T44 : State) (lc44 : List Loc) (hq : Heap) (X44 : Stand p l e room_1 (s.setVm T39.vm) m #[(.int xf), (.int xc0), (.int xc1)] below meth c T44 lc44 16 90) (N44 : Fr n0 lc44) (e44 : T44.heap = hq) (Zq : n0 ≤ hq.size) (Oq : Old Z n0 hq) (Yq : T39.heap.size ≤ hq.size)  (Dq : DT Z hq b25 bu bs fe bp), ownEnds p.tables e below (ownPostW s (fun v h L => v = some (.int 1) ∧ Fr n0 L) room_1.cells room_1.slots) (T44.setTop (mkF m 228 #[.val (.int xf), .val (.int xc0), .val (.int xc1), .val (.int bu), .val (.int bs), .val (.int bp), .val (.int bc), .val (.int be), .val (.int bq), .val (.int bn), .val (.ref s1), .val (.ref s2), .val xv, .val (.ref b25), .val (.int (FD bu (0 : Int32) .null (0 : Int32))), .unset, .unset] [])) := by
                          intro T44 lc44 hq X44 N44 e44 Zq Oq Yq  Dq
                          show ownEnds _ _ _ _ (T44.setTop (mkF m 228 #[.val (.int xf), .val (.int xc0), .val (.int xc1), .val (.int bu), .val (.int bs), .val (.int bp), .val (.int bc), .val (.int be), .val (.int bq), .val (.int bn), .val (.ref s1), .val (.ref s2), .val xv, .val (.ref b25), .val (.int (FD bu (0 : Int32) .null (0 : Int32))), .unset, .unset] []))
                          refine ownEnds.law (fun t k => XS.aload X44.here hx rfl (hb hby at_228) rfl rfl k) ?_
                          show ownEnds _ _ _ _ (T44.setTop (mkF m 230 #[.val (.int xf), .val (.int xc0), .val (.int xc1), .val (.int bu), .val (.int bs), .val (.int bp), .val (.int bc), .val (.int be), .val (.int bq), .val (.int bn), .val (.ref s1), .val (.ref s2), .val xv, .val (.ref b25), .val (.int (FD bu (0 : Int32) .null (0 : Int32))), .unset, .unset] [(.ref b25)]))
                          obtain ⟨v45, T45, L45, X45, hQ45, st45⟩ := ownCallV X44 hx hZ hown (y := (⟨"com/example/markup_reader/markupreader/reader/Dtd", "entitiesMustBeDeclared", "()Z"⟩ : MethodName)) (z := (⟨"com/example/markup_reader/markupreader/reader/Dtd", "entitiesMustBeDeclared", "()Z"⟩ : MethodName)) (a := b25) (as := []) (wd_130 hw) (wd_131 hw) (notFace_of_selects (args := #[]) (mvT hZ (wd_133 hw))) (wd_133 hw) (wd_132 hw) (wd_32 hw) (wd_134 hw) (by decide) (rm15 l Z a0 hw b25 bu bs bp fe hq n0 Zq Dq) e44 Dq.1 0 (by decide) (by decide) (by decide) (by decide) (g := (mkF m 230 #[.val (.int xf), .val (.int xc0), .val (.int xc1), .val (.int bu), .val (.int bs), .val (.int bp), .val (.int bc), .val (.int be), .val (.int bq), .val (.int bn), .val (.ref s1), .val (.ref s2), .val xv, .val (.ref b25), .val (.int (FD bu (0 : Int32) .null (0 : Int32))), .unset, .unset] [(.ref b25)])) rfl (by rw [hml]; rfl) (rest := []) pd_7 rfl rfl (by show 2 * 0 + _ ≤ _; exact Nat.le_of_eq rfl) (hb hby at_230)
                          obtain ⟨rfl, rfl, e45⟩ := hQ45
                          rw [List.append_nil] at X45
                          refine ownEnds.law st45 ?_
                          show ownEnds _ _ _ _ (T45.setTop (mkF m 233 #[.val (.int xf), .val (.int xc0), .val (.int xc1), .val (.int bu), .val (.int bs), .val (.int bp), .val (.int bc), .val (.int be), .val (.int bq), .val (.int bn), .val (.ref s1), .val (.ref s2), .val xv, .val (.ref b25), .val (.int (FD bu (0 : Int32) .null (0 : Int32))), .unset, .unset] [(.int (FD bu bs fe bp))]))
                          refine ownEnds.law (fun t k => XS.istore X45.here hx rfl (hb hby at_233) rfl (l' := #[.val (.int xf), .val (.int xc0), .val (.int xc1), .val (.int bu), .val (.int bs), .val (.int bp), .val (.int bc), .val (.int be), .val (.int bq), .val (.int bn), .val (.ref s1), .val (.ref s2), .val xv, .val (.ref b25), .val (.int (FD bu (0 : Int32) .null (0 : Int32))), .val (.int (FD bu bs fe bp)), .unset]) rfl (XS.iload X45.here hx rfl (hb hby at_235) rfl k)) ?_
                          show ownEnds _ _ _ _ (T45.setTop (mkF m 237 #[.val (.int xf), .val (.int xc0), .val (.int xc1), .val (.int bu), .val (.int bs), .val (.int bp), .val (.int bc), .val (.int be), .val (.int bq), .val (.int bn), .val (.ref s1), .val (.ref s2), .val xv, .val (.ref b25), .val (.int (FD bu (0 : Int32) .null (0 : Int32))), .val (.int (FD bu bs fe bp)), .unset] [(.int bc)]))
                          by_cases hc237 : bc = (0 : Int32)
                          · refine ownEnds.law (fun t => XS.ifYes X45.here hx rfl (pc0 := 237) (pc' := 249) rfl (hb hby at_237) rfl ((if0 _ _).trans (teq hc237).1) (by decide) (by decide)) ?_
                            show ownEnds _ _ _ _ (T45.setTop (mkF m 249 #[.val (.int xf), .val (.int xc0), .val (.int xc1), .val (.int bu), .val (.int bs), .val (.int bp), .val (.int bc), .val (.int be), .val (.int bq), .val (.int bn), .val (.ref s1), .val (.ref s2), .val xv, .val (.ref b25), .val (.int (FD bu (0 : Int32) .null (0 : Int32))), .val (.int (FD bu bs fe bp)), .unset] []))
                            refine ownEnds.law (fun t k => XS.iconst X45.here hx rfl (hb hby at_249) (XS.istore X45.here hx rfl (hb hby at_250) rfl (l' := #[.val (.int xf), .val (.int xc0), .val (.int xc1), .val (.int bu), .val (.int bs), .val (.int bp), .val (.int bc), .val (.int be), .val (.int bq), .val (.int bn), .val (.ref s1), .val (.ref s2), .val xv, .val (.ref b25), .val (.int (FD bu (0 : Int32) .null (0 : Int32))), .val (.int (FD bu bs fe bp)), .val (.int (0 : Int32))]) rfl (XS.iload X45.here hx rfl (hb hby at_252) rfl k))) ?_
                            show ownEnds _ _ _ _ (T45.setTop (mkF m 254 #[.val (.int xf), .val (.int xc0), .val (.int xc1), .val (.int bu), .val (.int bs), .val (.int bp), .val (.int bc), .val (.int be), .val (.int bq), .val (.int bn), .val (.ref s1), .val (.ref s2), .val xv, .val (.ref b25), .val (.int (FD bu (0 : Int32) .null (0 : Int32))), .val (.int (FD bu bs fe bp)), .val (.int (0 : Int32))] [(.int (FD bu (0 : Int32) .null (0 : Int32)))]))
                            have hc254 : ¬ ((FD bu (0 : Int32) .null (0 : Int32)) = (0 : Int32)) := own_fresh _
                            refine ownEnds.law (fun t => XS.ifNo X45.here hx rfl (hb hby at_254) rfl ((if0 _ _).trans (feq hc254).1)) ?_
                            show ownEnds _ _ _ _ (T45.setTop (mkF m 257 #[.val (.int xf), .val (.int xc0), .val (.int xc1), .val (.int bu), .val (.int bs), .val (.int bp), .val (.int bc), .val (.int be), .val (.int bq), .val (.int bn), .val (.ref s1), .val (.ref s2), .val xv, .val (.ref b25), .val (.int (FD bu (0 : Int32) .null (0 : Int32))), .val (.int (FD bu bs fe bp)), .val (.int (0 : Int32))] []))
                            refine ownEnds.law (fun t k => XS.iload X45.here hx rfl (hb hby at_257) rfl (XS.iloadN X45.here hx rfl (hb hby at_259) rfl (XS.iload X45.here hx rfl (hb hby at_260) rfl (XS.iload X45.here hx rfl (hb hby at_262) rfl (XS.iload X45.here hx rfl (hb hby at_264) rfl k))))) ?_
                            show ownEnds _ _ _ _ (T45.setTop (mkF m 266 #[.val (.int xf), .val (.int xc0), .val (.int xc1), .val (.int bu), .val (.int bs), .val (.int bp), .val (.int bc), .val (.int be), .val (.int bq), .val (.int bn), .val (.ref s1), .val (.ref s2), .val xv, .val (.ref b25), .val (.int (FD bu (0 : Int32) .null (0 : Int32))), .val (.int (FD bu bs fe bp)), .val (.int (0 : Int32))] [(.int bp), (.int (0 : Int32)), (.int bs), (.int bu), (.int (FD bu bs fe bp))]))
                            obtain ⟨v46, T46, L46, X46, hQ46, st46⟩ := ownCallS X45 hx hZ hown (y := (⟨"com/example/markup_reader/markupreader/reader/DtdEntitiesMustBeDeclaredPinLaw", "expected", "(ZZZZ)Z"⟩ : MethodName)) (as := [(.int bu), (.int bs), (.int (0 : Int32)), (.int bp)]) (wd_137 hw) (wd_138 hw) (wd_139 hw) (wd_140 hw) (by decide) (rm16 l Z a0 hw bu bs (0 : Int32) bp  hq n0 Zq ) e45 1 (by decide) (by decide) (by decide) (by decide) (g := (mkF m 266 #[.val (.int xf), .val (.int xc0), .val (.int xc1), .val (.int bu), .val (.int bs), .val (.int bp), .val (.int bc), .val (.int be), .val (.int bq), .val (.int bn), .val (.ref s1), .val (.ref s2), .val xv, .val (.ref b25), .val (.int (FD bu (0 : Int32) .null (0 : Int32))), .val (.int (FD bu bs fe bp)), .val (.int (0 : Int32))] [(.int bp), (.int (0 : Int32)), (.int bs), (.int bu), (.int (FD bu bs fe bp))])) rfl (by rw [hml]; rfl) (rest := [(.int (FD bu bs fe bp))]) pd_8 rfl rfl (by show 2 * 0 + _ ≤ _; exact Nat.le_of_eq rfl) (hb hby at_266)
                            obtain ⟨rfl, rfl, e46⟩ := hQ46
                            rw [List.append_nil] at X46
                            refine ownEnds.law st46 ?_
                            show ownEnds _ _ _ _ (T46.setTop (mkF m 269 #[.val (.int xf), .val (.int xc0), .val (.int xc1), .val (.int bu), .val (.int bs), .val (.int bp), .val (.int bc), .val (.int be), .val (.int bq), .val (.int bn), .val (.ref s1), .val (.ref s2), .val xv, .val (.ref b25), .val (.int (FD bu (0 : Int32) .null (0 : Int32))), .val (.int (FD bu bs fe bp)), .val (.int (0 : Int32))] [(.int (FX bu bs (0 : Int32) bp)), (.int (FD bu bs fe bp))]))
                            have hc269 : (FD bu bs fe bp) = (FX bu bs (0 : Int32) bp) := own_fin (Or.inl rfl) ⟨fun _ => rfl, fun _ => hfe.mpr (Or.inl hc237)⟩
                            refine ownEnds.law (fun t => XS.icmpNo X46.here hx rfl (hb hby at_269) rfl (teq hc269).2) ?_
                            show ownEnds _ _ _ _ (T46.setTop (mkF m 272 #[.val (.int xf), .val (.int xc0), .val (.int xc1), .val (.int bu), .val (.int bs), .val (.int bp), .val (.int bc), .val (.int be), .val (.int bq), .val (.int bn), .val (.ref s1), .val (.ref s2), .val xv, .val (.ref b25), .val (.int (FD bu (0 : Int32) .null (0 : Int32))), .val (.int (FD bu bs fe bp)), .val (.int (0 : Int32))] []))
                            refine ownEnds.law (fun t k => XS.iconst X46.here hx rfl (hb hby at_272) (XS.goto X46.here hx rfl (pc0 := 273) (pc' := 277) rfl (hb hby at_273) (by decide) (by decide) k)) ?_
                            show ownEnds _ _ _ _ (T46.setTop (mkF m 277 #[.val (.int xf), .val (.int xc0), .val (.int xc1), .val (.int bu), .val (.int bs), .val (.int bp), .val (.int bc), .val (.int be), .val (.int bq), .val (.int bn), .val (.ref s1), .val (.ref s2), .val xv, .val (.ref b25), .val (.int (FD bu (0 : Int32) .null (0 : Int32))), .val (.int (FD bu bs fe bp)), .val (.int (0 : Int32))] [(.int (1 : Int32))]))
                            refine ownRetNW X46 hlk hS39 (by rw [e46]; exact Yq) hx (t := .boolean) hret (by simp) (hb hby at_277) (by decide) (by decide) ?_
                            exact ⟨rfl, N44⟩
                          · refine ownEnds.law (fun t => XS.ifNo X45.here hx rfl (hb hby at_237) rfl ((if0 _ _).trans (feq hc237).1)) ?_
                            show ownEnds _ _ _ _ (T45.setTop (mkF m 240 #[.val (.int xf), .val (.int xc0), .val (.int xc1), .val (.int bu), .val (.int bs), .val (.int bp), .val (.int bc), .val (.int be), .val (.int bq), .val (.int bn), .val (.ref s1), .val (.ref s2), .val xv, .val (.ref b25), .val (.int (FD bu (0 : Int32) .null (0 : Int32))), .val (.int (FD bu bs fe bp)), .unset] []))
                            refine ownEnds.law (fun t k => XS.iload X45.here hx rfl (hb hby at_240) rfl k) ?_
                            show ownEnds _ _ _ _ (T45.setTop (mkF m 242 #[.val (.int xf), .val (.int xc0), .val (.int xc1), .val (.int bu), .val (.int bs), .val (.int bp), .val (.int bc), .val (.int be), .val (.int bq), .val (.int bn), .val (.ref s1), .val (.ref s2), .val xv, .val (.ref b25), .val (.int (FD bu (0 : Int32) .null (0 : Int32))), .val (.int (FD bu bs fe bp)), .unset] [(.int be)]))
                            by_cases hc242 : be = (0 : Int32)
                            · refine ownEnds.law (fun t => XS.ifYes X45.here hx rfl (pc0 := 242) (pc' := 249) rfl (hb hby at_242) rfl ((if0 _ _).trans (teq hc242).1) (by decide) (by decide)) ?_
                              show ownEnds _ _ _ _ (T45.setTop (mkF m 249 #[.val (.int xf), .val (.int xc0), .val (.int xc1), .val (.int bu), .val (.int bs), .val (.int bp), .val (.int bc), .val (.int be), .val (.int bq), .val (.int bn), .val (.ref s1), .val (.ref s2), .val xv, .val (.ref b25), .val (.int (FD bu (0 : Int32) .null (0 : Int32))), .val (.int (FD bu bs fe bp)), .unset] []))
                              refine ownEnds.law (fun t k => XS.iconst X45.here hx rfl (hb hby at_249) (XS.istore X45.here hx rfl (hb hby at_250) rfl (l' := #[.val (.int xf), .val (.int xc0), .val (.int xc1), .val (.int bu), .val (.int bs), .val (.int bp), .val (.int bc), .val (.int be), .val (.int bq), .val (.int bn), .val (.ref s1), .val (.ref s2), .val xv, .val (.ref b25), .val (.int (FD bu (0 : Int32) .null (0 : Int32))), .val (.int (FD bu bs fe bp)), .val (.int (0 : Int32))]) rfl (XS.iload X45.here hx rfl (hb hby at_252) rfl k))) ?_
                              show ownEnds _ _ _ _ (T45.setTop (mkF m 254 #[.val (.int xf), .val (.int xc0), .val (.int xc1), .val (.int bu), .val (.int bs), .val (.int bp), .val (.int bc), .val (.int be), .val (.int bq), .val (.int bn), .val (.ref s1), .val (.ref s2), .val xv, .val (.ref b25), .val (.int (FD bu (0 : Int32) .null (0 : Int32))), .val (.int (FD bu bs fe bp)), .val (.int (0 : Int32))] [(.int (FD bu (0 : Int32) .null (0 : Int32)))]))
                              have hc254 : ¬ ((FD bu (0 : Int32) .null (0 : Int32)) = (0 : Int32)) := own_fresh _
                              refine ownEnds.law (fun t => XS.ifNo X45.here hx rfl (hb hby at_254) rfl ((if0 _ _).trans (feq hc254).1)) ?_
                              show ownEnds _ _ _ _ (T45.setTop (mkF m 257 #[.val (.int xf), .val (.int xc0), .val (.int xc1), .val (.int bu), .val (.int bs), .val (.int bp), .val (.int bc), .val (.int be), .val (.int bq), .val (.int bn), .val (.ref s1), .val (.ref s2), .val xv, .val (.ref b25), .val (.int (FD bu (0 : Int32) .null (0 : Int32))), .val (.int (FD bu bs fe bp)), .val (.int (0 : Int32))] []))
                              refine ownEnds.law (fun t k => XS.iload X45.here hx rfl (hb hby at_257) rfl (XS.iloadN X45.here hx rfl (hb hby at_259) rfl (XS.iload X45.here hx rfl (hb hby at_260) rfl (XS.iload X45.here hx rfl (hb hby at_262) rfl (XS.iload X45.here hx rfl (hb hby at_264) rfl k))))) ?_
                              show ownEnds _ _ _ _ (T45.setTop (mkF m 266 #[.val (.int xf), .val (.int xc0), .val (.int xc1), .val (.int bu), .val (.int bs), .val (.int bp), .val (.int bc), .val (.int be), .val (.int bq), .val (.int bn), .val (.ref s1), .val (.ref s2), .val xv, .val (.ref b25), .val (.int (FD bu (0 : Int32) .null (0 : Int32))), .val (.int (FD bu bs fe bp)), .val (.int (0 : Int32))] [(.int bp), (.int (0 : Int32)), (.int bs), (.int bu), (.int (FD bu bs fe bp))]))
                              obtain ⟨v47, T47, L47, X47, hQ47, st47⟩ := ownCallS X45 hx hZ hown (y := (⟨"com/example/markup_reader/markupreader/reader/DtdEntitiesMustBeDeclaredPinLaw", "expected", "(ZZZZ)Z"⟩ : MethodName)) (as := [(.int bu), (.int bs), (.int (0 : Int32)), (.int bp)]) (wd_137 hw) (wd_138 hw) (wd_139 hw) (wd_140 hw) (by decide) (rm16 l Z a0 hw bu bs (0 : Int32) bp  hq n0 Zq ) e45 1 (by decide) (by decide) (by decide) (by decide) (g := (mkF m 266 #[.val (.int xf), .val (.int xc0), .val (.int xc1), .val (.int bu), .val (.int bs), .val (.int bp), .val (.int bc), .val (.int be), .val (.int bq), .val (.int bn), .val (.ref s1), .val (.ref s2), .val xv, .val (.ref b25), .val (.int (FD bu (0 : Int32) .null (0 : Int32))), .val (.int (FD bu bs fe bp)), .val (.int (0 : Int32))] [(.int bp), (.int (0 : Int32)), (.int bs), (.int bu), (.int (FD bu bs fe bp))])) rfl (by rw [hml]; rfl) (rest := [(.int (FD bu bs fe bp))]) pd_8 rfl rfl (by show 2 * 0 + _ ≤ _; exact Nat.le_of_eq rfl) (hb hby at_266)
                              obtain ⟨rfl, rfl, e47⟩ := hQ47
                              rw [List.append_nil] at X47
                              refine ownEnds.law st47 ?_
                              show ownEnds _ _ _ _ (T47.setTop (mkF m 269 #[.val (.int xf), .val (.int xc0), .val (.int xc1), .val (.int bu), .val (.int bs), .val (.int bp), .val (.int bc), .val (.int be), .val (.int bq), .val (.int bn), .val (.ref s1), .val (.ref s2), .val xv, .val (.ref b25), .val (.int (FD bu (0 : Int32) .null (0 : Int32))), .val (.int (FD bu bs fe bp)), .val (.int (0 : Int32))] [(.int (FX bu bs (0 : Int32) bp)), (.int (FD bu bs fe bp))]))
                              have hc269 : (FD bu bs fe bp) = (FX bu bs (0 : Int32) bp) := own_fin (Or.inl rfl) ⟨fun _ => rfl, fun _ => hfe.mpr (Or.inr hc242)⟩
                              refine ownEnds.law (fun t => XS.icmpNo X47.here hx rfl (hb hby at_269) rfl (teq hc269).2) ?_
                              show ownEnds _ _ _ _ (T47.setTop (mkF m 272 #[.val (.int xf), .val (.int xc0), .val (.int xc1), .val (.int bu), .val (.int bs), .val (.int bp), .val (.int bc), .val (.int be), .val (.int bq), .val (.int bn), .val (.ref s1), .val (.ref s2), .val xv, .val (.ref b25), .val (.int (FD bu (0 : Int32) .null (0 : Int32))), .val (.int (FD bu bs fe bp)), .val (.int (0 : Int32))] []))
                              refine ownEnds.law (fun t k => XS.iconst X47.here hx rfl (hb hby at_272) (XS.goto X47.here hx rfl (pc0 := 273) (pc' := 277) rfl (hb hby at_273) (by decide) (by decide) k)) ?_
                              show ownEnds _ _ _ _ (T47.setTop (mkF m 277 #[.val (.int xf), .val (.int xc0), .val (.int xc1), .val (.int bu), .val (.int bs), .val (.int bp), .val (.int bc), .val (.int be), .val (.int bq), .val (.int bn), .val (.ref s1), .val (.ref s2), .val xv, .val (.ref b25), .val (.int (FD bu (0 : Int32) .null (0 : Int32))), .val (.int (FD bu bs fe bp)), .val (.int (0 : Int32))] [(.int (1 : Int32))]))
                              refine ownRetNW X47 hlk hS39 (by rw [e47]; exact Yq) hx (t := .boolean) hret (by simp) (hb hby at_277) (by decide) (by decide) ?_
                              exact ⟨rfl, N44⟩
                            · refine ownEnds.law (fun t => XS.ifNo X45.here hx rfl (hb hby at_242) rfl ((if0 _ _).trans (feq hc242).1)) ?_
                              show ownEnds _ _ _ _ (T45.setTop (mkF m 245 #[.val (.int xf), .val (.int xc0), .val (.int xc1), .val (.int bu), .val (.int bs), .val (.int bp), .val (.int bc), .val (.int be), .val (.int bq), .val (.int bn), .val (.ref s1), .val (.ref s2), .val xv, .val (.ref b25), .val (.int (FD bu (0 : Int32) .null (0 : Int32))), .val (.int (FD bu bs fe bp)), .unset] []))
                              refine ownEnds.law (fun t k => XS.iconst X45.here hx rfl (hb hby at_245) (XS.goto X45.here hx rfl (pc0 := 246) (pc' := 250) rfl (hb hby at_246) (by decide) (by decide) (XS.istore X45.here hx rfl (hb hby at_250) rfl (l' := #[.val (.int xf), .val (.int xc0), .val (.int xc1), .val (.int bu), .val (.int bs), .val (.int bp), .val (.int bc), .val (.int be), .val (.int bq), .val (.int bn), .val (.ref s1), .val (.ref s2), .val xv, .val (.ref b25), .val (.int (FD bu (0 : Int32) .null (0 : Int32))), .val (.int (FD bu bs fe bp)), .val (.int (1 : Int32))]) rfl (XS.iload X45.here hx rfl (hb hby at_252) rfl k)))) ?_
                              show ownEnds _ _ _ _ (T45.setTop (mkF m 254 #[.val (.int xf), .val (.int xc0), .val (.int xc1), .val (.int bu), .val (.int bs), .val (.int bp), .val (.int bc), .val (.int be), .val (.int bq), .val (.int bn), .val (.ref s1), .val (.ref s2), .val xv, .val (.ref b25), .val (.int (FD bu (0 : Int32) .null (0 : Int32))), .val (.int (FD bu bs fe bp)), .val (.int (1 : Int32))] [(.int (FD bu (0 : Int32) .null (0 : Int32)))]))
                              have hc254 : ¬ ((FD bu (0 : Int32) .null (0 : Int32)) = (0 : Int32)) := own_fresh _
                              refine ownEnds.law (fun t => XS.ifNo X45.here hx rfl (hb hby at_254) rfl ((if0 _ _).trans (feq hc254).1)) ?_
                              show ownEnds _ _ _ _ (T45.setTop (mkF m 257 #[.val (.int xf), .val (.int xc0), .val (.int xc1), .val (.int bu), .val (.int bs), .val (.int bp), .val (.int bc), .val (.int be), .val (.int bq), .val (.int bn), .val (.ref s1), .val (.ref s2), .val xv, .val (.ref b25), .val (.int (FD bu (0 : Int32) .null (0 : Int32))), .val (.int (FD bu bs fe bp)), .val (.int (1 : Int32))] []))
                              refine ownEnds.law (fun t k => XS.iload X45.here hx rfl (hb hby at_257) rfl (XS.iloadN X45.here hx rfl (hb hby at_259) rfl (XS.iload X45.here hx rfl (hb hby at_260) rfl (XS.iload X45.here hx rfl (hb hby at_262) rfl (XS.iload X45.here hx rfl (hb hby at_264) rfl k))))) ?_
                              show ownEnds _ _ _ _ (T45.setTop (mkF m 266 #[.val (.int xf), .val (.int xc0), .val (.int xc1), .val (.int bu), .val (.int bs), .val (.int bp), .val (.int bc), .val (.int be), .val (.int bq), .val (.int bn), .val (.ref s1), .val (.ref s2), .val xv, .val (.ref b25), .val (.int (FD bu (0 : Int32) .null (0 : Int32))), .val (.int (FD bu bs fe bp)), .val (.int (1 : Int32))] [(.int bp), (.int (1 : Int32)), (.int bs), (.int bu), (.int (FD bu bs fe bp))]))
                              obtain ⟨v48, T48, L48, X48, hQ48, st48⟩ := ownCallS X45 hx hZ hown (y := (⟨"com/example/markup_reader/markupreader/reader/DtdEntitiesMustBeDeclaredPinLaw", "expected", "(ZZZZ)Z"⟩ : MethodName)) (as := [(.int bu), (.int bs), (.int (1 : Int32)), (.int bp)]) (wd_137 hw) (wd_138 hw) (wd_139 hw) (wd_140 hw) (by decide) (rm16 l Z a0 hw bu bs (1 : Int32) bp  hq n0 Zq ) e45 1 (by decide) (by decide) (by decide) (by decide) (g := (mkF m 266 #[.val (.int xf), .val (.int xc0), .val (.int xc1), .val (.int bu), .val (.int bs), .val (.int bp), .val (.int bc), .val (.int be), .val (.int bq), .val (.int bn), .val (.ref s1), .val (.ref s2), .val xv, .val (.ref b25), .val (.int (FD bu (0 : Int32) .null (0 : Int32))), .val (.int (FD bu bs fe bp)), .val (.int (1 : Int32))] [(.int bp), (.int (1 : Int32)), (.int bs), (.int bu), (.int (FD bu bs fe bp))])) rfl (by rw [hml]; rfl) (rest := [(.int (FD bu bs fe bp))]) pd_8 rfl rfl (by show 2 * 0 + _ ≤ _; exact Nat.le_of_eq rfl) (hb hby at_266)
                              obtain ⟨rfl, rfl, e48⟩ := hQ48
                              rw [List.append_nil] at X48
                              refine ownEnds.law st48 ?_
                              show ownEnds _ _ _ _ (T48.setTop (mkF m 269 #[.val (.int xf), .val (.int xc0), .val (.int xc1), .val (.int bu), .val (.int bs), .val (.int bp), .val (.int bc), .val (.int be), .val (.int bq), .val (.int bn), .val (.ref s1), .val (.ref s2), .val xv, .val (.ref b25), .val (.int (FD bu (0 : Int32) .null (0 : Int32))), .val (.int (FD bu bs fe bp)), .val (.int (1 : Int32))] [(.int (FX bu bs (1 : Int32) bp)), (.int (FD bu bs fe bp))]))
                              have hc269 : (FD bu bs fe bp) = (FX bu bs (1 : Int32) bp) := own_fin (Or.inr rfl) ⟨fun q => absurd (hfe.mp q) (fun z => z.elim hc237 hc242), fun q => absurd q (by decide)⟩
                              refine ownEnds.law (fun t => XS.icmpNo X48.here hx rfl (hb hby at_269) rfl (teq hc269).2) ?_
                              show ownEnds _ _ _ _ (T48.setTop (mkF m 272 #[.val (.int xf), .val (.int xc0), .val (.int xc1), .val (.int bu), .val (.int bs), .val (.int bp), .val (.int bc), .val (.int be), .val (.int bq), .val (.int bn), .val (.ref s1), .val (.ref s2), .val xv, .val (.ref b25), .val (.int (FD bu (0 : Int32) .null (0 : Int32))), .val (.int (FD bu bs fe bp)), .val (.int (1 : Int32))] []))
                              refine ownEnds.law (fun t k => XS.iconst X48.here hx rfl (hb hby at_272) (XS.goto X48.here hx rfl (pc0 := 273) (pc' := 277) rfl (hb hby at_273) (by decide) (by decide) k)) ?_
                              show ownEnds _ _ _ _ (T48.setTop (mkF m 277 #[.val (.int xf), .val (.int xc0), .val (.int xc1), .val (.int bu), .val (.int bs), .val (.int bp), .val (.int bc), .val (.int be), .val (.int bq), .val (.int bn), .val (.ref s1), .val (.ref s2), .val xv, .val (.ref b25), .val (.int (FD bu (0 : Int32) .null (0 : Int32))), .val (.int (FD bu bs fe bp)), .val (.int (1 : Int32))] [(.int (1 : Int32))]))
                              refine ownRetNW X48 hlk hS39 (by rw [e48]; exact Yq) hx (t := .boolean) hret (by simp) (hb hby at_277) (by decide) (by decide) ?_
                              exact ⟨rfl, N44⟩
                        show ownEnds _ _ _ _ (T43.setTop (mkF m 218 #[.val (.int xf), .val (.int xc0), .val (.int xc1), .val (.int bu), .val (.int bs), .val (.int bp), .val (.int bc), .val (.int be), .val (.int bq), .val (.int bn), .val (.ref s1), .val (.ref s2), .val xv, .val (.ref b25), .val (.int (FD bu (0 : Int32) .null (0 : Int32))), .unset, .unset] []))
                        refine ownEnds.law (fun t k => XS.iload X43.here hx rfl (hb hby at_218) rfl k) ?_
                        show ownEnds _ _ _ _ (T43.setTop (mkF m 220 #[.val (.int xf), .val (.int xc0), .val (.int xc1), .val (.int bu), .val (.int bs), .val (.int bp), .val (.int bc), .val (.int be), .val (.int bq), .val (.int bn), .val (.ref s1), .val (.ref s2), .val xv, .val (.ref b25), .val (.int (FD bu (0 : Int32) .null (0 : Int32))), .unset, .unset] [(.int bs)]))
                        by_cases hc220 : bs = (0 : Int32)
                        · refine ownEnds.law (fun t => XS.ifYes X43.here hx rfl (pc0 := 220) (pc' := 228) rfl (hb hby at_220) rfl ((if0 _ _).trans (teq hc220).1) (by decide) (by decide)) ?_
                          exact J228 _ _ _ X43 N43 e43 Zq Oq Yq (by rw [hc220]; exact Dq)
                        · refine ownEnds.law (fun t => XS.ifNo X43.here hx rfl (hb hby at_220) rfl ((if0 _ _).trans (feq hc220).1)) ?_
                          show ownEnds _ _ _ _ (T43.setTop (mkF m 223 #[.val (.int xf), .val (.int xc0), .val (.int xc1), .val (.int bu), .val (.int bs), .val (.int bp), .val (.int bc), .val (.int be), .val (.int bq), .val (.int bn), .val (.ref s1), .val (.ref s2), .val xv, .val (.ref b25), .val (.int (FD bu (0 : Int32) .null (0 : Int32))), .unset, .unset] []))
                          refine ownEnds.law (fun t k => XS.aload X43.here hx rfl (hb hby at_223) rfl rfl k) ?_
                          show ownEnds _ _ _ _ (T43.setTop (mkF m 225 #[.val (.int xf), .val (.int xc0), .val (.int xc1), .val (.int bu), .val (.int bs), .val (.int bp), .val (.int bc), .val (.int be), .val (.int bq), .val (.int bn), .val (.ref s1), .val (.ref s2), .val xv, .val (.ref b25), .val (.int (FD bu (0 : Int32) .null (0 : Int32))), .unset, .unset] [(.ref b25)]))
                          obtain ⟨v49, T49, L49, X49, hQ49, st49⟩ := ownCallV X43 hx hZ hown (y := (⟨"com/example/markup_reader/markupreader/reader/Dtd", "declareStandalone", "()V"⟩ : MethodName)) (z := (⟨"com/example/markup_reader/markupreader/reader/Dtd", "declareStandalone", "()V"⟩ : MethodName)) (a := b25) (as := []) (wd_174 hw) (wd_175 hw) (notFace_of_selects (args := #[]) (mvT hZ (wd_177 hw))) (wd_177 hw) (wd_176 hw) (wd_32 hw) (wd_178 hw) (by decide) (rm22 l Z a0 hw b25 bu (0 : Int32) bp fe hq n0 Zq Dq g_b25) e43 Dq.1 0 (by decide) (by decide) (by decide) (by decide) (g := (mkF m 225 #[.val (.int xf), .val (.int xc0), .val (.int xc1), .val (.int bu), .val (.int bs), .val (.int bp), .val (.int bc), .val (.int be), .val (.int bq), .val (.int bn), .val (.ref s1), .val (.ref s2), .val xv, .val (.ref b25), .val (.int (FD bu (0 : Int32) .null (0 : Int32))), .unset, .unset] [(.ref b25)])) rfl (by rw [hml]; rfl) (rest := []) pd_0 rfl rfl (by show 2 * 0 + _ ≤ _; exact Nat.le_of_eq rfl) (hb hby at_225)
                          obtain ⟨rfl, Nq49, Kq49, D49⟩ := hQ49
                          have N49 := Fr.app N43 Nq49
                          have Z49 : n0 ≤ T49.heap.size := Nat.le_trans Zq Kq49.1
                          have Y49 : T39.heap.size ≤ T49.heap.size := Nat.le_trans Yq Kq49.1
                          have O_49 : Old Z n0 T49.heap := Old.keep Oq Kq49 (allS g_b25 all0)
                          refine ownEnds.law st49 ?_
                          exact J228 _ _ _ X49 N49 rfl Z49 O_49 Y49 (by rw [hbs.resolve_left hc220]; exact D49)
                      show ownEnds _ _ _ _ (T42.setTop (mkF m 208 #[.val (.int xf), .val (.int xc0), .val (.int xc1), .val (.int bu), .val (.int bs), .val (.int bp), .val (.int bc), .val (.int be), .val (.int bq), .val (.int bn), .val (.ref s1), .val (.ref s2), .val xv, .val (.ref b25), .val (.int (FD bu (0 : Int32) .null (0 : Int32))), .unset, .unset] []))
                      refine ownEnds.law (fun t k => XS.iload X42.here hx rfl (hb hby at_208) rfl k) ?_
                      show ownEnds _ _ _ _ (T42.setTop (mkF m 210 #[.val (.int xf), .val (.int xc0), .val (.int xc1), .val (.int bu), .val (.int bs), .val (.int bp), .val (.int bc), .val (.int be), .val (.int bq), .val (.int bn), .val (.ref s1), .val (.ref s2), .val xv, .val (.ref b25), .val (.int (FD bu (0 : Int32) .null (0 : Int32))), .unset, .unset] [(.int bn)]))
                      by_cases hc210 : bn = (0 : Int32)
                      · refine ownEnds.law (fun t => XS.ifYes X42.here hx rfl (pc0 := 210) (pc' := 218) rfl (hb hby at_210) rfl ((if0 _ _).trans (teq hc210).1) (by decide) (by decide)) ?_
                        exact J218 _ _ _ X42 N42 e42 Zq Oq Yq Dq
                      · refine ownEnds.law (fun t => XS.ifNo X42.here hx rfl (hb hby at_210) rfl ((if0 _ _).trans (feq hc210).1)) ?_
                        show ownEnds _ _ _ _ (T42.setTop (mkF m 213 #[.val (.int xf), .val (.int xc0), .val (.int xc1), .val (.int bu), .val (.int bs), .val (.int bp), .val (.int bc), .val (.int be), .val (.int bq), .val (.int bn), .val (.ref s1), .val (.ref s2), .val xv, .val (.ref b25), .val (.int (FD bu (0 : Int32) .null (0 : Int32))), .unset, .unset] []))
                        refine ownEnds.law (fun t k => XS.aload X42.here hx rfl (hb hby at_213) rfl rfl k) ?_
                        show ownEnds _ _ _ _ (T42.setTop (mkF m 215 #[.val (.int xf), .val (.int xc0), .val (.int xc1), .val (.int bu), .val (.int bs), .val (.int bp), .val (.int bc), .val (.int be), .val (.int bq), .val (.int bn), .val (.ref s1), .val (.ref s2), .val xv, .val (.ref b25), .val (.int (FD bu (0 : Int32) .null (0 : Int32))), .unset, .unset] [(.ref b25)]))
                        obtain ⟨v50, T50, L50, X50, hQ50, st50⟩ := ownCallV X42 hx hZ hown (y := (⟨"com/example/markup_reader/markupreader/reader/Dtd", "parameterEntityNotRead", "()V"⟩ : MethodName)) (z := (⟨"com/example/markup_reader/markupreader/reader/Dtd", "parameterEntityNotRead", "()V"⟩ : MethodName)) (a := b25) (as := []) (wd_195 hw) (wd_196 hw) (notFace_of_selects (args := #[]) (mvT hZ (wd_198 hw))) (wd_198 hw) (wd_197 hw) (wd_32 hw) (wd_199 hw) (by decide) (rm25 l Z a0 hw b25 bu (0 : Int32) bp fe hq n0 Zq Dq g_b25) e42 Dq.1 0 (by decide) (by decide) (by decide) (by decide) (g := (mkF m 215 #[.val (.int xf), .val (.int xc0), .val (.int xc1), .val (.int bu), .val (.int bs), .val (.int bp), .val (.int bc), .val (.int be), .val (.int bq), .val (.int bn), .val (.ref s1), .val (.ref s2), .val xv, .val (.ref b25), .val (.int (FD bu (0 : Int32) .null (0 : Int32))), .unset, .unset] [(.ref b25)])) rfl (by rw [hml]; rfl) (rest := []) pd_0 rfl rfl (by show 2 * 0 + _ ≤ _; exact Nat.le_of_eq rfl) (hb hby at_215)
                        obtain ⟨rfl, Nq50, Kq50, D50⟩ := hQ50
                        have N50 := Fr.app N42 Nq50
                        have Z50 : n0 ≤ T50.heap.size := Nat.le_trans Zq Kq50.1
                        have Y50 : T39.heap.size ≤ T50.heap.size := Nat.le_trans Yq Kq50.1
                        have O_50 : Old Z n0 T50.heap := Old.keep Oq Kq50 (allS g_b25 all0)
                        refine ownEnds.law st50 ?_
                        exact J218 _ _ _ X50 N50 rfl Z50 O_50 Y50 D50
                    show ownEnds _ _ _ _ (T41.setTop (mkF m 198 #[.val (.int xf), .val (.int xc0), .val (.int xc1), .val (.int bu), .val (.int bs), .val (.int bp), .val (.int bc), .val (.int be), .val (.int bq), .val (.int bn), .val (.ref s1), .val (.ref s2), .val xv, .val (.ref b25), .val (.int (FD bu (0 : Int32) .null (0 : Int32))), .unset, .unset] []))
                    refine ownEnds.law (fun t k => XS.iload X41.here hx rfl (hb hby at_198) rfl k) ?_
                    show ownEnds _ _ _ _ (T41.setTop (mkF m 200 #[.val (.int xf), .val (.int xc0), .val (.int xc1), .val (.int bu), .val (.int bs), .val (.int bp), .val (.int bc), .val (.int be), .val (.int bq), .val (.int bn), .val (.ref s1), .val (.ref s2), .val xv, .val (.ref b25), .val (.int (FD bu (0 : Int32) .null (0 : Int32))), .unset, .unset] [(.int bp)]))
                    by_cases hc200 : bp = (0 : Int32)
                    · refine ownEnds.law (fun t => XS.ifYes X41.here hx rfl (pc0 := 200) (pc' := 208) rfl (hb hby at_200) rfl ((if0 _ _).trans (teq hc200).1) (by decide) (by decide)) ?_
                      exact J208 _ _ _ X41 N41 e41 Zq Oq Yq (by rw [hc200]; exact Dq)
                    · refine ownEnds.law (fun t => XS.ifNo X41.here hx rfl (hb hby at_200) rfl ((if0 _ _).trans (feq hc200).1)) ?_
                      show ownEnds _ _ _ _ (T41.setTop (mkF m 203 #[.val (.int xf), .val (.int xc0), .val (.int xc1), .val (.int bu), .val (.int bs), .val (.int bp), .val (.int bc), .val (.int be), .val (.int bq), .val (.int bn), .val (.ref s1), .val (.ref s2), .val xv, .val (.ref b25), .val (.int (FD bu (0 : Int32) .null (0 : Int32))), .unset, .unset] []))
                      refine ownEnds.law (fun t k => XS.aload X41.here hx rfl (hb hby at_203) rfl rfl k) ?_
                      show ownEnds _ _ _ _ (T41.setTop (mkF m 205 #[.val (.int xf), .val (.int xc0), .val (.int xc1), .val (.int bu), .val (.int bs), .val (.int bp), .val (.int bc), .val (.int be), .val (.int bq), .val (.int bn), .val (.ref s1), .val (.ref s2), .val xv, .val (.ref b25), .val (.int (FD bu (0 : Int32) .null (0 : Int32))), .unset, .unset] [(.ref b25)]))
                      obtain ⟨v51, T51, L51, X51, hQ51, st51⟩ := ownCallV X41 hx hZ hown (y := (⟨"com/example/markup_reader/markupreader/reader/Dtd", "parameterReferenced", "()V"⟩ : MethodName)) (z := (⟨"com/example/markup_reader/markupreader/reader/Dtd", "parameterReferenced", "()V"⟩ : MethodName)) (a := b25) (as := []) (wd_145 hw) (wd_146 hw) (notFace_of_selects (args := #[]) (mvT hZ (wd_148 hw))) (wd_148 hw) (wd_147 hw) (wd_32 hw) (wd_149 hw) (by decide) (rm17 l Z a0 hw b25 bu (0 : Int32) (0 : Int32) fe hq n0 Zq Dq g_b25) e41 Dq.1 0 (by decide) (by decide) (by decide) (by decide) (g := (mkF m 205 #[.val (.int xf), .val (.int xc0), .val (.int xc1), .val (.int bu), .val (.int bs), .val (.int bp), .val (.int bc), .val (.int be), .val (.int bq), .val (.int bn), .val (.ref s1), .val (.ref s2), .val xv, .val (.ref b25), .val (.int (FD bu (0 : Int32) .null (0 : Int32))), .unset, .unset] [(.ref b25)])) rfl (by rw [hml]; rfl) (rest := []) pd_0 rfl rfl (by show 2 * 0 + _ ≤ _; exact Nat.le_of_eq rfl) (hb hby at_205)
                      obtain ⟨rfl, Nq51, Kq51, D51⟩ := hQ51
                      have N51 := Fr.app N41 Nq51
                      have Z51 : n0 ≤ T51.heap.size := Nat.le_trans Zq Kq51.1
                      have Y51 : T39.heap.size ≤ T51.heap.size := Nat.le_trans Yq Kq51.1
                      have O_51 : Old Z n0 T51.heap := Old.keep Oq Kq51 (allS g_b25 all0)
                      refine ownEnds.law st51 ?_
                      exact J208 _ _ _ X51 N51 rfl Z51 O_51 Y51 (by rw [hbp.resolve_left hc200]; exact D51)
                  show ownEnds _ _ _ _ (T40.setTop (mkF m 184 #[.val (.int xf), .val (.int xc0), .val (.int xc1), .val (.int bu), .val (.int bs), .val (.int bp), .val (.int bc), .val (.int be), .val (.int bq), .val (.int bn), .val (.ref s1), .val (.ref s2), .val xv, .val (.ref b25), .val (.int (FD bu (0 : Int32) .null (0 : Int32))), .unset, .unset] []))
                  refine ownEnds.law (fun t k => XS.iload X40.here hx rfl (hb hby at_184) rfl k) ?_
                  show ownEnds _ _ _ _ (T40.setTop (mkF m 186 #[.val (.int xf), .val (.int xc0), .val (.int xc1), .val (.int bu), .val (.int bs), .val (.int bp), .val (.int bc), .val (.int be), .val (.int bq), .val (.int bn), .val (.ref s1), .val (.ref s2), .val xv, .val (.ref b25), .val (.int (FD bu (0 : Int32) .null (0 : Int32))), .unset, .unset] [(.int bc)]))
                  by_cases hc186 : bc = (0 : Int32)
                  · refine ownEnds.law (fun t => XS.ifYes X40.here hx rfl (pc0 := 186) (pc' := 198) rfl (hb hby at_186) rfl ((if0 _ _).trans (teq hc186).1) (by decide) (by decide)) ?_
                    exact J198 _ _ _ X40 N39 e40 Z39 O_39 (Nat.le_refl _) .null ⟨fun _ => Or.inl hc186, fun _ => rfl⟩ D39
                  · refine ownEnds.law (fun t => XS.ifNo X40.here hx rfl (hb hby at_186) rfl ((if0 _ _).trans (feq hc186).1)) ?_
                    show ownEnds _ _ _ _ (T40.setTop (mkF m 189 #[.val (.int xf), .val (.int xc0), .val (.int xc1), .val (.int bu), .val (.int bs), .val (.int bp), .val (.int bc), .val (.int be), .val (.int bq), .val (.int bn), .val (.ref s1), .val (.ref s2), .val xv, .val (.ref b25), .val (.int (FD bu (0 : Int32) .null (0 : Int32))), .unset, .unset] []))
                    refine ownEnds.law (fun t k => XS.aload X40.here hx rfl (hb hby at_189) rfl rfl (XS.aload X40.here hx rfl (hb hby at_191) rfl rfl (XS.aload X40.here hx rfl (hb hby at_193) rfl h_xv k))) ?_
                    show ownEnds _ _ _ _ (T40.setTop (mkF m 195 #[.val (.int xf), .val (.int xc0), .val (.int xc1), .val (.int bu), .val (.int bs), .val (.int bp), .val (.int bc), .val (.int be), .val (.int bq), .val (.int bn), .val (.ref s1), .val (.ref s2), .val xv, .val (.ref b25), .val (.int (FD bu (0 : Int32) .null (0 : Int32))), .unset, .unset] [xv, (.ref s1), (.ref b25)]))
                    rcases EB39 with rfl | ⟨ox, pv, sb, rfl, hox, Exx, Fpx, Fsx, hpv, SSx⟩
                    · show ownEnds _ _ _ _ (T40.setTop (mkF m 195 #[.val (.int xf), .val (.int xc0), .val (.int xc1), .val (.int bu), .val (.int bs), .val (.int bp), .val (.int bc), .val (.int be), .val (.int bq), .val (.int bn), .val (.ref s1), .val (.ref s2), .val .null, .val (.ref b25), .val (.int (FD bu (0 : Int32) .null (0 : Int32))), .unset, .unset] [.null, (.ref s1), (.ref b25)]))
                      obtain ⟨v52, T52, L52, X52, hQ52, st52⟩ := ownCallV X40 hx hZ hown (y := (⟨"com/example/markup_reader/markupreader/reader/Dtd", "start", "(Ljava/lang/String;Lcom/example/markup_reader/markupreader/reader/Entity$ExternalId;)V"⟩ : MethodName)) (z := (⟨"com/example/markup_reader/markupreader/reader/Dtd", "start", "(Ljava/lang/String;Lcom/example/markup_reader/markupreader/reader/Entity$ExternalId;)V"⟩ : MethodName)) (a := b25) (as := [(.ref s1), .null]) (wd_150 hw) (wd_151 hw) (notFace_of_selects (args := #[]) (mvT hZ (wd_153 hw))) (wd_153 hw) (wd_152 hw) (wd_32 hw) (wd_154 hw) (by decide) (rm18n l Z a0 hw b25 s1 bu (0 : Int32) (0 : Int32) .null zc T39.heap n0 Z39 D39 g_b25 SB39 (Sta.ext O_39.2 SC0) hzc) e40 D39.1 0 (by decide) (by decide) (by decide) (by decide) (g := (mkF m 195 #[.val (.int xf), .val (.int xc0), .val (.int xc1), .val (.int bu), .val (.int bs), .val (.int bp), .val (.int bc), .val (.int be), .val (.int bq), .val (.int bn), .val (.ref s1), .val (.ref s2), .val .null, .val (.ref b25), .val (.int (FD bu (0 : Int32) .null (0 : Int32))), .unset, .unset] [.null, (.ref s1), (.ref b25)])) rfl (by rw [hml]; rfl) (rest := []) pd_9 rfl rfl (by show 2 * 0 + _ ≤ _; exact Nat.le_of_eq rfl) (hb hby at_195)
                      obtain ⟨rfl, Nq52, Kq52, D52⟩ := hQ52
                      have N52 := Fr.app N39 Nq52
                      have Z52 : n0 ≤ T52.heap.size := Nat.le_trans Z39 Kq52.1
                      have Y52 : T39.heap.size ≤ T52.heap.size := Nat.le_trans (Nat.le_refl _) Kq52.1
                      have O_52 : Old Z n0 T52.heap := Old.keep O_39 Kq52 (allS g_b25 all0)
                      refine ownEnds.law st52 ?_
                      exact J198 _ _ _ X52 N52 rfl Z52 O_52 Y52 .null ⟨fun q => Or.inr (hrel.mp q), fun q => q.elim (fun z => absurd z hc186) (fun z => hrel.mpr z)⟩ D52
                    · show ownEnds _ _ _ _ (T40.setTop (mkF m 195 #[.val (.int xf), .val (.int xc0), .val (.int xc1), .val (.int bu), .val (.int bs), .val (.int bp), .val (.int bc), .val (.int be), .val (.int bq), .val (.int bn), .val (.ref s1), .val (.ref s2), .val (.ref ox), .val (.ref b25), .val (.int (FD bu (0 : Int32) .null (0 : Int32))), .unset, .unset] [(.ref ox), (.ref s1), (.ref b25)]))
                      obtain ⟨v53, T53, L53, X53, hQ53, st53⟩ := ownCallV X40 hx hZ hown (y := (⟨"com/example/markup_reader/markupreader/reader/Dtd", "start", "(Ljava/lang/String;Lcom/example/markup_reader/markupreader/reader/Entity$ExternalId;)V"⟩ : MethodName)) (z := (⟨"com/example/markup_reader/markupreader/reader/Dtd", "start", "(Ljava/lang/String;Lcom/example/markup_reader/markupreader/reader/Entity$ExternalId;)V"⟩ : MethodName)) (a := b25) (as := [(.ref s1), (.ref ox)]) (wd_150 hw) (wd_151 hw) (notFace_of_selects (args := #[]) (mvT hZ (wd_153 hw))) (wd_153 hw) (wd_152 hw) (wd_32 hw) (wd_154 hw) (by decide) (rm18r l Z a0 hw b25 s1 ox bu (0 : Int32) (0 : Int32) .null zc pv sb T39.heap n0 Z39 D39 g_b25 SB39 hox Exx Fpx Fsx hpv SSx (Sta.ext O_39.2 SC0) hzc) e40 D39.1 0 (by decide) (by decide) (by decide) (by decide) (g := (mkF m 195 #[.val (.int xf), .val (.int xc0), .val (.int xc1), .val (.int bu), .val (.int bs), .val (.int bp), .val (.int bc), .val (.int be), .val (.int bq), .val (.int bn), .val (.ref s1), .val (.ref s2), .val (.ref ox), .val (.ref b25), .val (.int (FD bu (0 : Int32) .null (0 : Int32))), .unset, .unset] [(.ref ox), (.ref s1), (.ref b25)])) rfl (by rw [hml]; rfl) (rest := []) pd_9 rfl rfl (by show 2 * 0 + _ ≤ _; exact Nat.le_of_eq rfl) (hb hby at_195)
                      obtain ⟨rfl, Nq53, Kq53, D53⟩ := hQ53
                      have N53 := Fr.app N39 Nq53
                      have Z53 : n0 ≤ T53.heap.size := Nat.le_trans Z39 Kq53.1
                      have Y53 : T39.heap.size ≤ T53.heap.size := Nat.le_trans (Nat.le_refl _) Kq53.1
                      have O_53 : Old Z n0 T53.heap := Old.keep O_39 Kq53 (allS g_b25 all0)
                      refine ownEnds.law st53 ?_
                      exact J198 _ _ _ X53 N53 rfl Z53 O_53 Y53 (.ref ox) ⟨fun q => Or.inr (hrel.mp q), fun q => q.elim (fun z => absurd z hc186) (fun z => hrel.mpr z)⟩ D53
                show ownEnds _ _ _ _ (T18.setTop (mkF m 136 #[.val (.int xf), .val (.int xc0), .val (.int xc1), .val (.int bu), .val (.int bs), .val (.int bp), .val (.int bc), .val (.int be), .val (.int bq), .val (.int bn), .val (.ref b1), .val (.ref b10), .unset, .unset, .unset, .unset, .unset] []))
                refine ownEnds.law (fun t k => XS.iload X18.here hx rfl (hb hby at_136) rfl k) ?_
                show ownEnds _ _ _ _ (T18.setTop (mkF m 138 #[.val (.int xf), .val (.int xc0), .val (.int xc1), .val (.int bu), .val (.int bs), .val (.int bp), .val (.int bc), .val (.int be), .val (.int bq), .val (.int bn), .val (.ref b1), .val (.ref b10), .unset, .unset, .unset, .unset, .unset] [(.int be)]))
                by_cases hc138 : be = (0 : Int32)
                · refine ownEnds.law (fun t => XS.ifYes X18.here hx rfl (pc0 := 138) (pc' := 164) rfl (hb hby at_138) rfl ((if0 _ _).trans (teq hc138).1) (by decide) (by decide)) ?_
                  show ownEnds _ _ _ _ (T18.setTop (mkF m 164 #[.val (.int xf), .val (.int xc0), .val (.int xc1), .val (.int bu), .val (.int bs), .val (.int bp), .val (.int bc), .val (.int be), .val (.int bq), .val (.int bn), .val (.ref b1), .val (.ref b10), .unset, .unset, .unset, .unset, .unset] []))
                  refine ownEnds.law (fun t k => XS.aconstNull X18.here hx rfl (hb hby at_164) (XS.astore X18.here hx rfl (hb hby at_165) rfl rfl (l' := #[.val (.int xf), .val (.int xc0), .val (.int xc1), .val (.int bu), .val (.int bs), .val (.int bp), .val (.int bc), .val (.int be), .val (.int bq), .val (.int bn), .val (.ref b1), .val (.ref b10), .val .null, .unset, .unset, .unset, .unset]) rfl k)) ?_
                  show ownEnds _ _ _ _ (T18.setTop (mkF m 167 #[.val (.int xf), .val (.int xc0), .val (.int xc1), .val (.int bu), .val (.int bs), .val (.int bp), .val (.int bc), .val (.int be), .val (.int bq), .val (.int bn), .val (.ref b1), .val (.ref b10), .val .null, .unset, .unset, .unset, .unset] []))
                  have szle_b1 : T6.heap.size ≤ T18.heap.size := (Nat.le_trans (Nat.le_trans (Nat.le_trans (Nat.le_trans (Nat.le_refl _) E10.1) E14.1) (Keep.of_wr W17).1) Kq18.1)
                  have szle_b10 : T18.heap.size ≤ T18.heap.size := (Nat.le_refl _)
                  exact J167 _ _ _ (X18.more (by decide) (by decide)) N18 rfl Z18 O_18 _ _ (StrOK.mono (StrOK.keep (StrOK.keep (StrOK.keep (StrOK.keep SO_b1 ((Keep.refl _ []).ext E10) all0) ((Keep.refl _ []).ext E14) all0) (Keep.of_wr W17) (allS (le_b1_b14) all0)) Kq18 (allS (le_b1_b10) all0)) (szle_b1)) .null rfl (Or.inl rfl) ⟨fun _ => hc138, fun _ => rfl⟩
                · refine ownEnds.law (fun t => XS.ifNo X18.here hx rfl (hb hby at_138) rfl ((if0 _ _).trans (feq hc138).1)) ?_
                  show ownEnds _ _ _ _ (T18.setTop (mkF m 141 #[.val (.int xf), .val (.int xc0), .val (.int xc1), .val (.int bu), .val (.int bs), .val (.int bp), .val (.int bc), .val (.int be), .val (.int bq), .val (.int bn), .val (.ref b1), .val (.ref b10), .unset, .unset, .unset, .unset, .unset] []))
                  obtain ⟨T54, h54, X54, e54, E54, A54, D54, -, st54⟩ := newO X18 hx hZ hown (wd_179 hw) (wd_180 hw) (wd_181 hw) rfl (g := (mkF m 141 #[.val (.int xf), .val (.int xc0), .val (.int xc1), .val (.int bu), .val (.int bs), .val (.int bp), .val (.int bc), .val (.int be), .val (.int bq), .val (.int bn), .val (.ref b1), .val (.ref b10), .unset, .unset, .unset, .unset, .unset] [])) rfl (hb hby at_141) (by decide) (by decide)
                  obtain ⟨b54, g54⟩ : ∃ z, z = T18.heap.size := ⟨_, rfl⟩
                  rw [← g54] at A54 D54 st54
                  refine ownEnds.law st54 ?_
                  have f55 := (Exa.keep f22 Kq18)
                  have ne_b1_b54 : b1 ≠ b54 := Nat.ne_of_lt (Nat.lt_of_lt_of_eq f55.lt g54.symm)
                  have f56 := (Arv.keep f23 Kq18 (ninS ne_b4_b10 nin0))
                  have ne_b4_b54 : b4 ≠ b54 := Nat.ne_of_lt (Nat.lt_of_lt_of_eq f56.lt g54.symm)
                  have ne_b10_b54 : b10 ≠ b54 := Nat.ne_of_lt (Nat.lt_of_lt_of_eq Eq18.lt g54.symm)
                  have f57 := (Arv.keep V17 Kq18 (ninS (Ne.symm ne_b10_b14) nin0))
                  have ne_b14_b54 : b14 ≠ b54 := Nat.ne_of_lt (Nat.lt_of_lt_of_eq f57.lt g54.symm)
                  have g_b54 : n0 ≤ b54 := Nat.le_trans Z18 (Nat.le_of_eq g54.symm)
                  have Z54 : n0 ≤ h54.size := Nat.le_trans Z18 E54.1
                  have O_54 : Old Z n0 h54 := Old.ext O_18 E54
                  have le_b1_b54 : T6.heap.size ≤ b54 := Nat.le_trans (Nat.le_trans (Nat.le_trans (Nat.le_trans (Nat.le_trans (Nat.le_refl _) E10.1) E14.1) (Keep.of_wr W17).1) Kq18.1) (Nat.le_of_eq g54.symm)
                  have le_b10_b54 : T18.heap.size ≤ b54 := Nat.le_of_eq g54.symm
                  have F58 : Fld Z h54 b54 "com/example/markup_reader/markupreader/reader/Entity$ExternalId" "publicId" "Ljava/lang/String;" .null := D54 (Or.inr (wd_192 hw)) (ty := (.object "java/lang/String")) (by decide)
                  have F59 : Fld Z h54 b54 "com/example/markup_reader/markupreader/reader/Entity$ExternalId" "systemId" "Ljava/lang/String;" .null := D54 (Or.inr (wd_194 hw)) (ty := (.object "java/lang/String")) (by decide)
                  show ownEnds _ _ _ _ (T54.setTop (mkF m 144 #[.val (.int xf), .val (.int xc0), .val (.int xc1), .val (.int bu), .val (.int bs), .val (.int bp), .val (.int bc), .val (.int be), .val (.int bq), .val (.int bn), .val (.ref b1), .val (.ref b10), .unset, .unset, .unset, .unset, .unset] [(.ref b54)]))
                  refine ownEnds.law (fun t k => XS.dup X54.here hx rfl (hb hby at_144) rfl rfl (XS.iload X54.here hx rfl (hb hby at_145) rfl k)) ?_
                  show ownEnds _ _ _ _ (T54.setTop (mkF m 147 #[.val (.int xf), .val (.int xc0), .val (.int xc1), .val (.int bu), .val (.int bs), .val (.int bp), .val (.int bc), .val (.int be), .val (.int bq), .val (.int bn), .val (.ref b1), .val (.ref b10), .unset, .unset, .unset, .unset, .unset] [(.int bq), (.ref b54), (.ref b54)]))
                  by_cases hc147 : bq = (0 : Int32)
                  · refine ownEnds.law (fun t => XS.ifYes X54.here hx rfl (pc0 := 147) (pc' := 155) rfl (hb hby at_147) rfl ((if0 _ _).trans (teq hc147).1) (by decide) (by decide)) ?_
                    show ownEnds _ _ _ _ (T54.setTop (mkF m 155 #[.val (.int xf), .val (.int xc0), .val (.int xc1), .val (.int bu), .val (.int bs), .val (.int bp), .val (.int bc), .val (.int be), .val (.int bq), .val (.int bn), .val (.ref b1), .val (.ref b10), .unset, .unset, .unset, .unset, .unset] [(.ref b54), (.ref b54)]))
                    refine ownEnds.law (fun t k => XS.aconstNull X54.here hx rfl (hb hby at_155) (XS.aload X54.here hx rfl (hb hby at_156) rfl rfl k)) ?_
                    show ownEnds _ _ _ _ (T54.setTop (mkF m 158 #[.val (.int xf), .val (.int xc0), .val (.int xc1), .val (.int bu), .val (.int bs), .val (.int bp), .val (.int bc), .val (.int be), .val (.int bq), .val (.int bn), .val (.ref b1), .val (.ref b10), .unset, .unset, .unset, .unset, .unset] [(.ref b10), .null, (.ref b54), (.ref b54)]))
                    obtain ⟨v60, T60, L60, X60, hQ60, st60⟩ := ownCallC X54 hx hZ hown (y := (⟨"com/example/markup_reader/markupreader/reader/Entity$ExternalId", "<init>", "(Ljava/lang/String;Ljava/lang/String;)V"⟩ : MethodName)) rfl (a := b54) (as := [.null, (.ref b10)]) (wd_182 hw) (wd_183 hw) (wd_181 hw) (wd_184 hw) (by decide) (rm23n l Z a0 hw b54 b10  h54 n0 Z54 A54 g_b54 F58 F59) e54 1 (by decide) (by decide) (by decide) (by decide) (g := (mkF m 158 #[.val (.int xf), .val (.int xc0), .val (.int xc1), .val (.int bu), .val (.int bs), .val (.int bp), .val (.int bc), .val (.int be), .val (.int bq), .val (.int bn), .val (.ref b1), .val (.ref b10), .unset, .unset, .unset, .unset, .unset] [(.ref b10), .null, (.ref b54), (.ref b54)])) rfl (by rw [hml]; rfl) (rest := [(.ref b54)]) pd_10 rfl rfl (by show 2 * 0 + _ ≤ _; exact Nat.le_of_eq rfl) (hb hby at_158)
                    obtain ⟨rfl, Nq60, Kq60, Eq60, Fc60_0, Fc60_1⟩ := hQ60
                    have N60 := Fr.app N18 Nq60
                    have Z60 : n0 ≤ T60.heap.size := Nat.le_trans Z54 Kq60.1
                    have O_60 : Old Z n0 T60.heap := Old.keep O_54 Kq60 (allS g_b54 all0)
                    refine ownEnds.law st60 ?_
                    show ownEnds _ _ _ _ (T60.setTop (mkF m 161 #[.val (.int xf), .val (.int xc0), .val (.int xc1), .val (.int bu), .val (.int bs), .val (.int bp), .val (.int bc), .val (.int be), .val (.int bq), .val (.int bn), .val (.ref b1), .val (.ref b10), .unset, .unset, .unset, .unset, .unset] [(.ref b54)]))
                    refine ownEnds.law (fun t k => XS.goto X60.here hx rfl (pc0 := 161) (pc' := 165) rfl (hb hby at_161) (by decide) (by decide) (XS.astore X60.here hx rfl (hb hby at_165) rfl rfl (l' := #[.val (.int xf), .val (.int xc0), .val (.int xc1), .val (.int bu), .val (.int bs), .val (.int bp), .val (.int bc), .val (.int be), .val (.int bq), .val (.int bn), .val (.ref b1), .val (.ref b10), .val (.ref b54), .unset, .unset, .unset, .unset]) rfl k)) ?_
                    show ownEnds _ _ _ _ (T60.setTop (mkF m 167 #[.val (.int xf), .val (.int xc0), .val (.int xc1), .val (.int bu), .val (.int bs), .val (.int bp), .val (.int bc), .val (.int be), .val (.int bq), .val (.int bn), .val (.ref b1), .val (.ref b10), .val (.ref b54), .unset, .unset, .unset, .unset] []))
                    have szle_b1 : T6.heap.size ≤ T60.heap.size := (Nat.le_trans (Nat.le_trans (Nat.le_trans (Nat.le_trans (Nat.le_trans (Nat.le_trans (Nat.le_refl _) E10.1) E14.1) (Keep.of_wr W17).1) Kq18.1) E54.1) Kq60.1)
                    have szle_b10 : T18.heap.size ≤ T60.heap.size := (Nat.le_trans (Nat.le_trans (Nat.le_refl _) E54.1) Kq60.1)
                    exact J167 _ _ _ (X60.more (by decide) (by decide)) N60 rfl Z60 O_60 _ _ (StrOK.mono (StrOK.keep (StrOK.keep (StrOK.keep (StrOK.keep (StrOK.keep (StrOK.keep SO_b1 ((Keep.refl _ []).ext E10) all0) ((Keep.refl _ []).ext E14) all0) (Keep.of_wr W17) (allS (le_b1_b14) all0)) Kq18 (allS (le_b1_b10) all0)) ((Keep.refl _ []).ext E54) all0) Kq60 (allS (le_b1_b54) all0)) (szle_b1)) (.ref b54) rfl (Or.inr ⟨b54, _, _, rfl, Eq60.lt, Eq60, Fc60_0, Fc60_1, Or.inl rfl, (StrOK.mono (StrOK.keep (StrOK.keep SO_b10 ((Keep.refl _ []).ext E54) all0) Kq60 (allS (le_b10_b54) all0)) (szle_b10))⟩) ⟨fun q => (nomatch q), fun q => absurd q hc138⟩
                  · refine ownEnds.law (fun t => XS.ifNo X54.here hx rfl (hb hby at_147) rfl ((if0 _ _).trans (feq hc147).1)) ?_
                    show ownEnds _ _ _ _ (T54.setTop (mkF m 150 #[.val (.int xf), .val (.int xc0), .val (.int xc1), .val (.int bu), .val (.int bs), .val (.int bp), .val (.int bc), .val (.int be), .val (.int bq), .val (.int bn), .val (.ref b1), .val (.ref b10), .unset, .unset, .unset, .unset, .unset] [(.ref b54), (.ref b54)]))
                    refine ownEnds.law (fun t k => XS.aload X54.here hx rfl (hb hby at_150) rfl rfl (XS.goto X54.here hx rfl (pc0 := 152) (pc' := 156) rfl (hb hby at_152) (by decide) (by decide) (XS.aload X54.here hx rfl (hb hby at_156) rfl rfl k))) ?_
                    show ownEnds _ _ _ _ (T54.setTop (mkF m 158 #[.val (.int xf), .val (.int xc0), .val (.int xc1), .val (.int bu), .val (.int bs), .val (.int bp), .val (.int bc), .val (.int be), .val (.int bq), .val (.int bn), .val (.ref b1), .val (.ref b10), .unset, .unset, .unset, .unset, .unset] [(.ref b10), (.ref b1), (.ref b54), (.ref b54)]))
                    obtain ⟨v61, T61, L61, X61, hQ61, st61⟩ := ownCallC X54 hx hZ hown (y := (⟨"com/example/markup_reader/markupreader/reader/Entity$ExternalId", "<init>", "(Ljava/lang/String;Ljava/lang/String;)V"⟩ : MethodName)) rfl (a := b54) (as := [(.ref b1), (.ref b10)]) (wd_182 hw) (wd_183 hw) (wd_181 hw) (wd_184 hw) (by decide) (rm23r l Z a0 hw b54 b1 b10  h54 n0 Z54 A54 g_b54 F58 F59) e54 1 (by decide) (by decide) (by decide) (by decide) (g := (mkF m 158 #[.val (.int xf), .val (.int xc0), .val (.int xc1), .val (.int bu), .val (.int bs), .val (.int bp), .val (.int bc), .val (.int be), .val (.int bq), .val (.int bn), .val (.ref b1), .val (.ref b10), .unset, .unset, .unset, .unset, .unset] [(.ref b10), (.ref b1), (.ref b54), (.ref b54)])) rfl (by rw [hml]; rfl) (rest := [(.ref b54)]) pd_10 rfl rfl (by show 2 * 0 + _ ≤ _; exact Nat.le_of_eq rfl) (hb hby at_158)
                    obtain ⟨rfl, Nq61, Kq61, Eq61, Fc61_0, Fc61_1⟩ := hQ61
                    have N61 := Fr.app N18 Nq61
                    have Z61 : n0 ≤ T61.heap.size := Nat.le_trans Z54 Kq61.1
                    have O_61 : Old Z n0 T61.heap := Old.keep O_54 Kq61 (allS g_b54 all0)
                    refine ownEnds.law st61 ?_
                    show ownEnds _ _ _ _ (T61.setTop (mkF m 161 #[.val (.int xf), .val (.int xc0), .val (.int xc1), .val (.int bu), .val (.int bs), .val (.int bp), .val (.int bc), .val (.int be), .val (.int bq), .val (.int bn), .val (.ref b1), .val (.ref b10), .unset, .unset, .unset, .unset, .unset] [(.ref b54)]))
                    refine ownEnds.law (fun t k => XS.goto X61.here hx rfl (pc0 := 161) (pc' := 165) rfl (hb hby at_161) (by decide) (by decide) (XS.astore X61.here hx rfl (hb hby at_165) rfl rfl (l' := #[.val (.int xf), .val (.int xc0), .val (.int xc1), .val (.int bu), .val (.int bs), .val (.int bp), .val (.int bc), .val (.int be), .val (.int bq), .val (.int bn), .val (.ref b1), .val (.ref b10), .val (.ref b54), .unset, .unset, .unset, .unset]) rfl k)) ?_
                    show ownEnds _ _ _ _ (T61.setTop (mkF m 167 #[.val (.int xf), .val (.int xc0), .val (.int xc1), .val (.int bu), .val (.int bs), .val (.int bp), .val (.int bc), .val (.int be), .val (.int bq), .val (.int bn), .val (.ref b1), .val (.ref b10), .val (.ref b54), .unset, .unset, .unset, .unset] []))
                    have szle_b1 : T6.heap.size ≤ T61.heap.size := (Nat.le_trans (Nat.le_trans (Nat.le_trans (Nat.le_trans (Nat.le_trans (Nat.le_trans (Nat.le_refl _) E10.1) E14.1) (Keep.of_wr W17).1) Kq18.1) E54.1) Kq61.1)
                    have szle_b10 : T18.heap.size ≤ T61.heap.size := (Nat.le_trans (Nat.le_trans (Nat.le_refl _) E54.1) Kq61.1)
                    exact J167 _ _ _ (X61.more (by decide) (by decide)) N61 rfl Z61 O_61 _ _ (StrOK.mono (StrOK.keep (StrOK.keep (StrOK.keep (StrOK.keep (StrOK.keep (StrOK.keep SO_b1 ((Keep.refl _ []).ext E10) all0) ((Keep.refl _ []).ext E14) all0) (Keep.of_wr W17) (allS (le_b1_b14) all0)) Kq18 (allS (le_b1_b10) all0)) ((Keep.refl _ []).ext E54) all0) Kq61 (allS (le_b1_b54) all0)) (szle_b1)) (.ref b54) rfl (Or.inr ⟨b54, _, _, rfl, Eq61.lt, Eq61, Fc61_0, Fc61_1, Or.inr ⟨_, rfl, (StrOK.mono (StrOK.keep (StrOK.keep (StrOK.keep (StrOK.keep (StrOK.keep (StrOK.keep SO_b1 ((Keep.refl _ []).ext E10) all0) ((Keep.refl _ []).ext E14) all0) (Keep.of_wr W17) (allS (le_b1_b14) all0)) Kq18 (allS (le_b1_b10) all0)) ((Keep.refl _ []).ext E54) all0) Kq61 (allS (le_b1_b54) all0)) (szle_b1))⟩, (StrOK.mono (StrOK.keep (StrOK.keep SO_b10 ((Keep.refl _ []).ext E54) all0) Kq61 (allS (le_b10_b54) all0)) (szle_b10))⟩) ⟨fun q => (nomatch q), fun q => absurd q hc138⟩
              show ownEnds _ _ _ _ (T0.setTop (mkF m 78 #[.val (.int xf), .val (.int xc0), .val (.int xc1), .val (.int bu), .val (.int bs), .val (.int bp), .val (.int bc), .val (.int be), .unset, .unset, .unset, .unset, .unset, .unset, .unset, .unset, .unset] [(.int bq)]))
              refine ownEnds.law (fun t k => XS.istore X0.here hx rfl (hb hby at_78) rfl (l' := #[.val (.int xf), .val (.int xc0), .val (.int xc1), .val (.int bu), .val (.int bs), .val (.int bp), .val (.int bc), .val (.int be), .val (.int bq), .unset, .unset, .unset, .unset, .unset, .unset, .unset, .unset]) rfl (XS.iloadN X0.here hx rfl (hb hby at_80) rfl (XS.bipush X0.here hx rfl (hb hby at_81) (XS.iand X0.here hx rfl (hb hby at_83) rfl k)))) ?_
              show ownEnds _ _ _ _ (T0.setTop (mkF m 84 #[.val (.int xf), .val (.int xc0), .val (.int xc1), .val (.int bu), .val (.int bs), .val (.int bp), .val (.int bc), .val (.int be), .val (.int bq), .unset, .unset, .unset, .unset, .unset, .unset, .unset, .unset] [(.int (xf &&& (64 : Int32)))]))
              by_cases hc84 : (xf &&& (64 : Int32)) = (0 : Int32)
              · refine ownEnds.law (fun t => XS.ifYes X0.here hx rfl (pc0 := 84) (pc' := 91) rfl (hb hby at_84) rfl ((if0 _ _).trans (teq hc84).1) (by decide) (by decide)) ?_
                show ownEnds _ _ _ _ (T0.setTop (mkF m 91 #[.val (.int xf), .val (.int xc0), .val (.int xc1), .val (.int bu), .val (.int bs), .val (.int bp), .val (.int bc), .val (.int be), .val (.int bq), .unset, .unset, .unset, .unset, .unset, .unset, .unset, .unset] []))
                refine ownEnds.law (fun t k => XS.iconst X0.here hx rfl (hb hby at_91) k) ?_
                show ownEnds _ _ _ _ (T0.setTop (mkF m 92 #[.val (.int xf), .val (.int xc0), .val (.int xc1), .val (.int bu), .val (.int bs), .val (.int bp), .val (.int bc), .val (.int be), .val (.int bq), .unset, .unset, .unset, .unset, .unset, .unset, .unset, .unset] [(.int (0 : Int32))]))
                exact JB6 _ (Or.inl rfl)
              · refine ownEnds.law (fun t => XS.ifNo X0.here hx rfl (hb hby at_84) rfl ((if0 _ _).trans (feq hc84).1)) ?_
                show ownEnds _ _ _ _ (T0.setTop (mkF m 87 #[.val (.int xf), .val (.int xc0), .val (.int xc1), .val (.int bu), .val (.int bs), .val (.int bp), .val (.int bc), .val (.int be), .val (.int bq), .unset, .unset, .unset, .unset, .unset, .unset, .unset, .unset] []))
                refine ownEnds.law (fun t k => XS.iconst X0.here hx rfl (hb hby at_87) (XS.goto X0.here hx rfl (pc0 := 88) (pc' := 92) rfl (hb hby at_88) (by decide) (by decide) k)) ?_
                show ownEnds _ _ _ _ (T0.setTop (mkF m 92 #[.val (.int xf), .val (.int xc0), .val (.int xc1), .val (.int bu), .val (.int bs), .val (.int bp), .val (.int bc), .val (.int be), .val (.int bq), .unset, .unset, .unset, .unset, .unset, .unset, .unset, .unset] [(.int (1 : Int32))]))
                exact JB6 _ (Or.inr rfl)
            show ownEnds _ _ _ _ (T0.setTop (mkF m 64 #[.val (.int xf), .val (.int xc0), .val (.int xc1), .val (.int bu), .val (.int bs), .val (.int bp), .val (.int bc), .unset, .unset, .unset, .unset, .unset, .unset, .unset, .unset, .unset, .unset] [(.int be)]))
            refine ownEnds.law (fun t k => XS.istore X0.here hx rfl (hb hby at_64) rfl (l' := #[.val (.int xf), .val (.int xc0), .val (.int xc1), .val (.int bu), .val (.int bs), .val (.int bp), .val (.int bc), .val (.int be), .unset, .unset, .unset, .unset, .unset, .unset, .unset, .unset, .unset]) rfl (XS.iloadN X0.here hx rfl (hb hby at_66) rfl (XS.bipush X0.here hx rfl (hb hby at_67) (XS.iand X0.here hx rfl (hb hby at_69) rfl k)))) ?_
            show ownEnds _ _ _ _ (T0.setTop (mkF m 70 #[.val (.int xf), .val (.int xc0), .val (.int xc1), .val (.int bu), .val (.int bs), .val (.int bp), .val (.int bc), .val (.int be), .unset, .unset, .unset, .unset, .unset, .unset, .unset, .unset, .unset] [(.int (xf &&& (32 : Int32)))]))
            by_cases hc70 : (xf &&& (32 : Int32)) = (0 : Int32)
            · refine ownEnds.law (fun t => XS.ifYes X0.here hx rfl (pc0 := 70) (pc' := 77) rfl (hb hby at_70) rfl ((if0 _ _).trans (teq hc70).1) (by decide) (by decide)) ?_
              show ownEnds _ _ _ _ (T0.setTop (mkF m 77 #[.val (.int xf), .val (.int xc0), .val (.int xc1), .val (.int bu), .val (.int bs), .val (.int bp), .val (.int bc), .val (.int be), .unset, .unset, .unset, .unset, .unset, .unset, .unset, .unset, .unset] []))
              refine ownEnds.law (fun t k => XS.iconst X0.here hx rfl (hb hby at_77) k) ?_
              show ownEnds _ _ _ _ (T0.setTop (mkF m 78 #[.val (.int xf), .val (.int xc0), .val (.int xc1), .val (.int bu), .val (.int bs), .val (.int bp), .val (.int bc), .val (.int be), .unset, .unset, .unset, .unset, .unset, .unset, .unset, .unset, .unset] [(.int (0 : Int32))]))
              exact JB5 _ (Or.inl rfl)
            · refine ownEnds.law (fun t => XS.ifNo X0.here hx rfl (hb hby at_70) rfl ((if0 _ _).trans (feq hc70).1)) ?_
              show ownEnds _ _ _ _ (T0.setTop (mkF m 73 #[.val (.int xf), .val (.int xc0), .val (.int xc1), .val (.int bu), .val (.int bs), .val (.int bp), .val (.int bc), .val (.int be), .unset, .unset, .unset, .unset, .unset, .unset, .unset, .unset, .unset] []))
              refine ownEnds.law (fun t k => XS.iconst X0.here hx rfl (hb hby at_73) (XS.goto X0.here hx rfl (pc0 := 74) (pc' := 78) rfl (hb hby at_74) (by decide) (by decide) k)) ?_
              show ownEnds _ _ _ _ (T0.setTop (mkF m 78 #[.val (.int xf), .val (.int xc0), .val (.int xc1), .val (.int bu), .val (.int bs), .val (.int bp), .val (.int bc), .val (.int be), .unset, .unset, .unset, .unset, .unset, .unset, .unset, .unset, .unset] [(.int (1 : Int32))]))
              exact JB5 _ (Or.inr rfl)
          show ownEnds _ _ _ _ (T0.setTop (mkF m 50 #[.val (.int xf), .val (.int xc0), .val (.int xc1), .val (.int bu), .val (.int bs), .val (.int bp), .unset, .unset, .unset, .unset, .unset, .unset, .unset, .unset, .unset, .unset, .unset] [(.int bc)]))
          refine ownEnds.law (fun t k => XS.istore X0.here hx rfl (hb hby at_50) rfl (l' := #[.val (.int xf), .val (.int xc0), .val (.int xc1), .val (.int bu), .val (.int bs), .val (.int bp), .val (.int bc), .unset, .unset, .unset, .unset, .unset, .unset, .unset, .unset, .unset, .unset]) rfl (XS.iloadN X0.here hx rfl (hb hby at_52) rfl (XS.bipush X0.here hx rfl (hb hby at_53) (XS.iand X0.here hx rfl (hb hby at_55) rfl k)))) ?_
          show ownEnds _ _ _ _ (T0.setTop (mkF m 56 #[.val (.int xf), .val (.int xc0), .val (.int xc1), .val (.int bu), .val (.int bs), .val (.int bp), .val (.int bc), .unset, .unset, .unset, .unset, .unset, .unset, .unset, .unset, .unset, .unset] [(.int (xf &&& (16 : Int32)))]))
          by_cases hc56 : (xf &&& (16 : Int32)) = (0 : Int32)
          · refine ownEnds.law (fun t => XS.ifYes X0.here hx rfl (pc0 := 56) (pc' := 63) rfl (hb hby at_56) rfl ((if0 _ _).trans (teq hc56).1) (by decide) (by decide)) ?_
            show ownEnds _ _ _ _ (T0.setTop (mkF m 63 #[.val (.int xf), .val (.int xc0), .val (.int xc1), .val (.int bu), .val (.int bs), .val (.int bp), .val (.int bc), .unset, .unset, .unset, .unset, .unset, .unset, .unset, .unset, .unset, .unset] []))
            refine ownEnds.law (fun t k => XS.iconst X0.here hx rfl (hb hby at_63) k) ?_
            show ownEnds _ _ _ _ (T0.setTop (mkF m 64 #[.val (.int xf), .val (.int xc0), .val (.int xc1), .val (.int bu), .val (.int bs), .val (.int bp), .val (.int bc), .unset, .unset, .unset, .unset, .unset, .unset, .unset, .unset, .unset, .unset] [(.int (0 : Int32))]))
            exact JB4 _ (Or.inl rfl)
          · refine ownEnds.law (fun t => XS.ifNo X0.here hx rfl (hb hby at_56) rfl ((if0 _ _).trans (feq hc56).1)) ?_
            show ownEnds _ _ _ _ (T0.setTop (mkF m 59 #[.val (.int xf), .val (.int xc0), .val (.int xc1), .val (.int bu), .val (.int bs), .val (.int bp), .val (.int bc), .unset, .unset, .unset, .unset, .unset, .unset, .unset, .unset, .unset, .unset] []))
            refine ownEnds.law (fun t k => XS.iconst X0.here hx rfl (hb hby at_59) (XS.goto X0.here hx rfl (pc0 := 60) (pc' := 64) rfl (hb hby at_60) (by decide) (by decide) k)) ?_
            show ownEnds _ _ _ _ (T0.setTop (mkF m 64 #[.val (.int xf), .val (.int xc0), .val (.int xc1), .val (.int bu), .val (.int bs), .val (.int bp), .val (.int bc), .unset, .unset, .unset, .unset, .unset, .unset, .unset, .unset, .unset, .unset] [(.int (1 : Int32))]))
            exact JB4 _ (Or.inr rfl)
        show ownEnds _ _ _ _ (T0.setTop (mkF m 36 #[.val (.int xf), .val (.int xc0), .val (.int xc1), .val (.int bu), .val (.int bs), .unset, .unset, .unset, .unset, .unset, .unset, .unset, .unset, .unset, .unset, .unset, .unset] [(.int bp)]))
        refine ownEnds.law (fun t k => XS.istore X0.here hx rfl (hb hby at_36) rfl (l' := #[.val (.int xf), .val (.int xc0), .val (.int xc1), .val (.int bu), .val (.int bs), .val (.int bp), .unset, .unset, .unset, .unset, .unset, .unset, .unset, .unset, .unset, .unset, .unset]) rfl (XS.iloadN X0.here hx rfl (hb hby at_38) rfl (XS.bipush X0.here hx rfl (hb hby at_39) (XS.iand X0.here hx rfl (hb hby at_41) rfl k)))) ?_
        show ownEnds _ _ _ _ (T0.setTop (mkF m 42 #[.val (.int xf), .val (.int xc0), .val (.int xc1), .val (.int bu), .val (.int bs), .val (.int bp), .unset, .unset, .unset, .unset, .unset, .unset, .unset, .unset, .unset, .unset, .unset] [(.int (xf &&& (8 : Int32)))]))
        by_cases hc42 : (xf &&& (8 : Int32)) = (0 : Int32)
        · refine ownEnds.law (fun t => XS.ifYes X0.here hx rfl (pc0 := 42) (pc' := 49) rfl (hb hby at_42) rfl ((if0 _ _).trans (teq hc42).1) (by decide) (by decide)) ?_
          show ownEnds _ _ _ _ (T0.setTop (mkF m 49 #[.val (.int xf), .val (.int xc0), .val (.int xc1), .val (.int bu), .val (.int bs), .val (.int bp), .unset, .unset, .unset, .unset, .unset, .unset, .unset, .unset, .unset, .unset, .unset] []))
          refine ownEnds.law (fun t k => XS.iconst X0.here hx rfl (hb hby at_49) k) ?_
          show ownEnds _ _ _ _ (T0.setTop (mkF m 50 #[.val (.int xf), .val (.int xc0), .val (.int xc1), .val (.int bu), .val (.int bs), .val (.int bp), .unset, .unset, .unset, .unset, .unset, .unset, .unset, .unset, .unset, .unset, .unset] [(.int (0 : Int32))]))
          exact JB3 _ (Or.inl rfl)
        · refine ownEnds.law (fun t => XS.ifNo X0.here hx rfl (hb hby at_42) rfl ((if0 _ _).trans (feq hc42).1)) ?_
          show ownEnds _ _ _ _ (T0.setTop (mkF m 45 #[.val (.int xf), .val (.int xc0), .val (.int xc1), .val (.int bu), .val (.int bs), .val (.int bp), .unset, .unset, .unset, .unset, .unset, .unset, .unset, .unset, .unset, .unset, .unset] []))
          refine ownEnds.law (fun t k => XS.iconst X0.here hx rfl (hb hby at_45) (XS.goto X0.here hx rfl (pc0 := 46) (pc' := 50) rfl (hb hby at_46) (by decide) (by decide) k)) ?_
          show ownEnds _ _ _ _ (T0.setTop (mkF m 50 #[.val (.int xf), .val (.int xc0), .val (.int xc1), .val (.int bu), .val (.int bs), .val (.int bp), .unset, .unset, .unset, .unset, .unset, .unset, .unset, .unset, .unset, .unset, .unset] [(.int (1 : Int32))]))
          exact JB3 _ (Or.inr rfl)
      show ownEnds _ _ _ _ (T0.setTop (mkF m 23 #[.val (.int xf), .val (.int xc0), .val (.int xc1), .val (.int bu), .unset, .unset, .unset, .unset, .unset, .unset, .unset, .unset, .unset, .unset, .unset, .unset, .unset] [(.int bs)]))
      refine ownEnds.law (fun t k => XS.istore X0.here hx rfl (hb hby at_23) rfl (l' := #[.val (.int xf), .val (.int xc0), .val (.int xc1), .val (.int bu), .val (.int bs), .unset, .unset, .unset, .unset, .unset, .unset, .unset, .unset, .unset, .unset, .unset, .unset]) rfl (XS.iloadN X0.here hx rfl (hb hby at_25) rfl (XS.iconst X0.here hx rfl (hb hby at_26) (XS.iand X0.here hx rfl (hb hby at_27) rfl k)))) ?_
      show ownEnds _ _ _ _ (T0.setTop (mkF m 28 #[.val (.int xf), .val (.int xc0), .val (.int xc1), .val (.int bu), .val (.int bs), .unset, .unset, .unset, .unset, .unset, .unset, .unset, .unset, .unset, .unset, .unset, .unset] [(.int (xf &&& (4 : Int32)))]))
      by_cases hc28 : (xf &&& (4 : Int32)) = (0 : Int32)
      · refine ownEnds.law (fun t => XS.ifYes X0.here hx rfl (pc0 := 28) (pc' := 35) rfl (hb hby at_28) rfl ((if0 _ _).trans (teq hc28).1) (by decide) (by decide)) ?_
        show ownEnds _ _ _ _ (T0.setTop (mkF m 35 #[.val (.int xf), .val (.int xc0), .val (.int xc1), .val (.int bu), .val (.int bs), .unset, .unset, .unset, .unset, .unset, .unset, .unset, .unset, .unset, .unset, .unset, .unset] []))
        refine ownEnds.law (fun t k => XS.iconst X0.here hx rfl (hb hby at_35) k) ?_
        show ownEnds _ _ _ _ (T0.setTop (mkF m 36 #[.val (.int xf), .val (.int xc0), .val (.int xc1), .val (.int bu), .val (.int bs), .unset, .unset, .unset, .unset, .unset, .unset, .unset, .unset, .unset, .unset, .unset, .unset] [(.int (0 : Int32))]))
        exact JB2 _ (Or.inl rfl)
      · refine ownEnds.law (fun t => XS.ifNo X0.here hx rfl (hb hby at_28) rfl ((if0 _ _).trans (feq hc28).1)) ?_
        show ownEnds _ _ _ _ (T0.setTop (mkF m 31 #[.val (.int xf), .val (.int xc0), .val (.int xc1), .val (.int bu), .val (.int bs), .unset, .unset, .unset, .unset, .unset, .unset, .unset, .unset, .unset, .unset, .unset, .unset] []))
        refine ownEnds.law (fun t k => XS.iconst X0.here hx rfl (hb hby at_31) (XS.goto X0.here hx rfl (pc0 := 32) (pc' := 36) rfl (hb hby at_32) (by decide) (by decide) k)) ?_
        show ownEnds _ _ _ _ (T0.setTop (mkF m 36 #[.val (.int xf), .val (.int xc0), .val (.int xc1), .val (.int bu), .val (.int bs), .unset, .unset, .unset, .unset, .unset, .unset, .unset, .unset, .unset, .unset, .unset, .unset] [(.int (1 : Int32))]))
        exact JB2 _ (Or.inr rfl)
    show ownEnds _ _ _ _ (T0.setTop (mkF m 11 #[.val (.int xf), .val (.int xc0), .val (.int xc1), .unset, .unset, .unset, .unset, .unset, .unset, .unset, .unset, .unset, .unset, .unset, .unset, .unset, .unset] [(.int bu)]))
    refine ownEnds.law (fun t k => XS.istoreN X0.here hx rfl (hb hby at_11) rfl (l' := #[.val (.int xf), .val (.int xc0), .val (.int xc1), .val (.int bu), .unset, .unset, .unset, .unset, .unset, .unset, .unset, .unset, .unset, .unset, .unset, .unset, .unset]) rfl (XS.iloadN X0.here hx rfl (hb hby at_12) rfl (XS.iconst X0.here hx rfl (hb hby at_13) (XS.iand X0.here hx rfl (hb hby at_14) rfl k)))) ?_
    show ownEnds _ _ _ _ (T0.setTop (mkF m 15 #[.val (.int xf), .val (.int xc0), .val (.int xc1), .val (.int bu), .unset, .unset, .unset, .unset, .unset, .unset, .unset, .unset, .unset, .unset, .unset, .unset, .unset] [(.int (xf &&& (2 : Int32)))]))
    by_cases hc15 : (xf &&& (2 : Int32)) = (0 : Int32)
    · refine ownEnds.law (fun t => XS.ifYes X0.here hx rfl (pc0 := 15) (pc' := 22) rfl (hb hby at_15) rfl ((if0 _ _).trans (teq hc15).1) (by decide) (by decide)) ?_
      show ownEnds _ _ _ _ (T0.setTop (mkF m 22 #[.val (.int xf), .val (.int xc0), .val (.int xc1), .val (.int bu), .unset, .unset, .unset, .unset, .unset, .unset, .unset, .unset, .unset, .unset, .unset, .unset, .unset] []))
      refine ownEnds.law (fun t k => XS.iconst X0.here hx rfl (hb hby at_22) k) ?_
      show ownEnds _ _ _ _ (T0.setTop (mkF m 23 #[.val (.int xf), .val (.int xc0), .val (.int xc1), .val (.int bu), .unset, .unset, .unset, .unset, .unset, .unset, .unset, .unset, .unset, .unset, .unset, .unset, .unset] [(.int (0 : Int32))]))
      exact JB1 _ (Or.inl rfl)
    · refine ownEnds.law (fun t => XS.ifNo X0.here hx rfl (hb hby at_15) rfl ((if0 _ _).trans (feq hc15).1)) ?_
      show ownEnds _ _ _ _ (T0.setTop (mkF m 18 #[.val (.int xf), .val (.int xc0), .val (.int xc1), .val (.int bu), .unset, .unset, .unset, .unset, .unset, .unset, .unset, .unset, .unset, .unset, .unset, .unset, .unset] []))
      refine ownEnds.law (fun t k => XS.iconst X0.here hx rfl (hb hby at_18) (XS.goto X0.here hx rfl (pc0 := 19) (pc' := 23) rfl (hb hby at_19) (by decide) (by decide) k)) ?_
      show ownEnds _ _ _ _ (T0.setTop (mkF m 23 #[.val (.int xf), .val (.int xc0), .val (.int xc1), .val (.int bu), .unset, .unset, .unset, .unset, .unset, .unset, .unset, .unset, .unset, .unset, .unset, .unset, .unset] [(.int (1 : Int32))]))
      exact JB1 _ (Or.inr rfl)
  show ownEnds _ _ _ _ (T0.setTop (mkF m 0 #[.val (.int xf), .val (.int xc0), .val (.int xc1), .unset, .unset, .unset, .unset, .unset, .unset, .unset, .unset, .unset, .unset, .unset, .unset, .unset, .unset] []))
  refine ownEnds.law (fun t k => XS.iloadN X0.here hx rfl (hb hby at_0) rfl (XS.iconst X0.here hx rfl (hb hby at_1) (XS.iand X0.here hx rfl (hb hby at_2) rfl k))) ?_
  show ownEnds _ _ _ _ (T0.setTop (mkF m 3 #[.val (.int xf), .val (.int xc0), .val (.int xc1), .unset, .unset, .unset, .unset, .unset, .unset, .unset, .unset, .unset, .unset, .unset, .unset, .unset, .unset] [(.int (xf &&& (1 : Int32)))]))
  by_cases hc3 : (xf &&& (1 : Int32)) = (0 : Int32)
  · refine ownEnds.law (fun t => XS.ifYes X0.here hx rfl (pc0 := 3) (pc' := 10) rfl (hb hby at_3) rfl ((if0 _ _).trans (teq hc3).1) (by decide) (by decide)) ?_
    show ownEnds _ _ _ _ (T0.setTop (mkF m 10 #[.val (.int xf), .val (.int xc0), .val (.int xc1), .unset, .unset, .unset, .unset, .unset, .unset, .unset, .unset, .unset, .unset, .unset, .unset, .unset, .unset] []))
    refine ownEnds.law (fun t k => XS.iconst X0.here hx rfl (hb hby at_10) k) ?_
    show ownEnds _ _ _ _ (T0.setTop (mkF m 11 #[.val (.int xf), .val (.int xc0), .val (.int xc1), .unset, .unset, .unset, .unset, .unset, .unset, .unset, .unset, .unset, .unset, .unset, .unset, .unset, .unset] [(.int (0 : Int32))]))
    exact JB0 _ (Or.inl rfl)
  · refine ownEnds.law (fun t => XS.ifNo X0.here hx rfl (hb hby at_3) rfl ((if0 _ _).trans (feq hc3).1)) ?_
    show ownEnds _ _ _ _ (T0.setTop (mkF m 6 #[.val (.int xf), .val (.int xc0), .val (.int xc1), .unset, .unset, .unset, .unset, .unset, .unset, .unset, .unset, .unset, .unset, .unset, .unset, .unset, .unset] []))
    refine ownEnds.law (fun t k => XS.iconst X0.here hx rfl (hb hby at_6) (XS.goto X0.here hx rfl (pc0 := 7) (pc' := 11) rfl (hb hby at_7) (by decide) (by decide) k)) ?_
    show ownEnds _ _ _ _ (T0.setTop (mkF m 11 #[.val (.int xf), .val (.int xc0), .val (.int xc1), .unset, .unset, .unset, .unset, .unset, .unset, .unset, .unset, .unset, .unset, .unset, .unset, .unset, .unset] [(.int (1 : Int32))]))
    exact JB0 _ (Or.inr rfl)
set_option maxRecDepth 65536 in
set_option maxHeartbeats 40000000 in
theorem comes_1 {Post : Tables → Env → Array Value → State → Outcome → State → Prop} (hpost : ∀ tb e args s v u, (limb_1_1.after args s (.returned v) u = true ∧ limb_1_2.after args s (.returned v) u = true ∧ True) → ReturnedEndW s (.returned v) u (Jvm.fieldLocs frame_1_writes args s ++ Jvm.arrayLocs frame_1_arrays args s ++ Jvm.staticLocs frame_1_statics s) 40 1280 → Post tb e args s (.returned v) u) :
    ArmFor flags0 classFile x code maxLocals ret World_1 tables_1 room_1 Calls_1 rest_1 Pre_1 Post := by
  intro l hfl _ _ p e ha hc hk s m args below hf hA hF happ hP
  obtain ⟨hcalls, hrest, hpre⟩ := hP
  obtain ⟨-, -, -, hnamed, -, -, -, hat⟩ := (Spec.applies_iff hf).mp happ
  obtain ⟨hg, hn⟩ := and_e (Cond.before_iff.mp (show (Jvm.Cond.and given_1 narrow_1).before args s = true from hpre))
  obtain ⟨gg1, gg2⟩ := and_e hg
  obtain ⟨gg3, gg4⟩ := and_e gg2
  obtain ⟨gg5, gg6⟩ := and_e gg4
  obtain ⟨w0, w1, w2, rfl⟩ : ∃ w0 w1 w2 : Value, args = #[w0, w1, w2] := by
    have hs : args.size = 3 := by simpa [Cond.value, given_1] using gg1
    obtain ⟨L⟩ := args
    match L, hs with
    | [w0, w1, w2], _ => exact ⟨w0, w1, w2, rfl⟩
  have hw := fun d (hd : d ∈ tables_1) => atoms_spec (ws := Jvm.Cond.code x code maxLocals ret :: tables_1) hat d (List.mem_cons_of_mem _ hd)
  have hfit : Fit s := fun {y c} hc i hi => by
    obtain ⟨ha, rfl⟩ := Array.getElem?_eq_some_iff.mp hc
    have q := List.all_eq_true.mp ((Array.all_eq_true_iff_forall_mem.mp hF) _ (Array.getElem_mem ha)) i (List.mem_range.mpr hi)
    simpa [Array.getElem?_eq_getElem hi] using q
  obtain ⟨hsets, hown0⟩ := atoms_of _ (rest_1_c_eq ▸ (show rest_1_c.before _ s = true from hrest))
  have hr0 := Cond.before_iff.mp hown0
  obtain ⟨i0, ei0⟩ := is_v gg3
  obtain rfl : w0 = (.int i0) := Option.some.inj ei0
  obtain ⟨i1, ei1⟩ := is_v gg5
  obtain rfl : w1 = (.int i1) := Option.some.inj ei1
  obtain ⟨i2, ei2⟩ := is_v gg6
  obtain rfl : w2 = (.int i2) := Option.some.inj ei2
  have n5 := not_v (Cond.before_iff.mp (hsets _ (List.mem_of_getElem? (i := 2) rfl)))
  obtain ⟨zc, e10⟩ := is_v (Cond.before_iff.mp (hsets _ (List.mem_of_getElem? (i := 1) rfl)))
  have SC0 : Sta s s.heap "java/lang/String" "COMPACT_STRINGS" "Z" (.int zc) := Sta.start e10 (Or.inl (hsets _ (List.mem_of_getElem? (i := 0) rfl)))
  have hzc : ¬ (zc = (0 : Int32)) := gotF (Cond.eq_ints e10 (Term.int_eval (0))) n5
  obtain ⟨aD, e11⟩ := arr_v (Cond.before_iff.mp (hsets _ (List.mem_of_getElem? (i := 15) rfl)))
  have SD0 : Sta s s.heap "java/util/ArrayList" "DEFAULTCAPACITY_EMPTY_ELEMENTDATA" "[Ljava/lang/Object;" (.ref aD) := Sta.start e11 (Or.inr ⟨(wd_85 hw), hsets _ (List.mem_of_getElem? (i := 11) rfl)⟩)
  obtain ⟨n, o, h1, h2, h3, _, L, rfl, ⟨rfl, N⟩, hq⟩ := rm0 l s _ hw i0 i1 i2 zc aD s.heap s.heap.size (Nat.le_refl _) (Old.start s) SD0 SC0 hzc p e ha hc hk s m _ below hf ((Spec.applies_iff_loose hf).mp happ).1 ⟨rfl, State.Warmed39.refl s, rfl⟩ trivial
  refine ⟨n, _, h1, h2, h3, hpost _ _ _ _ _ _ ⟨Cond.after_iff.mpr rfl, Cond.after_iff.mpr (eq_i res_at (Term.int_eval (1)) rfl), trivial⟩ ⟨hq.1, hq.2.1, hq.2.2.1, (hq.2.2.2.sift fun y hy => Or.inr (N y hy)).mono (by decide) (by decide)⟩⟩
theorem main_1_1 : Claimed_1_1 := comes_1 fun _ _ _ _ _ _ h hF => ⟨h.1, hF⟩
theorem main_1_2 : Claimed_1_2 := comes_1 fun _ _ _ _ _ _ h hF => ⟨h.2.1, hF⟩
end Jvm.Pilot.@@N@@
namespace Jvm.Pilot.@@N@@
open Jvm Jvm.ClassFile Sem Op Lib Jvm.Free Jvm.Stand Jvm.Pilot.@@N@@.Jvm.D
/-! MADE BY PROGRAM (witnessworld.py) out of the Statement's table words and the real class files: 38 classes; the members and pool entries that the words name. The judged class is class 1, her method 2. -/
namespace start1
open Jvm.ClassFile
def u (s : String) : CpInfo := .utf8 (stringToUtf16 s)
/-- a pool by its gaps: so many unusable entries, then the entry; so many at the end -/
def gap : Nat → List CpInfo → List CpInfo
  | 0, r => r
  | n + 1, r => .unusable :: gap n r
def poolList (es : List (Nat × CpInfo)) (last : Nat) : List CpInfo := es.foldr (fun e r => gap e.1 (e.2 :: r)) (gap last [])
def pool (es : List (Nat × CpInfo)) (last : Nat) : Array CpInfo := ⟨poolList es last⟩
def fileOf (pool : Array CpInfo) (this : Nat) (attrs : Array Attribute := #[]) (ms : Array MethodInfo := #[]) (fl : Nat := 33) (sup : Nat := 0) (ifs : Array Nat := #[]) (fds : Array FieldInfo := #[]) : ClassFile where
  minorVersion := 0
  majorVersion := 65
  constantPool := pool
  accessFlags := fl
  thisClass := this
  superClass := sup
  interfaces := ifs
  fields := fds
  methods := ms
  attributes := attrs
def plain (name : String) (sup : Option ClassId) : Class where
  name := name
  kind := .ordinary
  loader := none
  accessFlags := 33
  super := sup
  interfaces := #[]
  cf := none
  fields := #[]
  methods := #[]
  instanceTypes := #[]
  staticTypes := #[]
  resolved := #[]
  callSites := []
  init := .initialized
  statics := none
  mirror := none

def pool0 : Array CpInfo := pool [(5, u "<init>"), (0, u "()V"), (1, .class_ 10), (1, u "java/lang/Object")] 113

def k0c0 : Code := { maxStack := 0, maxLocals := 1, code := object_method_1_code, exceptionTable := #[], attributes := #[] }
def k0m0 : Method := { name := "<init>", desc := "()V", sig := { parameters := [], returnType := none }, accessFlags := 1, code := some k0c0 }
/-- java/lang/Object -/
def k0 : Class := { plain "java/lang/Object" none with
  accessFlags := 33
  interfaces := #[]
  cf := some (fileOf pool0 8 #[] #[{ accessFlags := 1, nameIndex := 5, descriptorIndex := 6, attributes := #[] }] 33 0 #[] #[])
  fields := #[]
  methods := #[k0m0]
  instanceTypes := #[]
  staticTypes := #[]
  resolved := Array.replicate 124 none
  statics := none }

def pool1 : Array CpInfo := pool [(2, .class_ 4), (1, u "java/lang/Object"), (0, u "<init>"), (0, u "()V"), (0, .class_ 8), (0, u "java/lang/String"), (0, .methodref 7 10), (0, .nameAndType 5 11), (0, u "([C)V"), (0, .class_ 13), (0, u "com/example/markup_reader/markupreader/reader/Entity$ExternalId"), (0, .methodref 12 15), (0, .nameAndType 5 16), (0, u "(Ljava/lang/String;Ljava/lang/String;)V"), (0, .class_ 18), (0, u "com/example/markup_reader/markupreader/reader/Dtd"), (0, .methodref 17 20), (0, .nameAndType 5 21), (0, u "(Z)V"), (0, .methodref 17 23), (0, .nameAndType 24 25), (0, u "entitiesMustBeDeclared"), (0, u "()Z"), (0, .methodref 17 27), (0, .nameAndType 28 29), (0, u "start"), (0, u "(Ljava/lang/String;Lcom/example/markup_reader/markupreader/reader/Entity$ExternalId;)V"), (0, .methodref 17 31), (0, .nameAndType 32 6), (0, u "parameterReferenced"), (0, .methodref 17 34), (0, .nameAndType 35 6), (0, u "parameterEntityNotRead"), (0, .methodref 17 37), (0, .nameAndType 38 6), (0, u "declareStandalone"), (0, .methodref 40 41), (0, .class_ 42), (0, .nameAndType 43 44), (0, u "com/example/markup_reader/markupreader/reader/DtdEntitiesMustBeDeclaredPinLaw"), (0, u "expected"), (0, u "(ZZZZ)Z"), (3, u "law"), (0, u "(III)Z")] 6

def k1m0 : Method := { name := "<init>", desc := "()V", sig := { parameters := [], returnType := none }, accessFlags := 2, code := none }
def k1c1 : Code := { maxStack := 1, maxLocals := 4, code := method_2_code, exceptionTable := #[], attributes := #[] }
def k1m1 : Method := { name := "expected", desc := "(ZZZZ)Z", sig := { parameters := [.boolean, .boolean, .boolean, .boolean], returnType := some .boolean }, accessFlags := 10, code := some k1c1 }
def k1c2 : Code := { maxStack := 7, maxLocals := 17, code := code, exceptionTable := #[], attributes := #[] }
def k1m2 : Method := { name := "law", desc := "(III)Z", sig := { parameters := [.int, .int, .int], returnType := some .boolean }, accessFlags := 9, code := some k1c2 }
/-- com/example/markup_reader/markupreader/reader/DtdEntitiesMustBeDeclaredPinLaw -/
def k1 : Class := { plain "com/example/markup_reader/markupreader/reader/DtdEntitiesMustBeDeclaredPinLaw" (some 0) with
  accessFlags := 49
  interfaces := #[]
  cf := some (fileOf pool1 40 #[] #[{ accessFlags := 2, nameIndex := 5, descriptorIndex := 6, attributes := #[] }, { accessFlags := 10, nameIndex := 43, descriptorIndex := 44, attributes := #[] }, { accessFlags := 9, nameIndex := 48, descriptorIndex := 49, attributes := #[] }] 49 2 #[] #[])
  fields := #[]
  methods := #[k1m0, k1m1, k1m2]
  instanceTypes := #[]
  staticTypes := #[]
  resolved := Array.replicate 56 none
  statics := none }

def pool2 : Array CpInfo := pool [(1, .class_ 2), (0, u "java/io/Serializable"), (0, .class_ 4), (0, u "java/lang/Object")] 2

/-- java/io/Serializable -/
def k2 : Class := { plain "java/io/Serializable" (some 0) with
  accessFlags := 1537
  interfaces := #[]
  cf := some (fileOf pool2 1 #[] #[] 1537 3 #[] #[])
  fields := #[]
  methods := #[]
  instanceTypes := #[]
  staticTypes := #[]
  resolved := Array.replicate 7 none
  statics := none }

def pool3 : Array CpInfo := pool [(1, .class_ 2), (0, u "java/lang/Comparable"), (0, .class_ 4), (0, u "java/lang/Object")] 7

/-- java/lang/Comparable -/
def k3 : Class := { plain "java/lang/Comparable" (some 0) with
  accessFlags := 1537
  interfaces := #[]
  cf := some (fileOf pool3 1 #[] #[] 1537 3 #[] #[])
  fields := #[]
  methods := #[]
  instanceTypes := #[]
  staticTypes := #[]
  resolved := Array.replicate 12 none
  statics := none }

def pool4 : Array CpInfo := pool [(2, .class_ 4), (1, u "java/lang/CharSequence"), (42, .class_ 48), (0, u "java/lang/CharSequence$1CodePointIterator"), (10, .class_ 60), (0, u "java/lang/CharSequence$1CharIterator"), (5, .class_ 67), (0, u "java/lang/Object")] 63

/-- java/lang/CharSequence -/
def k4 : Class := { plain "java/lang/CharSequence" (some 0) with
  accessFlags := 1537
  interfaces := #[]
  cf := some (fileOf pool4 2 #[.nestMembers #[47, 59]] #[] 1537 66 #[] #[])
  fields := #[]
  methods := #[]
  instanceTypes := #[]
  staticTypes := #[]
  resolved := Array.replicate 131 none
  statics := none }

def pool5 : Array CpInfo := pool [(1, .class_ 2), (0, u "java/lang/constant/Constable"), (0, .class_ 4), (0, u "java/lang/Object")] 6

/-- java/lang/constant/Constable -/
def k5 : Class := { plain "java/lang/constant/Constable" (some 0) with
  accessFlags := 1537
  interfaces := #[]
  cf := some (fileOf pool5 1 #[] #[] 1537 3 #[] #[])
  fields := #[]
  methods := #[]
  instanceTypes := #[]
  staticTypes := #[]
  resolved := Array.replicate 11 none
  statics := none }

def pool6 : Array CpInfo := pool [(1, .class_ 2), (0, u "java/lang/constant/ConstantDesc"), (0, .class_ 4), (0, u "java/lang/Object")] 32

/-- java/lang/constant/ConstantDesc -/
def k6 : Class := { plain "java/lang/constant/ConstantDesc" (some 0) with
  accessFlags := 1537
  interfaces := #[]
  cf := some (fileOf pool6 1 #[] #[] 1537 3 #[] #[])
  fields := #[]
  methods := #[]
  instanceTypes := #[]
  staticTypes := #[]
  resolved := Array.replicate 37 none
  statics := none }

def pool7 : Array CpInfo := pool [(1, .methodref 2 3), (0, .class_ 4), (0, .nameAndType 5 6), (0, u "java/lang/Object"), (0, u "<init>"), (0, u "()V"), (2, .fieldref 10 11), (0, .class_ 12), (0, .nameAndType 13 14), (0, u "java/lang/String"), (0, u "value"), (0, u "[B"), (0, .fieldref 10 16), (0, .nameAndType 17 18), (0, u "coder"), (0, u "B"), (2, u "hash"), (0, u "I"), (2, u "hashIsZero"), (0, u "Z"), (0, .methodref 10 28), (0, .nameAndType 5 29), (0, u "([CIILjava/lang/Void;)V"), (8, .fieldref 10 39), (0, .nameAndType 40 26), (0, u "COMPACT_STRINGS"), (1, .class_ 44), (1, u "java/lang/StringUTF16"), (0, u "compress"), (1, .methodref 42 48), (0, .nameAndType 49 50), (0, u "coderFromArrayLen"), (0, u "([BI)B"), (126, .methodref 42 178), (0, .nameAndType 45 179), (0, u "([CII)[B"), (154, u "()I"), (0, .methodref 10 336), (0, .nameAndType 17 337), (0, u "()B"), (169, u "length"), (67, .class_ 576), (0, u "java/lang/CharSequence"), (22, u "CASE_INSENSITIVE_ORDER"), (0, u "Ljava/util/Comparator;"), (409, u "([C)V"), (90, u "serialPersistentFields"), (0, u "[Ljava/io/ObjectStreamField;"), (0, .class_ 1104), (0, u "java/lang/String$CaseInsensitiveComparator"), (1, .class_ 1107), (0, u "java/io/Serializable"), (0, .class_ 1109), (0, u "java/lang/Comparable"), (0, .class_ 1111), (0, u "java/lang/constant/Constable"), (0, .class_ 1113), (0, u "java/lang/constant/ConstantDesc"), (2, u "serialVersionUID"), (0, u "J"), (3, u "REPL"), (0, u "C"), (2, u "LATIN1"), (1, u "UTF16")] 323

def k7m0 : Method := { name := "<init>", desc := "()V", sig := { parameters := [], returnType := none }, accessFlags := 1, code := none }
def k7c1 : Code := { maxStack := 5, maxLocals := 2, code := jdk_42_method_3_code, exceptionTable := #[], attributes := #[] }
def k7m1 : Method := { name := "<init>", desc := "([C)V", sig := { parameters := [(.array .char)], returnType := none }, accessFlags := 1, code := some k7c1 }
def k7c2 : Code := { maxStack := 2, maxLocals := 1, code := jdk_42_method_54_code, exceptionTable := #[], attributes := #[] }
def k7m2 : Method := { name := "length", desc := "()I", sig := { parameters := [], returnType := some .int }, accessFlags := 1, code := some k7c2 }
def k7c3 : Code := { maxStack := 4, maxLocals := 6, code := jdk_42_method_149_code, exceptionTable := #[], attributes := #[] }
def k7m3 : Method := { name := "<init>", desc := "([CIILjava/lang/Void;)V", sig := { parameters := [(.array .char), .int, .int, (.object "java/lang/Void")], returnType := none }, accessFlags := 2, code := some k7c3 }
def k7c4 : Code := { maxStack := 1, maxLocals := 1, code := jdk_42_method_152_code, exceptionTable := #[], attributes := #[] }
def k7m4 : Method := { name := "coder", desc := "()B", sig := { parameters := [], returnType := some .byte }, accessFlags := 0, code := some k7c4 }
/-- java/lang/String -/
def k7 : Class := { plain "java/lang/String" (some 0) with
  accessFlags := 49
  interfaces := #[2, 3, 4, 5, 6]
  cf := some (fileOf pool7 10 #[.nestMembers #[1103]] #[{ accessFlags := 1, nameIndex := 5, descriptorIndex := 6, attributes := #[] }, { accessFlags := 1, nameIndex := 5, descriptorIndex := 1010, attributes := #[] }, { accessFlags := 1, nameIndex := 507, descriptorIndex := 334, attributes := #[] }, { accessFlags := 2, nameIndex := 5, descriptorIndex := 29, attributes := #[] }, { accessFlags := 0, nameIndex := 17, descriptorIndex := 337, attributes := #[] }] 49 2 #[1106, 1108, 575, 1110, 1112] #[{ accessFlags := 18, nameIndex := 13, descriptorIndex := 14, attributes := #[] }, { accessFlags := 18, nameIndex := 17, descriptorIndex := 18, attributes := #[] }, { accessFlags := 2, nameIndex := 21, descriptorIndex := 22, attributes := #[] }, { accessFlags := 2, nameIndex := 25, descriptorIndex := 26, attributes := #[] }, { accessFlags := 26, nameIndex := 1116, descriptorIndex := 1117, attributes := #[] }, { accessFlags := 24, nameIndex := 40, descriptorIndex := 26, attributes := #[] }, { accessFlags := 26, nameIndex := 1101, descriptorIndex := 1102, attributes := #[] }, { accessFlags := 26, nameIndex := 1121, descriptorIndex := 1122, attributes := #[] }, { accessFlags := 25, nameIndex := 599, descriptorIndex := 600, attributes := #[] }, { accessFlags := 24, nameIndex := 1125, descriptorIndex := 18, attributes := #[] }, { accessFlags := 24, nameIndex := 1127, descriptorIndex := 18, attributes := #[] }])
  fields := #[{ name := "value", type := (.array .byte), accessFlags := 18, slot := 0, constantValue := 0 }, { name := "coder", type := .byte, accessFlags := 18, slot := 1, constantValue := 0 }, { name := "hash", type := .int, accessFlags := 2, slot := 2, constantValue := 0 }, { name := "hashIsZero", type := .boolean, accessFlags := 2, slot := 3, constantValue := 0 }, { name := "serialVersionUID", type := .long, accessFlags := 26, slot := 0, constantValue := 0 }, { name := "COMPACT_STRINGS", type := .boolean, accessFlags := 24, slot := 1, constantValue := 0 }, { name := "serialPersistentFields", type := (.array (.object "java/io/ObjectStreamField")), accessFlags := 26, slot := 2, constantValue := 0 }, { name := "REPL", type := .char, accessFlags := 26, slot := 3, constantValue := 0 }, { name := "CASE_INSENSITIVE_ORDER", type := (.object "java/util/Comparator"), accessFlags := 25, slot := 4, constantValue := 0 }, { name := "LATIN1", type := .byte, accessFlags := 24, slot := 5, constantValue := 0 }, { name := "UTF16", type := .byte, accessFlags := 24, slot := 6, constantValue := 0 }]
  methods := #[k7m0, k7m1, k7m2, k7m3, k7m4]
  instanceTypes := #[(.array .byte), .byte, .int, .boolean]
  staticTypes := #[.long, .boolean, (.array (.object "java/io/ObjectStreamField")), .char, (.object "java/util/Comparator"), .byte, .byte]
  resolved := Array.replicate 1451 none
  statics := some 0 }

def pool8 : Array CpInfo := pool [(6, .class_ 8), (1, u "java/lang/Object"), (0, u "<init>"), (0, u "()V"), (1, .class_ 14), (1, u "java/lang/StringUTF16"), (31, u "$assertionsDisabled"), (0, u "Z"), (13, u "HI_BYTE_SHIFT"), (0, u "I"), (2, u "LO_BYTE_SHIFT"), (49, .methodref 12 116), (0, .nameAndType 117 118), (0, u "compress"), (0, u "([CI[BII)I"), (3, u "([CII)[B"), (138, u "coderFromArrayLen"), (0, u "([BI)B"), (106, .class_ 371), (1, u "java/lang/StringUTF16$LinesSpliterator"), (58, u "MAX_LENGTH"), (196, .class_ 628), (0, u "java/lang/StringUTF16$CodePointsSpliterator"), (0, .class_ 630), (0, u "java/lang/StringUTF16$CharsSpliterator")] 4

def k8m0 : Method := { name := "<init>", desc := "()V", sig := { parameters := [], returnType := none }, accessFlags := 0, code := none }
def k8c1 : Code := { maxStack := 2, maxLocals := 2, code := jdk_52_method_15_code, exceptionTable := #[], attributes := #[] }
def k8m1 : Method := { name := "coderFromArrayLen", desc := "([BI)B", sig := { parameters := [(.array .byte), .int], returnType := some .byte }, accessFlags := 8, code := some k8c1 }
def k8c2 : Code := { maxStack := 5, maxLocals := 6, code := jdk_52_method_16_code, exceptionTable := #[], attributes := #[] }
def k8m2 : Method := { name := "compress", desc := "([CII)[B", sig := { parameters := [(.array .char), .int, .int], returnType := some (.array .byte) }, accessFlags := 9, code := some k8c2 }
def k8c3 : Code := { maxStack := 3, maxLocals := 7, code := jdk_52_method_21_code, exceptionTable := #[], attributes := #[] }
def k8m3 : Method := { name := "compress", desc := "([CI[BII)I", sig := { parameters := [(.array .char), .int, (.array .byte), .int, .int], returnType := some .int }, accessFlags := 9, code := some k8c3 }
/-- java/lang/StringUTF16 -/
def k8 : Class := { plain "java/lang/StringUTF16" (some 0) with
  accessFlags := 48
  interfaces := #[]
  cf := some (fileOf pool8 12 #[.nestMembers #[627, 629, 369]] #[{ accessFlags := 0, nameIndex := 9, descriptorIndex := 10, attributes := #[] }, { accessFlags := 8, nameIndex := 261, descriptorIndex := 262, attributes := #[] }, { accessFlags := 9, nameIndex := 117, descriptorIndex := 122, attributes := #[] }, { accessFlags := 9, nameIndex := 117, descriptorIndex := 118, attributes := #[] }] 48 6 #[] #[{ accessFlags := 26, nameIndex := 61, descriptorIndex := 62, attributes := #[] }, { accessFlags := 26, nameIndex := 65, descriptorIndex := 62, attributes := #[] }, { accessFlags := 24, nameIndex := 430, descriptorIndex := 62, attributes := #[] }, { accessFlags := 4120, nameIndex := 46, descriptorIndex := 47, attributes := #[] }])
  fields := #[{ name := "HI_BYTE_SHIFT", type := .int, accessFlags := 26, slot := 0, constantValue := 0 }, { name := "LO_BYTE_SHIFT", type := .int, accessFlags := 26, slot := 1, constantValue := 0 }, { name := "MAX_LENGTH", type := .int, accessFlags := 24, slot := 2, constantValue := 0 }, { name := "$assertionsDisabled", type := .boolean, accessFlags := 4120, slot := 3, constantValue := 0 }]
  methods := #[k8m0, k8m1, k8m2, k8m3]
  instanceTypes := #[]
  staticTypes := #[.int, .int, .int, .boolean]
  resolved := Array.replicate 635 none
  statics := none }

def pool9 : Array CpInfo := pool [(1, .methodref 2 3), (0, .class_ 4), (0, .nameAndType 5 6), (0, u "java/lang/Object"), (0, u "<init>"), (0, u "()V"), (0, .class_ 8), (0, u "com/example/markup_reader/markupreader/reader/Declarations"), (0, .methodref 7 3), (0, .fieldref 11 12), (0, .class_ 13), (0, .nameAndType 14 15), (0, u "com/example/markup_reader/markupreader/reader/Dtd"), (0, u "internal"), (0, u "Lcom/example/markup_reader/markupreader/reader/Declarations;"), (0, .fieldref 11 17), (0, .nameAndType 18 15), (0, u "declaring"), (0, .fieldref 7 20), (0, .nameAndType 21 22), (0, u "elementTypes"), (0, u "Ljava/util/Map;"), (0, .fieldref 11 20), (2, .integer 2147483647), (0, .fieldref 11 28), (0, .nameAndType 29 30), (0, u "externalNotations"), (0, u "I"), (0, .fieldref 11 32), (0, .nameAndType 33 30), (0, u "externalUnparsedEntities"), (0, .string 35), (0, u "1.0"), (0, .fieldref 11 37), (0, .nameAndType 38 39), (0, u "version"), (0, u "Ljava/lang/String;"), (0, .fieldref 11 41), (0, .nameAndType 42 43), (0, u "used"), (0, u "Z"), (0, .fieldref 11 45), (0, .nameAndType 46 43), (0, u "skipping"), (0, .fieldref 11 48), (0, .nameAndType 49 39), (0, u "rootName"), (0, .fieldref 11 51), (0, .nameAndType 52 53), (0, u "externalSubset"), (0, u "Lcom/example/markup_reader/markupreader/reader/Entity$ExternalId;"), (0, .methodref 55 56), (0, .class_ 57), (0, .nameAndType 58 59), (0, u "com/example/markup_reader/markupreader/reader/KeptSize"), (0, u "doctype"), (0, u "(Ljava/lang/String;Lcom/example/markup_reader/markupreader/reader/Entity$ExternalId;)J"), (0, .fieldref 11 61), (0, .nameAndType 62 63), (0, u "doctypeSize"), (0, u "J"), (6, u "external"), (0, .fieldref 11 72), (0, .nameAndType 73 43), (0, u "standalone"), (0, .fieldref 11 75), (0, .nameAndType 76 43), (0, u "parameterReferences"), (12, u "()Z"), (2, u "generalLookups"), (1, .class_ 96), (1, u "com/example/markup_reader/markupreader/reader/Dtd$Taken"), (176, u "(Z)V"), (3, u "start"), (0, u "(Ljava/lang/String;Lcom/example/markup_reader/markupreader/reader/Entity$ExternalId;)V"), (3, u "declareStandalone"), (0, u "parameterReferenced"), (0, u "parameterEntityNotRead"), (0, u "entitiesMustBeDeclared")] 29

def k9c0 : Code := { maxStack := 3, maxLocals := 2, code := prog_77_method_1_code, exceptionTable := #[], attributes := #[] }
def k9m0 : Method := { name := "<init>", desc := "(Z)V", sig := { parameters := [.boolean], returnType := none }, accessFlags := 0, code := some k9c0 }
def k9c1 : Code := { maxStack := 3, maxLocals := 3, code := prog_77_method_3_code, exceptionTable := #[], attributes := #[] }
def k9m1 : Method := { name := "start", desc := "(Ljava/lang/String;Lcom/example/markup_reader/markupreader/reader/Entity$ExternalId;)V", sig := { parameters := [(.object "java/lang/String"), (.object "com/example/markup_reader/markupreader/reader/Entity$ExternalId")], returnType := none }, accessFlags := 0, code := some k9c1 }
def k9c2 : Code := { maxStack := 2, maxLocals := 1, code := prog_77_method_8_code, exceptionTable := #[], attributes := #[] }
def k9m2 : Method := { name := "declareStandalone", desc := "()V", sig := { parameters := [], returnType := none }, accessFlags := 0, code := some k9c2 }
def k9c3 : Code := { maxStack := 2, maxLocals := 1, code := prog_77_method_10_code, exceptionTable := #[], attributes := #[] }
def k9m3 : Method := { name := "parameterReferenced", desc := "()V", sig := { parameters := [], returnType := none }, accessFlags := 0, code := some k9c3 }
def k9c4 : Code := { maxStack := 2, maxLocals := 1, code := prog_77_method_11_code, exceptionTable := #[], attributes := #[] }
def k9m4 : Method := { name := "parameterEntityNotRead", desc := "()V", sig := { parameters := [], returnType := none }, accessFlags := 0, code := some k9c4 }
def k9c5 : Code := { maxStack := 1, maxLocals := 1, code := prog_77_method_12_code, exceptionTable := #[], attributes := #[] }
def k9m5 : Method := { name := "entitiesMustBeDeclared", desc := "()Z", sig := { parameters := [], returnType := some .boolean }, accessFlags := 0, code := some k9c5 }
/-- com/example/markup_reader/markupreader/reader/Dtd -/
def k9 : Class := { plain "com/example/markup_reader/markupreader/reader/Dtd" (some 0) with
  accessFlags := 48
  interfaces := #[]
  cf := some (fileOf pool9 11 #[.nestMembers #[94]] #[{ accessFlags := 0, nameIndex := 5, descriptorIndex := 273, attributes := #[] }, { accessFlags := 0, nameIndex := 277, descriptorIndex := 278, attributes := #[] }, { accessFlags := 0, nameIndex := 282, descriptorIndex := 6, attributes := #[] }, { accessFlags := 0, nameIndex := 283, descriptorIndex := 6, attributes := #[] }, { accessFlags := 0, nameIndex := 284, descriptorIndex := 6, attributes := #[] }, { accessFlags := 0, nameIndex := 285, descriptorIndex := 89, attributes := #[] }] 48 2 #[] #[{ accessFlags := 18, nameIndex := 42, descriptorIndex := 43, attributes := #[] }, { accessFlags := 18, nameIndex := 14, descriptorIndex := 15, attributes := #[] }, { accessFlags := 2, nameIndex := 70, descriptorIndex := 15, attributes := #[] }, { accessFlags := 2, nameIndex := 18, descriptorIndex := 15, attributes := #[] }, { accessFlags := 2, nameIndex := 21, descriptorIndex := 22, attributes := #[] }, { accessFlags := 2, nameIndex := 29, descriptorIndex := 30, attributes := #[] }, { accessFlags := 2, nameIndex := 33, descriptorIndex := 30, attributes := #[] }, { accessFlags := 2, nameIndex := 92, descriptorIndex := 63, attributes := #[] }, { accessFlags := 2, nameIndex := 49, descriptorIndex := 39, attributes := #[] }, { accessFlags := 2, nameIndex := 52, descriptorIndex := 53, attributes := #[] }, { accessFlags := 2, nameIndex := 62, descriptorIndex := 63, attributes := #[] }, { accessFlags := 2, nameIndex := 38, descriptorIndex := 39, attributes := #[] }, { accessFlags := 2, nameIndex := 76, descriptorIndex := 43, attributes := #[] }, { accessFlags := 2, nameIndex := 73, descriptorIndex := 43, attributes := #[] }, { accessFlags := 2, nameIndex := 46, descriptorIndex := 43, attributes := #[] }])
  fields := #[{ name := "used", type := .boolean, accessFlags := 18, slot := 0, constantValue := 0 }, { name := "internal", type := (.object "com/example/markup_reader/markupreader/reader/Declarations"), accessFlags := 18, slot := 1, constantValue := 0 }, { name := "external", type := (.object "com/example/markup_reader/markupreader/reader/Declarations"), accessFlags := 2, slot := 2, constantValue := 0 }, { name := "declaring", type := (.object "com/example/markup_reader/markupreader/reader/Declarations"), accessFlags := 2, slot := 3, constantValue := 0 }, { name := "elementTypes", type := (.object "java/util/Map"), accessFlags := 2, slot := 4, constantValue := 0 }, { name := "externalNotations", type := .int, accessFlags := 2, slot := 5, constantValue := 0 }, { name := "externalUnparsedEntities", type := .int, accessFlags := 2, slot := 6, constantValue := 0 }, { name := "generalLookups", type := .long, accessFlags := 2, slot := 7, constantValue := 0 }, { name := "rootName", type := (.object "java/lang/String"), accessFlags := 2, slot := 8, constantValue := 0 }, { name := "externalSubset", type := (.object "com/example/markup_reader/markupreader/reader/Entity$ExternalId"), accessFlags := 2, slot := 9, constantValue := 0 }, { name := "doctypeSize", type := .long, accessFlags := 2, slot := 10, constantValue := 0 }, { name := "version", type := (.object "java/lang/String"), accessFlags := 2, slot := 11, constantValue := 0 }, { name := "parameterReferences", type := .boolean, accessFlags := 2, slot := 12, constantValue := 0 }, { name := "standalone", type := .boolean, accessFlags := 2, slot := 13, constantValue := 0 }, { name := "skipping", type := .boolean, accessFlags := 2, slot := 14, constantValue := 0 }]
  methods := #[k9m0, k9m1, k9m2, k9m3, k9m4, k9m5]
  instanceTypes := #[.boolean, (.object "com/example/markup_reader/markupreader/reader/Declarations"), (.object "com/example/markup_reader/markupreader/reader/Declarations"), (.object "com/example/markup_reader/markupreader/reader/Declarations"), (.object "java/util/Map"), .int, .int, .long, (.object "java/lang/String"), (.object "com/example/markup_reader/markupreader/reader/Entity$ExternalId"), .long, (.object "java/lang/String"), .boolean, .boolean, .boolean]
  staticTypes := #[]
  resolved := Array.replicate 315 none
  statics := none }

def pool10 : Array CpInfo := pool [(1, .methodref 2 3), (0, .class_ 4), (0, .nameAndType 5 6), (0, u "java/lang/Object"), (0, u "<init>"), (0, u "()V"), (0, .class_ 8), (0, u "java/util/HashMap"), (0, .methodref 7 3), (0, .fieldref 11 12), (0, .class_ 13), (0, .nameAndType 14 15), (0, u "com/example/markup_reader/markupreader/reader/Declarations"), (0, u "generalEntities"), (0, u "Ljava/util/Map;"), (0, .fieldref 11 17), (0, .nameAndType 18 15), (0, u "parameterEntities"), (0, .fieldref 11 20), (0, .nameAndType 21 15), (0, u "elementTypes"), (0, .class_ 23), (0, u "java/util/LinkedHashMap"), (0, .methodref 22 3), (0, .fieldref 11 26), (0, .nameAndType 27 15), (0, u "notations"), (0, .class_ 29), (0, u "java/util/ArrayList"), (0, .methodref 28 3), (0, .fieldref 11 32), (0, .nameAndType 33 34), (0, u "unparsedEntities"), (0, u "Ljava/util/List;"), (2, u "size"), (0, u "J")] 162

def k10c0 : Code := { maxStack := 3, maxLocals := 1, code := prog_76_method_1_code, exceptionTable := #[], attributes := #[] }
def k10m0 : Method := { name := "<init>", desc := "()V", sig := { parameters := [], returnType := none }, accessFlags := 0, code := some k10c0 }
/-- com/example/markup_reader/markupreader/reader/Declarations -/
def k10 : Class := { plain "com/example/markup_reader/markupreader/reader/Declarations" (some 0) with
  accessFlags := 48
  interfaces := #[]
  cf := some (fileOf pool10 11 #[] #[{ accessFlags := 0, nameIndex := 5, descriptorIndex := 6, attributes := #[] }] 48 2 #[] #[{ accessFlags := 16, nameIndex := 14, descriptorIndex := 15, attributes := #[] }, { accessFlags := 16, nameIndex := 18, descriptorIndex := 15, attributes := #[] }, { accessFlags := 16, nameIndex := 21, descriptorIndex := 15, attributes := #[] }, { accessFlags := 16, nameIndex := 27, descriptorIndex := 15, attributes := #[] }, { accessFlags := 16, nameIndex := 33, descriptorIndex := 34, attributes := #[] }, { accessFlags := 2, nameIndex := 37, descriptorIndex := 38, attributes := #[] }])
  fields := #[{ name := "generalEntities", type := (.object "java/util/Map"), accessFlags := 16, slot := 0, constantValue := 0 }, { name := "parameterEntities", type := (.object "java/util/Map"), accessFlags := 16, slot := 1, constantValue := 0 }, { name := "elementTypes", type := (.object "java/util/Map"), accessFlags := 16, slot := 2, constantValue := 0 }, { name := "notations", type := (.object "java/util/Map"), accessFlags := 16, slot := 3, constantValue := 0 }, { name := "unparsedEntities", type := (.object "java/util/List"), accessFlags := 16, slot := 4, constantValue := 0 }, { name := "size", type := .long, accessFlags := 2, slot := 5, constantValue := 0 }]
  methods := #[k10m0]
  instanceTypes := #[(.object "java/util/Map"), (.object "java/util/Map"), (.object "java/util/Map"), (.object "java/util/Map"), (.object "java/util/List"), .long]
  staticTypes := #[]
  resolved := Array.replicate 201 none
  statics := none }

def pool11 : Array CpInfo := pool [(2, .class_ 4), (1, u "java/util/Map"), (31, .class_ 37), (0, u "java/util/Map$Entry"), (55, .class_ 94), (0, u "java/lang/Object")] 168

/-- java/util/Map -/
def k11 : Class := { plain "java/util/Map" (some 0) with
  accessFlags := 1537
  interfaces := #[]
  cf := some (fileOf pool11 2 #[.nestMembers #[36]] #[] 1537 93 #[] #[])
  fields := #[]
  methods := #[]
  instanceTypes := #[]
  staticTypes := #[]
  resolved := Array.replicate 263 none
  statics := none }

def pool12 : Array CpInfo := pool [(1, .methodref 2 3), (0, .class_ 4), (0, .nameAndType 5 6), (0, u "java/lang/Object"), (0, u "<init>"), (0, u "()V"), (1, .class_ 10), (1, u "java/util/AbstractMap"), (42, .class_ 54), (0, u "java/util/Map"), (9, u "keySet"), (0, u "Ljava/util/Set;"), (0, .class_ 67), (0, u "java/util/AbstractMap$1"), (5, u "values"), (0, u "Ljava/util/Collection;"), (0, .class_ 76), (0, u "java/util/AbstractMap$2"), (104, .class_ 182), (0, u "java/util/AbstractMap$ViewCollection"), (0, .class_ 184), (0, u "java/util/AbstractMap$SimpleImmutableEntry"), (0, .class_ 186), (0, u "java/util/AbstractMap$SimpleEntry"), (0, .class_ 188), (0, u "java/util/AbstractMap$2$1"), (0, .class_ 190), (0, u "java/util/AbstractMap$1$1")] 5

def k12c0 : Code := { maxStack := 1, maxLocals := 1, code := jdk_71_method_1_code, exceptionTable := #[], attributes := #[] }
def k12m0 : Method := { name := "<init>", desc := "()V", sig := { parameters := [], returnType := none }, accessFlags := 4, code := some k12c0 }
/-- java/util/AbstractMap -/
def k12 : Class := { plain "java/util/AbstractMap" (some 0) with
  accessFlags := 1057
  interfaces := #[11]
  cf := some (fileOf pool12 8 #[.nestMembers #[181, 183, 185, 75, 187, 66, 189]] #[{ accessFlags := 4, nameIndex := 5, descriptorIndex := 6, attributes := #[] }] 1057 2 #[53] #[{ accessFlags := 128, nameIndex := 64, descriptorIndex := 65, attributes := #[] }, { accessFlags := 128, nameIndex := 73, descriptorIndex := 74, attributes := #[] }])
  fields := #[{ name := "keySet", type := (.object "java/util/Set"), accessFlags := 128, slot := 0, constantValue := 0 }, { name := "values", type := (.object "java/util/Collection"), accessFlags := 128, slot := 1, constantValue := 0 }]
  methods := #[k12m0]
  instanceTypes := #[(.object "java/util/Set"), (.object "java/util/Collection")]
  staticTypes := #[]
  resolved := Array.replicate 196 none
  statics := none }

def pool13 : Array CpInfo := pool [(1, .class_ 2), (0, u "java/lang/Cloneable"), (0, .class_ 4), (0, u "java/lang/Object")] 2

/-- java/lang/Cloneable -/
def k13 : Class := { plain "java/lang/Cloneable" (some 0) with
  accessFlags := 1537
  interfaces := #[]
  cf := some (fileOf pool13 1 #[] #[] 1537 3 #[] #[])
  fields := #[]
  methods := #[]
  instanceTypes := #[]
  staticTypes := #[]
  resolved := Array.replicate 7 none
  statics := none }

def pool14 : Array CpInfo := pool [(40, .class_ 41), (0, u "java/util/HashMap"), (1, .methodref 44 45), (0, .class_ 46), (0, .nameAndType 47 48), (0, u "java/util/AbstractMap"), (0, u "<init>"), (0, u "()V"), (32, .fieldref 40 82), (0, .nameAndType 83 84), (0, u "loadFactor"), (0, u "F"), (5, u "threshold"), (0, u "I"), (0, .float 1061158912), (8, .class_ 103), (1, u "java/util/Map"), (0, u "size"), (2, u "table"), (0, u "[Ljava/util/HashMap$Node;"), (14, u "entrySet"), (39, .class_ 165), (1, u "java/util/HashMap$Node"), (14, .class_ 181), (0, u "java/util/HashMap$TreeNode"), (22, u "modCount"), (37, u "Ljava/util/Set;"), (0, .class_ 244), (0, u "java/util/HashMap$KeySet"), (18, .class_ 264), (0, u "java/util/HashMap$Values"), (3, .class_ 269), (0, u "java/util/HashMap$EntrySet"), (76, .class_ 348), (1, u "java/util/HashMap$UnsafeHolder"), (43, .class_ 393), (0, u "java/lang/Cloneable"), (0, .class_ 395), (0, u "java/io/Serializable"), (0, u "serialVersionUID"), (0, u "J"), (3, u "DEFAULT_INITIAL_CAPACITY"), (1, u "MAXIMUM_CAPACITY"), (0, u "DEFAULT_LOAD_FACTOR"), (0, u "TREEIFY_THRESHOLD"), (1, u "UNTREEIFY_THRESHOLD"), (1, u "MIN_TREEIFY_CAPACITY"), (186, .class_ 597), (0, u "java/util/HashMap$EntrySpliterator"), (0, .class_ 599), (0, u "java/util/HashMap$ValueSpliterator"), (0, .class_ 601), (0, u "java/util/HashMap$KeySpliterator"), (0, .class_ 603), (0, u "java/util/HashMap$HashMapSpliterator"), (0, .class_ 605), (0, u "java/util/HashMap$EntryIterator"), (0, .class_ 607), (0, u "java/util/HashMap$ValueIterator"), (0, .class_ 609), (0, u "java/util/HashMap$KeyIterator"), (0, .class_ 611), (0, u "java/util/HashMap$HashIterator")] 17

def k14c0 : Code := { maxStack := 2, maxLocals := 1, code := jdk_69_method_7_code, exceptionTable := #[], attributes := #[] }
def k14m0 : Method := { name := "<init>", desc := "()V", sig := { parameters := [], returnType := none }, accessFlags := 1, code := some k14c0 }
/-- java/util/HashMap -/
def k14 : Class := { plain "java/util/HashMap" (some 12) with
  accessFlags := 33
  interfaces := #[11, 13, 2]
  cf := some (fileOf pool14 40 #[.nestMembers #[180, 596, 598, 600, 602, 604, 606, 608, 610, 346, 268, 263, 243, 163]] #[{ accessFlags := 1, nameIndex := 47, descriptorIndex := 48, attributes := #[] }] 33 44 #[101, 392, 394] #[{ accessFlags := 26, nameIndex := 396, descriptorIndex := 397, attributes := #[] }, { accessFlags := 24, nameIndex := 401, descriptorIndex := 91, attributes := #[] }, { accessFlags := 24, nameIndex := 403, descriptorIndex := 91, attributes := #[] }, { accessFlags := 24, nameIndex := 404, descriptorIndex := 84, attributes := #[] }, { accessFlags := 24, nameIndex := 405, descriptorIndex := 91, attributes := #[] }, { accessFlags := 24, nameIndex := 407, descriptorIndex := 91, attributes := #[] }, { accessFlags := 24, nameIndex := 409, descriptorIndex := 91, attributes := #[] }, { accessFlags := 128, nameIndex := 107, descriptorIndex := 108, attributes := #[] }, { accessFlags := 128, nameIndex := 123, descriptorIndex := 242, attributes := #[] }, { accessFlags := 128, nameIndex := 104, descriptorIndex := 91, attributes := #[] }, { accessFlags := 128, nameIndex := 204, descriptorIndex := 91, attributes := #[] }, { accessFlags := 0, nameIndex := 90, descriptorIndex := 91, attributes := #[] }, { accessFlags := 16, nameIndex := 83, descriptorIndex := 84, attributes := #[] }])
  fields := #[{ name := "serialVersionUID", type := .long, accessFlags := 26, slot := 0, constantValue := 0 }, { name := "DEFAULT_INITIAL_CAPACITY", type := .int, accessFlags := 24, slot := 1, constantValue := 0 }, { name := "MAXIMUM_CAPACITY", type := .int, accessFlags := 24, slot := 2, constantValue := 0 }, { name := "DEFAULT_LOAD_FACTOR", type := .float, accessFlags := 24, slot := 3, constantValue := 0 }, { name := "TREEIFY_THRESHOLD", type := .int, accessFlags := 24, slot := 4, constantValue := 0 }, { name := "UNTREEIFY_THRESHOLD", type := .int, accessFlags := 24, slot := 5, constantValue := 0 }, { name := "MIN_TREEIFY_CAPACITY", type := .int, accessFlags := 24, slot := 6, constantValue := 0 }, { name := "table", type := (.array (.object "java/util/HashMap$Node")), accessFlags := 128, slot := 2, constantValue := 0 }, { name := "entrySet", type := (.object "java/util/Set"), accessFlags := 128, slot := 3, constantValue := 0 }, { name := "size", type := .int, accessFlags := 128, slot := 4, constantValue := 0 }, { name := "modCount", type := .int, accessFlags := 128, slot := 5, constantValue := 0 }, { name := "threshold", type := .int, accessFlags := 0, slot := 6, constantValue := 0 }, { name := "loadFactor", type := .float, accessFlags := 16, slot := 7, constantValue := 0 }]
  methods := #[k14m0]
  instanceTypes := #[(.object "java/util/Set"), (.object "java/util/Collection"), (.array (.object "java/util/HashMap$Node")), (.object "java/util/Set"), .int, .int, .int, .float]
  staticTypes := #[.long, .int, .int, .float, .int, .int, .int]
  resolved := Array.replicate 629 none
  statics := none }

def pool15 : Array CpInfo := pool [(2, .class_ 4), (1, u "java/util/SequencedMap"), (38, .class_ 44), (0, u "java/util/SequencedMap$1SeqKeySet"), (3, .class_ 49), (0, u "java/util/SequencedMap$1SeqValues"), (1, .class_ 52), (0, u "java/util/SequencedMap$1SeqEntrySet"), (1, .class_ 55), (0, u "java/lang/Object"), (0, .class_ 57), (0, u "java/util/Map")] 48

/-- java/util/SequencedMap -/
def k15 : Class := { plain "java/util/SequencedMap" (some 0) with
  accessFlags := 1537
  interfaces := #[11]
  cf := some (fileOf pool15 2 #[.nestMembers #[51, 48, 43]] #[] 1537 54 #[56] #[])
  fields := #[]
  methods := #[]
  instanceTypes := #[]
  staticTypes := #[]
  resolved := Array.replicate 106 none
  statics := none }

def pool16 : Array CpInfo := pool [(1, .fieldref 2 3), (0, .class_ 4), (0, .nameAndType 5 6), (0, u "java/util/LinkedHashMap"), (0, u "putMode"), (0, u "I"), (2, u "head"), (0, u "Ljava/util/LinkedHashMap$Entry;"), (2, u "tail"), (1, .class_ 17), (1, u "java/util/LinkedHashMap$Entry"), (5, .class_ 25), (1, u "java/util/HashMap"), (1, u "()V"), (2, u "<init>"), (33, .fieldref 2 65), (0, .nameAndType 66 67), (0, u "accessOrder"), (0, u "Z"), (19, .methodref 23 88), (0, .nameAndType 30 27), (32, .class_ 122), (0, u "java/util/LinkedHashMap$LinkedKeySet"), (20, .class_ 144), (0, u "java/util/LinkedHashMap$LinkedValues"), (9, .class_ 155), (0, u "java/util/LinkedHashMap$LinkedEntrySet"), (44, .class_ 201), (0, u "java/util/LinkedHashMap$ReversedLinkedHashMapView"), (3, .class_ 206), (0, u "java/util/SequencedMap"), (0, u "serialVersionUID"), (0, u "J"), (5, u "PUT_NORM"), (1, u "PUT_FIRST"), (1, u "PUT_LAST"), (143, .class_ 363), (0, u "java/util/LinkedHashMap$LinkedEntryIterator"), (0, .class_ 365), (0, u "java/util/LinkedHashMap$LinkedValueIterator"), (0, .class_ 367), (0, u "java/util/LinkedHashMap$LinkedKeyIterator"), (0, .class_ 369), (0, u "java/util/LinkedHashMap$LinkedHashIterator")] 16

def k16c0 : Code := { maxStack := 2, maxLocals := 1, code := jdk_94_method_16_code, exceptionTable := #[], attributes := #[] }
def k16m0 : Method := { name := "<init>", desc := "()V", sig := { parameters := [], returnType := none }, accessFlags := 1, code := some k16c0 }
/-- java/util/LinkedHashMap -/
def k16 : Class := { plain "java/util/LinkedHashMap" (some 14) with
  accessFlags := 33
  interfaces := #[15]
  cf := some (fileOf pool16 2 #[.nestMembers #[200, 362, 364, 366, 368, 154, 143, 121, 15]] #[{ accessFlags := 1, nameIndex := 30, descriptorIndex := 27, attributes := #[] }] 33 23 #[205] #[{ accessFlags := 26, nameIndex := 207, descriptorIndex := 208, attributes := #[] }, { accessFlags := 128, nameIndex := 9, descriptorIndex := 10, attributes := #[] }, { accessFlags := 128, nameIndex := 13, descriptorIndex := 10, attributes := #[] }, { accessFlags := 16, nameIndex := 66, descriptorIndex := 67, attributes := #[] }, { accessFlags := 24, nameIndex := 214, descriptorIndex := 6, attributes := #[] }, { accessFlags := 24, nameIndex := 216, descriptorIndex := 6, attributes := #[] }, { accessFlags := 24, nameIndex := 218, descriptorIndex := 6, attributes := #[] }, { accessFlags := 128, nameIndex := 5, descriptorIndex := 6, attributes := #[] }])
  fields := #[{ name := "serialVersionUID", type := .long, accessFlags := 26, slot := 0, constantValue := 0 }, { name := "head", type := (.object "java/util/LinkedHashMap$Entry"), accessFlags := 128, slot := 8, constantValue := 0 }, { name := "tail", type := (.object "java/util/LinkedHashMap$Entry"), accessFlags := 128, slot := 9, constantValue := 0 }, { name := "accessOrder", type := .boolean, accessFlags := 16, slot := 10, constantValue := 0 }, { name := "PUT_NORM", type := .int, accessFlags := 24, slot := 1, constantValue := 0 }, { name := "PUT_FIRST", type := .int, accessFlags := 24, slot := 2, constantValue := 0 }, { name := "PUT_LAST", type := .int, accessFlags := 24, slot := 3, constantValue := 0 }, { name := "putMode", type := .int, accessFlags := 128, slot := 11, constantValue := 0 }]
  methods := #[k16m0]
  instanceTypes := #[(.object "java/util/Set"), (.object "java/util/Collection"), (.array (.object "java/util/HashMap$Node")), (.object "java/util/Set"), .int, .int, .int, .float, (.object "java/util/LinkedHashMap$Entry"), (.object "java/util/LinkedHashMap$Entry"), .boolean, .int]
  staticTypes := #[.long, .int, .int, .int]
  resolved := Array.replicate 386 none
  statics := none }

def pool17 : Array CpInfo := pool [(8, .class_ 10), (1, u "java/lang/Iterable"), (24, .class_ 36), (0, u "java/lang/Object")] 25

/-- java/lang/Iterable -/
def k17 : Class := { plain "java/lang/Iterable" (some 0) with
  accessFlags := 1537
  interfaces := #[]
  cf := some (fileOf pool17 8 #[] #[] 1537 35 #[] #[])
  fields := #[]
  methods := #[]
  instanceTypes := #[]
  staticTypes := #[]
  resolved := Array.replicate 62 none
  statics := none }

def pool18 : Array CpInfo := pool [(10, .class_ 12), (1, u "java/util/Collection"), (47, .class_ 61), (0, u "java/lang/Object"), (0, .class_ 63), (0, u "java/lang/Iterable")] 51

/-- java/util/Collection -/
def k18 : Class := { plain "java/util/Collection" (some 0) with
  accessFlags := 1537
  interfaces := #[17]
  cf := some (fileOf pool18 10 #[] #[] 1537 60 #[62] #[])
  fields := #[]
  methods := #[]
  instanceTypes := #[]
  staticTypes := #[]
  resolved := Array.replicate 115 none
  statics := none }

def pool19 : Array CpInfo := pool [(1, .methodref 2 3), (0, .class_ 4), (0, .nameAndType 5 6), (0, u "java/lang/Object"), (0, u "<init>"), (0, u "()V"), (1, .class_ 10), (1, u "java/util/AbstractCollection"), (66, .class_ 78), (0, u "java/util/Collection")] 81

def k19c0 : Code := { maxStack := 1, maxLocals := 1, code := jdk_22_method_1_code, exceptionTable := #[], attributes := #[] }
def k19m0 : Method := { name := "<init>", desc := "()V", sig := { parameters := [], returnType := none }, accessFlags := 4, code := some k19c0 }
/-- java/util/AbstractCollection -/
def k19 : Class := { plain "java/util/AbstractCollection" (some 0) with
  accessFlags := 1057
  interfaces := #[18]
  cf := some (fileOf pool19 8 #[] #[{ accessFlags := 4, nameIndex := 5, descriptorIndex := 6, attributes := #[] }] 1057 2 #[77] #[])
  fields := #[]
  methods := #[k19m0]
  instanceTypes := #[]
  staticTypes := #[]
  resolved := Array.replicate 160 none
  statics := none }

def pool20 : Array CpInfo := pool [(8, .class_ 10), (1, u "java/util/SequencedCollection"), (15, .class_ 27), (0, u "java/lang/Object"), (0, .class_ 29), (0, u "java/util/Collection")] 27

/-- java/util/SequencedCollection -/
def k20 : Class := { plain "java/util/SequencedCollection" (some 0) with
  accessFlags := 1537
  interfaces := #[18]
  cf := some (fileOf pool20 8 #[] #[] 1537 26 #[28] #[])
  fields := #[]
  methods := #[]
  instanceTypes := #[]
  staticTypes := #[]
  resolved := Array.replicate 57 none
  statics := none }

def pool21 : Array CpInfo := pool [(8, .class_ 10), (1, u "java/util/List"), (92, .class_ 104), (0, u "java/lang/Object"), (15, .class_ 121), (0, u "java/util/SequencedCollection")] 129

/-- java/util/List -/
def k21 : Class := { plain "java/util/List" (some 0) with
  accessFlags := 1537
  interfaces := #[20]
  cf := some (fileOf pool21 8 #[] #[] 1537 103 #[120] #[])
  fields := #[]
  methods := #[]
  instanceTypes := #[]
  staticTypes := #[]
  resolved := Array.replicate 251 none
  statics := none }

def pool22 : Array CpInfo := pool [(1, .methodref 2 3), (0, .class_ 4), (0, .nameAndType 5 6), (0, u "java/util/AbstractCollection"), (0, u "<init>"), (0, u "()V"), (0, .fieldref 8 9), (0, .class_ 10), (0, .nameAndType 11 12), (0, u "java/util/AbstractList"), (0, u "modCount"), (0, u "I"), (64, .class_ 78), (0, u "java/util/AbstractList$Itr"), (3, .class_ 83), (0, u "java/util/AbstractList$ListItr"), (9, .class_ 94), (0, u "java/util/AbstractList$RandomAccessSubList"), (3, .class_ 99), (0, u "java/util/AbstractList$SubList"), (33, .class_ 134), (0, u "java/util/List"), (73, .class_ 209), (0, u "java/util/AbstractList$SubList$1"), (0, .class_ 211), (0, u "java/util/AbstractList$RandomAccessSpliterator")] 6

def k22c0 : Code := { maxStack := 2, maxLocals := 1, code := jdk_39_method_1_code, exceptionTable := #[], attributes := #[] }
def k22m0 : Method := { name := "<init>", desc := "()V", sig := { parameters := [], returnType := none }, accessFlags := 4, code := some k22c0 }
/-- java/util/AbstractList -/
def k22 : Class := { plain "java/util/AbstractList" (some 19) with
  accessFlags := 1057
  interfaces := #[21]
  cf := some (fileOf pool22 8 #[.nestMembers #[93, 98, 208, 210, 82, 77]] #[{ accessFlags := 4, nameIndex := 5, descriptorIndex := 6, attributes := #[] }] 1057 2 #[133] #[{ accessFlags := 132, nameIndex := 11, descriptorIndex := 12, attributes := #[] }])
  fields := #[{ name := "modCount", type := .int, accessFlags := 132, slot := 0, constantValue := 0 }]
  methods := #[k22m0]
  instanceTypes := #[.int]
  staticTypes := #[]
  resolved := Array.replicate 218 none
  statics := none }

def pool23 : Array CpInfo := pool [(1, .class_ 2), (0, u "java/util/RandomAccess"), (0, .class_ 4), (0, u "java/lang/Object")] 2

/-- java/util/RandomAccess -/
def k23 : Class := { plain "java/util/RandomAccess" (some 0) with
  accessFlags := 1537
  interfaces := #[]
  cf := some (fileOf pool23 1 #[] #[] 1537 3 #[] #[])
  fields := #[]
  methods := #[]
  instanceTypes := #[]
  staticTypes := #[]
  resolved := Array.replicate 7 none
  statics := none }

def pool24 : Array CpInfo := pool [(1, .methodref 2 3), (0, .class_ 4), (0, .nameAndType 5 6), (0, u "java/util/AbstractList"), (0, u "<init>"), (0, u "()V"), (2, .fieldref 10 11), (0, .class_ 12), (0, .nameAndType 13 14), (0, u "java/util/ArrayList"), (0, u "elementData"), (0, u "[Ljava/lang/Object;"), (2, u "EMPTY_ELEMENTDATA"), (21, .fieldref 10 40), (0, .nameAndType 41 14), (0, u "DEFAULTCAPACITY_EMPTY_ELEMENTDATA"), (8, u "size"), (0, u "I"), (96, .class_ 149), (0, u "java/util/List"), (112, .class_ 263), (0, u "java/util/ArrayList$ListItr"), (3, .class_ 268), (0, u "java/util/ArrayList$Itr"), (7, .class_ 277), (0, u "java/util/ArrayList$SubList"), (12, .class_ 291), (0, u "java/util/ArrayList$ArrayListSpliterator"), (37, .class_ 330), (0, u "java/util/RandomAccess"), (0, .class_ 332), (0, u "java/lang/Cloneable"), (0, .class_ 334), (0, u "java/io/Serializable"), (0, u "serialVersionUID"), (0, u "J"), (3, u "DEFAULT_CAPACITY"), (159, .class_ 501), (0, u "java/util/ArrayList$SubList$2"), (0, .class_ 503), (0, u "java/util/ArrayList$SubList$1")] 5

def k24c0 : Code := { maxStack := 2, maxLocals := 1, code := jdk_38_method_2_code, exceptionTable := #[], attributes := #[] }
def k24m0 : Method := { name := "<init>", desc := "()V", sig := { parameters := [], returnType := none }, accessFlags := 1, code := some k24c0 }
/-- java/util/ArrayList -/
def k24 : Class := { plain "java/util/ArrayList" (some 22) with
  accessFlags := 33
  interfaces := #[21, 23, 13, 2]
  cf := some (fileOf pool24 10 #[.nestMembers #[290, 276, 500, 502, 262, 267]] #[{ accessFlags := 1, nameIndex := 5, descriptorIndex := 6, attributes := #[] }] 33 2 #[148, 329, 331, 333] #[{ accessFlags := 26, nameIndex := 335, descriptorIndex := 336, attributes := #[] }, { accessFlags := 26, nameIndex := 340, descriptorIndex := 51, attributes := #[] }, { accessFlags := 26, nameIndex := 17, descriptorIndex := 14, attributes := #[] }, { accessFlags := 26, nameIndex := 41, descriptorIndex := 14, attributes := #[] }, { accessFlags := 128, nameIndex := 13, descriptorIndex := 14, attributes := #[] }, { accessFlags := 2, nameIndex := 50, descriptorIndex := 51, attributes := #[] }])
  fields := #[{ name := "serialVersionUID", type := .long, accessFlags := 26, slot := 0, constantValue := 0 }, { name := "DEFAULT_CAPACITY", type := .int, accessFlags := 26, slot := 1, constantValue := 0 }, { name := "EMPTY_ELEMENTDATA", type := (.array (.object "java/lang/Object")), accessFlags := 26, slot := 2, constantValue := 0 }, { name := "DEFAULTCAPACITY_EMPTY_ELEMENTDATA", type := (.array (.object "java/lang/Object")), accessFlags := 26, slot := 3, constantValue := 0 }, { name := "elementData", type := (.array (.object "java/lang/Object")), accessFlags := 128, slot := 1, constantValue := 0 }, { name := "size", type := .int, accessFlags := 2, slot := 2, constantValue := 0 }]
  methods := #[k24m0]
  instanceTypes := #[.int, (.array (.object "java/lang/Object")), .int]
  staticTypes := #[.long, .int, (.array (.object "java/lang/Object")), (.array (.object "java/lang/Object"))]
  resolved := Array.replicate 509 none
  statics := some 1 }

def pool25 : Array CpInfo := pool [(2, .class_ 4), (1, u "java/lang/Object"), (0, u "<init>"), (0, u "()V"), (0, .class_ 8), (0, u "com/example/markup_reader/markupreader/reader/KeptSize"), (0, .long 64), (1, .methodref 12 13), (0, .class_ 14), (0, .nameAndType 15 16), (0, u "java/lang/String"), (0, u "length"), (0, u "()I"), (0, .methodref 18 19), (0, .class_ 20), (0, .nameAndType 21 22), (0, u "com/example/markup_reader/markupreader/reader/Entity$ExternalId"), (0, u "publicId"), (0, u "()Ljava/lang/String;"), (0, .methodref 7 24), (0, .nameAndType 15 25), (0, u "(Ljava/lang/String;)J"), (0, .methodref 18 27), (0, .nameAndType 28 22), (0, u "systemId"), (45, u "OBJECT"), (0, u "J"), (3, u "doctype"), (0, u "(Ljava/lang/String;Lcom/example/markup_reader/markupreader/reader/Entity$ExternalId;)J")] 19

def k25m0 : Method := { name := "<init>", desc := "()V", sig := { parameters := [], returnType := none }, accessFlags := 2, code := none }
def k25c1 : Code := { maxStack := 6, maxLocals := 4, code := prog_94_method_2_code, exceptionTable := #[], attributes := #[] }
def k25m1 : Method := { name := "doctype", desc := "(Ljava/lang/String;Lcom/example/markup_reader/markupreader/reader/Entity$ExternalId;)J", sig := { parameters := [(.object "java/lang/String"), (.object "com/example/markup_reader/markupreader/reader/Entity$ExternalId")], returnType := some .long }, accessFlags := 8, code := some k25c1 }
def k25c2 : Code := { maxStack := 2, maxLocals := 1, code := prog_94_method_11_code, exceptionTable := #[], attributes := #[] }
def k25m2 : Method := { name := "length", desc := "(Ljava/lang/String;)J", sig := { parameters := [(.object "java/lang/String")], returnType := some .long }, accessFlags := 10, code := some k25c2 }
/-- com/example/markup_reader/markupreader/reader/KeptSize -/
def k25 : Class := { plain "com/example/markup_reader/markupreader/reader/KeptSize" (some 0) with
  accessFlags := 48
  interfaces := #[]
  cf := some (fileOf pool25 7 #[] #[{ accessFlags := 2, nameIndex := 5, descriptorIndex := 6, attributes := #[] }, { accessFlags := 8, nameIndex := 79, descriptorIndex := 80, attributes := #[] }, { accessFlags := 10, nameIndex := 15, descriptorIndex := 25, attributes := #[] }] 48 2 #[] #[{ accessFlags := 24, nameIndex := 74, descriptorIndex := 75, attributes := #[] }])
  fields := #[{ name := "OBJECT", type := .long, accessFlags := 24, slot := 0, constantValue := 0 }]
  methods := #[k25m0, k25m1, k25m2]
  instanceTypes := #[]
  staticTypes := #[.long]
  resolved := Array.replicate 100 none
  statics := none }

def pool26 : Array CpInfo := pool [(1, .methodref 2 3), (0, .class_ 4), (0, .nameAndType 5 6), (0, u "java/lang/Object"), (0, u "<init>"), (0, u "()V"), (0, .class_ 8), (0, u "java/lang/Record")] 13

def k26c0 : Code := { maxStack := 1, maxLocals := 1, code := jdk_30_method_1_code, exceptionTable := #[], attributes := #[] }
def k26m0 : Method := { name := "<init>", desc := "()V", sig := { parameters := [], returnType := none }, accessFlags := 4, code := some k26c0 }
/-- java/lang/Record -/
def k26 : Class := { plain "java/lang/Record" (some 0) with
  accessFlags := 1057
  interfaces := #[]
  cf := some (fileOf pool26 7 #[] #[{ accessFlags := 4, nameIndex := 5, descriptorIndex := 6, attributes := #[] }] 1057 2 #[] #[])
  fields := #[]
  methods := #[k26m0]
  instanceTypes := #[]
  staticTypes := #[]
  resolved := Array.replicate 22 none
  statics := none }

def pool27 : Array CpInfo := pool [(1, .methodref 2 3), (0, .class_ 4), (0, .nameAndType 5 6), (0, u "java/lang/Record"), (0, u "<init>"), (0, u "()V"), (0, .fieldref 8 9), (0, .class_ 10), (0, .nameAndType 11 12), (0, u "com/example/markup_reader/markupreader/reader/Entity$ExternalId"), (0, u "publicId"), (0, u "Ljava/lang/String;"), (0, .fieldref 8 14), (0, .nameAndType 15 12), (0, u "systemId"), (12, u "(Ljava/lang/String;Ljava/lang/String;)V"), (3, u "()Ljava/lang/String;"), (5, .class_ 39), (0, u "com/example/markup_reader/markupreader/reader/Entity")] 20

def k27c0 : Code := { maxStack := 2, maxLocals := 3, code := prog_89_method_1_code, exceptionTable := #[], attributes := #[] }
def k27m0 : Method := { name := "<init>", desc := "(Ljava/lang/String;Ljava/lang/String;)V", sig := { parameters := [(.object "java/lang/String"), (.object "java/lang/String")], returnType := none }, accessFlags := 0, code := some k27c0 }
def k27c1 : Code := { maxStack := 1, maxLocals := 1, code := prog_89_method_5_code, exceptionTable := #[], attributes := #[] }
def k27m1 : Method := { name := "publicId", desc := "()Ljava/lang/String;", sig := { parameters := [], returnType := some (.object "java/lang/String") }, accessFlags := 1, code := some k27c1 }
def k27c2 : Code := { maxStack := 1, maxLocals := 1, code := prog_89_method_6_code, exceptionTable := #[], attributes := #[] }
def k27m2 : Method := { name := "systemId", desc := "()Ljava/lang/String;", sig := { parameters := [], returnType := some (.object "java/lang/String") }, accessFlags := 1, code := some k27c2 }
/-- com/example/markup_reader/markupreader/reader/Entity$ExternalId -/
def k27 : Class := { plain "com/example/markup_reader/markupreader/reader/Entity$ExternalId" (some 26) with
  accessFlags := 48
  interfaces := #[]
  cf := some (fileOf pool27 8 #[.nestHost 38] #[{ accessFlags := 0, nameIndex := 5, descriptorIndex := 28, attributes := #[] }, { accessFlags := 1, nameIndex := 11, descriptorIndex := 32, attributes := #[] }, { accessFlags := 1, nameIndex := 15, descriptorIndex := 32, attributes := #[] }] 48 2 #[] #[{ accessFlags := 18, nameIndex := 11, descriptorIndex := 12, attributes := #[] }, { accessFlags := 18, nameIndex := 15, descriptorIndex := 12, attributes := #[] }])
  fields := #[{ name := "publicId", type := (.object "java/lang/String"), accessFlags := 18, slot := 0, constantValue := 0 }, { name := "systemId", type := (.object "java/lang/String"), accessFlags := 18, slot := 1, constantValue := 0 }]
  methods := #[k27m0, k27m1, k27m2]
  instanceTypes := #[(.object "java/lang/String"), (.object "java/lang/String")]
  staticTypes := #[]
  resolved := Array.replicate 60 none
  statics := none }

def pool28 : Array CpInfo := pool [(4, .class_ 6), (1, u "java/lang/Object"), (0, u "<init>"), (0, u "()V"), (5, .class_ 16), (1, u "java/lang/StringLatin1"), (104, u "$assertionsDisabled"), (0, u "Z"), (98, .class_ 223), (1, u "java/lang/StringLatin1$LinesSpliterator"), (166, .class_ 391), (0, u "java/lang/StringLatin1$CharsSpliterator")] 3

def k28m0 : Method := { name := "<init>", desc := "()V", sig := { parameters := [], returnType := none }, accessFlags := 0, code := none }
/-- java/lang/StringLatin1 -/
def k28 : Class := { plain "java/lang/StringLatin1" (some 0) with
  accessFlags := 48
  interfaces := #[]
  cf := some (fileOf pool28 14 #[.nestMembers #[390, 221]] #[{ accessFlags := 0, nameIndex := 7, descriptorIndex := 8, attributes := #[] }] 48 4 #[] #[{ accessFlags := 4120, nameIndex := 121, descriptorIndex := 122, attributes := #[] }])
  fields := #[{ name := "$assertionsDisabled", type := .boolean, accessFlags := 4120, slot := 0, constantValue := 0 }]
  methods := #[k28m0]
  instanceTypes := #[]
  staticTypes := #[.boolean]
  resolved := Array.replicate 395 none
  statics := none }

def pool29 : Array CpInfo := pool [(2, .class_ 4), (1, u "java/lang/Object"), (0, u "<init>"), (0, u "()V"), (17, .class_ 26), (1, u "jdk/internal/util/Preconditions"), (28, .class_ 56), (0, u "jdk/internal/util/Preconditions$4"), (57, .class_ 115), (0, u "jdk/internal/util/Preconditions$1"), (7, u "SIOOBE_FORMATTER"), (0, u "Ljava/util/function/BiFunction;"), (0, .class_ 126), (0, u "jdk/internal/util/Preconditions$2"), (3, u "AIOOBE_FORMATTER"), (0, .class_ 132), (0, u "jdk/internal/util/Preconditions$3"), (3, u "IOOBE_FORMATTER")] 57

def k29m0 : Method := { name := "<init>", desc := "()V", sig := { parameters := [], returnType := none }, accessFlags := 1, code := none }
/-- jdk/internal/util/Preconditions -/
def k29 : Class := { plain "jdk/internal/util/Preconditions" (some 0) with
  accessFlags := 33
  interfaces := #[]
  cf := some (fileOf pool29 24 #[.nestMembers #[55, 131, 125, 114]] #[{ accessFlags := 1, nameIndex := 5, descriptorIndex := 6, attributes := #[] }] 33 2 #[] #[{ accessFlags := 25, nameIndex := 123, descriptorIndex := 124, attributes := #[] }, { accessFlags := 25, nameIndex := 130, descriptorIndex := 124, attributes := #[] }, { accessFlags := 25, nameIndex := 136, descriptorIndex := 124, attributes := #[] }])
  fields := #[{ name := "SIOOBE_FORMATTER", type := (.object "java/util/function/BiFunction"), accessFlags := 25, slot := 0, constantValue := 0 }, { name := "AIOOBE_FORMATTER", type := (.object "java/util/function/BiFunction"), accessFlags := 25, slot := 1, constantValue := 0 }, { name := "IOOBE_FORMATTER", type := (.object "java/util/function/BiFunction"), accessFlags := 25, slot := 2, constantValue := 0 }]
  methods := #[k29m0]
  instanceTypes := #[]
  staticTypes := #[(.object "java/util/function/BiFunction"), (.object "java/util/function/BiFunction"), (.object "java/util/function/BiFunction")]
  resolved := Array.replicate 194 none
  statics := some 2 }

def pool30 : Array CpInfo := pool [(9, u "<init>"), (6, .class_ 18), (1, u "java/lang/Object"), (0, u "()V"), (1, .class_ 23), (1, u "jdk/internal/util/ArraysSupport"), (0, u "LOG2_ARRAY_LONG_INDEX_SCALE"), (0, u "I"), (2, u "U"), (0, u "Ljdk/internal/misc/Unsafe;"), (8, u "BIG_ENDIAN"), (0, u "Z"), (8, u "LOG2_BYTE_BIT_SIZE"), (4, u "LOG2_ARRAY_INT_INDEX_SCALE"), (54, u "JLA"), (0, u "Ljdk/internal/access/JavaLangAccess;"), (11, u "LOG2_ARRAY_BOOLEAN_INDEX_SCALE"), (9, u "LOG2_ARRAY_BYTE_INDEX_SCALE"), (5, u "LOG2_ARRAY_CHAR_INDEX_SCALE"), (5, u "LOG2_ARRAY_SHORT_INDEX_SCALE"), (18, u "LOG2_ARRAY_FLOAT_INDEX_SCALE"), (24, u "LOG2_ARRAY_DOUBLE_INDEX_SCALE"), (89, u "T_BOOLEAN"), (2, u "T_CHAR"), (1, u "T_FLOAT"), (1, u "T_DOUBLE"), (1, u "T_BYTE"), (1, u "T_SHORT"), (1, u "T_INT"), (1, u "T_LONG"), (1, u "SOFT_MAX_ARRAY_LENGTH")] 83

def k30m0 : Method := { name := "<init>", desc := "()V", sig := { parameters := [], returnType := none }, accessFlags := 2, code := none }
/-- jdk/internal/util/ArraysSupport -/
def k30 : Class := { plain "jdk/internal/util/ArraysSupport" (some 0) with
  accessFlags := 33
  interfaces := #[]
  cf := some (fileOf pool30 21 #[] #[{ accessFlags := 2, nameIndex := 9, descriptorIndex := 19, attributes := #[] }] 33 16 #[] #[{ accessFlags := 24, nameIndex := 28, descriptorIndex := 29, attributes := #[] }, { accessFlags := 26, nameIndex := 38, descriptorIndex := 39, attributes := #[] }, { accessFlags := 25, nameIndex := 121, descriptorIndex := 25, attributes := #[] }, { accessFlags := 25, nameIndex := 131, descriptorIndex := 25, attributes := #[] }, { accessFlags := 25, nameIndex := 137, descriptorIndex := 25, attributes := #[] }, { accessFlags := 25, nameIndex := 143, descriptorIndex := 25, attributes := #[] }, { accessFlags := 25, nameIndex := 53, descriptorIndex := 25, attributes := #[] }, { accessFlags := 25, nameIndex := 24, descriptorIndex := 25, attributes := #[] }, { accessFlags := 25, nameIndex := 162, descriptorIndex := 25, attributes := #[] }, { accessFlags := 25, nameIndex := 187, descriptorIndex := 25, attributes := #[] }, { accessFlags := 26, nameIndex := 48, descriptorIndex := 25, attributes := #[] }, { accessFlags := 25, nameIndex := 277, descriptorIndex := 25, attributes := #[] }, { accessFlags := 25, nameIndex := 280, descriptorIndex := 25, attributes := #[] }, { accessFlags := 25, nameIndex := 282, descriptorIndex := 25, attributes := #[] }, { accessFlags := 25, nameIndex := 284, descriptorIndex := 25, attributes := #[] }, { accessFlags := 25, nameIndex := 286, descriptorIndex := 25, attributes := #[] }, { accessFlags := 25, nameIndex := 288, descriptorIndex := 25, attributes := #[] }, { accessFlags := 25, nameIndex := 290, descriptorIndex := 25, attributes := #[] }, { accessFlags := 25, nameIndex := 292, descriptorIndex := 25, attributes := #[] }, { accessFlags := 26, nameIndex := 108, descriptorIndex := 109, attributes := #[] }, { accessFlags := 25, nameIndex := 294, descriptorIndex := 25, attributes := #[] }])
  fields := #[{ name := "U", type := (.object "jdk/internal/misc/Unsafe"), accessFlags := 24, slot := 0, constantValue := 0 }, { name := "BIG_ENDIAN", type := .boolean, accessFlags := 26, slot := 1, constantValue := 0 }, { name := "LOG2_ARRAY_BOOLEAN_INDEX_SCALE", type := .int, accessFlags := 25, slot := 2, constantValue := 0 }, { name := "LOG2_ARRAY_BYTE_INDEX_SCALE", type := .int, accessFlags := 25, slot := 3, constantValue := 0 }, { name := "LOG2_ARRAY_CHAR_INDEX_SCALE", type := .int, accessFlags := 25, slot := 4, constantValue := 0 }, { name := "LOG2_ARRAY_SHORT_INDEX_SCALE", type := .int, accessFlags := 25, slot := 5, constantValue := 0 }, { name := "LOG2_ARRAY_INT_INDEX_SCALE", type := .int, accessFlags := 25, slot := 6, constantValue := 0 }, { name := "LOG2_ARRAY_LONG_INDEX_SCALE", type := .int, accessFlags := 25, slot := 7, constantValue := 0 }, { name := "LOG2_ARRAY_FLOAT_INDEX_SCALE", type := .int, accessFlags := 25, slot := 8, constantValue := 0 }, { name := "LOG2_ARRAY_DOUBLE_INDEX_SCALE", type := .int, accessFlags := 25, slot := 9, constantValue := 0 }, { name := "LOG2_BYTE_BIT_SIZE", type := .int, accessFlags := 26, slot := 10, constantValue := 0 }, { name := "T_BOOLEAN", type := .int, accessFlags := 25, slot := 11, constantValue := 0 }, { name := "T_CHAR", type := .int, accessFlags := 25, slot := 12, constantValue := 0 }, { name := "T_FLOAT", type := .int, accessFlags := 25, slot := 13, constantValue := 0 }, { name := "T_DOUBLE", type := .int, accessFlags := 25, slot := 14, constantValue := 0 }, { name := "T_BYTE", type := .int, accessFlags := 25, slot := 15, constantValue := 0 }, { name := "T_SHORT", type := .int, accessFlags := 25, slot := 16, constantValue := 0 }, { name := "T_INT", type := .int, accessFlags := 25, slot := 17, constantValue := 0 }, { name := "T_LONG", type := .int, accessFlags := 25, slot := 18, constantValue := 0 }, { name := "JLA", type := (.object "jdk/internal/access/JavaLangAccess"), accessFlags := 26, slot := 19, constantValue := 0 }, { name := "SOFT_MAX_ARRAY_LENGTH", type := .int, accessFlags := 25, slot := 20, constantValue := 0 }]
  methods := #[k30m0]
  instanceTypes := #[]
  staticTypes := #[(.object "jdk/internal/misc/Unsafe"), .boolean, .int, .int, .int, .int, .int, .int, .int, .int, .int, .int, .int, .int, .int, .int, .int, .int, .int, (.object "jdk/internal/access/JavaLangAccess"), .int]
  resolved := Array.replicate 378 none
  statics := none }

/-- the primitive byte -/
def k31 : Class := { plain "byte" none with kind := .primitive 'B', accessFlags := 0x411 }
/-- [B -/
def k32 : Class := { plain "[B" (some 0) with kind := .array 31 .byte, interfaces := #[13, 2], accessFlags := 1041 }

/-- the primitive char -/
def k33 : Class := { plain "char" none with kind := .primitive 'C', accessFlags := 0x411 }
/-- [C -/
def k34 : Class := { plain "[C" (some 0) with kind := .array 33 .char, interfaces := #[13, 2], accessFlags := 1041 }

/-- the primitive int -/
def k35 : Class := { plain "int" none with kind := .primitive 'I', accessFlags := 0x411 }
/-- [I -/
def k36 : Class := { plain "[I" (some 0) with kind := .array 35 .int, interfaces := #[13, 2], accessFlags := 1041 }

/-- [Ljava/lang/Object; -/
def k37 : Class := { plain "[Ljava/lang/Object;" (some 0) with kind := .array 0 (.object "java/lang/Object"), interfaces := #[13, 2], accessFlags := 1041 }

def heap : Heap := #[{ cls := 7, slots := #[.long 0, .int 1, .null, .int 0, .null, .int 0, .int 0], vm := .statics 7 },
  { cls := 24, slots := #[.long 0, .int 0, .ref 3, .ref 4], vm := .statics 24 },
  { cls := 29, slots := #[.null, .null, .null], vm := .statics 29 },
  { cls := 37, slots := #[], vm := .none },
  { cls := 37, slots := #[], vm := .none }]
def classes : Array Class := #[k0, k1, k2, k3, k4, k5, k6, k7, k8, k9, k10, k11, k12, k13, k14, k15, k16, k17, k18, k19, k20, k21, k22, k23, k24, k25, k26, k27, k28, k29, k30, k31, k32, k33, k34, k35, k36, k37]
def interned : List (Array UInt16 × Addr) := []
def slotsUsed : Nat := 14
def theMethod : MethodId := ⟨1, 2⟩
def args0 : Array Value := #[.int 5, .int 6, .int 7]
def aboutOver (below : List Frame) : State where
  vm := { classes := classes, interned := interned.toArray }
  heap := heap
  slotsUsed := slotsUsed
  threads := #[{ frames := .invoking theMethod args0 :: below }]
def below0 : List Frame := [.native { method := ⟨0, 0⟩, args := #[] }]
def about1 : State := aboutOver below0
def p0 : Program := .bare "" "" ""
def e0 : Env := launch0.env 0 0 0
theorem w_frames : about1.frames = Frame.invoking theMethod args0 :: below0 := rfl
set_option maxRecDepth 65536 in
theorem w_args : argsFit about1.vm theMethod args0 = true := by decide +kernel
set_option maxRecDepth 65536 in
theorem w_heap : heapFits about1 = true := by decide +kernel
set_option maxRecDepth 65536 in
theorem w_runnable : about1.curStatus? = some .runnable := by decide +kernel
set_option maxRecDepth 65536 in
theorem w_alone : about1.alone = true := by decide +kernel
set_option maxRecDepth 65536 in
theorem w_named : about1.methodNamed? x = some theMethod := by decide +kernel
set_option maxRecDepth 65536 in
theorem w_hears : about1.hears theMethod below0 = true := by decide +kernel
set_option maxRecDepth 65536 in
theorem w_ripe : about1.ripe theMethod args0 below0 = true := by decide +kernel
theorem w_running : about1.status = .running := rfl
set_option maxRecDepth 65536 in
theorem w_room : about1.hasRoom e0.platform room_1 = true :=
  launch0.hasRoom_least _ room_1 (by decide +kernel) (by decide +kernel) (by decide +kernel) (by decide +kernel) (by decide +kernel) (by decide +kernel)
theorem allAtoms_all (ts : List Jvm.Cond) (a : Array Jvm.Value) (st : Jvm.State) : (allAtoms ts).before a st = ts.all (fun c => c.before a st) := by
  induction ts with
  | nil => rfl
  | cons c t ih =>
    show (Jvm.Cond.and c (allAtoms t)).before a st = _
    rw [Jvm.Cond.before_and, ih, List.all_cons]
def words1 : List Jvm.Cond := Jvm.Cond.code x code maxLocals ret :: tables_1
/-- a 'code' word, met by the world's own term for the bytes: nothing is compared byte by byte -/
theorem code_word {y : MethodName} {bytes : ByteArray} {mx : Nat} {rt : Option FieldType} {a : Array Value} {s : State} {m : MethodId} {meth : Method} {c : Code} (h1 : s.methodNamed? y = some m) (h2 : s.vm.method? m = some meth) (h3 : meth.code = some c) (h4 : c.code = bytes)
    (h5 : (c.maxLocals == mx && c.exceptionTable.isEmpty && decide (c.maxStack ≤ mostOperands) && decide (meth.sig.returnType = rt) && !meth.locks && decide (parseMethodDescriptor y.desc = some meth.sig)) = true) : (Jvm.Cond.code y bytes mx rt).before a s = true := by
  simp only [Bool.and_eq_true, beq_iff_eq, Bool.not_eq_true', decide_eq_true_eq] at h5
  obtain ⟨⟨⟨⟨⟨g1, g2⟩, g3⟩, g4⟩, g5⟩, g6⟩ := h5
  simp [Cond.before, Cond.holds, Cond.value, h1, h2, h3, h4, g1, g2, g3, g4, g5, g6]
def isCode : Jvm.Cond → Bool
  | .code _ _ _ _ => true
  | _ => false
theorem all_split {L : List Jvm.Cond} {P : Jvm.Cond → Bool} (h1 : L.all (fun c => isCode c || P c) = true) (h2 : ∀ c ∈ L.filter isCode, P c = true) : L.all P = true := by
  refine List.all_eq_true.mpr fun c hc => ?_
  have h := List.all_eq_true.mp h1 c hc
  rcases Bool.eq_false_or_eq_true (isCode c) with hi | hi
  · exact h2 c (List.mem_filter.mpr ⟨hc, hi⟩)
  · simpa [hi] using h
set_option maxRecDepth 65536 in
theorem w_c0 : (Jvm.Cond.code x code maxLocals ret).before args0 about1 = true := code_word (m := ⟨1, 2⟩) (meth := k1m2) (c := k1c2) (by decide +kernel) rfl rfl rfl (by decide +kernel)
set_option maxRecDepth 65536 in
theorem w_c1 : (Jvm.Cond.code ({ cls := "java/lang/String", name := "<init>", desc := "([C)V" } : Jvm.MethodName) jdk_42_method_3_code (2 : Nat) (Option.none : Option Jvm.ClassFile.FieldType)).before args0 about1 = true := code_word (m := ⟨7, 1⟩) (meth := k7m1) (c := k7c1) (by decide +kernel) rfl rfl rfl (by decide +kernel)
set_option maxRecDepth 65536 in
theorem w_c2 : (Jvm.Cond.code ({ cls := "java/lang/String", name := "<init>", desc := "([CIILjava/lang/Void;)V" } : Jvm.MethodName) jdk_42_method_149_code (6 : Nat) (Option.none : Option Jvm.ClassFile.FieldType)).before args0 about1 = true := code_word (m := ⟨7, 3⟩) (meth := k7m3) (c := k7c3) (by decide +kernel) rfl rfl rfl (by decide +kernel)
set_option maxRecDepth 65536 in
theorem w_c3 : (Jvm.Cond.code ({ cls := "java/lang/Object", name := "<init>", desc := "()V" } : Jvm.MethodName) object_method_1_code (1 : Nat) (Option.none : Option Jvm.ClassFile.FieldType)).before args0 about1 = true := code_word (m := ⟨0, 0⟩) (meth := k0m0) (c := k0c0) (by decide +kernel) rfl rfl rfl (by decide +kernel)
set_option maxRecDepth 65536 in
theorem w_c4 : (Jvm.Cond.code ({ cls := "java/lang/StringUTF16", name := "compress", desc := "([CII)[B" } : Jvm.MethodName) jdk_52_method_16_code (6 : Nat) (Option.some (Jvm.ClassFile.FieldType.array Jvm.ClassFile.FieldType.byte))).before args0 about1 = true := code_word (m := ⟨8, 2⟩) (meth := k8m2) (c := k8c2) (by decide +kernel) rfl rfl rfl (by decide +kernel)
set_option maxRecDepth 65536 in
theorem w_c5 : (Jvm.Cond.code ({ cls := "java/lang/StringUTF16", name := "compress", desc := "([CI[BII)I" } : Jvm.MethodName) jdk_52_method_21_code (7 : Nat) (Option.some Jvm.ClassFile.FieldType.int)).before args0 about1 = true := code_word (m := ⟨8, 3⟩) (meth := k8m3) (c := k8c3) (by decide +kernel) rfl rfl rfl (by decide +kernel)
set_option maxRecDepth 65536 in
theorem w_c6 : (Jvm.Cond.code ({ cls := "java/lang/StringUTF16", name := "coderFromArrayLen", desc := "([BI)B" } : Jvm.MethodName) jdk_52_method_15_code (2 : Nat) (Option.some Jvm.ClassFile.FieldType.byte)).before args0 about1 = true := code_word (m := ⟨8, 1⟩) (meth := k8m1) (c := k8c1) (by decide +kernel) rfl rfl rfl (by decide +kernel)
set_option maxRecDepth 65536 in
theorem w_c7 : (Jvm.Cond.code ({ cls := "com/example/markup_reader/markupreader/reader/Dtd", name := "<init>", desc := "(Z)V" } : Jvm.MethodName) prog_77_method_1_code (2 : Nat) (Option.none : Option Jvm.ClassFile.FieldType)).before args0 about1 = true := code_word (m := ⟨9, 0⟩) (meth := k9m0) (c := k9c0) (by decide +kernel) rfl rfl rfl (by decide +kernel)
set_option maxRecDepth 65536 in
theorem w_c8 : (Jvm.Cond.code ({ cls := "com/example/markup_reader/markupreader/reader/Declarations", name := "<init>", desc := "()V" } : Jvm.MethodName) prog_76_method_1_code (1 : Nat) (Option.none : Option Jvm.ClassFile.FieldType)).before args0 about1 = true := code_word (m := ⟨10, 0⟩) (meth := k10m0) (c := k10c0) (by decide +kernel) rfl rfl rfl (by decide +kernel)
set_option maxRecDepth 65536 in
theorem w_c9 : (Jvm.Cond.code ({ cls := "java/util/HashMap", name := "<init>", desc := "()V" } : Jvm.MethodName) jdk_69_method_7_code (1 : Nat) (Option.none : Option Jvm.ClassFile.FieldType)).before args0 about1 = true := code_word (m := ⟨14, 0⟩) (meth := k14m0) (c := k14c0) (by decide +kernel) rfl rfl rfl (by decide +kernel)
set_option maxRecDepth 65536 in
theorem w_c10 : (Jvm.Cond.code ({ cls := "java/util/AbstractMap", name := "<init>", desc := "()V" } : Jvm.MethodName) jdk_71_method_1_code (1 : Nat) (Option.none : Option Jvm.ClassFile.FieldType)).before args0 about1 = true := code_word (m := ⟨12, 0⟩) (meth := k12m0) (c := k12c0) (by decide +kernel) rfl rfl rfl (by decide +kernel)
set_option maxRecDepth 65536 in
theorem w_c11 : (Jvm.Cond.code ({ cls := "java/util/LinkedHashMap", name := "<init>", desc := "()V" } : Jvm.MethodName) jdk_94_method_16_code (1 : Nat) (Option.none : Option Jvm.ClassFile.FieldType)).before args0 about1 = true := code_word (m := ⟨16, 0⟩) (meth := k16m0) (c := k16c0) (by decide +kernel) rfl rfl rfl (by decide +kernel)
set_option maxRecDepth 65536 in
theorem w_c12 : (Jvm.Cond.code ({ cls := "java/util/ArrayList", name := "<init>", desc := "()V" } : Jvm.MethodName) jdk_38_method_2_code (1 : Nat) (Option.none : Option Jvm.ClassFile.FieldType)).before args0 about1 = true := code_word (m := ⟨24, 0⟩) (meth := k24m0) (c := k24c0) (by decide +kernel) rfl rfl rfl (by decide +kernel)
set_option maxRecDepth 65536 in
theorem w_c13 : (Jvm.Cond.code ({ cls := "java/util/AbstractList", name := "<init>", desc := "()V" } : Jvm.MethodName) jdk_39_method_1_code (1 : Nat) (Option.none : Option Jvm.ClassFile.FieldType)).before args0 about1 = true := code_word (m := ⟨22, 0⟩) (meth := k22m0) (c := k22c0) (by decide +kernel) rfl rfl rfl (by decide +kernel)
set_option maxRecDepth 65536 in
theorem w_c14 : (Jvm.Cond.code ({ cls := "java/util/AbstractCollection", name := "<init>", desc := "()V" } : Jvm.MethodName) jdk_22_method_1_code (1 : Nat) (Option.none : Option Jvm.ClassFile.FieldType)).before args0 about1 = true := code_word (m := ⟨19, 0⟩) (meth := k19m0) (c := k19c0) (by decide +kernel) rfl rfl rfl (by decide +kernel)
set_option maxRecDepth 65536 in
theorem w_c15 : (Jvm.Cond.code ({ cls := "com/example/markup_reader/markupreader/reader/Dtd", name := "entitiesMustBeDeclared", desc := "()Z" } : Jvm.MethodName) prog_77_method_12_code (1 : Nat) (Option.some Jvm.ClassFile.FieldType.boolean)).before args0 about1 = true := code_word (m := ⟨9, 5⟩) (meth := k9m5) (c := k9c5) (by decide +kernel) rfl rfl rfl (by decide +kernel)
set_option maxRecDepth 65536 in
theorem w_c16 : (Jvm.Cond.code ({ cls := "com/example/markup_reader/markupreader/reader/DtdEntitiesMustBeDeclaredPinLaw", name := "expected", desc := "(ZZZZ)Z" } : Jvm.MethodName) method_2_code (4 : Nat) (Option.some Jvm.ClassFile.FieldType.boolean)).before args0 about1 = true := code_word (m := ⟨1, 1⟩) (meth := k1m1) (c := k1c1) (by decide +kernel) rfl rfl rfl (by decide +kernel)
set_option maxRecDepth 65536 in
theorem w_c17 : (Jvm.Cond.code ({ cls := "com/example/markup_reader/markupreader/reader/Dtd", name := "parameterReferenced", desc := "()V" } : Jvm.MethodName) prog_77_method_10_code (1 : Nat) (Option.none : Option Jvm.ClassFile.FieldType)).before args0 about1 = true := code_word (m := ⟨9, 3⟩) (meth := k9m3) (c := k9c3) (by decide +kernel) rfl rfl rfl (by decide +kernel)
set_option maxRecDepth 65536 in
theorem w_c18 : (Jvm.Cond.code ({ cls := "com/example/markup_reader/markupreader/reader/Dtd", name := "start", desc := "(Ljava/lang/String;Lcom/example/markup_reader/markupreader/reader/Entity$ExternalId;)V" } : Jvm.MethodName) prog_77_method_3_code (3 : Nat) (Option.none : Option Jvm.ClassFile.FieldType)).before args0 about1 = true := code_word (m := ⟨9, 1⟩) (meth := k9m1) (c := k9c1) (by decide +kernel) rfl rfl rfl (by decide +kernel)
set_option maxRecDepth 65536 in
theorem w_c19 : (Jvm.Cond.code ({ cls := "com/example/markup_reader/markupreader/reader/KeptSize", name := "doctype", desc := "(Ljava/lang/String;Lcom/example/markup_reader/markupreader/reader/Entity$ExternalId;)J" } : Jvm.MethodName) prog_94_method_2_code (4 : Nat) (Option.some Jvm.ClassFile.FieldType.long)).before args0 about1 = true := code_word (m := ⟨25, 1⟩) (meth := k25m1) (c := k25c1) (by decide +kernel) rfl rfl rfl (by decide +kernel)
set_option maxRecDepth 65536 in
theorem w_c20 : (Jvm.Cond.code ({ cls := "java/lang/String", name := "length", desc := "()I" } : Jvm.MethodName) jdk_42_method_54_code (1 : Nat) (Option.some Jvm.ClassFile.FieldType.int)).before args0 about1 = true := code_word (m := ⟨7, 2⟩) (meth := k7m2) (c := k7c2) (by decide +kernel) rfl rfl rfl (by decide +kernel)
set_option maxRecDepth 65536 in
theorem w_c21 : (Jvm.Cond.code ({ cls := "java/lang/String", name := "coder", desc := "()B" } : Jvm.MethodName) jdk_42_method_152_code (1 : Nat) (Option.some Jvm.ClassFile.FieldType.byte)).before args0 about1 = true := code_word (m := ⟨7, 4⟩) (meth := k7m4) (c := k7c4) (by decide +kernel) rfl rfl rfl (by decide +kernel)
set_option maxRecDepth 65536 in
theorem w_c22 : (Jvm.Cond.code ({ cls := "com/example/markup_reader/markupreader/reader/Dtd", name := "declareStandalone", desc := "()V" } : Jvm.MethodName) prog_77_method_8_code (1 : Nat) (Option.none : Option Jvm.ClassFile.FieldType)).before args0 about1 = true := code_word (m := ⟨9, 2⟩) (meth := k9m2) (c := k9c2) (by decide +kernel) rfl rfl rfl (by decide +kernel)
set_option maxRecDepth 65536 in
theorem w_c23 : (Jvm.Cond.code ({ cls := "com/example/markup_reader/markupreader/reader/Entity$ExternalId", name := "<init>", desc := "(Ljava/lang/String;Ljava/lang/String;)V" } : Jvm.MethodName) prog_89_method_1_code (3 : Nat) (Option.none : Option Jvm.ClassFile.FieldType)).before args0 about1 = true := code_word (m := ⟨27, 0⟩) (meth := k27m0) (c := k27c0) (by decide +kernel) rfl rfl rfl (by decide +kernel)
set_option maxRecDepth 65536 in
theorem w_c24 : (Jvm.Cond.code ({ cls := "java/lang/Record", name := "<init>", desc := "()V" } : Jvm.MethodName) jdk_30_method_1_code (1 : Nat) (Option.none : Option Jvm.ClassFile.FieldType)).before args0 about1 = true := code_word (m := ⟨26, 0⟩) (meth := k26m0) (c := k26c0) (by decide +kernel) rfl rfl rfl (by decide +kernel)
set_option maxRecDepth 65536 in
theorem w_c25 : (Jvm.Cond.code ({ cls := "com/example/markup_reader/markupreader/reader/Dtd", name := "parameterEntityNotRead", desc := "()V" } : Jvm.MethodName) prog_77_method_11_code (1 : Nat) (Option.none : Option Jvm.ClassFile.FieldType)).before args0 about1 = true := code_word (m := ⟨9, 4⟩) (meth := k9m4) (c := k9c4) (by decide +kernel) rfl rfl rfl (by decide +kernel)
set_option maxRecDepth 65536 in
theorem w_c26 : (Jvm.Cond.code ({ cls := "com/example/markup_reader/markupreader/reader/Entity$ExternalId", name := "publicId", desc := "()Ljava/lang/String;" } : Jvm.MethodName) prog_89_method_5_code (1 : Nat) (Option.some (Jvm.ClassFile.FieldType.object "java/lang/String"))).before args0 about1 = true := code_word (m := ⟨27, 1⟩) (meth := k27m1) (c := k27c1) (by decide +kernel) rfl rfl rfl (by decide +kernel)
set_option maxRecDepth 65536 in
theorem w_c27 : (Jvm.Cond.code ({ cls := "com/example/markup_reader/markupreader/reader/KeptSize", name := "length", desc := "(Ljava/lang/String;)J" } : Jvm.MethodName) prog_94_method_11_code (1 : Nat) (Option.some Jvm.ClassFile.FieldType.long)).before args0 about1 = true := code_word (m := ⟨25, 2⟩) (meth := k25m2) (c := k25c2) (by decide +kernel) rfl rfl rfl (by decide +kernel)
set_option maxRecDepth 65536 in
theorem w_c28 : (Jvm.Cond.code ({ cls := "com/example/markup_reader/markupreader/reader/Entity$ExternalId", name := "systemId", desc := "()Ljava/lang/String;" } : Jvm.MethodName) prog_89_method_6_code (1 : Nat) (Option.some (Jvm.ClassFile.FieldType.object "java/lang/String"))).before args0 about1 = true := code_word (m := ⟨27, 2⟩) (meth := k27m2) (c := k27c2) (by decide +kernel) rfl rfl rfl (by decide +kernel)
def codes1 : List Jvm.Cond := [Jvm.Cond.code x code maxLocals ret, Jvm.Cond.code ({ cls := "java/lang/String", name := "<init>", desc := "([C)V" } : Jvm.MethodName) jdk_42_method_3_code (2 : Nat) (Option.none : Option Jvm.ClassFile.FieldType), Jvm.Cond.code ({ cls := "java/lang/String", name := "<init>", desc := "([CIILjava/lang/Void;)V" } : Jvm.MethodName) jdk_42_method_149_code (6 : Nat) (Option.none : Option Jvm.ClassFile.FieldType), Jvm.Cond.code ({ cls := "java/lang/Object", name := "<init>", desc := "()V" } : Jvm.MethodName) object_method_1_code (1 : Nat) (Option.none : Option Jvm.ClassFile.FieldType), Jvm.Cond.code ({ cls := "java/lang/StringUTF16", name := "compress", desc := "([CII)[B" } : Jvm.MethodName) jdk_52_method_16_code (6 : Nat) (Option.some (Jvm.ClassFile.FieldType.array Jvm.ClassFile.FieldType.byte)), Jvm.Cond.code ({ cls := "java/lang/StringUTF16", name := "compress", desc := "([CI[BII)I" } : Jvm.MethodName) jdk_52_method_21_code (7 : Nat) (Option.some Jvm.ClassFile.FieldType.int), Jvm.Cond.code ({ cls := "java/lang/StringUTF16", name := "coderFromArrayLen", desc := "([BI)B" } : Jvm.MethodName) jdk_52_method_15_code (2 : Nat) (Option.some Jvm.ClassFile.FieldType.byte), Jvm.Cond.code ({ cls := "com/example/markup_reader/markupreader/reader/Dtd", name := "<init>", desc := "(Z)V" } : Jvm.MethodName) prog_77_method_1_code (2 : Nat) (Option.none : Option Jvm.ClassFile.FieldType), Jvm.Cond.code ({ cls := "com/example/markup_reader/markupreader/reader/Declarations", name := "<init>", desc := "()V" } : Jvm.MethodName) prog_76_method_1_code (1 : Nat) (Option.none : Option Jvm.ClassFile.FieldType), Jvm.Cond.code ({ cls := "java/util/HashMap", name := "<init>", desc := "()V" } : Jvm.MethodName) jdk_69_method_7_code (1 : Nat) (Option.none : Option Jvm.ClassFile.FieldType), Jvm.Cond.code ({ cls := "java/util/AbstractMap", name := "<init>", desc := "()V" } : Jvm.MethodName) jdk_71_method_1_code (1 : Nat) (Option.none : Option Jvm.ClassFile.FieldType), Jvm.Cond.code ({ cls := "java/util/LinkedHashMap", name := "<init>", desc := "()V" } : Jvm.MethodName) jdk_94_method_16_code (1 : Nat) (Option.none : Option Jvm.ClassFile.FieldType), Jvm.Cond.code ({ cls := "java/util/ArrayList", name := "<init>", desc := "()V" } : Jvm.MethodName) jdk_38_method_2_code (1 : Nat) (Option.none : Option Jvm.ClassFile.FieldType), Jvm.Cond.code ({ cls := "java/util/AbstractList", name := "<init>", desc := "()V" } : Jvm.MethodName) jdk_39_method_1_code (1 : Nat) (Option.none : Option Jvm.ClassFile.FieldType), Jvm.Cond.code ({ cls := "java/util/AbstractCollection", name := "<init>", desc := "()V" } : Jvm.MethodName) jdk_22_method_1_code (1 : Nat) (Option.none : Option Jvm.ClassFile.FieldType), Jvm.Cond.code ({ cls := "com/example/markup_reader/markupreader/reader/Dtd", name := "entitiesMustBeDeclared", desc := "()Z" } : Jvm.MethodName) prog_77_method_12_code (1 : Nat) (Option.some Jvm.ClassFile.FieldType.boolean), Jvm.Cond.code ({ cls := "com/example/markup_reader/markupreader/reader/DtdEntitiesMustBeDeclaredPinLaw", name := "expected", desc := "(ZZZZ)Z" } : Jvm.MethodName) method_2_code (4 : Nat) (Option.some Jvm.ClassFile.FieldType.boolean), Jvm.Cond.code ({ cls := "com/example/markup_reader/markupreader/reader/Dtd", name := "parameterReferenced", desc := "()V" } : Jvm.MethodName) prog_77_method_10_code (1 : Nat) (Option.none : Option Jvm.ClassFile.FieldType), Jvm.Cond.code ({ cls := "com/example/markup_reader/markupreader/reader/Dtd", name := "start", desc := "(Ljava/lang/String;Lcom/example/markup_reader/markupreader/reader/Entity$ExternalId;)V" } : Jvm.MethodName) prog_77_method_3_code (3 : Nat) (Option.none : Option Jvm.ClassFile.FieldType), Jvm.Cond.code ({ cls := "com/example/markup_reader/markupreader/reader/KeptSize", name := "doctype", desc := "(Ljava/lang/String;Lcom/example/markup_reader/markupreader/reader/Entity$ExternalId;)J" } : Jvm.MethodName) prog_94_method_2_code (4 : Nat) (Option.some Jvm.ClassFile.FieldType.long), Jvm.Cond.code ({ cls := "java/lang/String", name := "length", desc := "()I" } : Jvm.MethodName) jdk_42_method_54_code (1 : Nat) (Option.some Jvm.ClassFile.FieldType.int), Jvm.Cond.code ({ cls := "java/lang/String", name := "coder", desc := "()B" } : Jvm.MethodName) jdk_42_method_152_code (1 : Nat) (Option.some Jvm.ClassFile.FieldType.byte), Jvm.Cond.code ({ cls := "com/example/markup_reader/markupreader/reader/Dtd", name := "declareStandalone", desc := "()V" } : Jvm.MethodName) prog_77_method_8_code (1 : Nat) (Option.none : Option Jvm.ClassFile.FieldType), Jvm.Cond.code ({ cls := "com/example/markup_reader/markupreader/reader/Entity$ExternalId", name := "<init>", desc := "(Ljava/lang/String;Ljava/lang/String;)V" } : Jvm.MethodName) prog_89_method_1_code (3 : Nat) (Option.none : Option Jvm.ClassFile.FieldType), Jvm.Cond.code ({ cls := "java/lang/Record", name := "<init>", desc := "()V" } : Jvm.MethodName) jdk_30_method_1_code (1 : Nat) (Option.none : Option Jvm.ClassFile.FieldType), Jvm.Cond.code ({ cls := "com/example/markup_reader/markupreader/reader/Dtd", name := "parameterEntityNotRead", desc := "()V" } : Jvm.MethodName) prog_77_method_11_code (1 : Nat) (Option.none : Option Jvm.ClassFile.FieldType), Jvm.Cond.code ({ cls := "com/example/markup_reader/markupreader/reader/Entity$ExternalId", name := "publicId", desc := "()Ljava/lang/String;" } : Jvm.MethodName) prog_89_method_5_code (1 : Nat) (Option.some (Jvm.ClassFile.FieldType.object "java/lang/String")), Jvm.Cond.code ({ cls := "com/example/markup_reader/markupreader/reader/KeptSize", name := "length", desc := "(Ljava/lang/String;)J" } : Jvm.MethodName) prog_94_method_11_code (1 : Nat) (Option.some Jvm.ClassFile.FieldType.long), Jvm.Cond.code ({ cls := "com/example/markup_reader/markupreader/reader/Entity$ExternalId", name := "systemId", desc := "()Ljava/lang/String;" } : Jvm.MethodName) prog_89_method_6_code (1 : Nat) (Option.some (Jvm.ClassFile.FieldType.object "java/lang/String"))]
set_option maxRecDepth 65536 in
theorem codes_eq : words1.filter isCode = codes1 := rfl
theorem w_codes : ∀ c ∈ words1.filter isCode, c.before args0 about1 = true := by
  rw [codes_eq]
  intro c hc
  simp only [codes1, List.mem_cons, List.not_mem_nil, or_false] at hc
  rcases hc with rfl | rfl | rfl | rfl | rfl | rfl | rfl | rfl | rfl | rfl | rfl | rfl | rfl | rfl | rfl | rfl | rfl | rfl | rfl | rfl | rfl | rfl | rfl | rfl | rfl | rfl | rfl | rfl | rfl
  · exact w_c0
  · exact w_c1
  · exact w_c2
  · exact w_c3
  · exact w_c4
  · exact w_c5
  · exact w_c6
  · exact w_c7
  · exact w_c8
  · exact w_c9
  · exact w_c10
  · exact w_c11
  · exact w_c12
  · exact w_c13
  · exact w_c14
  · exact w_c15
  · exact w_c16
  · exact w_c17
  · exact w_c18
  · exact w_c19
  · exact w_c20
  · exact w_c21
  · exact w_c22
  · exact w_c23
  · exact w_c24
  · exact w_c25
  · exact w_c26
  · exact w_c27
  · exact w_c28
set_option maxRecDepth 65536 in
theorem w_t1 : (words1.take 24).all (fun c => isCode c || c.before args0 about1) = true := by decide +kernel
set_option maxRecDepth 65536 in
theorem w_t2 : ((words1.drop 24).take 24).all (fun c => isCode c || c.before args0 about1) = true := by decide +kernel
set_option maxRecDepth 65536 in
theorem w_t3 : (((words1.drop 24).drop 24).take 24).all (fun c => isCode c || c.before args0 about1) = true := by decide +kernel
set_option maxRecDepth 65536 in
theorem w_t4 : ((((words1.drop 24).drop 24).drop 24).take 24).all (fun c => isCode c || c.before args0 about1) = true := by decide +kernel
set_option maxRecDepth 65536 in
theorem w_t5 : (((((words1.drop 24).drop 24).drop 24).drop 24).take 24).all (fun c => isCode c || c.before args0 about1) = true := by decide +kernel
set_option maxRecDepth 65536 in
theorem w_t6 : ((((((words1.drop 24).drop 24).drop 24).drop 24).drop 24).take 24).all (fun c => isCode c || c.before args0 about1) = true := by decide +kernel
set_option maxRecDepth 65536 in
theorem w_t7 : (((((((words1.drop 24).drop 24).drop 24).drop 24).drop 24).drop 24).take 24).all (fun c => isCode c || c.before args0 about1) = true := by decide +kernel
set_option maxRecDepth 65536 in
theorem w_t8 : ((((((((words1.drop 24).drop 24).drop 24).drop 24).drop 24).drop 24).drop 24).take 24).all (fun c => isCode c || c.before args0 about1) = true := by decide +kernel
set_option maxRecDepth 65536 in
theorem w_t9 : ((((((((words1.drop 24).drop 24).drop 24).drop 24).drop 24).drop 24).drop 24).drop 24).all (fun c => isCode c || c.before args0 about1) = true := by decide +kernel
theorem w_tables : (allAtoms (Jvm.Cond.code x code maxLocals ret :: tables_1)).before args0 about1 = true := by
  rw [allAtoms_all]
  show words1.all (fun c => c.before args0 about1) = true
  refine all_split ?_ w_codes
  rw [← List.take_append_drop 24 words1, List.all_append, w_t1, ← List.take_append_drop 24 (words1.drop 24), List.all_append, w_t2, ← List.take_append_drop 24 ((words1.drop 24).drop 24), List.all_append, w_t3, ← List.take_append_drop 24 (((words1.drop 24).drop 24).drop 24), List.all_append, w_t4, ← List.take_append_drop 24 ((((words1.drop 24).drop 24).drop 24).drop 24), List.all_append, w_t5, ← List.take_append_drop 24 (((((words1.drop 24).drop 24).drop 24).drop 24).drop 24), List.all_append, w_t6, ← List.take_append_drop 24 ((((((words1.drop 24).drop 24).drop 24).drop 24).drop 24).drop 24), List.all_append, w_t7, ← List.take_append_drop 24 (((((((words1.drop 24).drop 24).drop 24).drop 24).drop 24).drop 24).drop 24), List.all_append, w_t8, w_t9]
  rfl
set_option maxRecDepth 65536 in
theorem w_rest : rest_1_c.before args0 about1 = true := by decide +kernel
set_option maxRecDepth 65536 in
theorem w_case : (Jvm.Cond.and given_1 narrow_1).before args0 about1 = true := by decide +kernel
theorem w_applies : (headSpec (Jvm.Cond.code x code maxLocals ret :: tables_1) room_1).applies x e0.platform about1 = true :=
  (Spec.applies_iff w_frames).mpr ⟨w_running, w_runnable, w_alone, w_named, w_hears, w_ripe, w_room, w_tables⟩
theorem atStart : AtStart classFile x code maxLocals ret World_1 tables_1 room_1 Calls_1 rest_1 Pre_1 launch0 p0 e0 about1 theMethod args0 below0 :=
  ⟨lists_1, trivial, launch0.admits_env _ _ _, launch0.least_env, fairChoices_fair.cas, fairChoices_fair.clock, w_frames, w_args, w_heap, w_applies, trivial, w_rest, w_case⟩
end start1
theorem witness_1 : WitnessClaimed_1 := ⟨start1.p0, start1.e0, start1.about1, start1.theMethod, start1.args0, start1.below0, start1.atStart⟩
end Jvm.Pilot.@@N@@
