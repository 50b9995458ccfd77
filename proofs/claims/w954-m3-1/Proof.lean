import JvmDerived
import JvmDerived.Pilot.@@N@@Statement
import JvmDerived.Pilot.@@N@@Code
set_option linter.unusedVariables false
set_option linter.unusedSimpArgs false
/- laws to paste: Road.backV, Road.codOf (cut by pick.py; bodies as the Statement names them) -/
namespace Jvm.Pilot.@@N@@
namespace StrChars
open Jvm Sem ClassFile Op Lib Jvm.Stand Jvm.Free.XT Jvm.Free.ALB Jvm.Free.JM Jvm.Free
open Jvm.Lib.Cold (StaticIs)
/-- a char array whose places are chars -/
def Ch (a : Addr) (A : Cell) (U : State) : Prop := Arr .char a A U ∧ Typed .char A
theorem Ch.mv {a : Addr} {A : Cell} {U U' : State} (h : Ch a A U) (hal : U.vm.Alike U'.vm) (hh : U'.heap = U.heap) : Ch a A U' := ⟨h.1.mv hal hh, h.2⟩
theorem Ch.keep {a : Addr} {A : Cell} {U U' : State} (h : Ch a A U) (hal : U.vm.Alike U'.vm) (hk : U'.heap[a]? = some A) : Ch a A U' := ⟨h.1.keep hal hk, h.2⟩
/-- what place i of a char[]'s cell holds -/
def cv (A : Cell) (i : Nat) : Int32 := match A.slots[i]? with | some (.int x) => x | _ => 0
theorem Ch.get {a : Addr} {A : Cell} {U : State} (h : Ch a A U) {i : Nat} (hi : i < A.slots.size) : A.slots[i]? = some (.int (cv A i)) := by
  have e := Array.getElem?_eq_getElem hi
  have f := h.2 i _ e
  unfold cv; rw [e]
  generalize A.slots[i] = v at f
  cases v <;> simp [fits] at f ⊢
/-- the byte that i2b leaves of a char -/
def lo8 (x : Int32) : Int32 := x.toInt8.toInt32
theorem fits_lo8 (y : Int32) : fits .byte (.int (lo8 y)) = true := by
  have h1 := y.toInt8.le_toInt
  have h2 := y.toInt8.toInt_lt
  simp only [lo8, fits, Bool.and_eq_true, decide_eq_true_eq, Int32.le_iff_toInt_le, Int8.toInt_toInt32, show (-128 : Int32).toInt = -128 from by decide, show (127 : Int32).toInt = 127 from by decide]
  omega
/-- A' is A but that each place j of lo .. hi - 1 holds f j -/
def Laid (A A' : Cell) (lo hi : Nat) (f : Nat → Value) : Prop := A'.cls = A.cls ∧ A'.vm = A.vm ∧ A'.slots.size = A.slots.size ∧ ∀ i, A'.slots[i]? = if lo ≤ i ∧ i < hi then some (f i) else A.slots[i]?
theorem Laid.zero (A : Cell) (lo : Nat) (f : Nat → Value) : Laid A A lo (lo + 0) f := ⟨rfl, rfl, rfl, fun i => by rw [if_neg (by omega)]⟩
theorem Laid.step {A Ak : Cell} {lo k : Nat} {f : Nat → Value} {v : Value} (h : Laid A Ak lo k f) (hlo : lo ≤ k) (hk : k < Ak.slots.size) (hv : v = f k) : Laid A (Ak.setSlot k v) lo (k + 1) f := by
  refine ⟨h.1, h.2.1, by simpa [Cell.setSlot] using h.2.2.1, fun i => ?_⟩
  by_cases e : k = i
  · subst e; rw [Cell.slots_setSlot_self v hk, if_pos (by omega), hv]
  · rw [Cell.slots_setSlot_ne v e, h.2.2.2 i]
    by_cases q : lo ≤ i ∧ i < k
    · rw [if_pos q, if_pos (by omega)]
    · rw [if_neg q, if_neg (by omega)]
def U16 : String := "java/lang/StringUTF16"
namespace Cmp5
def yN : MethodName := ⟨"java/lang/StringUTF16", "compress", "([CI[BII)I"⟩
abbrev yB : ByteArray := jdk_52_method_21_code
theorem d0 : decode yB 0 = .ok (.iconst 0, 1) := by decide +kernel
theorem d1 : decode yB 1 = .ok (.istore 5, 2) := by decide +kernel
theorem d3 : decode yB 3 = .ok (.iload 5, 2) := by decide +kernel
theorem d5 : decode yB 5 = .ok (.iload 4, 2) := by decide +kernel
theorem d7 : decode yB 7 = .ok (.if_icmp (.ge) 37, 3) := by decide +kernel
theorem d10 : decode yB 10 = .ok (.aload_n 0, 1) := by decide +kernel
theorem d11 : decode yB 11 = .ok (.iload_n 1, 1) := by decide +kernel
theorem d12 : decode yB 12 = .ok (.caload, 1) := by decide +kernel
theorem d13 : decode yB 13 = .ok (.istore 6, 2) := by decide +kernel
theorem d15 : decode yB 15 = .ok (.iload 6, 2) := by decide +kernel
theorem d17 : decode yB 17 = .ok (.sipush 255, 3) := by decide +kernel
theorem d20 : decode yB 20 = .ok (.if_icmp (.le) 6, 3) := by decide +kernel
theorem d26 : decode yB 26 = .ok (.aload_n 2, 1) := by decide +kernel
theorem d27 : decode yB 27 = .ok (.iload_n 3, 1) := by decide +kernel
theorem d28 : decode yB 28 = .ok (.iload 6, 2) := by decide +kernel
theorem d30 : decode yB 30 = .ok (.i2b, 1) := by decide +kernel
theorem d31 : decode yB 31 = .ok (.bastore, 1) := by decide +kernel
theorem d32 : decode yB 32 = .ok (.iinc 1 1, 3) := by decide +kernel
theorem d35 : decode yB 35 = .ok (.iinc 3 1, 3) := by decide +kernel
theorem d38 : decode yB 38 = .ok (.iinc 5 1, 3) := by decide +kernel
theorem d41 : decode yB 41 = .ok (.goto (-38), 3) := by decide +kernel
theorem d44 : decode yB 44 = .ok (.iload 4, 2) := by decide +kernel
theorem d46 : decode yB 46 = .ok (.ireturn, 1) := by decide +kernel
def site : List Cond := []
def tab : Cond := tabOf yN yB 7 (some .int) site
def P (b : Addr) (A : Cell) (d : Addr) (B : Cell) (o q len : Nat) (args : Array Value) (s : State) : Prop := args = #[.ref b, .int (Int32.ofNat o), .ref d, .int (Int32.ofNat q), .int (Int32.ofNat len)] ∧ Ch b A s ∧ Arr .byte d B s ∧ b ≠ d ∧ o + len ≤ A.slots.size ∧ q + len ≤ B.slots.size ∧ ∀ i, i < len → ¬ 255 < cv A (o + i)
def E (b : Addr) (A : Cell) (d : Addr) (B : Cell) (o q len : Nat) (r : Option Value) (s u : State) : Prop := r = some (.int (Int32.ofNat len)) ∧ ∃ B', Put d B' s u ∧ Laid B B' q (q + len) (fun j => Value.int (lo8 (cv A (o + (j - q)))))
/-- no char of the range above 255: len; the places written hold each char's low byte -/
theorem law (l : Launch) (b : Addr) (A : Cell) (d : Addr) (B : Cell) (o q len : Nat) : Law l yN 5 5 0 0 yB 7 (some .int) site (P b A d B o q len) (E b A d B o q len) (copyLocs d q len) 0 0 := by
  refine Law.of_walk (plainFor_of_name (by decide +kernel)) (by decide +kernel) (by decide +kernel) (by decide) (fun _ _ h => by rw [h.1]; rfl) (fun _ U U' hal hh h => ⟨h.1, h.2.1.mv hal hh, h.2.2.1.mv hal hh, h.2.2.2⟩) (fun r U U' V V' h1 hal h2 h => ⟨h.1, h.2.elim fun B' q => ⟨B', q.1.mv h1 h2, q.2⟩⟩) ?_
  intro p e s m args below meth c s₁ X0 hexec hbytes hml hret hlk hnm hown hh0 W hP
  obtain ⟨rfl, hA, hB, hne, l1, l2, hp⟩ := hP
  have c1 : Steps p.tables e below (s₁.setTop (entryFrame m #[.ref b, .int (Int32.ofNat o), .ref d, .int (Int32.ofNat q), .int (Int32.ofNat len)] 7)) (s₁.setTop (mkF m 0 #[.val (.ref b), .val (.int (Int32.ofNat o)), .val (.ref d), .val (.int (Int32.ofNat q)), .val (.int (Int32.ofNat len)), .unset, .unset] [])) := entry rfl
  have hA0 := hA.1.mv X0.warmed.alike hh0
  have hB0 := hB.mv X0.warmed.alike hh0
  have a31 := hA.1.2.2.2
  have c2 : Steps p.tables e below (s₁.setTop (entryFrame m #[.ref b, .int (Int32.ofNat o), .ref d, .int (Int32.ofNat q), .int (Int32.ofNat len)] 7)) (s₁.setTop (mkF m 3 #[.val (.ref b), .val (.int (Int32.ofNat o)), .val (.ref d), .val (.int (Int32.ofNat q)), .val (.int (Int32.ofNat len)), .val (.int 0), .unset] [])) := c1.trans (by
    refine iconstV X0.here hexec rfl 0 (hb hbytes d0) (by decide) ?_
    refine XS.istore X0.here hexec rfl (hb hbytes d1) rfl rfl ?_
    exact Steps.refl _)
  have loop : ∀ (r i : Nat), i + r = len → ∀ (z : Slot), (z = .unset ∨ ∃ w, z = .val w ∧ w.category = 1) → ∀ (Tl : State) (Bk : Cell), Stand p l e { frames := 0, locals := 0, cells := 0, slots := 0 } s m #[.ref b, .int (Int32.ofNat o), .ref d, .int (Int32.ofNat q), .int (Int32.ofNat len)] below meth c Tl ([] ++ copyLocs d q i) 0 0 → Put d Bk s₁ Tl → Laid B Bk q (q + i) (fun j => Value.int (lo8 (cv A (o + (j - q))))) →
      Steps p.tables e below (s₁.setTop (entryFrame m #[.ref b, .int (Int32.ofNat o), .ref d, .int (Int32.ofNat q), .int (Int32.ofNat len)] 7)) (Tl.setTop (mkF m 3 #[.val (.ref b), .val (.int (Int32.ofNat (o + i))), .val (.ref d), .val (.int (Int32.ofNat (q + i))), .val (.int (Int32.ofNat len)), .val (.int (Int32.ofNat i)), z] [])) → ∃ (T' : State) (B' : Cell) (z' : Slot), Stand p l e { frames := 0, locals := 0, cells := 0, slots := 0 } s m #[.ref b, .int (Int32.ofNat o), .ref d, .int (Int32.ofNat q), .int (Int32.ofNat len)] below meth c T' ([] ++ copyLocs d q len) 0 0 ∧ Put d B' s₁ T' ∧ Laid B B' q (q + len) (fun j => Value.int (lo8 (cv A (o + (j - q))))) ∧
      Steps p.tables e below (s₁.setTop (entryFrame m #[.ref b, .int (Int32.ofNat o), .ref d, .int (Int32.ofNat q), .int (Int32.ofNat len)] 7)) (T'.setTop (mkF m 3 #[.val (.ref b), .val (.int (Int32.ofNat (o + len))), .val (.ref d), .val (.int (Int32.ofNat (q + len))), .val (.int (Int32.ofNat len)), .val (.int (Int32.ofNat len)), z'] [])) := by
    intro r
    induction r with
    | zero =>
      intro i hi z hz Tl Bk Xl pl fl cl
      have hil : i = len := by omega
      rw [hil] at Xl fl cl
      exact ⟨Tl, Bk, z, Xl, pl, fl, cl⟩
    | succ r ih =>
      intro i hi z hz Tl Bk Xl pl fl cl
      have all := X0.warmed.alike.symm.trans Xl.warmed.alike
      have hAl := hA0.keep all (pl.other hne hA0.1)
      have hBk := hB0.like all pl.1 fl.1 fl.2.1 fl.2.2.1
      have hlt : q + i < Bk.slots.size := by rw [fl.2.2.1]; omega
      have c3 : Steps p.tables e below (s₁.setTop (entryFrame m #[.ref b, .int (Int32.ofNat o), .ref d, .int (Int32.ofNat q), .int (Int32.ofNat len)] 7)) (Tl.setTop (mkF m 12 #[.val (.ref b), .val (.int (Int32.ofNat (o + i))), .val (.ref d), .val (.int (Int32.ofNat (q + i))), .val (.int (Int32.ofNat len)), .val (.int (Int32.ofNat i)), z] [.int (Int32.ofNat (o + i)), .ref b])) := cl.trans (by
        refine XS.iload Xl.here hexec rfl (hb hbytes d3) rfl ?_
        refine XS.iload Xl.here hexec rfl (hb hbytes d5) rfl ?_
        refine XS.icmpNo Xl.here hexec rfl (hb hbytes d7) rfl (ii_ge_f (lt32 (by omega) (by omega))) ?_
        refine XS.aloadN Xl.here hexec rfl (hb hbytes d10) rfl rfl ?_
        refine XS.iloadN Xl.here hexec rfl (hb hbytes d11) rfl ?_
        exact Steps.refl _)
      have c4 : Steps p.tables e below (s₁.setTop (entryFrame m #[.ref b, .int (Int32.ofNat o), .ref d, .int (Int32.ofNat q), .int (Int32.ofNat len)] 7)) (Tl.setTop (mkF m 13 #[.val (.ref b), .val (.int (Int32.ofNat (o + i))), .val (.ref d), .val (.int (Int32.ofNat (q + i))), .val (.int (Int32.ofNat len)), .val (.int (Int32.ofNat i)), z] [.int (cv A (o + i))])) := c3.trans (by
        refine Xl.aget hexec hAl rfl (hA.get (i := o + i) (by omega)) rfl rfl (hb hbytes d12) ?_
        exact Steps.refl _)
      have c5 : Steps p.tables e below (s₁.setTop (entryFrame m #[.ref b, .int (Int32.ofNat o), .ref d, .int (Int32.ofNat q), .int (Int32.ofNat len)] 7)) (Tl.setTop (mkF m 15 #[.val (.ref b), .val (.int (Int32.ofNat (o + i))), .val (.ref d), .val (.int (Int32.ofNat (q + i))), .val (.int (Int32.ofNat len)), .val (.int (Int32.ofNat i)), .val (.int (cv A (o + i)))] [])) := c4.trans (by
        refine XS.istoreS Xl.here hexec rfl (hb hbytes d13) rfl rfl hz ?_
        exact Steps.refl _)
      have c6 : Steps p.tables e below (s₁.setTop (entryFrame m #[.ref b, .int (Int32.ofNat o), .ref d, .int (Int32.ofNat q), .int (Int32.ofNat len)] 7)) (Tl.setTop (mkF m 31 #[.val (.ref b), .val (.int (Int32.ofNat (o + i))), .val (.ref d), .val (.int (Int32.ofNat (q + i))), .val (.int (Int32.ofNat len)), .val (.int (Int32.ofNat i)), .val (.int (cv A (o + i)))] [.int (lo8 (cv A (o + i))), .int (Int32.ofNat (q + i)), .ref d])) := c5.trans (by
        refine XS.iload Xl.here hexec rfl (hb hbytes d15) rfl ?_
        refine sipushV Xl.here hexec rfl 255 (hb hbytes d17) (by decide) ?_
        refine XS.icmpYes Xl.here hexec rfl (pc0 := 20) rfl (hb hbytes d20) rfl (ii_le_t (hp i (by omega))) (by decide) rfl ?_
        refine XS.aloadN Xl.here hexec rfl (hb hbytes d26) rfl rfl ?_
        refine XS.iloadN Xl.here hexec rfl (hb hbytes d27) rfl ?_
        refine XS.iload Xl.here hexec rfl (hb hbytes d28) rfl ?_
        refine i2b Xl.here hexec rfl (hb hbytes d30) rfl ?_
        exact Steps.refl _)
      obtain ⟨T7, X7, p7, st7⟩ := Xl.aput hexec hBk rfl hlt rfl (fits_lo8 (cv A (o + i))) (g := (mkF m 31 #[.val (.ref b), .val (.int (Int32.ofNat (o + i))), .val (.ref d), .val (.int (Int32.ofNat (q + i))), .val (.int (Int32.ofNat len)), .val (.int (Int32.ofNat i)), .val (.int (cv A (o + i)))] [.int (lo8 (cv A (o + i))), .int (Int32.ofNat (q + i)), .ref d])) rfl (rest := []) rfl (hb hbytes d31)
      have c8 : Steps p.tables e below (s₁.setTop (entryFrame m #[.ref b, .int (Int32.ofNat o), .ref d, .int (Int32.ofNat q), .int (Int32.ofNat len)] 7)) (T7.setTop (mkF m 32 #[.val (.ref b), .val (.int (Int32.ofNat (o + i))), .val (.ref d), .val (.int (Int32.ofNat (q + i))), .val (.int (Int32.ofNat len)), .val (.int (Int32.ofNat i)), .val (.int (cv A (o + i)))] [])) := c6.trans (st7 _ (Steps.refl _))
      have c9 : Steps p.tables e below (s₁.setTop (entryFrame m #[.ref b, .int (Int32.ofNat o), .ref d, .int (Int32.ofNat q), .int (Int32.ofNat len)] 7)) (T7.setTop (mkF m 3 #[.val (.ref b), .val (.int (Int32.ofNat (o + i) + 1)), .val (.ref d), .val (.int (Int32.ofNat (q + i) + 1)), .val (.int (Int32.ofNat len)), .val (.int (Int32.ofNat i + 1)), .val (.int (cv A (o + i)))] [])) := c8.trans (by
        refine iincV X7.here hexec rfl 1 (hb hbytes d32) (by decide) rfl rfl ?_
        refine iincV X7.here hexec rfl 1 (hb hbytes d35) (by decide) rfl rfl ?_
        refine iincV X7.here hexec rfl 1 (hb hbytes d38) (by decide) rfl rfl ?_
        refine XS.goto X7.here hexec rfl (pc0 := 41) rfl (hb hbytes d41) (by decide) rfl ?_
        exact Steps.refl _)
      have c10 : Steps p.tables e below (s₁.setTop (entryFrame m #[.ref b, .int (Int32.ofNat o), .ref d, .int (Int32.ofNat q), .int (Int32.ofNat len)] 7)) (T7.setTop (mkF m 3 #[.val (.ref b), .val (.int (Int32.ofNat (o + (i + 1)))), .val (.ref d), .val (.int (Int32.ofNat (q + (i + 1)))), .val (.int (Int32.ofNat len)), .val (.int (Int32.ofNat (i + 1))), .val (.int (cv A (o + i)))] [])) := by
        have := c9
        rw [succ32, succ32, succ32] at this
        exact this
      exact ih (i + 1) (by omega) _ (Or.inr ⟨_, rfl, rfl⟩) T7 _ (by rw [copyLocs_step, ← List.append_assoc]; exact X7) (pl.trans p7) (fl.step (by omega) hlt (by simp)) c10
  obtain ⟨T9, B9, z9, X9, p9, f9, g9⟩ := loop len 0 (by omega) .unset (Or.inl rfl) s₁ B (by simpa [copyLocs] using X0) ⟨hB0.1, fun _ _ => rfl, rfl⟩ (Laid.zero _ _ _) c2
  have c11 : Steps p.tables e below (s₁.setTop (entryFrame m #[.ref b, .int (Int32.ofNat o), .ref d, .int (Int32.ofNat q), .int (Int32.ofNat len)] 7)) (T9.setTop (mkF m 46 #[.val (.ref b), .val (.int (Int32.ofNat (o + len))), .val (.ref d), .val (.int (Int32.ofNat (q + len))), .val (.int (Int32.ofNat len)), .val (.int (Int32.ofNat len)), z9] [.int (Int32.ofNat len)])) := g9.trans (by
    refine XS.iload X9.here hexec rfl (hb hbytes d3) rfl ?_
    refine XS.iload X9.here hexec rfl (hb hbytes d5) rfl ?_
    refine XS.icmpYes X9.here hexec rfl (pc0 := 7) rfl (hb hbytes d7) rfl (ii_ge_t (nlt32 (by omega) (Nat.le_refl _))) (by decide) rfl ?_
    refine XS.iload X9.here hexec rfl (hb hbytes d44) rfl ?_
    exact Steps.refl _)
  exact ⟨T9, some (.int (Int32.ofNat len)), _, _, _, X9, by simp, rfl, rfl, (fun h => by cases h), ⟨rfl, B9, p9.from hh0, f9⟩, fun fs hl => c11.trans (X9.ireturnOut hexec hret rfl (Or.inl rfl) (hb hbytes d46) hl)⟩
end Cmp5
namespace Cmp3
def yN : MethodName := ⟨"java/lang/StringUTF16", "compress", "([CII)[B"⟩
abbrev yB : ByteArray := jdk_52_method_16_code
theorem d0 : decode yB 0 = .ok (.iload_n 2, 1) := by decide +kernel
theorem d1 : decode yB 1 = .ok (.newarray .byte, 2) := by decide +kernel
theorem d3 : decode yB 3 = .ok (.astore_n 3, 1) := by decide +kernel
theorem d4 : decode yB 4 = .ok (.aload_n 0, 1) := by decide +kernel
theorem d5 : decode yB 5 = .ok (.iload_n 1, 1) := by decide +kernel
theorem d6 : decode yB 6 = .ok (.aload_n 3, 1) := by decide +kernel
theorem d7 : decode yB 7 = .ok (.iconst 0, 1) := by decide +kernel
theorem d8 : decode yB 8 = .ok (.iload_n 2, 1) := by decide +kernel
theorem d9 : decode yB 9 = .ok (.invokestatic 115, 3) := by decide +kernel
theorem d12 : decode yB 12 = .ok (.istore 4, 2) := by decide +kernel
theorem d14 : decode yB 14 = .ok (.iload 4, 2) := by decide +kernel
theorem d16 : decode yB 16 = .ok (.iload_n 2, 1) := by decide +kernel
theorem d17 : decode yB 17 = .ok (.if_icmp (.eq) 40, 3) := by decide +kernel
theorem d57 : decode yB 57 = .ok (.aload_n 3, 1) := by decide +kernel
theorem d58 : decode yB 58 = .ok (.areturn, 1) := by decide +kernel
def site : List Cond := [.arrayClass .byte, Cmp5.tab] ++ staticW U16 115 Cmp5.yN
def tab : Cond := tabOf yN yB 6 (some (.array .byte)) site
def P (b : Addr) (A : Cell) (o len : Nat) (args : Array Value) (s : State) : Prop := args = #[.ref b, .int (Int32.ofNat o), .int (Int32.ofNat len)] ∧ Ch b A s ∧ o + len ≤ A.slots.size ∧ len ≤ 536870912 ∧ ∀ i, i < len → ¬ 255 < cv A (o + i)
def E (b : Addr) (A : Cell) (o len : Nat) (r : Option Value) (s u : State) : Prop := NewArr .byte "[B" len (fun j => .int (lo8 (cv A (o + j)))) r s u ∧ u.heap.size = s.heap.size + 1
/-- no char of the range above 255: a new byte[] of their low bytes -/
theorem law (l : Launch) (b : Addr) (A : Cell) (o len : Nat) : Law l yN 3 3 1 18 yB 6 (some (.array .byte)) site (P b A o len) (E b A o len) [] 1 len := by
  refine Law.of_walk (plainFor_of_name (by decide +kernel)) (by decide +kernel) (by decide +kernel) (by decide) (fun _ _ h => by rw [h.1]; rfl) (fun _ U U' hal hh h => ⟨h.1, h.2.1.mv hal hh, h.2.2⟩) (fun r U U' V V' h1 hal h2 h => ⟨NewArr.mv r U U' V V' h1 hal h2 h.1, by rw [h1, h2]; exact h.2⟩) ?_
  intro p e s m args below meth c s₁ X0 hexec hbytes hml hret hlk hnm hown hh0 W hP
  obtain ⟨rfl, hA, l1, l2, hp⟩ := hP
  have a31 := hA.1.2.2.2
  have c1 : Steps p.tables e below (s₁.setTop (entryFrame m #[.ref b, .int (Int32.ofNat o), .int (Int32.ofNat len)] 6)) (s₁.setTop (mkF m 0 #[.val (.ref b), .val (.int (Int32.ofNat o)), .val (.int (Int32.ofNat len)), .unset, .unset, .unset] [])) := entry rfl
  have c2 : Steps p.tables e below (s₁.setTop (entryFrame m #[.ref b, .int (Int32.ofNat o), .int (Int32.ofNat len)] 6)) (s₁.setTop (mkF m 1 #[.val (.ref b), .val (.int (Int32.ofNat o)), .val (.int (Int32.ofNat len)), .unset, .unset, .unset] [.int (Int32.ofNat len)])) := c1.trans (by
    refine XS.iloadN X0.here hexec rfl (hb hbytes d0) rfl ?_
    exact Steps.refl _)
  obtain ⟨T3, B3, X3, ba3, bs3, bv3, bh3, bf3, st3⟩ := X0.anew hexec (atype := .byte) (wk W (.arrayClass .byte)) rfl (by show len * 1 ≤ _; omega) (by omega) (g := (mkF m 1 #[.val (.ref b), .val (.int (Int32.ofNat o)), .val (.int (Int32.ofNat len)), .unset, .unset, .unset] [.int (Int32.ofNat len)])) rfl (hb hbytes d1) (rest := []) rfl (Nat.le_refl _) (by show 0 + len ≤ len; omega)
  rw [hh0] at ba3 st3
  have kp3 : XT.Kept s T3 := (XT.Kept.of_eq hh0).push bh3
  have hA3 := hA.keep X3.warmed.alike (kp3 _ _ hA.1.1)
  have hne : b ≠ s.heap.size := hA.1.ne
  have c4 : Steps p.tables e below (s₁.setTop (entryFrame m #[.ref b, .int (Int32.ofNat o), .int (Int32.ofNat len)] 6)) (T3.setTop (mkF m 3 #[.val (.ref b), .val (.int (Int32.ofNat o)), .val (.int (Int32.ofNat len)), .unset, .unset, .unset] [.ref s.heap.size])) := c2.trans (st3 _ (Steps.refl _))
  have c5 : Steps p.tables e below (s₁.setTop (entryFrame m #[.ref b, .int (Int32.ofNat o), .int (Int32.ofNat len)] 6)) (T3.setTop (mkF m 9 #[.val (.ref b), .val (.int (Int32.ofNat o)), .val (.int (Int32.ofNat len)), .val (.ref s.heap.size), .unset, .unset] [.int (Int32.ofNat len), .int 0, .ref s.heap.size, .int (Int32.ofNat o), .ref b])) := c4.trans (by
    refine XS.astoreN X3.here hexec rfl (hb hbytes d3) rfl rfl rfl ?_
    refine XS.aloadN X3.here hexec rfl (hb hbytes d4) rfl rfl ?_
    refine XS.iloadN X3.here hexec rfl (hb hbytes d5) rfl ?_
    refine XS.aloadN X3.here hexec rfl (hb hbytes d6) rfl rfl ?_
    refine iconstV X3.here hexec rfl 0 (hb hbytes d7) (by decide) ?_
    refine XS.iloadN X3.here hexec rfl (hb hbytes d8) rfl ?_
    exact Steps.refl _)
  obtain ⟨v6, T6, X6, E6, g6⟩ := X3.callS hexec (Cmp5.law l b A s.heap.size B3 o 0 len) hown (wks W (staticW U16 115 Cmp5.yN)) (wk W Cmp5.tab) (W := 0) (Nat.le_of_ble_eq_true rfl) (Nat.le_of_ble_eq_true rfl) (Nat.le_refl _) (by show 0 + len + 0 ≤ len; omega) (g := (mkF m 9 #[.val (.ref b), .val (.int (Int32.ofNat o)), .val (.int (Int32.ofNat len)), .val (.ref s.heap.size), .unset, .unset] [.int (Int32.ofNat len), .int (Int32.ofNat 0), .ref s.heap.size, .int (Int32.ofNat o), .ref b])) rfl (by rw [hml]; rfl) c5 (argsL := [.ref b, .int (Int32.ofNat o), .ref s.heap.size, .int (Int32.ofNat 0), .int (Int32.ofNat len)]) (rest := []) rfl rfl (by show 2 * 0 + 0 ≤ _; decide) (hb hbytes d9) (⟨rfl, hA3, ba3, hne, l1, by rw [bs3]; simp, hp⟩)
  obtain ⟨rfl, B6, p6, f6⟩ := E6
  have c7 : Steps p.tables e below (s₁.setTop (entryFrame m #[.ref b, .int (Int32.ofNat o), .int (Int32.ofNat len)] 6)) (T6.setTop (mkF m 12 #[.val (.ref b), .val (.int (Int32.ofNat o)), .val (.int (Int32.ofNat len)), .val (.ref s.heap.size), .unset, .unset] [.int (Int32.ofNat len)])) := g6
  have c8 : Steps p.tables e below (s₁.setTop (entryFrame m #[.ref b, .int (Int32.ofNat o), .int (Int32.ofNat len)] 6)) (T6.setTop (mkF m 58 #[.val (.ref b), .val (.int (Int32.ofNat o)), .val (.int (Int32.ofNat len)), .val (.ref s.heap.size), .val (.int (Int32.ofNat len)), .unset] [.ref s.heap.size])) := c7.trans (by
    refine XS.istore X6.here hexec rfl (hb hbytes d12) rfl rfl ?_
    refine XS.iload X6.here hexec rfl (hb hbytes d14) rfl ?_
    refine XS.iloadN X6.here hexec rfl (hb hbytes d16) rfl ?_
    refine XS.icmpYes X6.here hexec rfl (pc0 := 17) rfl (hb hbytes d17) rfl (ii_eq_t rfl) (by decide) rfl ?_
    refine XS.aloadN X6.here hexec rfl (hb hbytes d57) rfl rfl ?_
    exact Steps.refl _)
  have X8 := X6.wide (L' := []) (cells' := 1) (slots' := len) (fun x hx hlt => by
    simp only [List.nil_append, copyLocs, List.mem_map, List.mem_range] at hx
    obtain ⟨i, -, rfl⟩ := hx
    exact absurd hlt (Nat.lt_irrefl _)) (Nat.le_refl _) (by omega)
  exact ⟨T6, some (.ref s.heap.size), _, _, _, X8, rfl, rfl, rfl, (fun h => by cases h), ⟨⟨rfl, B6, ba3.like (X3.warmed.alike.symm.trans X6.warmed.alike) p6.1 f6.1 f6.2.1 f6.2.2.1, f6.2.1.trans bv3, by rw [X6.warmed.alike.findClass, f6.1]; exact bf3, by rw [f6.2.2.1, bs3]; simp, fun j hj => by rw [f6.2.2.2 j, if_pos (by omega)]; rfl, kp3.put p6 (Nat.le_refl _)⟩, by rw [p6.2.2, bh3, hh0]; simp⟩, fun fs hl => c8.trans (X8.areturnOut hexec rfl hret rfl (hb hbytes d58) hl)⟩
end Cmp3
namespace CodL
def yN : MethodName := ⟨"java/lang/StringUTF16", "coderFromArrayLen", "([BI)B"⟩
abbrev yB : ByteArray := jdk_52_method_15_code
theorem d0 : decode yB 0 = .ok (.iload_n 1, 1) := by decide +kernel
theorem d1 : decode yB 1 = .ok (.aload_n 0, 1) := by decide +kernel
theorem d2 : decode yB 2 = .ok (.arraylength, 1) := by decide +kernel
theorem d3 : decode yB 3 = .ok (.isub, 1) := by decide +kernel
theorem d4 : decode yB 4 = .ok (.bipush 31, 2) := by decide +kernel
theorem d6 : decode yB 6 = .ok (.iushr, 1) := by decide +kernel
theorem d7 : decode yB 7 = .ok (.i2b, 1) := by decide +kernel
theorem d8 : decode yB 8 = .ok (.ireturn, 1) := by decide +kernel
def site : List Cond := []
def tab : Cond := tabOf yN yB 2 (some .byte) site
def P (d : Addr) (B : Cell) (args : Array Value) (s : State) : Prop := args = #[.ref d, .int (Int32.ofNat B.slots.size)] ∧ Arr .byte d B s
def E (r : Option Value) (s u : State) : Prop := XT.PureE (some (.int 0)) r s u
/-- an array as long as the number of chars: LATIN1 -/
theorem law (l : Launch) (d : Addr) (B : Cell) : Law l yN 2 2 0 0 yB 2 (some .byte) site (P d B) E [] 0 0 := by
  refine Law.of_walk (plainFor_of_name (by decide +kernel)) (by decide +kernel) (by decide +kernel) (by decide) (fun _ _ h => by rw [h.1]; rfl) (fun _ U U' hal hh h => ⟨h.1, h.2.mv hal hh⟩) (fun r U U' V V' h1 hal h2 h => XT.PureE.mv r U U' V V' h1 hal h2 h) ?_
  intro p e s m args below meth c s₁ X0 hexec hbytes hml hret hlk hnm hown hh0 W hP
  obtain ⟨rfl, hB⟩ := hP
  have hB0 := hB.mv X0.warmed.alike hh0
  have c1 : Steps p.tables e below (s₁.setTop (entryFrame m #[.ref d, .int (Int32.ofNat B.slots.size)] 2)) (s₁.setTop (mkF m 0 #[.val (.ref d), .val (.int (Int32.ofNat B.slots.size))] [])) := entry rfl
  have c2 : Steps p.tables e below (s₁.setTop (entryFrame m #[.ref d, .int (Int32.ofNat B.slots.size)] 2)) (s₁.setTop (mkF m 2 #[.val (.ref d), .val (.int (Int32.ofNat B.slots.size))] [.ref d, .int (Int32.ofNat B.slots.size)])) := c1.trans (by
    refine XS.iloadN X0.here hexec rfl (hb hbytes d0) rfl ?_
    refine XS.aloadN X0.here hexec rfl (hb hbytes d1) rfl rfl ?_
    exact Steps.refl _)
  have c3 : Steps p.tables e below (s₁.setTop (entryFrame m #[.ref d, .int (Int32.ofNat B.slots.size)] 2)) (s₁.setTop (mkF m 8 #[.val (.ref d), .val (.int (Int32.ofNat B.slots.size))] [.int (lo8 (ushr (Int32.ofNat B.slots.size - Int32.ofNat B.slots.size) 31))])) := c2.trans (by
    refine X0.alen hexec hB0 rfl rfl (hb hbytes d2) ?_
    refine XS.isub X0.here hexec rfl (hb hbytes d3) rfl ?_
    refine bipushV X0.here hexec rfl 31 (hb hbytes d4) (by decide) ?_
    refine iushr X0.here hexec rfl (hb hbytes d6) rfl ?_
    refine i2b X0.here hexec rfl (hb hbytes d7) rfl ?_
    exact Steps.refl _)
  have e0 : lo8 (ushr (Int32.ofNat B.slots.size - Int32.ofNat B.slots.size) 31) = 0 := by rw [Int32.sub_self]; decide
  rw [e0] at c3
  exact ⟨s₁, some (.int 0), _, _, _, X0, rfl, rfl, rfl, (fun h => by cases h), ⟨rfl, hh0⟩, fun fs hl => c3.trans (X0.ireturnOut hexec hret rfl (Or.inr (Or.inr (Or.inl rfl))) (hb hbytes d8) hl)⟩
end CodL
/-- the String at a is Latin-1 over a new byte[] (the heap's one new cell): the low bytes of the len chars of A from o on; every cell but a is kept -/
def Got (a : Addr) (D : Cell) (fV fC : Field) (A : Cell) (o len : Nat) (r : Option Value) (s u : State) : Prop := r = none ∧ ∃ D' V : Cell, Blank "java/lang/String" a D' u ∧ Same D D' [fV.slot, fC.slot] ∧ D'.slots[fV.slot]? = some (.ref s.heap.size) ∧ D'.slots[fC.slot]? = some (.int 0) ∧ Arr .byte s.heap.size V u ∧ V.vm = .none ∧ u.vm.findClass "[B" = some V.cls ∧ V.slots.size = len ∧ (∀ j, j < len → V.slots[j]? = some (.int (lo8 (cv A (o + j))))) ∧ (∀ (y : Addr) (c : Cell), y ≠ a → s.heap[y]? = some c → u.heap[y]? = some c) ∧ u.heap.size = s.heap.size + 1
theorem Got.mv {a : Addr} {D A : Cell} {fV fC : Field} {o len : Nat} : ∀ r (U U' V V' : State), U'.heap = U.heap → V.vm.Alike V'.vm → V'.heap = V.heap → Got a D fV fC A o len r U V → Got a D fV fC A o len r U' V' :=
  fun r U U' V V' h1 hal h2 ⟨e0, D', X, a1, a2, a3, a4, a5, a6, a7, a8, a9, a10, a11⟩ => ⟨e0, D', X, a1.mv hal h2, a2, by rw [h1]; exact a3, a4, by rw [h1]; exact a5.mv hal h2, a6, by rw [hal.findClass]; exact a7, a8, a9, by rw [h1, h2]; exact a10, by rw [h1, h2]; exact a11⟩
namespace New4
def yN : MethodName := ⟨"java/lang/String", "<init>", "([CIILjava/lang/Void;)V"⟩
abbrev yB : ByteArray := jdk_42_method_149_code
theorem d0 : decode yB 0 = .ok (.aload_n 0, 1) := by decide +kernel
theorem d1 : decode yB 1 = .ok (.invokespecial 1, 3) := by decide +kernel
theorem d4 : decode yB 4 = .ok (.iload_n 3, 1) := by decide +kernel
theorem d5 : decode yB 5 = .ok (.ifCond (.ne) 22, 3) := by decide +kernel
theorem d27 : decode yB 27 = .ok (.getstatic 38, 3) := by decide +kernel
theorem d30 : decode yB 30 = .ok (.ifCond (.eq) 28, 3) := by decide +kernel
theorem d33 : decode yB 33 = .ok (.aload_n 1, 1) := by decide +kernel
theorem d34 : decode yB 34 = .ok (.iload_n 2, 1) := by decide +kernel
theorem d35 : decode yB 35 = .ok (.iload_n 3, 1) := by decide +kernel
theorem d36 : decode yB 36 = .ok (.invokestatic 177, 3) := by decide +kernel
theorem d39 : decode yB 39 = .ok (.astore 5, 2) := by decide +kernel
theorem d41 : decode yB 41 = .ok (.aload_n 0, 1) := by decide +kernel
theorem d42 : decode yB 42 = .ok (.aload 5, 2) := by decide +kernel
theorem d44 : decode yB 44 = .ok (.iload_n 3, 1) := by decide +kernel
theorem d45 : decode yB 45 = .ok (.invokestatic 47, 3) := by decide +kernel
theorem d48 : decode yB 48 = .ok (.putfield 15, 3) := by decide +kernel
theorem d51 : decode yB 51 = .ok (.aload_n 0, 1) := by decide +kernel
theorem d52 : decode yB 52 = .ok (.aload 5, 2) := by decide +kernel
theorem d54 : decode yB 54 = .ok (.putfield 9, 3) := by decide +kernel
theorem d57 : decode yB 57 = .ok (.return_, 1) := by decide +kernel
def site : List Cond := [.fieldLink "java/lang/String" 38 "java/lang/String" "COMPACT_STRINGS" "Z", Cmp3.tab, CodL.tab, .laysFinal "java/lang/String" "java/lang/String" "value" "[B", .fieldLink "java/lang/String" 9 "java/lang/String" "value" "[B", .laysFinal "java/lang/String" "java/lang/String" "coder" "B", .fieldLink "java/lang/String" 15 "java/lang/String" "coder" "B"] ++ objW "java/lang/String" 1 ++ staticW "java/lang/String" 177 Cmp3.yN ++ staticW "java/lang/String" 47 CodL.yN
def tab : Cond := tabOf yN yB 6 none site
def P (a : Addr) (D : Cell) (fV fC : Field) (b : Addr) (A : Cell) (z : Int32) (o len : Nat) (args : Array Value) (s : State) : Prop := args = #[.ref a, .ref b, .int (Int32.ofNat o), .int (Int32.ofNat len), .null] ∧ Blank "java/lang/String" a D s ∧ Found "java/lang/String" "value" "[B" fV s ∧ Found "java/lang/String" "coder" "B" fC s ∧ Ch b A s ∧ StaticIs s "java/lang/String" "COMPACT_STRINGS" "Z" (.int z) ∧ ¬ z = 0 ∧ 0 < len ∧ o + len ≤ A.slots.size ∧ len ≤ 536870912 ∧ ∀ i, i < len → ¬ 255 < cv A (o + i)
def E (a : Addr) (D : Cell) (fV fC : Field) (A : Cell) (o len : Nat) (r : Option Value) (s u : State) : Prop := Got a D fV fC A o len r s u
/-- len > 0, no char of the range above 255: a Latin-1 String of their low bytes -/
theorem law (l : Launch) (a : Addr) (D : Cell) (fV fC : Field) (b : Addr) (A : Cell) (z : Int32) (o len : Nat) : Law l yN 5 4 2 35 yB 6 none site (P a D fV fC b A z o len) (E a D fV fC A o len) [⟨a, fC.slot⟩, ⟨a, fV.slot⟩] 1 len := by
  refine Law.of_walk (plainFor_of_name (by decide +kernel)) (by decide +kernel) (by decide +kernel) (by decide) (fun _ _ h => by rw [h.1]; rfl) (fun _ U U' hal hh h => ⟨h.1, h.2.1.mv hal hh, h.2.2.1.al hal, h.2.2.2.1.al hal, h.2.2.2.2.1.mv hal hh, h.2.2.2.2.2.1.there hal hh, h.2.2.2.2.2.2⟩) (fun r U U' V V' h1 hal h2 h => Got.mv r U U' V V' h1 hal h2 h) ?_
  intro p e s m args below meth c s₁ X0 hexec hbytes hml hret hlk hnm hown hh0 W hP
  obtain ⟨rfl, hB, f1, f2, hA, s1, hz, l0, l1, l2, hp⟩ := hP
  have a31 := hA.1.2.2.2
  have c1 : Steps p.tables e below (s₁.setTop (entryFrame m #[.ref a, .ref b, .int (Int32.ofNat o), .int (Int32.ofNat len), .null] 6)) (s₁.setTop (mkF m 0 #[.val (.ref a), .val (.ref b), .val (.int (Int32.ofNat o)), .val (.int (Int32.ofNat len)), .val .null, .unset] [])) := entry rfl
  have c2 : Steps p.tables e below (s₁.setTop (entryFrame m #[.ref a, .ref b, .int (Int32.ofNat o), .int (Int32.ofNat len), .null] 6)) (s₁.setTop (mkF m 1 #[.val (.ref a), .val (.ref b), .val (.int (Int32.ofNat o)), .val (.int (Int32.ofNat len)), .val .null, .unset] [.ref a])) := c1.trans (by
    refine XS.aloadN X0.here hexec rfl (hb hbytes d0) rfl rfl ?_
    exact Steps.refl _)
  obtain ⟨T3, X3, q3, st3⟩ := X0.oinit hexec hown (wks W (objW "java/lang/String" 1)) (g := (mkF m 1 #[.val (.ref a), .val (.ref b), .val (.int (Int32.ofNat o)), .val (.int (Int32.ofNat len)), .val .null, .unset] [.ref a])) rfl (by rw [hml]; rfl) (rest := []) rfl (hb hbytes d1) (W := 0) (by show 2 * 0 + 0 ≤ _; decide) (Nat.le_of_ble_eq_true rfl) (Nat.le_of_ble_eq_true rfl)
  have hh3 := q3.trans hh0
  have c4 : Steps p.tables e below (s₁.setTop (entryFrame m #[.ref a, .ref b, .int (Int32.ofNat o), .int (Int32.ofNat len), .null] 6)) (T3.setTop (mkF m 27 #[.val (.ref a), .val (.ref b), .val (.int (Int32.ofNat o)), .val (.int (Int32.ofNat len)), .val .null, .unset] [])) := (c2.trans (st3 _ (Steps.refl _))).trans (by
    refine XS.iloadN X3.here hexec rfl (hb hbytes d4) rfl ?_
    refine XS.ifYes X3.here hexec rfl (pc0 := 5) rfl (hb hbytes d5) rfl (i0_ne_t (nz32 (by omega) l0)) (by decide) rfl ?_
    exact Steps.refl _)
  obtain ⟨T5, X5, q5, st5⟩ := X3.sget hexec hown (wk W (.fieldLink "java/lang/String" 38 "java/lang/String" "COMPACT_STRINGS" "Z")) s1 (fun _ _ h => by rw [hh3]; exact h) (g := (mkF m 27 #[.val (.ref a), .val (.ref b), .val (.int (Int32.ofNat o)), .val (.int (Int32.ofNat len)), .val .null, .unset] [])) rfl (hb hbytes d27)
  have hh5 := q5.trans hh3
  have c6 : Steps p.tables e below (s₁.setTop (entryFrame m #[.ref a, .ref b, .int (Int32.ofNat o), .int (Int32.ofNat len), .null] 6)) (T5.setTop (mkF m 30 #[.val (.ref a), .val (.ref b), .val (.int (Int32.ofNat o)), .val (.int (Int32.ofNat len)), .val .null, .unset] [.int z])) := c4.trans (st5 _ (Steps.refl _))
  have c7 : Steps p.tables e below (s₁.setTop (entryFrame m #[.ref a, .ref b, .int (Int32.ofNat o), .int (Int32.ofNat len), .null] 6)) (T5.setTop (mkF m 36 #[.val (.ref a), .val (.ref b), .val (.int (Int32.ofNat o)), .val (.int (Int32.ofNat len)), .val .null, .unset] [.int (Int32.ofNat len), .int (Int32.ofNat o), .ref b])) := c6.trans (by
    refine XS.ifNo X5.here hexec rfl (hb hbytes d30) rfl (i0_eq_f hz) ?_
    refine XS.aloadN X5.here hexec rfl (hb hbytes d33) rfl rfl ?_
    refine XS.iloadN X5.here hexec rfl (hb hbytes d34) rfl ?_
    refine XS.iloadN X5.here hexec rfl (hb hbytes d35) rfl ?_
    exact Steps.refl _)
  obtain ⟨v8, T8, X8, E8, g8⟩ := X5.callS hexec (Cmp3.law l b A o len) hown (wks W (staticW "java/lang/String" 177 Cmp3.yN)) (wk W Cmp3.tab) (W := 0) (Nat.le_of_ble_eq_true rfl) (Nat.le_of_ble_eq_true rfl) (Nat.le_refl _) (by show 0 + len ≤ len; omega) (g := (mkF m 36 #[.val (.ref a), .val (.ref b), .val (.int (Int32.ofNat o)), .val (.int (Int32.ofNat len)), .val .null, .unset] [.int (Int32.ofNat len), .int (Int32.ofNat o), .ref b])) rfl (by rw [hml]; rfl) c7 (argsL := [.ref b, .int (Int32.ofNat o), .int (Int32.ofNat len)]) (rest := []) rfl rfl (by show 2 * 0 + 0 ≤ _; decide) (hb hbytes d36) (⟨rfl, hA.mv X5.warmed.alike hh5, l1, l2, hp⟩)
  obtain ⟨e8, z8⟩ := E8
  obtain ⟨rfl, N, n1, n2, n3, n4, n5, n6⟩ := NewArr.mv _ T5 s _ _ hh5.symm (Vm.Alike.refl _) rfl e8
  rw [hh5] at z8
  have hB1 := hB.keep X8.warmed.alike (n6 _ _ hB.1)
  have hne : s.heap.size ≠ a := (Nat.ne_of_lt (Array.getElem?_eq_some_iff.mp hB.1).1).symm
  have c9 : Steps p.tables e below (s₁.setTop (entryFrame m #[.ref a, .ref b, .int (Int32.ofNat o), .int (Int32.ofNat len), .null] 6)) (T8.setTop (mkF m 39 #[.val (.ref a), .val (.ref b), .val (.int (Int32.ofNat o)), .val (.int (Int32.ofNat len)), .val .null, .unset] [.ref s.heap.size])) := g8
  have c10 : Steps p.tables e below (s₁.setTop (entryFrame m #[.ref a, .ref b, .int (Int32.ofNat o), .int (Int32.ofNat len), .null] 6)) (T8.setTop (mkF m 45 #[.val (.ref a), .val (.ref b), .val (.int (Int32.ofNat o)), .val (.int (Int32.ofNat len)), .val .null, .val (.ref s.heap.size)] [.int (Int32.ofNat N.slots.size), .ref s.heap.size, .ref a])) := by
    have hc : Steps p.tables e below (s₁.setTop (entryFrame m #[.ref a, .ref b, .int (Int32.ofNat o), .int (Int32.ofNat len), .null] 6)) (T8.setTop (mkF m 45 #[.val (.ref a), .val (.ref b), .val (.int (Int32.ofNat o)), .val (.int (Int32.ofNat len)), .val .null, .val (.ref s.heap.size)] [.int (Int32.ofNat len), .ref s.heap.size, .ref a])) := c9.trans (by
      refine XS.astore X8.here hexec rfl (hb hbytes d39) rfl rfl rfl ?_
      refine XS.aloadN X8.here hexec rfl (hb hbytes d41) rfl rfl ?_
      refine XS.aload X8.here hexec rfl (hb hbytes d42) rfl rfl ?_
      refine XS.iloadN X8.here hexec rfl (hb hbytes d44) rfl ?_
      exact Steps.refl _)
    rw [n4]; exact hc
  obtain ⟨v11, T11, X11, E11, g11⟩ := X8.callS hexec (CodL.law l s.heap.size N) hown (wks W (staticW "java/lang/String" 47 CodL.yN)) (wk W CodL.tab) (W := 1) (Nat.le_of_ble_eq_true rfl) (Nat.le_of_ble_eq_true rfl) (Nat.le_refl _) (by show 0 + len + 0 ≤ len; omega) (g := (mkF m 45 #[.val (.ref a), .val (.ref b), .val (.int (Int32.ofNat o)), .val (.int (Int32.ofNat len)), .val .null, .val (.ref s.heap.size)] [.int (Int32.ofNat N.slots.size), .ref s.heap.size, .ref a])) rfl (by rw [hml]; rfl) c10 (argsL := [.ref s.heap.size, .int (Int32.ofNat N.slots.size)]) (rest := [.ref a]) rfl rfl (by show 2 * 0 + (1 + 0) ≤ _; decide) (hb hbytes d45) (⟨rfl, n1⟩)
  obtain ⟨rfl, q11⟩ := E11
  have hB11 := hB1.mv (X8.warmed.alike.symm.trans X11.warmed.alike) q11
  have c12 : Steps p.tables e below (s₁.setTop (entryFrame m #[.ref a, .ref b, .int (Int32.ofNat o), .int (Int32.ofNat len), .null] 6)) (T11.setTop (mkF m 48 #[.val (.ref a), .val (.ref b), .val (.int (Int32.ofNat o)), .val (.int (Int32.ofNat len)), .val .null, .val (.ref s.heap.size)] [.int 0, .ref a])) := g11
  obtain ⟨T13, X13, p13, bl13, sl13, st13⟩ := X11.finit hexec hown (wk W (.fieldLink "java/lang/String" 15 "java/lang/String" "coder" "B")) (Or.inr ⟨_, (wk W (.laysFinal "java/lang/String" "java/lang/String" "coder" "B"))⟩) (Or.inl ⟨rfl, hnm⟩) f2 (Or.inl rfl) hB11 (t := .byte) (by decide +kernel) rfl (g := (mkF m 48 #[.val (.ref a), .val (.ref b), .val (.int (Int32.ofNat o)), .val (.int (Int32.ofNat len)), .val .null, .val (.ref s.heap.size)] [.int 0, .ref a])) rfl (rest := []) rfl (hb hbytes d48)
  have c14 : Steps p.tables e below (s₁.setTop (entryFrame m #[.ref a, .ref b, .int (Int32.ofNat o), .int (Int32.ofNat len), .null] 6)) (T13.setTop (mkF m 54 #[.val (.ref a), .val (.ref b), .val (.int (Int32.ofNat o)), .val (.int (Int32.ofNat len)), .val .null, .val (.ref s.heap.size)] [.ref s.heap.size, .ref a])) := (c12.trans (st13 _ (Steps.refl _))).trans (by
    refine XS.aloadN X13.here hexec rfl (hb hbytes d51) rfl rfl ?_
    refine XS.aload X13.here hexec rfl (hb hbytes d52) rfl rfl ?_
    exact Steps.refl _)
  obtain ⟨T15, X15, p15, bl15, sl15, st15⟩ := X13.finit hexec hown (wk W (.fieldLink "java/lang/String" 9 "java/lang/String" "value" "[B")) (Or.inr ⟨_, (wk W (.laysFinal "java/lang/String" "java/lang/String" "value" "[B"))⟩) (Or.inl ⟨rfl, hnm⟩) f1 (Or.inl rfl) bl13 (t := (.array .byte)) (by decide +kernel) rfl (g := (mkF m 54 #[.val (.ref a), .val (.ref b), .val (.int (Int32.ofNat o)), .val (.int (Int32.ofNat len)), .val .null, .val (.ref s.heap.size)] [.ref s.heap.size, .ref a])) rfl (rest := []) rfl (hb hbytes d54)
  have c16 : Steps p.tables e below (s₁.setTop (entryFrame m #[.ref a, .ref b, .int (Int32.ofNat o), .int (Int32.ofNat len), .null] 6)) (T15.setTop (mkF m 57 #[.val (.ref a), .val (.ref b), .val (.int (Int32.ofNat o)), .val (.int (Int32.ofNat len)), .val .null, .val (.ref s.heap.size)] [])) := c14.trans (st15 _ (Steps.refl _))
  have ap := apart (Or.inr ⟨_, (wk W (.laysFinal "java/lang/String" "java/lang/String" "value" "[B"))⟩) (Or.inr ⟨_, (wk W (.laysFinal "java/lang/String" "java/lang/String" "coder" "B"))⟩) f1 f2 (t₁ := .array .byte) (t₂ := .byte) (by decide +kernel) (by decide +kernel) (by decide)
  have al := X8.warmed.alike.symm.trans X15.warmed.alike
  have n7 : T11.heap[s.heap.size]? = some N := by rw [q11]; exact n1.1
  exact ⟨T15, none, _, _, _, X15, by simp, rfl, by omega, (fun _ => rfl), ⟨rfl, _, N, bl15, ((Same.refl D _).set _ (by simp)).set _ (by simp), sl15, (Cell.slots_setSlot_ne _ ap).trans sl13, n1.keep al (p15.other hne (p13.other hne n7)), n2, by rw [al.findClass]; exact n3, n4, n5, fun y c h1 h2 => p15.other h1 (p13.other h1 (by rw [q11]; exact n6 y c h2)), by rw [p15.2.2, p13.2.2, q11]; exact z8⟩, fun fs hl => c16.trans (X15.returnOut hexec hret (hb hbytes d57) hl)⟩
end New4
namespace New1
def yN : MethodName := ⟨"java/lang/String", "<init>", "([C)V"⟩
abbrev yB : ByteArray := jdk_42_method_3_code
theorem d0 : decode yB 0 = .ok (.aload_n 0, 1) := by decide +kernel
theorem d1 : decode yB 1 = .ok (.aload_n 1, 1) := by decide +kernel
theorem d2 : decode yB 2 = .ok (.iconst 0, 1) := by decide +kernel
theorem d3 : decode yB 3 = .ok (.aload_n 1, 1) := by decide +kernel
theorem d4 : decode yB 4 = .ok (.arraylength, 1) := by decide +kernel
theorem d5 : decode yB 5 = .ok (.aconst_null, 1) := by decide +kernel
theorem d6 : decode yB 6 = .ok (.invokespecial 27, 3) := by decide +kernel
theorem d9 : decode yB 9 = .ok (.return_, 1) := by decide +kernel
def site : List Cond := [New4.tab] ++ initW "java/lang/String" 27 New4.yN
def tab : Cond := tabOf yN yB 2 none site
def P (a : Addr) (D : Cell) (fV fC : Field) (b : Addr) (A : Cell) (z : Int32) (args : Array Value) (s : State) : Prop := args = #[.ref a, .ref b] ∧ Blank "java/lang/String" a D s ∧ Found "java/lang/String" "value" "[B" fV s ∧ Found "java/lang/String" "coder" "B" fC s ∧ Ch b A s ∧ StaticIs s "java/lang/String" "COMPACT_STRINGS" "Z" (.int z) ∧ ¬ z = 0 ∧ 0 < A.slots.size ∧ A.slots.size ≤ 536870912 ∧ ∀ i, i < A.slots.size → ¬ 255 < cv A i
def E (a : Addr) (D : Cell) (fV fC : Field) (A : Cell) (r : Option Value) (s u : State) : Prop := Got a D fV fC A 0 A.slots.size r s u
/-- new String(chars), not empty, no char above 255: a Latin-1 String of their low bytes -/
theorem law (l : Launch) (a : Addr) (D : Cell) (fV fC : Field) (b : Addr) (A : Cell) (z : Int32) : Law l yN 2 1 3 52 yB 2 none site (P a D fV fC b A z) (E a D fV fC A) [⟨a, fC.slot⟩, ⟨a, fV.slot⟩] 1 A.slots.size := by
  refine Law.of_walk (plainFor_of_name (by decide +kernel)) (by decide +kernel) (by decide +kernel) (by decide) (fun _ _ h => by rw [h.1]; rfl) (fun _ U U' hal hh h => ⟨h.1, h.2.1.mv hal hh, h.2.2.1.al hal, h.2.2.2.1.al hal, h.2.2.2.2.1.mv hal hh, h.2.2.2.2.2.1.there hal hh, h.2.2.2.2.2.2⟩) (fun r U U' V V' h1 hal h2 h => Got.mv r U U' V V' h1 hal h2 h) ?_
  intro p e s m args below meth c s₁ X0 hexec hbytes hml hret hlk hnm hown hh0 W hP
  obtain ⟨rfl, hB, f1, f2, hA, s1, hz, l0, l2, hp⟩ := hP
  have c1 : Steps p.tables e below (s₁.setTop (entryFrame m #[.ref a, .ref b] 2)) (s₁.setTop (mkF m 0 #[.val (.ref a), .val (.ref b)] [])) := entry rfl
  have c2 : Steps p.tables e below (s₁.setTop (entryFrame m #[.ref a, .ref b] 2)) (s₁.setTop (mkF m 6 #[.val (.ref a), .val (.ref b)] [.null, .int (Int32.ofNat A.slots.size), .int 0, .ref b, .ref a])) := c1.trans (by
    refine XS.aloadN X0.here hexec rfl (hb hbytes d0) rfl rfl ?_
    refine XS.aloadN X0.here hexec rfl (hb hbytes d1) rfl rfl ?_
    refine iconstV X0.here hexec rfl 0 (hb hbytes d2) (by decide) ?_
    refine XS.aloadN X0.here hexec rfl (hb hbytes d3) rfl rfl ?_
    refine X0.alen hexec (hA.1.mv X0.warmed.alike hh0) rfl rfl (hb hbytes d4) ?_
    refine XS.aconstNull X0.here hexec rfl (hb hbytes d5) ?_
    exact Steps.refl _)
  obtain ⟨v3, T3, X3, E3, g3⟩ := X0.callN hexec (New4.law l a D fV fC b A z 0 A.slots.size) rfl hown (wks W (initW "java/lang/String" 27 New4.yN)) (W New4.tab (by simp only [site, List.mem_cons, List.mem_append, true_or, or_true])) (W := 0) (Nat.le_of_ble_eq_true rfl) (Nat.le_of_ble_eq_true rfl) (Nat.le_refl _) (by show 0 + A.slots.size ≤ A.slots.size; omega) (g := (mkF m 6 #[.val (.ref a), .val (.ref b)] [.null, .int (Int32.ofNat A.slots.size), .int (Int32.ofNat 0), .ref b, .ref a])) rfl (by rw [hml]; rfl) c2 (argsL := [.ref b, .int (Int32.ofNat 0), .int (Int32.ofNat A.slots.size), .null]) (rest := []) rfl rfl (by show 2 * 0 + 0 ≤ _; decide) (hb hbytes d6) (⟨rfl, hB.mv X0.warmed.alike hh0, f1.al X0.warmed.alike, f2.al X0.warmed.alike, hA.mv X0.warmed.alike hh0, s1.there X0.warmed.alike hh0, hz, l0, by omega, l2, fun i hi => by rw [Nat.zero_add]; exact hp i hi⟩)
  have e0 := Got.mv _ s₁ s _ _ hh0.symm (Vm.Alike.refl _) rfl E3
  obtain rfl := e0.1
  have c4 : Steps p.tables e below (s₁.setTop (entryFrame m #[.ref a, .ref b] 2)) (T3.setTop (mkF m 9 #[.val (.ref a), .val (.ref b)] [])) := g3
  exact ⟨T3, none, _, _, _, X3, by simp, rfl, by omega, (fun _ => rfl), e0, fun fs hl => c4.trans (X3.returnOut hexec hret (hb hbytes d9) hl)⟩
theorem pays {l : Launch} {R : Room} {p : Program} {e : Env} {below : List Frame} {s : State} {sargs : Array Value} {len W : Nat} (a : Addr) (D : Cell) (fV fC : Field) (b : Addr) (A : Cell) (z : Int32) (htab : tab.before sargs s = true) (hfr : 4 ≤ R.frames) (hlo : W + 65 ≤ R.locals) :
    Back l R p e below s sargs yN len W (fun A₁ a₁ => A₁.cells + 1 ≤ R.cells ∧ A₁.slots + A.slots.size ≤ R.slots ∧ P a D fV fC b A z a₁ A₁.U) (fun A₁ _ v₁ B₁ => E a D fV fC A v₁ A₁.U B₁.U ∧ B₁.locs = A₁.locs ++ [⟨a, fC.slot⟩, ⟨a, fV.slot⟩] ∧ B₁.cells = A₁.cells + 1 ∧ B₁.slots = A₁.slots + A.slots.size) :=
  (law l a D fV fC b A z).pays htab hfr (by omega)
end New1
end StrChars
namespace StrChars.Road
open Jvm Sem ClassFile Op Lib Jvm.Stand Jvm.Free Jvm.Free.XT
open Jvm.Lib.Cold (StaticIs)
abbrev ST : String := "java/lang/String"
/-- every table word that New1's law asks, flat -/
abbrev words : List Jvm.Cond := [.code New1.yN New1.yB 2 none, .initialized ST, .methodLink ST 27 New4.yN, .instanceMethod New4.yN,
  .code New4.yN New4.yB 6 none, .fieldLink ST 38 ST "COMPACT_STRINGS" "Z", .laysFinal ST ST "value" "[B", .fieldLink ST 9 ST "value" "[B", .laysFinal ST ST "coder" "B", .fieldLink ST 15 ST "coder" "B",
  .methodLink ST 1 Lib.objectInit, .instanceMethod Lib.objectInit, .code Lib.objectInit ⟨#[0xb1]⟩ 1 none, .methodLink ST 177 Cmp3.yN, .static Cmp3.yN, .methodLink ST 47 CodL.yN, .static CodL.yN,
  .code Cmp3.yN Cmp3.yB 6 (some (.array .byte)), .initialized U16, .arrayClass .byte, .methodLink U16 115 Cmp5.yN, .static Cmp5.yN, .code Cmp5.yN Cmp5.yB 7 (some .int), .code CodL.yN CodL.yB 2 (some .byte)]
theorem tab_of {a : Array Value} {s : State} (h : ∀ w ∈ words, w.before a s = true) : New1.tab.before a s = true := by
  have h5 : Cmp5.tab.before a s = true := unparts (wk h (.code Cmp5.yN Cmp5.yB 7 (some .int))) (wks h (.initialized Cmp5.yN.cls :: Cmp5.site))
  have hc : CodL.tab.before a s = true := unparts (wk h (.code CodL.yN CodL.yB 2 (some .byte))) (wks h (.initialized CodL.yN.cls :: CodL.site))
  have q5 : ∀ w ∈ Cmp5.tab :: words, w.before a s = true := fun w hw => (List.mem_cons.mp hw).elim (fun e => e ▸ h5) (h w)
  have h3 : Cmp3.tab.before a s = true := unparts (wk q5 (.code Cmp3.yN Cmp3.yB 6 (some (.array .byte)))) (wks q5 (.initialized Cmp3.yN.cls :: Cmp3.site))
  have q3 : ∀ w ∈ Cmp3.tab :: CodL.tab :: words, w.before a s = true := fun w hw => (List.mem_cons.mp hw).elim (fun e => e ▸ h3) fun hw => (List.mem_cons.mp hw).elim (fun e => e ▸ hc) (h w)
  have h4 : New4.tab.before a s = true := unparts (wk q3 (.code New4.yN New4.yB 6 none)) (wks q3 (.initialized New4.yN.cls :: New4.site))
  have q4 : ∀ w ∈ New4.tab :: words, w.before a s = true := fun w hw => (List.mem_cons.mp hw).elim (fun e => e ▸ h4) (h w)
  exact unparts (wk q4 (.code New1.yN New1.yB 2 none)) (wks q4 (.initialized New1.yN.cls :: New1.site))
/-- the words ride from the start Z to the walk's own state -/
theorem moved {Z s : State} {a0 args : Array Value} (hZ : Z.Warmed39 s.vm) (hw : ∀ d ∈ words, d.before a0 Z = true) : ∀ d ∈ words, d.before args s = true := fun d hd => by
  have q := hw d hd
  have t : ∀ d ∈ words, d = .arrayClass .byte ∨ (d.onTables && d.keepsFace) = true := by decide +kernel
  rcases t d hd with rfl | t
  · exact RoadKit.mvA hZ q
  · exact RoadKit.mv hZ q t
/-- WHAT COMES BACK, over the tables of the start Z: h the heap at the call, h' behind it -/
def Q (Z : State) (x : Addr) (A : Cell) (h : Heap) (v : Option Value) (h' : Heap) (L : List Loc) : Prop := v = none ∧ (∀ y ∈ L, y.base = x) ∧ RoadKit.Keep h h' [x] ∧ h'.size = h.size + 1 ∧ RoadKit.Exa Z h' x ST ∧ RoadKit.Fld Z h' x ST "value" "[B" (.ref h.size) ∧ RoadKit.Fld Z h' x ST "coder" "B" (.int 0) ∧
  (∃ V : Cell, RoadKit.Arr Z h' h.size V .byte ∧ V.vm = .none ∧ Z.vm.findClass "[B" = some V.cls ∧ V.slots.size = A.slots.size ∧ ∀ j, j < A.slots.size → V.slots[j]? = some (.int (lo8 (cv A j)))) ∧
  ∀ (O n d : String) (w : Value), RoadKit.Fld Z h x O n d w → RoadKit.slotOf Z O n d ≠ RoadKit.slotOf Z ST "value" "[B" → RoadKit.slotOf Z O n d ≠ RoadKit.slotOf Z ST "coder" "B" → RoadKit.Fld Z h' x O n d w
/-- **new String(chars) AT A CALL, IN THE ROAD'S FORM**: for specialBack behind newO: x the fresh String, b the char[] with the cell A -/
theorem back {p : Program} {l : Launch} {e : Env} {R : Room} {s : State} {args : Array Value} {below : List Frame} {len W : Nat} {Z : State} {a0 : Array Value} {h : Heap} (hZ : Z.Warmed39 s.vm) (hw : ∀ d ∈ words, d.before a0 Z = true) {kI : Nat} (wi : (Jvm.Cond.instantiable ST kI).before a0 Z = true)
    {x b : Addr} {A : Cell} {z : Int32} {v0 c0 : Value} (E : RoadKit.Exa Z h x ST) (V : RoadKit.Fld Z h x ST "value" "[B" v0) (C : RoadKit.Fld Z h x ST "coder" "B" c0) (K : RoadKit.Arr Z h b A .char) (hty : Typed .char A) (S : RoadKit.Sta Z h ST "COMPACT_STRINGS" "Z" (.int z)) (hz : ¬ z = 0)
    (l0 : 0 < A.slots.size) (l2 : A.slots.size ≤ 536870912) (hp : ∀ i, i < A.slots.size → ¬ 255 < cv A i) (hfr : 4 ≤ R.frames) (hlo : W + 65 ≤ R.locals) :
    Back l R p e below s args New1.yN len W (fun P a => a = #[.ref x, .ref b] ∧ P.U.heap = h ∧ P.cells + 1 ≤ R.cells ∧ P.slots + A.slots.size ≤ R.slots)
      (fun P _ v B => ∃ L, Q Z x A h v B.U.heap L ∧ B.locs = P.locs ++ L ∧ B.cells = P.cells + 1 ∧ B.slots = P.slots + A.slots.size) := by
  intro m meth c P g ig mk a X hg hsize hdg hW hn hp'
  obtain ⟨rfl, rfl, r1, r2⟩ := hp'
  have al : Z.vm.Alike P.U.vm := hZ.alike.trans X.warmed.alike
  obtain ⟨D, cfV, kV, iV, fV, hD, gV, stV, knV, obV, asV, slV⟩ := id V
  obtain ⟨D', cfC, kC, iC, fC, hD', gC, stC, -, -, asC, slC⟩ := id C
  cases hD.symm.trans hD'
  obtain ⟨D2, kD, e1, e2, e3, e4, e5⟩ := id E
  cases hD.symm.trans e1
  obtain ⟨c2, k2, i1, i2, i3, -⟩ := Cond.instantiable_spec wi
  cases e2.symm.trans i1
  cases e3.symm.trans i2
  obtain ⟨kU, u1, u2⟩ := al.2.2 _ _ e3
  have hB : Blank ST x D P.U := ⟨hD, ⟨knV, fun q hq => by rw [hq] at obV; cases obV⟩, by rw [al.findClass]; exact e2, kU, u1, by rw [u2]; exact i3, by rw [u2]; exact e5 i3⟩
  have F1 : Found ST "value" "[B" fV P.U := ⟨SBG.found_only al ⟨cfV, kV, iV, gV⟩, stV⟩
  have F2 : Found ST "coder" "B" fC P.U := ⟨SBG.found_only al ⟨cfC, kC, iC, gC⟩, stC⟩
  have hA : Ch b A P.U := ⟨⟨K.1, State.isArrayOf_alike al K.2.1, K.2.2, by omega⟩, hty⟩
  have hS : StaticIs P.U ST "COMPACT_STRINGS" "Z" (.int z) := by
    obtain ⟨cfS, iS, kS, fS, st, cS, t1, t2, t3, t4, t5, t6, t7⟩ := S
    exact StaticIs.there (s := { Z with heap := P.U.heap }) ⟨cfS, iS, kS, fS, st, cS, t1, t2, t3, t4, t5, (fun q => by rw [q] at t6; cases t6), t7⟩ al rfl
  obtain ⟨v, B, X', ⟨⟨hv, E', V', q1, q2, q3, q4, q5, q6, q7, q8, q9, q10, q11⟩, hl, hc, hs⟩, st⟩ := New1.pays x D fV fC b A z (tab_of (moved hZ hw)) hfr hlo m meth c P g ig mk _ X hg hsize hdg hW hn ⟨r1, r2, rfl, hB, F1, F2, hA, hS, hz, l0, l2, hp⟩
  have al' : Z.vm.Alike B.U.vm := hZ.alike.trans X'.warmed.alike
  have hsz : E'.slots.size = D.slots.size := by
    obtain ⟨-, -, -, kB, w1, w2, w3⟩ := q1
    obtain ⟨kB', y1, y2⟩ := al'.2.2 _ _ e3
    rw [q2.2.1] at w1
    cases w1.symm.trans y1
    rw [w3, e5 i3, y2]
  refine ⟨v, B, X', ⟨_, ⟨hv, ?_, ⟨by omega, fun y cy hy hn' => q10 y cy (by simpa using hn') hy, fun y cy hy => ?_⟩, q11, ⟨E', _, q1.1, by rw [q2.2.1]; exact e2, by rw [q2.2.1]; exact e3, by rw [q2.1]; exact obV, fun _ => by rw [hsz]; exact e5 i3⟩,
    ⟨E', cfV, kV, iV, fV, q1.1, gV, stV, by rw [q2.1]; exact knV, by rw [q2.1]; exact obV, by rw [q2.2.1]; exact asV, q3⟩, ⟨E', cfC, kC, iC, fC, q1.1, gC, stC, by rw [q2.1]; exact knV, by rw [q2.1]; exact obV, by rw [q2.2.1]; exact asC, q4⟩,
    ⟨V', ⟨q5.1, State.isArrayOf_alike al'.symm q5.2.1, q5.2.2.1⟩, q6, by rw [← al'.findClass]; exact q7, q8, fun j hj => by have := q9 j hj; rwa [Nat.zero_add] at this⟩, fun O n d w F n1 n2 => ?_⟩, hl, hc, hs⟩, st⟩
  · intro y hy
    simp only [List.mem_cons, List.not_mem_nil, or_false] at hy
    rcases hy with rfl | rfl <;> rfl
  · by_cases q : y = x
    · subst q
      cases hD.symm.trans hy
      exact ⟨E', q1.1, q2.2.1, q2.1, hsz⟩
    · exact ⟨cy, q10 y cy q hy, rfl, rfl, rfl⟩
  · obtain ⟨D3, cf, k, i, f, g1, g2, g3, g4, g5, g6, g7⟩ := F
    cases hD.symm.trans g1
    simp only [RoadKit.slotOf, g2, gV, gC, Option.map_some, Option.getD_some] at n1 n2
    exact ⟨E', cf, k, i, f, q1.1, g2, g3, by rw [q2.1]; exact g4, by rw [q2.1]; exact g5, by rw [q2.2.1]; exact g6, by rw [q2.2.2 f.slot (by simp [n1, n2])]; exact g7⟩
end StrChars.Road
namespace StrChars.Road
open Jvm Sem ClassFile Op Lib Jvm.Stand Jvm.Free Jvm.Free.XT
/-- WHAT COMES BACK, the byte[] as a list of values -/
def QA (Z : State) (x : Addr) (zn : Int32) (cs : List Int32) (h : Heap) (v : Option Value) (h' : Heap) (L : List Loc) : Prop := v = none ∧ (∀ y ∈ L, y.base = x) ∧ RoadKit.Keep h h' [x] ∧ h'.size = h.size + 1 ∧ RoadKit.Exa Z h' x ST ∧ RoadKit.Fld Z h' x ST "value" "[B" (.ref h.size) ∧ RoadKit.Fld Z h' x ST "coder" "B" (.int 0) ∧
  (∃ kb, Z.vm.findClass "[B" = some kb ∧ RoadKit.Arv Z h' h.size kb .byte zn (cs.map fun c => .int (lo8 c)) (.int 0)) ∧
  ∀ (O n d : String) (w : Value), RoadKit.Fld Z h x O n d w → RoadKit.slotOf Z O n d ≠ RoadKit.slotOf Z ST "value" "[B" → RoadKit.slotOf Z O n d ≠ RoadKit.slotOf Z ST "coder" "B" → RoadKit.Fld Z h' x O n d w
/-- **new String(chars) AT A CALL, THE ARRAYS AS LISTS**: the char[] at b holds cs, not empty, no char above 255 -/
theorem backArv {p : Program} {l : Launch} {e : Env} {R : Room} {s : State} {args : Array Value} {below : List Frame} {len W : Nat} {Z : State} {a0 : Array Value} {h : Heap} (hZ : Z.Warmed39 s.vm) (hw : ∀ d ∈ words, d.before a0 Z = true) {kI : Nat} (wi : (Jvm.Cond.instantiable ST kI).before a0 Z = true)
    {x b : Addr} {k : ClassId} {zn z : Int32} {cs : List Int32} {dv v0 c0 : Value} (E : RoadKit.Exa Z h x ST) (V : RoadKit.Fld Z h x ST "value" "[B" v0) (C : RoadKit.Fld Z h x ST "coder" "B" c0) (K : RoadKit.Arv Z h b k .char zn (cs.map Value.int) dv) (S : RoadKit.Sta Z h ST "COMPACT_STRINGS" "Z" (.int z)) (hz : ¬ z = 0)
    (hlen : zn.toNatClampNeg = cs.length) (h0 : 0 < cs.length) (hbig : cs.length ≤ 536870912) (hall : ∀ c ∈ cs, ¬ 255 < c) (hfr : 4 ≤ R.frames) (hlo : W + 65 ≤ R.locals) :
    Back l R p e below s args New1.yN len W (fun P a => a = #[.ref x, .ref b] ∧ P.U.heap = h ∧ P.cells + 1 ≤ R.cells ∧ P.slots + cs.length ≤ R.slots)
      (fun P _ v B => ∃ L, QA Z x zn cs h v B.U.heap L ∧ B.locs = P.locs ++ L ∧ B.cells = P.cells + 1 ∧ B.slots = P.slots + cs.length) := by
  obtain ⟨A, K1, K2, K3, K4, K5, K6⟩ := K
  have e : A.slots.size = cs.length := K3.trans hlen
  have hat : ∀ (i : Nat) (hi : i < cs.length), A.slots[i]? = some (.int cs[i]) := fun i hi => by rw [K5 i (by omega)]; simp [List.getD_eq_getElem?_getD, hi]
  have hcv : ∀ (i : Nat) (hi : i < cs.length), cv A i = cs[i] := fun i hi => by unfold cv; rw [hat i hi]
  have hty : Typed .char A := fun i v hv => by
    have hi : i < A.slots.size := (Array.getElem?_eq_some_iff.mp hv).1
    have q := K5 i hi
    rw [hv] at q
    rw [Option.some.inj q]
    exact K6 i hi
  refine Back.mono (back hZ hw wi E V C K1 hty S hz (by omega) (by omega) (fun i hi => by rw [hcv i (by omega)]; exact hall _ (List.getElem_mem _)) hfr hlo) (fun P a hp => ⟨hp.1, hp.2.1, hp.2.2.1, by rw [e]; exact hp.2.2.2⟩) (fun P a v B hp hq => ?_)
  obtain ⟨L, ⟨q1, q2, q3, q4, q5, q6, q7, ⟨V', v1, v2, v3, v4, v5⟩, q9⟩, hl, hc, hs⟩ := hq
  refine ⟨L, ⟨q1, q2, q3, q4, q5, q6, q7, ⟨V'.cls, v3, V', v1, rfl, by rw [v4, e, hlen], K4, fun i hi => ?_, fun i hi => ?_⟩, q9⟩, hl, hc, by rw [hs, e]⟩
  · have hi' : i < cs.length := by omega
    rw [v5 i (by omega), hcv i hi']; simp [List.getD_eq_getElem?_getD, hi']
  · have hi' : i < cs.length := by omega
    simp only [List.getD_eq_getElem?_getD, List.getElem?_map, List.getElem?_eq_getElem hi', Option.map_some, Option.getD_some]
    exact fits_lo8 _
end StrChars.Road
namespace StrChars.Road
open Jvm Sem ClassFile Op Lib Jvm.Stand Jvm.Free Jvm.Free.XT
/-- WHAT COMES BACK, in the writer's own shape -/
def QV (Z : State) (x : Addr) (N : Int32) (bs : List Int32) (h : Heap) (n0 : Nat) (v : Option Value) (h' : Heap) (L : List Loc) : Prop := v = none ∧ RoadKit.Fr n0 L ∧ RoadKit.Keep h h' [x] ∧ RoadKit.Exa Z h' x ST ∧ RoadKit.Fld Z h' x ST "coder" "B" (.int 0) ∧
  ∃ (t : Addr) (kb : ClassId), n0 ≤ t ∧ h.size ≤ t ∧ ¬ t = x ∧ RoadKit.Fld Z h' x ST "value" "[B" (.ref t) ∧ RoadKit.Arv Z h' t kb .byte N (bs.map Value.int) (.int 0)
/-- **new String(chars) AT A CALL, FOR THE WRITER**: a char[] of n known ints, each 0 to 255 -/
theorem backV {p : Program} {l : Launch} {e : Env} {R : Room} {s : State} {args : Array Value} {below : List Frame} {len W : Nat} {Z : State} {a0 : Array Value} {h : Heap} (hZ : Z.Warmed39 s.vm) (hw : ∀ d ∈ words, d.before a0 Z = true) {kI : Nat} (wi : (Jvm.Cond.instantiable ST kI).before a0 Z = true)
    {x b : Addr} {kC : ClassId} {cs bs : List Int32} {d v0 c0 : Value} {z N : Int32} {n n0 : Nat} (hx0 : n0 ≤ x) (hh0 : n0 ≤ h.size) (E : RoadKit.Exa Z h x ST) (V : RoadKit.Fld Z h x ST "value" "[B" v0) (C : RoadKit.Fld Z h x ST "coder" "B" c0) (K : RoadKit.Arv Z h b kC .char N (cs.map Value.int) d) (S : RoadKit.Sta Z h ST "COMPACT_STRINGS" "Z" (.int z)) (hz : ¬ z = 0)
    (hn : cs.length = n) (hN : N = Int32.ofNat n) (l0 : 0 < n) (l2 : n ≤ 4000) (hp : ∀ c ∈ cs, ¬ c < 0 ∧ ¬ (255 : Int32) < c) (hb : bs = cs.map (fun c => c.toInt8.toInt32)) (hfr : 4 ≤ R.frames) (hlo : W + 65 ≤ R.locals) :
    Back l R p e below s args (⟨"java/lang/String", "<init>", "([C)V"⟩ : MethodName) len W (fun P a => a = #[.ref x, .ref b] ∧ P.U.heap = h ∧ P.cells + 1 ≤ R.cells ∧ P.slots + n ≤ R.slots)
      (fun P _ v B => ∃ L, QV Z x N bs h n0 v B.U.heap L ∧ B.locs = P.locs ++ L ∧ B.cells = P.cells + 1 ∧ B.slots = P.slots + n) := by
  subst hn hN hb
  refine Back.mono (backArv hZ hw wi E V C K S hz (n32 (by omega)) l0 (by omega) (fun c hc => (hp c hc).2) hfr hlo) (fun P a hp => hp) (fun P a v B hp hq => ?_)
  obtain ⟨L, ⟨q1, q2, q3, q4, q5, q6, q7, ⟨kb, v1, v2⟩, q9⟩, hl, hc, hs⟩ := hq
  exact ⟨L, ⟨q1, fun y hy => by rw [q2 y hy]; exact hx0, q3, q5, q7, h.size, kb, hh0, Nat.le_refl _, Nat.ne_of_gt E.lt, q6, by rw [List.map_map]; exact v2⟩, hl, hc, hs⟩
end StrChars.Road
namespace StrChars
open Jvm Sem ClassFile Op Lib Jvm.Stand Jvm.Free.XT Jvm.Free.ALB Jvm.Free.JM Jvm.Free
open Jvm.Lib.Cold (StaticIs)
def hi8 (x : Int32) : Int32 := lo8 (x >>> ((8 : Int32) &&& 31))
end StrChars
namespace StrChars.Road
open Jvm Sem ClassFile Op Lib Jvm.Stand Jvm.Free Jvm.Free.XT
open Jvm.Lib.Cold (StaticIs)
/-- the bytes of the chars cs, low before high -/
def wideBytes : List Int32 → List Value
  | [] => []
  | c :: cs => .int (lo8 c) :: .int (hi8 c) :: wideBytes cs
/-- an array of N2 bytes vs codes the chars cs by the coder cd -/
def CodA (cs : List Int32) (cd N2 : Int32) (vs : List Value) : Prop := (cd = 0 ∧ N2 = Int32.ofNat cs.length ∧ vs = (cs.map fun c => Value.int (lo8 c)) ∧ ∀ c ∈ cs, ¬ 255 < c) ∨ (cd = 1 ∧ N2 = Int32.ofNat (2 * cs.length) ∧ vs = wideBytes cs ∧ ∃ c ∈ cs, 255 < c)
end StrChars.Road
namespace StrChars.Road
open Jvm Sem ClassFile Op Lib Jvm.Stand Jvm.Free Jvm.Free.XT
open Jvm.Lib.Cold (StaticIs)
/-- what backV says of its String, as the contracts of this text ask it: cs's low bytes, coder 0 -/
theorem codOf {cs : List Int32} {n : Nat} (hn : cs.length = n) (hb : ∀ c ∈ cs, ¬ 255 < c) : CodA cs 0 (Int32.ofNat n) ((cs.map lo8).map Value.int) := Or.inl ⟨rfl, by rw [hn], by simp [List.map_map, Function.comp_def], hb⟩
end StrChars.Road
end Jvm.Pilot.@@N@@

namespace Jvm.Pilot.@@N@@
open Jvm Jvm.ClassFile Sem Op Lib Jvm.Free Jvm.Stand Jvm.LawKit Jvm.RoadKit Bundle Jvm.Pilot.@@N@@.Jvm.D
/-- the goal of a walk: from S the run ends, and G holds there -/
def Go (p : Program) (e : Env) (below : List Frame) (G : State → Outcome → Prop) (S : State) : Prop :=
  ∃ s₂ o, Steps p.tables e below S s₂ ∧ s₂.status = .running ∧ Ended s₂ below o ∧ G s₂ o
theorem Go.by {p : Program} {e : Env} {below : List Frame} {G : State → Outcome → Prop} {S S' : State} (h : ∀ t, Steps p.tables e below S' t → Steps p.tables e below S t) (k : Go p e below G S') : Go p e below G S := by
  obtain ⟨s₂, o, h1, h2⟩ := k
  exact ⟨s₂, o, h _ h1, h2⟩
/-- what a body's end says -/
def End (Q : Option Value → Heap → List Loc → Prop) (s : State) (cells slots : Nat) (s₂ : State) (o : Outcome) : Prop := ∃ v L, o = .returned v ∧ Q v s₂.heap L ∧ FrameEnd s o s₂ L cells slots
section
variable {p : Program} {l : Launch} {e : Env} {R : Room} {s : State} {m : MethodId} {args : Array Value} {below : List Frame} {meth : Method} {c : Code} {T : State} {locs : List Loc} {cells slots C S : Nat} {Q : Option Value → Heap → List Loc → Prop}
theorem Go.ret1 (X : Stand p l e R s m args below meth c T locs cells slots) (hx : p.tables.exec = Jvm.exec) {pc : Nat} {Ls : Array Slot} {w : Value} {t : FieldType} {i : Instr} {rest : List Value} (hret : meth.sig.returnType = some t) (hlk : meth.locks = false) (hn : narrow t w = w)
    (hi : (i = .ireturn ∧ (t = .int ∨ t = .boolean ∨ t = .byte ∨ t = .char ∨ t = .short) ∧ ∃ z, w = .int z) ∨ (i = .lreturn ∧ t = .long ∧ ∃ z, w = .long z) ∨ (i = .dreturn ∧ t = .double ∧ ∃ z, w = .double z) ∨ (i = .freturn ∧ t = .float ∧ ∃ z, w = .float z) ∨ (i = .areturn ∧ t.isReference = true ∧ w.isRef = true))
    (hd : decode c.code pc = .ok (i, 1)) (hc : cells ≤ C) (hs : slots ≤ S) (hQ : Q (some w) T.heap locs) : Go p e below (End Q s C S) (T.setTop (mkF m pc Ls (w :: rest))) := by
  obtain ⟨fs, hr, hrun, hended, hW, hsame⟩ := X.leave (v := some w) (fun h => by rw [hret] at h; cases h) hlk
  exact ⟨_, _, retOut X hx hret hn hi hd hr, hrun, hended, _, _, rfl, hQ, ⟨_, rfl⟩, hW, hsame.mono hc hs⟩
theorem Go.ret0 (X : Stand p l e R s m args below meth c T locs cells slots) (hx : p.tables.exec = Jvm.exec) {pc : Nat} {Ls : Array Slot} (hret : meth.sig.returnType = none) (hlk : meth.locks = false)
    (hd : decode c.code pc = .ok (.return_, 1)) (hc : cells ≤ C) (hs : slots ≤ S) (hQ : Q none T.heap locs) : Go p e below (End Q s C S) (T.setTop (mkF m pc Ls [])) := by
  obtain ⟨fs, hr, hrun, hended, hW, hsame⟩ := X.leave (v := none) (fun _ => rfl) hlk
  exact ⟨_, _, X.returnOut hx hret hd hr, hrun, hended, _, _, rfl, hQ, ⟨_, rfl⟩, hW, hsame.mono hc hs⟩
theorem Stand.num (X : Stand p l e R s m args below meth c T locs cells slots) (hc : cells = C) (hs : slots = S) : Stand p l e R s m args below meth c T locs C S := by subst hc hs; exact X
theorem Stand.more (X : Stand p l e R s m args below meth c T locs cells slots) (hc : cells ≤ C) (hs : slots ≤ S) : Stand p l e R s m args below meth c T locs C S :=
  { X with same := X.same.mono hc hs }
theorem arv_neT {Z : State} {h : Heap} {a b : Addr} {k1 k2 : ClassId} {t1 t2 : FieldType} {z1 z2 : Int32} {v1 v2 : List Value} {d1 d2 : Value} (A : Arv Z h a k1 t1 z1 v1 d1) (B : Arv Z h b k2 t2 z2 v2 d2) (hne : t1 ≠ t2) : a ≠ b := fun e => by
  subst e
  obtain ⟨c1, ⟨p1, ⟨-, q1, r1, u1, w1⟩, -⟩, -⟩ := A
  obtain ⟨c2, ⟨p2, ⟨-, q2, r2, u2, w2⟩, -⟩, -⟩ := B
  cases p1.symm.trans p2
  cases r1.symm.trans r2
  have := w1.symm.trans w2
  injection this with _ e
  exact hne e
theorem cat_ref {r : Value} (h : r.isRef = true) : r.category = 1 := by rcases ref_cases h with rfl | ⟨_, rfl⟩ <;> rfl
theorem fit_ref {C : String} {r : Value} (h : r.isRef = true) : fits (.object C) r = true := by rcases ref_cases h with rfl | ⟨_, rfl⟩ <;> rfl
theorem nar_ref {t : FieldType} {r : Value} (h : r.isRef = true) : narrow t r = r := by cases r <;> cases t <;> simp_all [Value.isRef, narrow]
end
/-- what a body's end says, where constants may have been interned -/
def EndW (EL : List (String × Nat)) (Z : State) (Q : Option Value → Heap → List Loc → Prop) (s : State) (cells slots : Nat) (s₂ : State) (o : Outcome) : Prop := ∃ v L, o = .returned v ∧ Q v s₂.heap L ∧ CHr Z EL s.vm s.heap s₂.vm s₂.heap ∧ ReturnedEndW s o s₂ L cells slots
section
variable {p : Program} {l : Launch} {e : Env} {R : Room} {s : State} {m : MethodId} {args : Array Value} {below : List Frame} {meth : Method} {c : Code} {T Z : State} {locs : List Loc} {cells slots C S k0 : Nat} {Q : Option Value → Heap → List Loc → Prop} {EL : List (String × Nat)} {vm0 : Vm} {a0 : Array Value}
theorem Go.ret1W (X : Stand p l e R (s.setVm vm0) m args below meth c T locs cells slots) (hS : s.Since vm0 k0) (hk : k0 ≤ T.heap.size) (CR : CHr Z EL s.vm s.heap vm0 T.heap) (hZ : Z.Warmed39 vm0) (hEL : EW Z a0 EL) (hx : p.tables.exec = Jvm.exec) {pc : Nat} {Ls : Array Slot} {w : Value} {t : FieldType} {i : Instr} {rest : List Value} (hret : meth.sig.returnType = some t) (hlk : meth.locks = false) (hn : narrow t w = w)
    (hi : (i = .ireturn ∧ (t = .int ∨ t = .boolean ∨ t = .byte ∨ t = .char ∨ t = .short) ∧ ∃ z, w = .int z) ∨ (i = .lreturn ∧ t = .long ∧ ∃ z, w = .long z) ∨ (i = .dreturn ∧ t = .double ∧ ∃ z, w = .double z) ∨ (i = .freturn ∧ t = .float ∧ ∃ z, w = .float z) ∨ (i = .areturn ∧ t.isReference = true ∧ w.isRef = true))
    (hd : decode c.code pc = .ok (i, 1)) (hc : cells ≤ C) (hs : slots ≤ S) (hQ : Q (some w) T.heap locs) : Go p e below (EndW EL Z Q s C S) (T.setTop (mkF m pc Ls (w :: rest))) := by
  obtain ⟨fs, hr, hrun, hended, h1, h2, h3, h4⟩ := X.leaveW hS hk (v := some w) (fun h => by rw [hret] at h; cases h) hlk
  have q := CHv.at X hZ hEL CR.1
  exact ⟨_, _, retOut X hx hret hn hi hd hr, hrun, hended, _, _, rfl, hQ, CR.trans q, h1, h2, h3, h4.mono hc hs⟩
theorem Go.ret0W (X : Stand p l e R (s.setVm vm0) m args below meth c T locs cells slots) (hS : s.Since vm0 k0) (hk : k0 ≤ T.heap.size) (CR : CHr Z EL s.vm s.heap vm0 T.heap) (hZ : Z.Warmed39 vm0) (hEL : EW Z a0 EL) (hx : p.tables.exec = Jvm.exec) {pc : Nat} {Ls : Array Slot} (hret : meth.sig.returnType = none) (hlk : meth.locks = false)
    (hd : decode c.code pc = .ok (.return_, 1)) (hc : cells ≤ C) (hs : slots ≤ S) (hQ : Q none T.heap locs) : Go p e below (EndW EL Z Q s C S) (T.setTop (mkF m pc Ls [])) := by
  obtain ⟨fs, hr, hrun, hended, h1, h2, h3, h4⟩ := X.leaveW hS hk (v := none) (fun _ => rfl) hlk
  have q := CHv.at X hZ hEL CR.1
  exact ⟨_, _, X.returnOut hx hret hd hr, hrun, hended, _, _, rfl, hQ, CR.trans q, h1, h2, h3, h4.mono hc hs⟩
end
theorem and255_chars (x : Int32) : ¬ nar .char ((x &&& (255 : Int32)).toUInt32.toUInt16.toUInt32.toInt32) < 0 ∧ ¬ (255 : Int32) < nar .char ((x &&& (255 : Int32)).toUInt32.toUInt16.toUInt32.toInt32) := by
  have t : ∀ k : Fin 256, ¬ nar .char ((Int32.ofNat k.val).toUInt32.toUInt16.toUInt32.toInt32) < 0 ∧ ¬ (255 : Int32) < nar .char ((Int32.ofNat k.val).toUInt32.toUInt16.toUInt32.toInt32) := by decide +kernel
  have h : (x &&& 255).toBitVec.toNat < 256 := by
    simp only [Int32.toBitVec_and, BitVec.toNat_and]
    exact Nat.lt_succ_of_le Nat.and_le_right
  have e : (x &&& 255) = Int32.ofNat (x &&& 255).toBitVec.toNat := by
    apply Int32.toBitVec_inj.mp
    show _ = BitVec.ofNat 32 _
    rw [BitVec.ofNat_toNat]; simp
  rw [e]
  exact t ⟨_, h⟩
theorem up (cs : List Int32) (h : ∀ c ∈ cs, ¬ c < 0 ∧ ¬ (255 : Int32) < c) : ∀ c ∈ cs, ¬ c < 0 ∧ ¬ (65535 : Int32) < c := fun c hc => ⟨(h c hc).1, fun q => (h c hc).2 (by rw [Int32.lt_iff_toInt_lt] at q ⊢; have e1 : (65535 : Int32).toInt = 65535 := rfl; have e2 : (255 : Int32).toInt = 255 := rfl; omega)⟩
theorem all1 {P : Int32 → Prop} {x : Int32} (h : P x) : ∀ c ∈ [x], P c := fun c hc => by cases List.mem_singleton.mp hc; exact h
theorem allC {P : Int32 → Prop} {x : Int32} {L : List Int32} (h : P x) (r : ∀ c ∈ L, P c) : ∀ c ∈ x :: L, P c := fun c hc => (List.mem_cons.mp hc).elim (fun u => u ▸ h) (r c)
theorem allN {P : Int32 → Prop} : ∀ c ∈ ([] : List Int32), P c := fun _ q => nomatch q
section
variable {Z : State} {h h' : Heap} {x o : Addr} {cs ds : List Int32} {ws : List Addr} {sl : Nat} {v : Value}
/-- in heap h the object at x is a String of Latin-1 signs cs -/
def StrAt (Z : State) (h : Heap) (x : Addr) (cs : List Int32) : Prop := ∃ (t : Addr) (kb : ClassId) (N : Int32) (vs : List Value), Exa Z h x "java/lang/String" ∧ Fld Z h x "java/lang/String" "value" "[B" (.ref t) ∧ Fld Z h x "java/lang/String" "coder" "B" (.int 0) ∧ Arv Z h t kb .byte N vs (.int 0) ∧ StrChars.Road.CodA cs 0 N vs ∧ (∀ c ∈ cs, ¬ c < 0 ∧ ¬ (65535 : Int32) < c) ∧ cs.length ≤ 4000
theorem StrAt.exa (S : StrAt Z h x cs) : Exa Z h x "java/lang/String" := by obtain ⟨_, _, _, _, E, -⟩ := S; exact E
theorem StrAt.lt (S : StrAt Z h x cs) : x < h.size := S.exa.lt
theorem StrAt.ext (S : StrAt Z h x cs) (E : Ext h h') : StrAt Z h' x cs := by obtain ⟨t, kb, N, vs, a, b, c, d, r⟩ := S; exact ⟨t, kb, N, vs, a.ext E, b.ext E, c.ext E, d.ext E, r⟩
theorem StrAt.keep (S : StrAt Z h x cs) (K : Keep h h' ws) (hx : x ∉ ws) (ht : ∀ t kb N vs, Arv Z h t kb .byte N vs (.int 0) → t ∉ ws) : StrAt Z h' x cs := by obtain ⟨t, kb, N, vs, a, b, c, d, r⟩ := S; exact ⟨t, kb, N, vs, a.keep K, b.keep K hx, c.keep K hx, d.keep K (ht _ _ _ _ d), r⟩
theorem StrAt.wr (S : StrAt Z h x cs) (W : Wr h h' o sl v) (hx : x ≠ o) (ht : ∀ t kb N vs, Arv Z h t kb .byte N vs (.int 0) → t ≠ o) : StrAt Z h' x cs := S.keep (Keep.of_wr W) (ninS hx nin0) fun _ _ _ _ A => ninS (ht _ _ _ _ A) nin0
end
section
variable {p : Program} {l : Launch} {e : Env} {R : Room} {s : State} {m : MethodId} {args : Array Value} {below : List Frame} {meth : Method} {c : Code} {T : State} {locs : List Loc} {cells slots : Nat} {Z : State} {h : Heap} {a : Addr} {C : String}
theorem gclsI (X : Stand p l e R s m args below meth c T locs cells slots) (hx : p.tables.exec = Jvm.exec) (hZ : Z.Warmed39 s.vm) {a0 : Array Value} {own : String} {index count : Nat} {xi : MethodName} (hown : s.vm.findClass own = some m.cls)
    (w1 : (Cond.methodLink own index xi).before a0 Z = true) (w2 : (Cond.declares ⟨"java/lang/Object", "getClass", "()Ljava/lang/Class;"⟩).before a0 Z = true) (w3 : (Cond.interfaceMethod xi.cls "java/lang/Object" xi.name xi.desc).before a0 Z = true) (w4 : (Cond.selects C xi ⟨"java/lang/Object", "getClass", "()Ljava/lang/Class;"⟩).before a0 Z = true)
    (w5 : (Cond.instanceMethod ⟨"java/lang/Object", "getClass", "()Ljava/lang/Class;"⟩).before a0 Z = true) (w6 : (Cond.publicMethod ⟨"java/lang/Object", "getClass", "()Ljava/lang/Class;"⟩).before a0 Z = true) (w7 : (Cond.unhidden C xi.name xi.desc).before a0 Z = true) (w8 : (Cond.castable C xi.cls).before a0 Z = true) (w9 : (Cond.native ⟨"java/lang/Object", "getClass", "()Ljava/lang/Class;"⟩).before a0 Z = true)
    (hx1 : xi.cls ≠ "java/lang/invoke/MethodHandle" ∧ xi.cls ≠ "java/lang/invoke/VarHandle") (hxo : xi.cls ≠ "java/lang/Object") (hname : xi.name = "getClass") (hdesc : xi.desc = "()Ljava/lang/Class;") (eT : T.heap = h) (E : Exa Z h a C) {mr : Addr} (M : Mir Z C mr)
    {g : JFrame} (hg : g.method = m) (hsize : g.locals.size = c.maxLocals) {rest : List Value} (hs : g.stack = .ref a :: rest) (hd : decode c.code g.pc = .ok (.invokeinterface index count, 5)) (hf : 1 ≤ R.frames) (hl : 2 * g.monitorRoom + (rest.map fun v => v.category).sum + (nativeFrameWords "java/lang/Object" "getClass" 1 + 11) ≤ R.locals) :
    ∃ T', Stand p l e R s m args below meth c T' locs cells slots ∧ T'.heap = h ∧ ∀ target, Steps p.tables e below (T'.setTop { g with pc := g.pc + 5, stack := .ref mr :: rest }) target → Steps p.tables e below (T.setTop g) target := by
  obtain ⟨cB, kB, i1, i2, i3⟩ := isOf hZ eT E
  obtain ⟨cc, kc, m1, m2, m3, -⟩ := M
  have i1' := i1
  rw [hZ.alike.findClass] at i1'
  cases i1'.symm.trans m1
  obtain ⟨k', q, ek⟩ := hZ.alike.2.2 _ _ m2
  cases i2.symm.trans q
  obtain ⟨vm1, X1, st1⟩ := X.getClassOfI hx hown (mvT hZ w1) (mvT hZ w2) (Jvm.Free.ULB.iface_rides hZ.alike w3) (mvT hZ w4) (mvT hZ w5) (mvT hZ w6) (mvT hZ w7) (mvT hZ w8) (mvT hZ w9) hx1 hxo hname hdesc i1 i2 i3 (by rw [ek]; exact m3) hg hsize hs hd hf hl
  exact ⟨_, X1, eT, st1⟩
theorem ldcMir (X : Stand p l e R s m args below meth c T locs cells slots) (hx : p.tables.exec = Jvm.exec) (hZ : Z.Warmed39 s.vm) {a0 : Array Value} {own : String} {index : Nat} (hown : s.vm.findClass own = some m.cls) (w : (Cond.classLink own index C).before a0 Z = true) (eT : T.heap = h) {mr : Addr} (M : Mir Z C mr)
    {g : JFrame} (hg : g.method = m) (hd : decode c.code g.pc = .ok (.ldc index, 2)) :
    ∃ T', Stand p l e R s m args below meth c T' locs cells slots ∧ T'.heap = h ∧ ∀ target, Steps p.tables e below (T'.setTop { g with pc := g.pc + 2, stack := .ref mr :: g.stack }) target → Steps p.tables e below (T.setTop g) target := by
  have hev : (Term.mirror C).eval args s none [] s = some (.ref mr) := by
    obtain ⟨c1, k, m1, m2, m3, -⟩ := M
    obtain ⟨k', q, ek⟩ := hZ.alike.2.2 _ _ m2
    simp only [Term.eval, Option.bind_eq_bind, Option.bind_eq_some_iff, Option.pure_def, Option.some.injEq]
    exact ⟨c1, by rw [hZ.alike.findClass]; exact m1, k', q, mr, by rw [ek]; exact m3, rfl⟩
  obtain ⟨vm1, X1, st1⟩ := X.ldcMirror hx hown (mvT hZ w) hev hg hd
  exact ⟨_, X1, eT, st1⟩
end
theorem Safe.null {Z : State} {EL : List (String × Nat)} {vm : Vm} {h : Heap} {x : Addr} (hal : Z.vm.Alike vm) (E : Exa Z h x "java/lang/String") (F : Fld Z h x "java/lang/String" "value" "[B" .null) {a0 : Array Value} (wi : (Jvm.Cond.instantiable "java/lang/String" 4).before a0 Z = true) : Safe Z EL vm h x := fun B => by
  obtain ⟨p, -, u, a, -, q, -, G, rfl | rfl⟩ := B
  · obtain ⟨cS, ⟨⟨e1, -, -, ⟨c1, k1, i1, f1, -⟩, -, -, -, v1, -⟩, -⟩, -⟩ := G
    obtain ⟨cell, cf, k, i, f, h1, h2, -, -, -, -, h7⟩ := F
    cases (show h[q.sa]? = some q.sC from e1).symm.trans h1
    obtain ⟨k3, e3, -⟩ := State.fieldFound?_setVm (s := Z) hal h2
    have e4 := (show (Wst Z vm h).fieldFound? _ _ _ = _ from e3).symm.trans f1
    simp only [Option.some.injEq, Prod.mk.injEq] at e4
    rw [← e4.2.2.2, h7] at v1
    cases v1
  · have hd := G.hd
    obtain ⟨cS, ⟨⟨-, -, -, -, -, -, -, -, -, -, ⟨-, kB, hkB, compB, hkindB⟩, -⟩, -, -⟩, -⟩ := G
    obtain ⟨cell, k, e1, e2, e3, -⟩ := E
    cases (show h[q.sd]? = some q.SA from hd).symm.trans e1
    obtain ⟨c2, k2, i1, i2, i3, -⟩ := Cond.instantiable_spec wi
    cases e2.symm.trans i1
    obtain ⟨k4, q1, q2⟩ := hal.2.2 _ _ i2
    cases (show vm.classes[q.SA.cls]? = some kB from hkB).symm.trans q1
    rw [q2] at hkindB
    have := hkindB.symm.trans i3
    cases this
def EL : List (String × Nat) := [("com/example/slicewright/slicewright/report/Report", 21), ("com/example/slicewright/slicewright/report/Report", 42), ("com/example/slicewright/slicewright/report/Report", 46), ("java/lang/String", 7)]
theorem ew_of {Z : State} {a0 : Array Value} (hw : ∀ d ∈ tables_1, d.before a0 Z = true) : EW Z a0 EL := (EW.cons (hw _ (List.mem_of_getElem? (i := 142) rfl)) (by decide) (EW.cons (hw _ (List.mem_of_getElem? (i := 136) rfl)) (by decide) (EW.cons (hw _ (List.mem_of_getElem? (i := 144) rfl)) (by decide) (EW.cons (hw _ (List.mem_of_getElem? (i := 74) rfl)) (by decide) EW.nil))))
theorem ws_of {Z : State} {a0 : Array Value} (hw : ∀ d ∈ tables_1, d.before a0 Z = true) : ∀ a ∈ Bundle.stringAtoms, a.before a0 Z = true := fun d hd => hw d ((by decide +kernel : ∀ d ∈ Bundle.stringAtoms, d ∈ tables_1) d hd)
theorem pn_0 : plainName "com/example/slicewright/slicewright/report/ReportAddErrorPinLaw" = true := by first | (simp [plainName, overriddenIn]; done) | decide +kernel
theorem pd_0 : parseMethodDescriptor "(I)Lcom/example/slicewright/slicewright/report/ErrorKind;" = some ⟨[.int], some (.object "com/example/slicewright/slicewright/report/ErrorKind")⟩ := by decide +kernel
theorem pd_1 : parseMethodDescriptor "(II)Ljava/lang/String;" = some ⟨[.int, .int], some (.object "java/lang/String")⟩ := by decide +kernel
theorem pd_2 : parseMethodDescriptor "()V" = some ⟨[], none⟩ := by decide +kernel
theorem pd_3 : parseMethodDescriptor "()Z" = some ⟨[], some .boolean⟩ := by decide +kernel
theorem pd_4 : parseMethodDescriptor "(Lcom/example/slicewright/slicewright/report/ErrorKind;Ljava/lang/String;Ljava/lang/String;)V" = some ⟨[(.object "com/example/slicewright/slicewright/report/ErrorKind"), (.object "java/lang/String"), (.object "java/lang/String")], none⟩ := by decide +kernel
theorem pd_5 : parseMethodDescriptor "()Ljava/util/List;" = some ⟨[], some (.object "java/util/List")⟩ := by decide +kernel
theorem pd_6 : parseMethodDescriptor "()I" = some ⟨[], some .int⟩ := by decide +kernel
theorem pd_7 : parseMethodDescriptor "(I)Ljava/lang/Object;" = some ⟨[.int], some (.object "java/lang/Object")⟩ := by decide +kernel
theorem pd_8 : parseMethodDescriptor "()Lcom/example/slicewright/slicewright/report/ErrorKind;" = some ⟨[], some (.object "com/example/slicewright/slicewright/report/ErrorKind")⟩ := by decide +kernel
theorem pd_9 : parseMethodDescriptor "()Ljava/lang/String;" = some ⟨[], some (.object "java/lang/String")⟩ := by decide +kernel
theorem pd_10 : parseMethodDescriptor "(Ljava/lang/Object;)Z" = some ⟨[(.object "java/lang/Object")], some .boolean⟩ := by decide +kernel
theorem d1_0 : decode method_2_code 0 = .ok (.bipush 14, 2) := by decide +kernel
theorem d1_2 : decode method_2_code 2 = .ok (.anewarray 7, 3) := by decide +kernel
theorem d1_5 : decode method_2_code 5 = .ok (.dup, 1) := by decide +kernel
theorem d1_6 : decode method_2_code 6 = .ok (.iconst 0, 1) := by decide +kernel
theorem d1_7 : decode method_2_code 7 = .ok (.getstatic 9, 3) := by decide +kernel
theorem d1_10 : decode method_2_code 10 = .ok (.aastore, 1) := by decide +kernel
theorem d1_11 : decode method_2_code 11 = .ok (.dup, 1) := by decide +kernel
theorem d1_12 : decode method_2_code 12 = .ok (.iconst 1, 1) := by decide +kernel
theorem d1_13 : decode method_2_code 13 = .ok (.getstatic 13, 3) := by decide +kernel
theorem d1_16 : decode method_2_code 16 = .ok (.aastore, 1) := by decide +kernel
theorem d1_17 : decode method_2_code 17 = .ok (.dup, 1) := by decide +kernel
theorem d1_18 : decode method_2_code 18 = .ok (.iconst 2, 1) := by decide +kernel
theorem d1_19 : decode method_2_code 19 = .ok (.getstatic 16, 3) := by decide +kernel
theorem d1_22 : decode method_2_code 22 = .ok (.aastore, 1) := by decide +kernel
theorem d1_23 : decode method_2_code 23 = .ok (.dup, 1) := by decide +kernel
theorem d1_24 : decode method_2_code 24 = .ok (.iconst 3, 1) := by decide +kernel
theorem d1_25 : decode method_2_code 25 = .ok (.getstatic 19, 3) := by decide +kernel
theorem d1_28 : decode method_2_code 28 = .ok (.aastore, 1) := by decide +kernel
theorem d1_29 : decode method_2_code 29 = .ok (.dup, 1) := by decide +kernel
theorem d1_30 : decode method_2_code 30 = .ok (.iconst 4, 1) := by decide +kernel
theorem d1_31 : decode method_2_code 31 = .ok (.getstatic 22, 3) := by decide +kernel
theorem d1_34 : decode method_2_code 34 = .ok (.aastore, 1) := by decide +kernel
theorem d1_35 : decode method_2_code 35 = .ok (.dup, 1) := by decide +kernel
theorem d1_36 : decode method_2_code 36 = .ok (.iconst 5, 1) := by decide +kernel
theorem d1_37 : decode method_2_code 37 = .ok (.getstatic 25, 3) := by decide +kernel
theorem d1_40 : decode method_2_code 40 = .ok (.aastore, 1) := by decide +kernel
theorem d1_41 : decode method_2_code 41 = .ok (.dup, 1) := by decide +kernel
theorem d1_42 : decode method_2_code 42 = .ok (.bipush 6, 2) := by decide +kernel
theorem d1_44 : decode method_2_code 44 = .ok (.getstatic 28, 3) := by decide +kernel
theorem d1_47 : decode method_2_code 47 = .ok (.aastore, 1) := by decide +kernel
theorem d1_48 : decode method_2_code 48 = .ok (.dup, 1) := by decide +kernel
theorem d1_49 : decode method_2_code 49 = .ok (.bipush 7, 2) := by decide +kernel
theorem d1_51 : decode method_2_code 51 = .ok (.getstatic 31, 3) := by decide +kernel
theorem d1_54 : decode method_2_code 54 = .ok (.aastore, 1) := by decide +kernel
theorem d1_55 : decode method_2_code 55 = .ok (.dup, 1) := by decide +kernel
theorem d1_56 : decode method_2_code 56 = .ok (.bipush 8, 2) := by decide +kernel
theorem d1_58 : decode method_2_code 58 = .ok (.getstatic 34, 3) := by decide +kernel
theorem d1_61 : decode method_2_code 61 = .ok (.aastore, 1) := by decide +kernel
theorem d1_62 : decode method_2_code 62 = .ok (.dup, 1) := by decide +kernel
theorem d1_63 : decode method_2_code 63 = .ok (.bipush 9, 2) := by decide +kernel
theorem d1_65 : decode method_2_code 65 = .ok (.getstatic 37, 3) := by decide +kernel
theorem d1_68 : decode method_2_code 68 = .ok (.aastore, 1) := by decide +kernel
theorem d1_69 : decode method_2_code 69 = .ok (.dup, 1) := by decide +kernel
theorem d1_70 : decode method_2_code 70 = .ok (.bipush 10, 2) := by decide +kernel
theorem d1_72 : decode method_2_code 72 = .ok (.getstatic 40, 3) := by decide +kernel
theorem d1_75 : decode method_2_code 75 = .ok (.aastore, 1) := by decide +kernel
theorem d1_76 : decode method_2_code 76 = .ok (.dup, 1) := by decide +kernel
theorem d1_77 : decode method_2_code 77 = .ok (.bipush 11, 2) := by decide +kernel
theorem d1_79 : decode method_2_code 79 = .ok (.getstatic 43, 3) := by decide +kernel
theorem d1_82 : decode method_2_code 82 = .ok (.aastore, 1) := by decide +kernel
theorem d1_83 : decode method_2_code 83 = .ok (.dup, 1) := by decide +kernel
theorem d1_84 : decode method_2_code 84 = .ok (.bipush 12, 2) := by decide +kernel
theorem d1_86 : decode method_2_code 86 = .ok (.getstatic 46, 3) := by decide +kernel
theorem d1_89 : decode method_2_code 89 = .ok (.aastore, 1) := by decide +kernel
theorem d1_90 : decode method_2_code 90 = .ok (.dup, 1) := by decide +kernel
theorem d1_91 : decode method_2_code 91 = .ok (.bipush 13, 2) := by decide +kernel
theorem d1_93 : decode method_2_code 93 = .ok (.getstatic 49, 3) := by decide +kernel
theorem d1_96 : decode method_2_code 96 = .ok (.aastore, 1) := by decide +kernel
theorem d1_97 : decode method_2_code 97 = .ok (.astore_n 1, 1) := by decide +kernel
theorem d1_98 : decode method_2_code 98 = .ok (.aload_n 1, 1) := by decide +kernel
theorem d1_99 : decode method_2_code 99 = .ok (.iload_n 0, 1) := by decide +kernel
theorem d1_100 : decode method_2_code 100 = .ok (.ldc 52, 2) := by decide +kernel
theorem d1_102 : decode method_2_code 102 = .ok (.iand, 1) := by decide +kernel
theorem d1_103 : decode method_2_code 103 = .ok (.bipush 14, 2) := by decide +kernel
theorem d1_105 : decode method_2_code 105 = .ok (.irem, 1) := by decide +kernel
theorem d1_106 : decode method_2_code 106 = .ok (.aaload, 1) := by decide +kernel
theorem d1_107 : decode method_2_code 107 = .ok (.areturn, 1) := by decide +kernel
theorem d2_0 : decode method_3_code 0 = .ok (.iload_n 0, 1) := by decide +kernel
theorem d2_1 : decode method_3_code 1 = .ok (.sipush 255, 3) := by decide +kernel
theorem d2_4 : decode method_3_code 4 = .ok (.iand, 1) := by decide +kernel
theorem d2_5 : decode method_3_code 5 = .ok (.i2c, 1) := by decide +kernel
theorem d2_6 : decode method_3_code 6 = .ok (.istore_n 2, 1) := by decide +kernel
theorem d2_7 : decode method_3_code 7 = .ok (.iload_n 0, 1) := by decide +kernel
theorem d2_8 : decode method_3_code 8 = .ok (.bipush 8, 2) := by decide +kernel
theorem d2_10 : decode method_3_code 10 = .ok (.iushr, 1) := by decide +kernel
theorem d2_11 : decode method_3_code 11 = .ok (.sipush 255, 3) := by decide +kernel
theorem d2_14 : decode method_3_code 14 = .ok (.iand, 1) := by decide +kernel
theorem d2_15 : decode method_3_code 15 = .ok (.i2c, 1) := by decide +kernel
theorem d2_16 : decode method_3_code 16 = .ok (.istore_n 3, 1) := by decide +kernel
theorem d2_17 : decode method_3_code 17 = .ok (.iload_n 1, 1) := by decide +kernel
theorem d2_18 : decode method_3_code 18 = .ok (.ifCond .ne 14, 3) := by decide +kernel
theorem d2_21 : decode method_3_code 21 = .ok (.new 53, 3) := by decide +kernel
theorem d2_24 : decode method_3_code 24 = .ok (.dup, 1) := by decide +kernel
theorem d2_25 : decode method_3_code 25 = .ok (.iconst 0, 1) := by decide +kernel
theorem d2_26 : decode method_3_code 26 = .ok (.newarray .char, 2) := by decide +kernel
theorem d2_28 : decode method_3_code 28 = .ok (.invokespecial 55, 3) := by decide +kernel
theorem d2_31 : decode method_3_code 31 = .ok (.areturn, 1) := by decide +kernel
theorem d2_32 : decode method_3_code 32 = .ok (.iload_n 1, 1) := by decide +kernel
theorem d2_33 : decode method_3_code 33 = .ok (.iconst 1, 1) := by decide +kernel
theorem d2_34 : decode method_3_code 34 = .ok (.if_icmp .ne 8, 3) := by decide +kernel
theorem d2_37 : decode method_3_code 37 = .ok (.iload_n 2, 1) := by decide +kernel
theorem d2_38 : decode method_3_code 38 = .ok (.invokestatic 58, 3) := by decide +kernel
theorem d2_41 : decode method_3_code 41 = .ok (.areturn, 1) := by decide +kernel
theorem d2_42 : decode method_3_code 42 = .ok (.new 53, 3) := by decide +kernel
theorem d2_45 : decode method_3_code 45 = .ok (.dup, 1) := by decide +kernel
theorem d2_46 : decode method_3_code 46 = .ok (.iconst 2, 1) := by decide +kernel
theorem d2_47 : decode method_3_code 47 = .ok (.newarray .char, 2) := by decide +kernel
theorem d2_49 : decode method_3_code 49 = .ok (.dup, 1) := by decide +kernel
theorem d2_50 : decode method_3_code 50 = .ok (.iconst 0, 1) := by decide +kernel
theorem d2_51 : decode method_3_code 51 = .ok (.iload_n 2, 1) := by decide +kernel
theorem d2_52 : decode method_3_code 52 = .ok (.castore, 1) := by decide +kernel
theorem d2_53 : decode method_3_code 53 = .ok (.dup, 1) := by decide +kernel
theorem d2_54 : decode method_3_code 54 = .ok (.iconst 1, 1) := by decide +kernel
theorem d2_55 : decode method_3_code 55 = .ok (.iload_n 3, 1) := by decide +kernel
theorem d2_56 : decode method_3_code 56 = .ok (.castore, 1) := by decide +kernel
theorem d2_57 : decode method_3_code 57 = .ok (.invokespecial 55, 3) := by decide +kernel
theorem d2_60 : decode method_3_code 60 = .ok (.areturn, 1) := by decide +kernel
theorem pd_11 : parseMethodDescriptor "([C)V" = some ⟨[(.array .char)], none⟩ := by decide +kernel
theorem pd_12 : parseMethodDescriptor "(C)Ljava/lang/String;" = some ⟨[.char], some (.object "java/lang/String")⟩ := by decide +kernel
theorem d3_0 : decode jdk_42_method_139_code 0 = .ok (.getstatic 38, 3) := by decide +kernel
theorem d3_3 : decode jdk_42_method_139_code 3 = .ok (.ifCond .eq 23, 3) := by decide +kernel
theorem d3_6 : decode jdk_42_method_139_code 6 = .ok (.iload_n 0, 1) := by decide +kernel
theorem d3_7 : decode jdk_42_method_139_code 7 = .ok (.invokestatic 1015, 3) := by decide +kernel
theorem d3_10 : decode jdk_42_method_139_code 10 = .ok (.ifCond .eq 16, 3) := by decide +kernel
theorem d3_13 : decode jdk_42_method_139_code 13 = .ok (.new 10, 3) := by decide +kernel
theorem d3_16 : decode jdk_42_method_139_code 16 = .ok (.dup, 1) := by decide +kernel
theorem d3_17 : decode jdk_42_method_139_code 17 = .ok (.iload_n 0, 1) := by decide +kernel
theorem d3_18 : decode jdk_42_method_139_code 18 = .ok (.invokestatic 1018, 3) := by decide +kernel
theorem d3_21 : decode jdk_42_method_139_code 21 = .ok (.iconst 0, 1) := by decide +kernel
theorem d3_22 : decode jdk_42_method_139_code 22 = .ok (.invokespecial 209, 3) := by decide +kernel
theorem d3_25 : decode jdk_42_method_139_code 25 = .ok (.areturn, 1) := by decide +kernel
theorem d3_26 : decode jdk_42_method_139_code 26 = .ok (.new 10, 3) := by decide +kernel
theorem d3_29 : decode jdk_42_method_139_code 29 = .ok (.dup, 1) := by decide +kernel
theorem d3_30 : decode jdk_42_method_139_code 30 = .ok (.iload_n 0, 1) := by decide +kernel
theorem d3_31 : decode jdk_42_method_139_code 31 = .ok (.invokestatic 1021, 3) := by decide +kernel
theorem d3_34 : decode jdk_42_method_139_code 34 = .ok (.iconst 1, 1) := by decide +kernel
theorem d3_35 : decode jdk_42_method_139_code 35 = .ok (.invokespecial 209, 3) := by decide +kernel
theorem d3_38 : decode jdk_42_method_139_code 38 = .ok (.areturn, 1) := by decide +kernel
theorem pn_1 : plainName "java/lang/String" = true := by first | (simp [plainName, overriddenIn]; done) | decide +kernel
theorem pd_13 : parseMethodDescriptor "(C)Z" = some ⟨[.char], some .boolean⟩ := by decide +kernel
theorem pd_14 : parseMethodDescriptor "(C)[B" = some ⟨[.char], some (.array .byte)⟩ := by decide +kernel
theorem pd_15 : parseMethodDescriptor "([BB)V" = some ⟨[(.array .byte), .byte], none⟩ := by decide +kernel
theorem d4_0 : decode jdk_43_method_3_code 0 = .ok (.iload_n 0, 1) := by decide +kernel
theorem d4_1 : decode jdk_43_method_3_code 1 = .ok (.sipush 255, 3) := by decide +kernel
theorem d4_4 : decode jdk_43_method_3_code 4 = .ok (.if_icmp .gt 7, 3) := by decide +kernel
theorem d4_7 : decode jdk_43_method_3_code 7 = .ok (.iconst 1, 1) := by decide +kernel
theorem d4_8 : decode jdk_43_method_3_code 8 = .ok (.goto 4, 3) := by decide +kernel
theorem d4_11 : decode jdk_43_method_3_code 11 = .ok (.iconst 0, 1) := by decide +kernel
theorem d4_12 : decode jdk_43_method_3_code 12 = .ok (.ireturn, 1) := by decide +kernel
theorem pn_2 : plainName "java/lang/StringLatin1" = true := by first | (simp [plainName, overriddenIn]; done) | decide +kernel
theorem d5_0 : decode jdk_43_method_46_code 0 = .ok (.iconst 1, 1) := by decide +kernel
theorem d5_1 : decode jdk_43_method_46_code 1 = .ok (.newarray .byte, 2) := by decide +kernel
theorem d5_3 : decode jdk_43_method_46_code 3 = .ok (.dup, 1) := by decide +kernel
theorem d5_4 : decode jdk_43_method_46_code 4 = .ok (.iconst 0, 1) := by decide +kernel
theorem d5_5 : decode jdk_43_method_46_code 5 = .ok (.iload_n 0, 1) := by decide +kernel
theorem d5_6 : decode jdk_43_method_46_code 6 = .ok (.i2b, 1) := by decide +kernel
theorem d5_7 : decode jdk_43_method_46_code 7 = .ok (.bastore, 1) := by decide +kernel
theorem d5_8 : decode jdk_43_method_46_code 8 = .ok (.areturn, 1) := by decide +kernel
theorem d6_0 : decode jdk_42_method_151_code 0 = .ok (.aload_n 0, 1) := by decide +kernel
theorem d6_1 : decode jdk_42_method_151_code 1 = .ok (.invokespecial 1, 3) := by decide +kernel
theorem d6_4 : decode jdk_42_method_151_code 4 = .ok (.aload_n 0, 1) := by decide +kernel
theorem d6_5 : decode jdk_42_method_151_code 5 = .ok (.aload_n 1, 1) := by decide +kernel
theorem d6_6 : decode jdk_42_method_151_code 6 = .ok (.putfield 9, 3) := by decide +kernel
theorem d6_9 : decode jdk_42_method_151_code 9 = .ok (.aload_n 0, 1) := by decide +kernel
theorem d6_10 : decode jdk_42_method_151_code 10 = .ok (.iload_n 2, 1) := by decide +kernel
theorem d6_11 : decode jdk_42_method_151_code 11 = .ok (.putfield 15, 3) := by decide +kernel
theorem d6_14 : decode jdk_42_method_151_code 14 = .ok (.return_, 1) := by decide +kernel
theorem d8_0 : decode jdk_42_method_3_code 0 = .ok (.aload_n 0, 1) := by decide +kernel
theorem d8_1 : decode jdk_42_method_3_code 1 = .ok (.aload_n 1, 1) := by decide +kernel
theorem d8_2 : decode jdk_42_method_3_code 2 = .ok (.iconst 0, 1) := by decide +kernel
theorem d8_3 : decode jdk_42_method_3_code 3 = .ok (.aload_n 1, 1) := by decide +kernel
theorem d8_4 : decode jdk_42_method_3_code 4 = .ok (.arraylength, 1) := by decide +kernel
theorem d8_5 : decode jdk_42_method_3_code 5 = .ok (.aconst_null, 1) := by decide +kernel
theorem d8_6 : decode jdk_42_method_3_code 6 = .ok (.invokespecial 27, 3) := by decide +kernel
theorem d8_9 : decode jdk_42_method_3_code 9 = .ok (.return_, 1) := by decide +kernel
theorem pd_16 : parseMethodDescriptor "([CIILjava/lang/Void;)V" = some ⟨[(.array .char), .int, .int, (.object "java/lang/Void")], none⟩ := by decide +kernel
theorem d9_0 : decode jdk_42_method_149_code 0 = .ok (.aload_n 0, 1) := by decide +kernel
theorem d9_1 : decode jdk_42_method_149_code 1 = .ok (.invokespecial 1, 3) := by decide +kernel
theorem d9_4 : decode jdk_42_method_149_code 4 = .ok (.iload_n 3, 1) := by decide +kernel
theorem d9_5 : decode jdk_42_method_149_code 5 = .ok (.ifCond .ne 22, 3) := by decide +kernel
theorem d9_8 : decode jdk_42_method_149_code 8 = .ok (.aload_n 0, 1) := by decide +kernel
theorem d9_9 : decode jdk_42_method_149_code 9 = .ok (.ldc 7, 2) := by decide +kernel
theorem d9_11 : decode jdk_42_method_149_code 11 = .ok (.getfield 9, 3) := by decide +kernel
theorem d9_14 : decode jdk_42_method_149_code 14 = .ok (.putfield 9, 3) := by decide +kernel
theorem d9_17 : decode jdk_42_method_149_code 17 = .ok (.aload_n 0, 1) := by decide +kernel
theorem d9_18 : decode jdk_42_method_149_code 18 = .ok (.ldc 7, 2) := by decide +kernel
theorem d9_20 : decode jdk_42_method_149_code 20 = .ok (.getfield 15, 3) := by decide +kernel
theorem d9_23 : decode jdk_42_method_149_code 23 = .ok (.putfield 15, 3) := by decide +kernel
theorem d9_26 : decode jdk_42_method_149_code 26 = .ok (.return_, 1) := by decide +kernel
theorem d9_27 : decode jdk_42_method_149_code 27 = .ok (.getstatic 38, 3) := by decide +kernel
theorem d9_30 : decode jdk_42_method_149_code 30 = .ok (.ifCond .eq 28, 3) := by decide +kernel
theorem d9_33 : decode jdk_42_method_149_code 33 = .ok (.aload_n 1, 1) := by decide +kernel
theorem d9_34 : decode jdk_42_method_149_code 34 = .ok (.iload_n 2, 1) := by decide +kernel
theorem d9_35 : decode jdk_42_method_149_code 35 = .ok (.iload_n 3, 1) := by decide +kernel
theorem d9_36 : decode jdk_42_method_149_code 36 = .ok (.invokestatic 177, 3) := by decide +kernel
theorem d9_39 : decode jdk_42_method_149_code 39 = .ok (.astore 5, 2) := by decide +kernel
theorem d9_41 : decode jdk_42_method_149_code 41 = .ok (.aload_n 0, 1) := by decide +kernel
theorem d9_42 : decode jdk_42_method_149_code 42 = .ok (.aload 5, 2) := by decide +kernel
theorem d9_44 : decode jdk_42_method_149_code 44 = .ok (.iload_n 3, 1) := by decide +kernel
theorem d9_45 : decode jdk_42_method_149_code 45 = .ok (.invokestatic 47, 3) := by decide +kernel
theorem d9_48 : decode jdk_42_method_149_code 48 = .ok (.putfield 15, 3) := by decide +kernel
theorem d9_51 : decode jdk_42_method_149_code 51 = .ok (.aload_n 0, 1) := by decide +kernel
theorem d9_52 : decode jdk_42_method_149_code 52 = .ok (.aload 5, 2) := by decide +kernel
theorem d9_54 : decode jdk_42_method_149_code 54 = .ok (.putfield 9, 3) := by decide +kernel
theorem d9_57 : decode jdk_42_method_149_code 57 = .ok (.return_, 1) := by decide +kernel
theorem d9_58 : decode jdk_42_method_149_code 58 = .ok (.aload_n 0, 1) := by decide +kernel
theorem d9_59 : decode jdk_42_method_149_code 59 = .ok (.iconst 1, 1) := by decide +kernel
theorem d9_60 : decode jdk_42_method_149_code 60 = .ok (.putfield 15, 3) := by decide +kernel
theorem d9_63 : decode jdk_42_method_149_code 63 = .ok (.aload_n 0, 1) := by decide +kernel
theorem d9_64 : decode jdk_42_method_149_code 64 = .ok (.aload_n 1, 1) := by decide +kernel
theorem d9_65 : decode jdk_42_method_149_code 65 = .ok (.iload_n 2, 1) := by decide +kernel
theorem d9_66 : decode jdk_42_method_149_code 66 = .ok (.iload_n 3, 1) := by decide +kernel
theorem d9_67 : decode jdk_42_method_149_code 67 = .ok (.invokestatic 180, 3) := by decide +kernel
theorem d9_70 : decode jdk_42_method_149_code 70 = .ok (.putfield 9, 3) := by decide +kernel
theorem d9_73 : decode jdk_42_method_149_code 73 = .ok (.return_, 1) := by decide +kernel
theorem pd_17 : parseMethodDescriptor "([CII)[B" = some ⟨[(.array .char), .int, .int], some (.array .byte)⟩ := by decide +kernel
theorem pd_18 : parseMethodDescriptor "([BI)B" = some ⟨[(.array .byte), .int], some .byte⟩ := by decide +kernel
theorem d10_0 : decode prog_24_method_1_code 0 = .ok (.aload_n 0, 1) := by decide +kernel
theorem d10_1 : decode prog_24_method_1_code 1 = .ok (.invokespecial 1, 3) := by decide +kernel
theorem d10_4 : decode prog_24_method_1_code 4 = .ok (.aload_n 0, 1) := by decide +kernel
theorem d10_5 : decode prog_24_method_1_code 5 = .ok (.new 7, 3) := by decide +kernel
theorem d10_8 : decode prog_24_method_1_code 8 = .ok (.dup, 1) := by decide +kernel
theorem d10_9 : decode prog_24_method_1_code 9 = .ok (.invokespecial 9, 3) := by decide +kernel
theorem d10_12 : decode prog_24_method_1_code 12 = .ok (.putfield 10, 3) := by decide +kernel
theorem d10_15 : decode prog_24_method_1_code 15 = .ok (.aload_n 0, 1) := by decide +kernel
theorem d10_16 : decode prog_24_method_1_code 16 = .ok (.new 7, 3) := by decide +kernel
theorem d10_19 : decode prog_24_method_1_code 19 = .ok (.dup, 1) := by decide +kernel
theorem d10_20 : decode prog_24_method_1_code 20 = .ok (.invokespecial 9, 3) := by decide +kernel
theorem d10_23 : decode prog_24_method_1_code 23 = .ok (.putfield 16, 3) := by decide +kernel
theorem d10_26 : decode prog_24_method_1_code 26 = .ok (.return_, 1) := by decide +kernel
theorem pn_3 : plainName "com/example/slicewright/slicewright/report/Report" = true := by first | (simp [plainName, overriddenIn]; done) | decide +kernel
theorem d11_0 : decode jdk_38_method_2_code 0 = .ok (.aload_n 0, 1) := by decide +kernel
theorem d11_1 : decode jdk_38_method_2_code 1 = .ok (.invokespecial 1, 3) := by decide +kernel
theorem d11_4 : decode jdk_38_method_2_code 4 = .ok (.aload_n 0, 1) := by decide +kernel
theorem d11_5 : decode jdk_38_method_2_code 5 = .ok (.getstatic 39, 3) := by decide +kernel
theorem d11_8 : decode jdk_38_method_2_code 8 = .ok (.putfield 9, 3) := by decide +kernel
theorem d11_11 : decode jdk_38_method_2_code 11 = .ok (.return_, 1) := by decide +kernel
theorem pn_4 : plainName "java/util/ArrayList" = true := by first | (simp [plainName, overriddenIn]; done) | decide +kernel
theorem d12_0 : decode jdk_39_method_1_code 0 = .ok (.aload_n 0, 1) := by decide +kernel
theorem d12_1 : decode jdk_39_method_1_code 1 = .ok (.invokespecial 1, 3) := by decide +kernel
theorem d12_4 : decode jdk_39_method_1_code 4 = .ok (.aload_n 0, 1) := by decide +kernel
theorem d12_5 : decode jdk_39_method_1_code 5 = .ok (.iconst 0, 1) := by decide +kernel
theorem d12_6 : decode jdk_39_method_1_code 6 = .ok (.putfield 7, 3) := by decide +kernel
theorem d12_9 : decode jdk_39_method_1_code 9 = .ok (.return_, 1) := by decide +kernel
theorem pn_5 : plainName "java/util/AbstractList" = true := by first | (simp [plainName, overriddenIn]; done) | decide +kernel
theorem d13_0 : decode jdk_22_method_1_code 0 = .ok (.aload_n 0, 1) := by decide +kernel
theorem d13_1 : decode jdk_22_method_1_code 1 = .ok (.invokespecial 1, 3) := by decide +kernel
theorem d13_4 : decode jdk_22_method_1_code 4 = .ok (.return_, 1) := by decide +kernel
theorem pn_6 : plainName "java/util/AbstractCollection" = true := by first | (simp [plainName, overriddenIn]; done) | decide +kernel
theorem d14_0 : decode prog_24_method_6_code 0 = .ok (.aload_n 0, 1) := by decide +kernel
theorem d14_1 : decode prog_24_method_6_code 1 = .ok (.getfield 16, 3) := by decide +kernel
theorem d14_4 : decode prog_24_method_6_code 4 = .ok (.invokeinterface 57 1, 5) := by decide +kernel
theorem d14_9 : decode prog_24_method_6_code 9 = .ok (.ireturn, 1) := by decide +kernel
theorem d15_0 : decode jdk_38_method_9_code 0 = .ok (.aload_n 0, 1) := by decide +kernel
theorem d15_1 : decode jdk_38_method_9_code 1 = .ok (.getfield 48, 3) := by decide +kernel
theorem d15_4 : decode jdk_38_method_9_code 4 = .ok (.ifCond .ne 7, 3) := by decide +kernel
theorem d15_7 : decode jdk_38_method_9_code 7 = .ok (.iconst 1, 1) := by decide +kernel
theorem d15_8 : decode jdk_38_method_9_code 8 = .ok (.goto 4, 3) := by decide +kernel
theorem d15_11 : decode jdk_38_method_9_code 11 = .ok (.iconst 0, 1) := by decide +kernel
theorem d15_12 : decode jdk_38_method_9_code 12 = .ok (.ireturn, 1) := by decide +kernel
theorem d16_0 : decode prog_24_method_3_code 0 = .ok (.aload_n 0, 1) := by decide +kernel
theorem d16_1 : decode prog_24_method_3_code 1 = .ok (.getfield 16, 3) := by decide +kernel
theorem d16_4 : decode prog_24_method_3_code 4 = .ok (.new 40, 3) := by decide +kernel
theorem d16_7 : decode prog_24_method_3_code 7 = .ok (.dup, 1) := by decide +kernel
theorem d16_8 : decode prog_24_method_3_code 8 = .ok (.aload_n 1, 1) := by decide +kernel
theorem d16_9 : decode prog_24_method_3_code 9 = .ok (.ldc 42, 2) := by decide +kernel
theorem d16_11 : decode prog_24_method_3_code 11 = .ok (.invokestatic 23, 3) := by decide +kernel
theorem d16_14 : decode prog_24_method_3_code 14 = .ok (.checkcast 44, 3) := by decide +kernel
theorem d16_17 : decode prog_24_method_3_code 17 = .ok (.aload_n 2, 1) := by decide +kernel
theorem d16_18 : decode prog_24_method_3_code 18 = .ok (.ldc 21, 2) := by decide +kernel
theorem d16_20 : decode prog_24_method_3_code 20 = .ok (.invokestatic 23, 3) := by decide +kernel
theorem d16_23 : decode prog_24_method_3_code 23 = .ok (.checkcast 29, 3) := by decide +kernel
theorem d16_26 : decode prog_24_method_3_code 26 = .ok (.aload_n 3, 1) := by decide +kernel
theorem d16_27 : decode prog_24_method_3_code 27 = .ok (.ldc 46, 2) := by decide +kernel
theorem d16_29 : decode prog_24_method_3_code 29 = .ok (.invokestatic 23, 3) := by decide +kernel
theorem d16_32 : decode prog_24_method_3_code 32 = .ok (.checkcast 29, 3) := by decide +kernel
theorem d16_35 : decode prog_24_method_3_code 35 = .ok (.invokespecial 48, 3) := by decide +kernel
theorem d16_38 : decode prog_24_method_3_code 38 = .ok (.invokeinterface 34 2, 5) := by decide +kernel
theorem d16_43 : decode prog_24_method_3_code 43 = .ok (.pop, 1) := by decide +kernel
theorem d16_44 : decode prog_24_method_3_code 44 = .ok (.return_, 1) := by decide +kernel
theorem pd_19 : parseMethodDescriptor "(Ljava/lang/Object;Ljava/lang/String;)Ljava/lang/Object;" = some ⟨[(.object "java/lang/Object"), (.object "java/lang/String")], some (.object "java/lang/Object")⟩ := by decide +kernel
theorem d17_0 : decode jdk_31_method_11_code 0 = .ok (.aload_n 0, 1) := by decide +kernel
theorem d17_1 : decode jdk_31_method_11_code 1 = .ok (.ifnonnull 12, 3) := by decide +kernel
theorem d17_4 : decode jdk_31_method_11_code 4 = .ok (.new 84, 3) := by decide +kernel
theorem d17_7 : decode jdk_31_method_11_code 7 = .ok (.dup, 1) := by decide +kernel
theorem d17_8 : decode jdk_31_method_11_code 8 = .ok (.aload_n 1, 1) := by decide +kernel
theorem d17_9 : decode jdk_31_method_11_code 9 = .ok (.invokespecial 87, 3) := by decide +kernel
theorem d17_12 : decode jdk_31_method_11_code 12 = .ok (.athrow, 1) := by decide +kernel
theorem d17_13 : decode jdk_31_method_11_code 13 = .ok (.aload_n 0, 1) := by decide +kernel
theorem d17_14 : decode jdk_31_method_11_code 14 = .ok (.areturn, 1) := by decide +kernel
theorem pn_7 : plainName "java/util/Objects" = true := by first | (simp [plainName, overriddenIn]; done) | decide +kernel
theorem d18_0 : decode prog_25_method_1_code 0 = .ok (.aload_n 0, 1) := by decide +kernel
theorem d18_1 : decode prog_25_method_1_code 1 = .ok (.invokespecial 1, 3) := by decide +kernel
theorem d18_4 : decode prog_25_method_1_code 4 = .ok (.aload_n 0, 1) := by decide +kernel
theorem d18_5 : decode prog_25_method_1_code 5 = .ok (.aload_n 1, 1) := by decide +kernel
theorem d18_6 : decode prog_25_method_1_code 6 = .ok (.putfield 7, 3) := by decide +kernel
theorem d18_9 : decode prog_25_method_1_code 9 = .ok (.aload_n 0, 1) := by decide +kernel
theorem d18_10 : decode prog_25_method_1_code 10 = .ok (.aload_n 2, 1) := by decide +kernel
theorem d18_11 : decode prog_25_method_1_code 11 = .ok (.putfield 13, 3) := by decide +kernel
theorem d18_14 : decode prog_25_method_1_code 14 = .ok (.aload_n 0, 1) := by decide +kernel
theorem d18_15 : decode prog_25_method_1_code 15 = .ok (.aload_n 3, 1) := by decide +kernel
theorem d18_16 : decode prog_25_method_1_code 16 = .ok (.putfield 17, 3) := by decide +kernel
theorem d18_19 : decode prog_25_method_1_code 19 = .ok (.return_, 1) := by decide +kernel
theorem pn_8 : plainName "com/example/slicewright/slicewright/report/Report$Finding" = true := by first | (simp [plainName, overriddenIn]; done) | decide +kernel
theorem d19_0 : decode jdk_30_method_1_code 0 = .ok (.aload_n 0, 1) := by decide +kernel
theorem d19_1 : decode jdk_30_method_1_code 1 = .ok (.invokespecial 1, 3) := by decide +kernel
theorem d19_4 : decode jdk_30_method_1_code 4 = .ok (.return_, 1) := by decide +kernel
theorem pn_9 : plainName "java/lang/Record" = true := by first | (simp [plainName, overriddenIn]; done) | decide +kernel
theorem d20_0 : decode jdk_38_method_25_code 0 = .ok (.aload_n 0, 1) := by decide +kernel
theorem d20_1 : decode jdk_38_method_25_code 1 = .ok (.dup, 1) := by decide +kernel
theorem d20_2 : decode jdk_38_method_25_code 2 = .ok (.getfield 63, 3) := by decide +kernel
theorem d20_5 : decode jdk_38_method_25_code 5 = .ok (.iconst 1, 1) := by decide +kernel
theorem d20_6 : decode jdk_38_method_25_code 6 = .ok (.iadd, 1) := by decide +kernel
theorem d20_7 : decode jdk_38_method_25_code 7 = .ok (.putfield 63, 3) := by decide +kernel
theorem d20_10 : decode jdk_38_method_25_code 10 = .ok (.aload_n 0, 1) := by decide +kernel
theorem d20_11 : decode jdk_38_method_25_code 11 = .ok (.aload_n 1, 1) := by decide +kernel
theorem d20_12 : decode jdk_38_method_25_code 12 = .ok (.aload_n 0, 1) := by decide +kernel
theorem d20_13 : decode jdk_38_method_25_code 13 = .ok (.getfield 9, 3) := by decide +kernel
theorem d20_16 : decode jdk_38_method_25_code 16 = .ok (.aload_n 0, 1) := by decide +kernel
theorem d20_17 : decode jdk_38_method_25_code 17 = .ok (.getfield 48, 3) := by decide +kernel
theorem d20_20 : decode jdk_38_method_25_code 20 = .ok (.invokevirtual 131, 3) := by decide +kernel
theorem d20_23 : decode jdk_38_method_25_code 23 = .ok (.iconst 1, 1) := by decide +kernel
theorem d20_24 : decode jdk_38_method_25_code 24 = .ok (.ireturn, 1) := by decide +kernel
theorem pd_20 : parseMethodDescriptor "(Ljava/lang/Object;[Ljava/lang/Object;I)V" = some ⟨[(.object "java/lang/Object"), (.array (.object "java/lang/Object")), .int], none⟩ := by decide +kernel
theorem d21_0 : decode jdk_38_method_24_code 0 = .ok (.iload_n 3, 1) := by decide +kernel
theorem d21_1 : decode jdk_38_method_24_code 1 = .ok (.aload_n 2, 1) := by decide +kernel
theorem d21_2 : decode jdk_38_method_24_code 2 = .ok (.arraylength, 1) := by decide +kernel
theorem d21_3 : decode jdk_38_method_24_code 3 = .ok (.if_icmp .ne 8, 3) := by decide +kernel
theorem d21_6 : decode jdk_38_method_24_code 6 = .ok (.aload_n 0, 1) := by decide +kernel
theorem d21_7 : decode jdk_38_method_24_code 7 = .ok (.invokevirtual 129, 3) := by decide +kernel
theorem d21_10 : decode jdk_38_method_24_code 10 = .ok (.astore_n 2, 1) := by decide +kernel
theorem d21_11 : decode jdk_38_method_24_code 11 = .ok (.aload_n 2, 1) := by decide +kernel
theorem d21_12 : decode jdk_38_method_24_code 12 = .ok (.iload_n 3, 1) := by decide +kernel
theorem d21_13 : decode jdk_38_method_24_code 13 = .ok (.aload_n 1, 1) := by decide +kernel
theorem d21_14 : decode jdk_38_method_24_code 14 = .ok (.aastore, 1) := by decide +kernel
theorem d21_15 : decode jdk_38_method_24_code 15 = .ok (.aload_n 0, 1) := by decide +kernel
theorem d21_16 : decode jdk_38_method_24_code 16 = .ok (.iload_n 3, 1) := by decide +kernel
theorem d21_17 : decode jdk_38_method_24_code 17 = .ok (.iconst 1, 1) := by decide +kernel
theorem d21_18 : decode jdk_38_method_24_code 18 = .ok (.iadd, 1) := by decide +kernel
theorem d21_19 : decode jdk_38_method_24_code 19 = .ok (.putfield 48, 3) := by decide +kernel
theorem d21_22 : decode jdk_38_method_24_code 22 = .ok (.return_, 1) := by decide +kernel
theorem pd_21 : parseMethodDescriptor "()[Ljava/lang/Object;" = some ⟨[], some (.array (.object "java/lang/Object"))⟩ := by decide +kernel
theorem d22_0 : decode jdk_38_method_7_code 0 = .ok (.aload_n 0, 1) := by decide +kernel
theorem d22_1 : decode jdk_38_method_7_code 1 = .ok (.aload_n 0, 1) := by decide +kernel
theorem d22_2 : decode jdk_38_method_7_code 2 = .ok (.getfield 48, 3) := by decide +kernel
theorem d22_5 : decode jdk_38_method_7_code 5 = .ok (.iconst 1, 1) := by decide +kernel
theorem d22_6 : decode jdk_38_method_7_code 6 = .ok (.iadd, 1) := by decide +kernel
theorem d22_7 : decode jdk_38_method_7_code 7 = .ok (.invokevirtual 69, 3) := by decide +kernel
theorem d22_10 : decode jdk_38_method_7_code 10 = .ok (.areturn, 1) := by decide +kernel
theorem pd_22 : parseMethodDescriptor "(I)[Ljava/lang/Object;" = some ⟨[.int], some (.array (.object "java/lang/Object"))⟩ := by decide +kernel
theorem d23_0 : decode jdk_38_method_6_code 0 = .ok (.aload_n 0, 1) := by decide +kernel
theorem d23_1 : decode jdk_38_method_6_code 1 = .ok (.getfield 9, 3) := by decide +kernel
theorem d23_4 : decode jdk_38_method_6_code 4 = .ok (.arraylength, 1) := by decide +kernel
theorem d23_5 : decode jdk_38_method_6_code 5 = .ok (.istore_n 2, 1) := by decide +kernel
theorem d23_6 : decode jdk_38_method_6_code 6 = .ok (.iload_n 2, 1) := by decide +kernel
theorem d23_7 : decode jdk_38_method_6_code 7 = .ok (.ifCond .gt 13, 3) := by decide +kernel
theorem d23_10 : decode jdk_38_method_6_code 10 = .ok (.aload_n 0, 1) := by decide +kernel
theorem d23_11 : decode jdk_38_method_6_code 11 = .ok (.getfield 9, 3) := by decide +kernel
theorem d23_14 : decode jdk_38_method_6_code 14 = .ok (.getstatic 39, 3) := by decide +kernel
theorem d23_17 : decode jdk_38_method_6_code 17 = .ok (.if_acmp .eq 28, 3) := by decide +kernel
theorem d23_20 : decode jdk_38_method_6_code 20 = .ok (.iload_n 2, 1) := by decide +kernel
theorem d23_21 : decode jdk_38_method_6_code 21 = .ok (.iload_n 1, 1) := by decide +kernel
theorem d23_22 : decode jdk_38_method_6_code 22 = .ok (.iload_n 2, 1) := by decide +kernel
theorem d23_23 : decode jdk_38_method_6_code 23 = .ok (.isub, 1) := by decide +kernel
theorem d23_24 : decode jdk_38_method_6_code 24 = .ok (.iload_n 2, 1) := by decide +kernel
theorem d23_25 : decode jdk_38_method_6_code 25 = .ok (.iconst 1, 1) := by decide +kernel
theorem d23_26 : decode jdk_38_method_6_code 26 = .ok (.ishr, 1) := by decide +kernel
theorem d23_27 : decode jdk_38_method_6_code 27 = .ok (.invokestatic 73, 3) := by decide +kernel
theorem d23_30 : decode jdk_38_method_6_code 30 = .ok (.istore_n 3, 1) := by decide +kernel
theorem d23_31 : decode jdk_38_method_6_code 31 = .ok (.aload_n 0, 1) := by decide +kernel
theorem d23_32 : decode jdk_38_method_6_code 32 = .ok (.aload_n 0, 1) := by decide +kernel
theorem d23_33 : decode jdk_38_method_6_code 33 = .ok (.getfield 9, 3) := by decide +kernel
theorem d23_36 : decode jdk_38_method_6_code 36 = .ok (.iload_n 3, 1) := by decide +kernel
theorem d23_37 : decode jdk_38_method_6_code 37 = .ok (.invokestatic 66, 3) := by decide +kernel
theorem d23_40 : decode jdk_38_method_6_code 40 = .ok (.dup_x1, 1) := by decide +kernel
theorem d23_41 : decode jdk_38_method_6_code 41 = .ok (.putfield 9, 3) := by decide +kernel
theorem d23_44 : decode jdk_38_method_6_code 44 = .ok (.areturn, 1) := by decide +kernel
theorem d23_45 : decode jdk_38_method_6_code 45 = .ok (.aload_n 0, 1) := by decide +kernel
theorem d23_46 : decode jdk_38_method_6_code 46 = .ok (.bipush 10, 2) := by decide +kernel
theorem d23_48 : decode jdk_38_method_6_code 48 = .ok (.iload_n 1, 1) := by decide +kernel
theorem d23_49 : decode jdk_38_method_6_code 49 = .ok (.invokestatic 79, 3) := by decide +kernel
theorem d23_52 : decode jdk_38_method_6_code 52 = .ok (.anewarray 7, 3) := by decide +kernel
theorem d23_55 : decode jdk_38_method_6_code 55 = .ok (.dup_x1, 1) := by decide +kernel
theorem d23_56 : decode jdk_38_method_6_code 56 = .ok (.putfield 9, 3) := by decide +kernel
theorem d23_59 : decode jdk_38_method_6_code 59 = .ok (.areturn, 1) := by decide +kernel
theorem pd_23 : parseMethodDescriptor "(II)I" = some ⟨[.int, .int], some .int⟩ := by decide +kernel
theorem d24_0 : decode jdk_29_method_65_code 0 = .ok (.iload_n 0, 1) := by decide +kernel
theorem d24_1 : decode jdk_29_method_65_code 1 = .ok (.iload_n 1, 1) := by decide +kernel
theorem d24_2 : decode jdk_29_method_65_code 2 = .ok (.if_icmp .lt 7, 3) := by decide +kernel
theorem d24_5 : decode jdk_29_method_65_code 5 = .ok (.iload_n 0, 1) := by decide +kernel
theorem d24_6 : decode jdk_29_method_65_code 6 = .ok (.goto 4, 3) := by decide +kernel
theorem d24_9 : decode jdk_29_method_65_code 9 = .ok (.iload_n 1, 1) := by decide +kernel
theorem d24_10 : decode jdk_29_method_65_code 10 = .ok (.ireturn, 1) := by decide +kernel
theorem d25_0 : decode prog_24_method_5_code 0 = .ok (.aload_n 0, 1) := by decide +kernel
theorem d25_1 : decode prog_24_method_5_code 1 = .ok (.getfield 16, 3) := by decide +kernel
theorem d25_4 : decode prog_24_method_5_code 4 = .ok (.invokestatic 51, 3) := by decide +kernel
theorem d25_7 : decode prog_24_method_5_code 7 = .ok (.areturn, 1) := by decide +kernel
theorem pd_24 : parseMethodDescriptor "(Ljava/util/List;)Ljava/util/List;" = some ⟨[(.object "java/util/List")], some (.object "java/util/List")⟩ := by decide +kernel
theorem d26_0 : decode jdk_79_method_35_code 0 = .ok (.aload_n 0, 1) := by decide +kernel
theorem d26_1 : decode jdk_79_method_35_code 1 = .ok (.invokeinterface 211 1, 5) := by decide +kernel
theorem d26_6 : decode jdk_79_method_35_code 6 = .ok (.ldc 212, 2) := by decide +kernel
theorem d26_8 : decode jdk_79_method_35_code 8 = .ok (.if_acmp .eq 14, 3) := by decide +kernel
theorem d26_11 : decode jdk_79_method_35_code 11 = .ok (.aload_n 0, 1) := by decide +kernel
theorem d26_12 : decode jdk_79_method_35_code 12 = .ok (.invokeinterface 214 1, 5) := by decide +kernel
theorem d26_17 : decode jdk_79_method_35_code 17 = .ok (.ldc 215, 2) := by decide +kernel
theorem d26_19 : decode jdk_79_method_35_code 19 = .ok (.if_acmp .ne 5, 3) := by decide +kernel
theorem d26_22 : decode jdk_79_method_35_code 22 = .ok (.aload_n 0, 1) := by decide +kernel
theorem d26_23 : decode jdk_79_method_35_code 23 = .ok (.areturn, 1) := by decide +kernel
theorem d26_24 : decode jdk_79_method_35_code 24 = .ok (.aload_n 0, 1) := by decide +kernel
theorem d26_25 : decode jdk_79_method_35_code 25 = .ok (.instanceof 13, 3) := by decide +kernel
theorem d26_28 : decode jdk_79_method_35_code 28 = .ok (.ifCond .eq 14, 3) := by decide +kernel
theorem d26_31 : decode jdk_79_method_35_code 31 = .ok (.new 215, 3) := by decide +kernel
theorem d26_34 : decode jdk_79_method_35_code 34 = .ok (.dup, 1) := by decide +kernel
theorem d26_35 : decode jdk_79_method_35_code 35 = .ok (.aload_n 0, 1) := by decide +kernel
theorem d26_36 : decode jdk_79_method_35_code 36 = .ok (.invokespecial 217, 3) := by decide +kernel
theorem d26_39 : decode jdk_79_method_35_code 39 = .ok (.goto 11, 3) := by decide +kernel
theorem d26_42 : decode jdk_79_method_35_code 42 = .ok (.new 212, 3) := by decide +kernel
theorem d26_45 : decode jdk_79_method_35_code 45 = .ok (.dup, 1) := by decide +kernel
theorem d26_46 : decode jdk_79_method_35_code 46 = .ok (.aload_n 0, 1) := by decide +kernel
theorem d26_47 : decode jdk_79_method_35_code 47 = .ok (.invokespecial 219, 3) := by decide +kernel
theorem d26_50 : decode jdk_79_method_35_code 50 = .ok (.areturn, 1) := by decide +kernel
theorem pn_10 : plainName "java/util/Collections" = true := by first | (simp [plainName, overriddenIn]; done) | decide +kernel
theorem pd_25 : parseMethodDescriptor "()Ljava/lang/Class;" = some ⟨[], some (.object "java/lang/Class")⟩ := by decide +kernel
theorem pd_26 : parseMethodDescriptor "(Ljava/util/List;)V" = some ⟨[(.object "java/util/List")], none⟩ := by decide +kernel
theorem d27_0 : decode jdk_121_method_1_code 0 = .ok (.aload_n 0, 1) := by decide +kernel
theorem d27_1 : decode jdk_121_method_1_code 1 = .ok (.aload_n 1, 1) := by decide +kernel
theorem d27_2 : decode jdk_121_method_1_code 2 = .ok (.invokespecial 1, 3) := by decide +kernel
theorem d27_5 : decode jdk_121_method_1_code 5 = .ok (.return_, 1) := by decide +kernel
theorem pn_11 : plainName "java/util/Collections$UnmodifiableRandomAccessList" = true := by first | (simp [plainName, overriddenIn]; done) | decide +kernel
theorem d28_0 : decode jdk_120_method_1_code 0 = .ok (.aload_n 0, 1) := by decide +kernel
theorem d28_1 : decode jdk_120_method_1_code 1 = .ok (.aload_n 1, 1) := by decide +kernel
theorem d28_2 : decode jdk_120_method_1_code 2 = .ok (.invokespecial 1, 3) := by decide +kernel
theorem d28_5 : decode jdk_120_method_1_code 5 = .ok (.aload_n 0, 1) := by decide +kernel
theorem d28_6 : decode jdk_120_method_1_code 6 = .ok (.aload_n 1, 1) := by decide +kernel
theorem d28_7 : decode jdk_120_method_1_code 7 = .ok (.putfield 7, 3) := by decide +kernel
theorem d28_10 : decode jdk_120_method_1_code 10 = .ok (.return_, 1) := by decide +kernel
theorem pn_12 : plainName "java/util/Collections$UnmodifiableList" = true := by first | (simp [plainName, overriddenIn]; done) | decide +kernel
theorem pd_27 : parseMethodDescriptor "(Ljava/util/Collection;)V" = some ⟨[(.object "java/util/Collection")], none⟩ := by decide +kernel
theorem d29_0 : decode jdk_119_method_1_code 0 = .ok (.aload_n 0, 1) := by decide +kernel
theorem d29_1 : decode jdk_119_method_1_code 1 = .ok (.invokespecial 1, 3) := by decide +kernel
theorem d29_4 : decode jdk_119_method_1_code 4 = .ok (.aload_n 1, 1) := by decide +kernel
theorem d29_5 : decode jdk_119_method_1_code 5 = .ok (.ifnonnull 11, 3) := by decide +kernel
theorem d29_8 : decode jdk_119_method_1_code 8 = .ok (.new 7, 3) := by decide +kernel
theorem d29_11 : decode jdk_119_method_1_code 11 = .ok (.dup, 1) := by decide +kernel
theorem d29_12 : decode jdk_119_method_1_code 12 = .ok (.invokespecial 9, 3) := by decide +kernel
theorem d29_15 : decode jdk_119_method_1_code 15 = .ok (.athrow, 1) := by decide +kernel
theorem d29_16 : decode jdk_119_method_1_code 16 = .ok (.aload_n 0, 1) := by decide +kernel
theorem d29_17 : decode jdk_119_method_1_code 17 = .ok (.aload_n 1, 1) := by decide +kernel
theorem d29_18 : decode jdk_119_method_1_code 18 = .ok (.putfield 10, 3) := by decide +kernel
theorem d29_21 : decode jdk_119_method_1_code 21 = .ok (.return_, 1) := by decide +kernel
theorem pn_13 : plainName "java/util/Collections$UnmodifiableCollection" = true := by first | (simp [plainName, overriddenIn]; done) | decide +kernel
theorem d30_0 : decode jdk_119_method_2_code 0 = .ok (.aload_n 0, 1) := by decide +kernel
theorem d30_1 : decode jdk_119_method_2_code 1 = .ok (.getfield 10, 3) := by decide +kernel
theorem d30_4 : decode jdk_119_method_2_code 4 = .ok (.invokeinterface 16 1, 5) := by decide +kernel
theorem d30_9 : decode jdk_119_method_2_code 9 = .ok (.ireturn, 1) := by decide +kernel
theorem d31_0 : decode jdk_38_method_8_code 0 = .ok (.aload_n 0, 1) := by decide +kernel
theorem d31_1 : decode jdk_38_method_8_code 1 = .ok (.getfield 48, 3) := by decide +kernel
theorem d31_4 : decode jdk_38_method_8_code 4 = .ok (.ireturn, 1) := by decide +kernel
theorem d32_0 : decode jdk_120_method_4_code 0 = .ok (.aload_n 0, 1) := by decide +kernel
theorem d32_1 : decode jdk_120_method_4_code 1 = .ok (.getfield 7, 3) := by decide +kernel
theorem d32_4 : decode jdk_120_method_4_code 4 = .ok (.iload_n 1, 1) := by decide +kernel
theorem d32_5 : decode jdk_120_method_4_code 5 = .ok (.invokeinterface 23 2, 5) := by decide +kernel
theorem d32_10 : decode jdk_120_method_4_code 10 = .ok (.areturn, 1) := by decide +kernel
theorem d33_0 : decode jdk_38_method_20_code 0 = .ok (.iload_n 1, 1) := by decide +kernel
theorem d33_1 : decode jdk_38_method_20_code 1 = .ok (.aload_n 0, 1) := by decide +kernel
theorem d33_2 : decode jdk_38_method_20_code 2 = .ok (.getfield 48, 3) := by decide +kernel
theorem d33_5 : decode jdk_38_method_20_code 5 = .ok (.invokestatic 118, 3) := by decide +kernel
theorem d33_8 : decode jdk_38_method_20_code 8 = .ok (.pop, 1) := by decide +kernel
theorem d33_9 : decode jdk_38_method_20_code 9 = .ok (.aload_n 0, 1) := by decide +kernel
theorem d33_10 : decode jdk_38_method_20_code 10 = .ok (.iload_n 1, 1) := by decide +kernel
theorem d33_11 : decode jdk_38_method_20_code 11 = .ok (.invokevirtual 123, 3) := by decide +kernel
theorem d33_14 : decode jdk_38_method_20_code 14 = .ok (.areturn, 1) := by decide +kernel
theorem d34_0 : decode jdk_31_method_17_code 0 = .ok (.iload_n 0, 1) := by decide +kernel
theorem d34_1 : decode jdk_31_method_17_code 1 = .ok (.iload_n 1, 1) := by decide +kernel
theorem d34_2 : decode jdk_31_method_17_code 2 = .ok (.aconst_null, 1) := by decide +kernel
theorem d34_3 : decode jdk_31_method_17_code 3 = .ok (.invokestatic 105, 3) := by decide +kernel
theorem d34_6 : decode jdk_31_method_17_code 6 = .ok (.ireturn, 1) := by decide +kernel
theorem pd_28 : parseMethodDescriptor "(IILjava/util/function/BiFunction;)I" = some ⟨[.int, .int, (.object "java/util/function/BiFunction")], some .int⟩ := by decide +kernel
theorem d35_0 : decode jdk_41_method_11_code 0 = .ok (.iload_n 0, 1) := by decide +kernel
theorem d35_1 : decode jdk_41_method_11_code 1 = .ok (.ifCond .lt 8, 3) := by decide +kernel
theorem d35_4 : decode jdk_41_method_11_code 4 = .ok (.iload_n 0, 1) := by decide +kernel
theorem d35_5 : decode jdk_41_method_11_code 5 = .ok (.iload_n 1, 1) := by decide +kernel
theorem d35_6 : decode jdk_41_method_11_code 6 = .ok (.if_icmp .lt 10, 3) := by decide +kernel
theorem d35_9 : decode jdk_41_method_11_code 9 = .ok (.aload_n 2, 1) := by decide +kernel
theorem d35_10 : decode jdk_41_method_11_code 10 = .ok (.iload_n 0, 1) := by decide +kernel
theorem d35_11 : decode jdk_41_method_11_code 11 = .ok (.iload_n 1, 1) := by decide +kernel
theorem d35_12 : decode jdk_41_method_11_code 12 = .ok (.invokestatic 95, 3) := by decide +kernel
theorem d35_15 : decode jdk_41_method_11_code 15 = .ok (.athrow, 1) := by decide +kernel
theorem d35_16 : decode jdk_41_method_11_code 16 = .ok (.iload_n 0, 1) := by decide +kernel
theorem d35_17 : decode jdk_41_method_11_code 17 = .ok (.ireturn, 1) := by decide +kernel
theorem pn_14 : plainName "jdk/internal/util/Preconditions" = true := by first | (simp [plainName, overriddenIn]; done) | decide +kernel
theorem d36_0 : decode jdk_38_method_18_code 0 = .ok (.aload_n 0, 1) := by decide +kernel
theorem d36_1 : decode jdk_38_method_18_code 1 = .ok (.getfield 9, 3) := by decide +kernel
theorem d36_4 : decode jdk_38_method_18_code 4 = .ok (.iload_n 1, 1) := by decide +kernel
theorem d36_5 : decode jdk_38_method_18_code 5 = .ok (.aaload, 1) := by decide +kernel
theorem d36_6 : decode jdk_38_method_18_code 6 = .ok (.areturn, 1) := by decide +kernel
theorem d37_0 : decode prog_25_method_5_code 0 = .ok (.aload_n 0, 1) := by decide +kernel
theorem d37_1 : decode prog_25_method_5_code 1 = .ok (.getfield 7, 3) := by decide +kernel
theorem d37_4 : decode prog_25_method_5_code 4 = .ok (.areturn, 1) := by decide +kernel
theorem d38_0 : decode prog_25_method_6_code 0 = .ok (.aload_n 0, 1) := by decide +kernel
theorem d38_1 : decode prog_25_method_6_code 1 = .ok (.getfield 13, 3) := by decide +kernel
theorem d38_4 : decode prog_25_method_6_code 4 = .ok (.areturn, 1) := by decide +kernel
theorem d39_0 : decode jdk_42_method_66_code 0 = .ok (.aload_n 0, 1) := by decide +kernel
theorem d39_1 : decode jdk_42_method_66_code 1 = .ok (.aload_n 1, 1) := by decide +kernel
theorem d39_2 : decode jdk_42_method_66_code 2 = .ok (.if_acmp .ne 5, 3) := by decide +kernel
theorem d39_5 : decode jdk_42_method_66_code 5 = .ok (.iconst 1, 1) := by decide +kernel
theorem d39_6 : decode jdk_42_method_66_code 6 = .ok (.ireturn, 1) := by decide +kernel
theorem d39_7 : decode jdk_42_method_66_code 7 = .ok (.aload_n 1, 1) := by decide +kernel
theorem d39_8 : decode jdk_42_method_66_code 8 = .ok (.instanceof 10, 3) := by decide +kernel
theorem d39_11 : decode jdk_42_method_66_code 11 = .ok (.ifCond .eq 43, 3) := by decide +kernel
theorem d39_14 : decode jdk_42_method_66_code 14 = .ok (.aload_n 1, 1) := by decide +kernel
theorem d39_15 : decode jdk_42_method_66_code 15 = .ok (.checkcast 10, 3) := by decide +kernel
theorem d39_18 : decode jdk_42_method_66_code 18 = .ok (.astore_n 2, 1) := by decide +kernel
theorem d39_19 : decode jdk_42_method_66_code 19 = .ok (.getstatic 38, 3) := by decide +kernel
theorem d39_22 : decode jdk_42_method_66_code 22 = .ok (.ifCond .eq 14, 3) := by decide +kernel
theorem d39_25 : decode jdk_42_method_66_code 25 = .ok (.aload_n 0, 1) := by decide +kernel
theorem d39_26 : decode jdk_42_method_66_code 26 = .ok (.getfield 15, 3) := by decide +kernel
theorem d39_29 : decode jdk_42_method_66_code 29 = .ok (.aload_n 2, 1) := by decide +kernel
theorem d39_30 : decode jdk_42_method_66_code 30 = .ok (.getfield 15, 3) := by decide +kernel
theorem d39_33 : decode jdk_42_method_66_code 33 = .ok (.if_icmp .ne 21, 3) := by decide +kernel
theorem d39_36 : decode jdk_42_method_66_code 36 = .ok (.aload_n 0, 1) := by decide +kernel
theorem d39_37 : decode jdk_42_method_66_code 37 = .ok (.getfield 9, 3) := by decide +kernel
theorem d39_40 : decode jdk_42_method_66_code 40 = .ok (.aload_n 2, 1) := by decide +kernel
theorem d39_41 : decode jdk_42_method_66_code 41 = .ok (.getfield 9, 3) := by decide +kernel
theorem d39_44 : decode jdk_42_method_66_code 44 = .ok (.invokestatic 541, 3) := by decide +kernel
theorem d39_47 : decode jdk_42_method_66_code 47 = .ok (.ifCond .eq 7, 3) := by decide +kernel
theorem d39_50 : decode jdk_42_method_66_code 50 = .ok (.iconst 1, 1) := by decide +kernel
theorem d39_51 : decode jdk_42_method_66_code 51 = .ok (.goto 4, 3) := by decide +kernel
theorem d39_54 : decode jdk_42_method_66_code 54 = .ok (.iconst 0, 1) := by decide +kernel
theorem d39_55 : decode jdk_42_method_66_code 55 = .ok (.ireturn, 1) := by decide +kernel
theorem d40_0 : decode prog_25_method_7_code 0 = .ok (.aload_n 0, 1) := by decide +kernel
theorem d40_1 : decode prog_25_method_7_code 1 = .ok (.getfield 17, 3) := by decide +kernel
theorem d40_4 : decode prog_25_method_7_code 4 = .ok (.areturn, 1) := by decide +kernel
theorem d41_0 : decode prog_24_method_4_code 0 = .ok (.aload_n 0, 1) := by decide +kernel
theorem d41_1 : decode prog_24_method_4_code 1 = .ok (.getfield 10, 3) := by decide +kernel
theorem d41_4 : decode prog_24_method_4_code 4 = .ok (.invokestatic 51, 3) := by decide +kernel
theorem d41_7 : decode prog_24_method_4_code 7 = .ok (.areturn, 1) := by decide +kernel
def Q_rm9 (Z : State) (a1 b2 : Addr) (h0 : Heap) (n0 : Nat) : Option Value → Heap → List Loc → Prop := fun v h L => v = none ∧ Fr n0 L ∧ Keep h0 h [a1] ∧ StrAt Z h a1 []
set_option maxRecDepth 65536 in
set_option maxHeartbeats 40000000 in
theorem rm9 (l : Launch) (Z : State) (a0 : Array Value) (hw : ∀ d ∈ tables_1, d.before a0 Z = true) (ws : List Jvm.Cond) (a1 b2 : Addr) (h0 : Heap) (n0 : Nat) (E_a1 : Exa Z h0 a1 "java/lang/String") (F_value_a1 : Fld Z h0 a1 "java/lang/String" "value" "[B" .null) (F_coder_a1 : Fld Z h0 a1 "java/lang/String" "coder" "B" (.int 0)) (g_a1 : n0 ≤ a1) :
    MetFree l (⟨"java/lang/String", "<init>", "([CIILjava/lang/Void;)V"⟩ : MethodName) (head1 (Jvm.Cond.code (⟨"java/lang/String", "<init>", "([CIILjava/lang/Void;)V"⟩ : MethodName) jdk_42_method_149_code 6 none :: ws) ({ frames := 1, cells := 4, slots := 8, locals := 12 } : Room)) (fun a U => a = #[(.ref a1), (.ref b2), (.int (0 : Int32)), (.int (0 : Int32)), .null] ∧ Z.Warmed39 U.vm ∧ U.heap = h0 ∧ CHv Z EL U.vm h0) (fun _ _ _ _ _ => True) (fun _ U o U' => ∃ v L, o = .returned v ∧ Q_rm9 Z a1 b2 h0 n0 v U'.heap L ∧ CHr Z EL U.vm U.heap U'.vm U'.heap ∧ ReturnedEndW U o U' L ({ frames := 1, cells := 4, slots := 8, locals := 12 } : Room).cells ({ frames := 1, cells := 4, slots := 8, locals := 12 } : Room).slots) := by
  refine MetFree.of_bodySF (plainFor_of_name pn_1) hisR ?_
  intro p e s m args below meth c s₁ Bd hml0 hP hK
  obtain ⟨rfl, hZ, hh, CH0⟩ := hP
  have hx := Bd.exec
  have hby := Bd.bytes
  have hml : c.maxLocals = 6 := hml0
  have hown : s.vm.findClass "java/lang/String" = some m.cls := findClass_of_methodNamed Bd.named
  have hnm := (name_of_methodNamed Bd.named Bd.method).1
  have X0 : Stand p l e ({ frames := 1, cells := 4, slots := 8, locals := 12 } : Room) (s.setVm s.vm) m #[(.ref a1), (.ref b2), (.int (0 : Int32)), (.int (0 : Int32)), .null] below meth c s₁ [] 0 0 := Stand.of_body Bd
  have e0 : s₁.heap = h0 := by rw [← hh, Bd.state]; rfl
  have N0 := Fr.nil n0
  have hS : s.Since s.vm 0 := (State.WarmedH.refl s).since 0
  have hk : 0 ≤ h0.size := Nat.zero_le _
  have CR : CHr Z EL s.vm s.heap s.vm h0 := by rw [hh]; exact CHr.refl CH0
  have hEL := ew_of hw
  have hwS := ws_of hw
  have Sf_a1 : Safe Z EL s.vm h0 a1 := Safe.null hZ.alike E_a1 F_value_a1 (hw _ (List.mem_of_getElem? (i := 50) rfl))
  have ef : entryFrame m #[(.ref a1), (.ref b2), (.int (0 : Int32)), (.int (0 : Int32)), .null] 6 = (mkF m 0 #[.val (.ref a1), .val (.ref b2), .val (.int (0 : Int32)), .val (.int (0 : Int32)), .val .null, .unset] []) := by first | (simp [entryFrame, mkF, argsToLocals, Value.category, maxLocals]; done) | rfl
  show Go p e below (EndW EL Z (fun v h L => v = none ∧ Fr n0 L ∧ Keep h0 h [a1] ∧ StrAt Z h a1 []) s 4 8) (s₁.setTop (entryFrame m #[(.ref a1), (.ref b2), (.int (0 : Int32)), (.int (0 : Int32)), .null] 6))
  rw [ef]
  show Go p e below _ (s₁.setTop (mkF m 0 #[.val (.ref a1), .val (.ref b2), .val (.int (0 : Int32)), .val (.int (0 : Int32)), .val .null, .unset] []))
  have K0 : Keep h0 h0 [a1] := Keep.refl _ _
  show Go p e below _ (s₁.setTop (mkF m 0 #[.val (.ref a1), .val (.ref b2), .val (.int (0 : Int32)), .val (.int (0 : Int32)), .val .null, .unset] []))
  refine Go.by (fun t => XS.aloadN X0.here hx rfl (hb hby d9_0) rfl rfl) ?_
  show Go p e below _ (s₁.setTop (mkF m 1 #[.val (.ref a1), .val (.ref b2), .val (.int (0 : Int32)), .val (.int (0 : Int32)), .val .null, .unset] [(.ref a1)]))
  obtain ⟨T101, X101, e101, st101⟩ := initO X0 hx hZ hown (hw _ (List.mem_of_getElem? (i := 59) rfl)) (hw _ (List.mem_of_getElem? (i := 60) rfl)) (hw _ (List.mem_of_getElem? (i := 61) rfl)) e0 (g := (mkF m 1 #[.val (.ref a1), .val (.ref b2), .val (.int (0 : Int32)), .val (.int (0 : Int32)), .val .null, .unset] [(.ref a1)])) rfl (by rw [hml]; rfl) rfl (hb hby d9_1) (by decide) (W := 0) (by show 2 * 0 + _ ≤ _; exact Nat.le_of_eq rfl) (by decide)
  refine Go.by (fun t => st101 t) ?_
  show Go p e below _ (T101.setTop (mkF m 4 #[.val (.ref a1), .val (.ref b2), .val (.int (0 : Int32)), .val (.int (0 : Int32)), .val .null, .unset] []))
  show Go p e below _ (T101.setTop (mkF m 4 #[.val (.ref a1), .val (.ref b2), .val (.int (0 : Int32)), .val (.int (0 : Int32)), .val .null, .unset] []))
  refine Go.by (fun t => XS.iloadN X101.here hx rfl (hb hby d9_4) rfl ) ?_
  show Go p e below _ (T101.setTop (mkF m 5 #[.val (.ref a1), .val (.ref b2), .val (.int (0 : Int32)), .val (.int (0 : Int32)), .val .null, .unset] [(.int (0 : Int32))]))
  refine Go.by (fun t => XS.ifNo X101.here hx rfl (hb hby d9_5) rfl ((if0 _ _).trans (teq (rfl : (0 : Int32) = (0 : Int32))).2)) ?_
  show Go p e below _ (T101.setTop (mkF m 8 #[.val (.ref a1), .val (.ref b2), .val (.int (0 : Int32)), .val (.int (0 : Int32)), .val .null, .unset] []))
  show Go p e below _ (T101.setTop (mkF m 8 #[.val (.ref a1), .val (.ref b2), .val (.int (0 : Int32)), .val (.int (0 : Int32)), .val .null, .unset] []))
  refine Go.by (fun t => XS.aloadN X101.here hx rfl (hb hby d9_8) rfl rfl) ?_
  show Go p e below _ (T101.setTop (mkF m 9 #[.val (.ref a1), .val (.ref b2), .val (.int (0 : Int32)), .val (.int (0 : Int32)), .val .null, .unset] [(.ref a1)]))
  obtain ⟨c1, T102, h102, k102, t_c1, kb_c1, X102, e102, E102, hS102, hk102, hZ102, hown102, E_c1, F_coder_c1, F_value_c1, V_t_c1, lt_c1, ltb_c1, CRn, Lit102, sf102, st102⟩ := ldcCH X101 hx hZ hown (hw _ (List.mem_of_getElem? (i := 74) rfl)) hwS e101 hS hk hEL (by decide) CR.1 (vs := []) (z := 0) (by decide) (by decide) rfl (g := (mkF m 9 #[.val (.ref a1), .val (.ref b2), .val (.int (0 : Int32)), .val (.int (0 : Int32)), .val .null, .unset] [(.ref a1)])) rfl (hb hby d9_9) (n := 0) (by decide) (by decide) (by decide) (by decide)
  refine Go.by (fun t => st102 t) ?_
  replace Sf_a1 := CRn.safe E_a1.lt Sf_a1
  replace CR := CR.trans CRn
  replace E_a1 := E_a1.ext E102
  replace F_value_a1 := F_value_a1.ext E102
  replace F_coder_a1 := F_coder_a1.ext E102
  replace K0 := K0.ext E102
  clear CRn hS hk
  have hS := hS102
  have hk := hk102
  replace hZ := hZ102
  replace hown := hown102
  replace X102 := Stand.num (C := 2) (S := 4) X102 rfl rfl
  have ne_a1_c1 := (sf102 _ Sf_a1).1
  have ne_a1_t_c1 := (sf102 _ Sf_a1).2
  show Go p e below _ (T102.setTop (mkF m 11 #[.val (.ref a1), .val (.ref b2), .val (.int (0 : Int32)), .val (.int (0 : Int32)), .val .null, .unset] [(.ref c1), (.ref a1)]))
  obtain ⟨T103, X103, e103, st103⟩ := getF X102 hx hZ hown (host := "") (Or.inl (hw _ (List.mem_of_getElem? (i := 62) rfl))) Via.refl e102 F_value_c1 (g := (mkF m 11 #[.val (.ref a1), .val (.ref b2), .val (.int (0 : Int32)), .val (.int (0 : Int32)), .val .null, .unset] [(.ref c1), (.ref a1)])) rfl rfl (hb hby d9_11)
  refine Go.by (fun t => st103 t) ?_
  show Go p e below _ (T103.setTop (mkF m 14 #[.val (.ref a1), .val (.ref b2), .val (.int (0 : Int32)), .val (.int (0 : Int32)), .val .null, .unset] [(.ref t_c1), (.ref a1)]))
  obtain ⟨T104, h104, X104, e104, W104, st104⟩ := putF X103 hx hZ hown (host := "") (Or.inl (hw _ (List.mem_of_getElem? (i := 62) rfl))) Via.refl e103 F_value_a1 E_a1 (Or.inr ⟨(hw _ (List.mem_of_getElem? (i := 63) rfl)), rfl, hnm⟩) (hw _ (List.mem_of_getElem? (i := 50) rfl)) (ty := (.array .byte)) (by decide) rfl rfl (g := (mkF m 14 #[.val (.ref a1), .val (.ref b2), .val (.int (0 : Int32)), .val (.int (0 : Int32)), .val .null, .unset] [(.ref t_c1), (.ref a1)])) rfl rfl (hb hby d9_14)
  refine Go.by (fun t => st104 t) ?_
  have Sfw : Safe Z EL T102.vm h102 a1 := Sf_a1
  replace Sf_a1 := Safe.wr W104 Sfw CR.1 Sf_a1
  replace CR := CR.trans (CHr.wr W104 Sfw CR.1)
  clear Sfw
  replace hk := Nat.le_trans hk (Keep.of_wr W104).1
  replace F_value_a1 := F_value_a1.same W104
  replace E_a1 := E_a1.wr W104
  replace F_coder_a1 := F_coder_a1.other W104 (Or.inr (slot_ne (Or.inr (hw _ (List.mem_of_getElem? (i := 65) rfl))) (Or.inr (hw _ (List.mem_of_getElem? (i := 63) rfl))) (by decide) (t := .byte) (t' := (.array .byte)) (by decide) (by decide)))
  replace E_c1 := E_c1.wr W104
  replace F_coder_c1 := F_coder_c1.other W104 (Or.inl (Ne.symm ne_a1_c1))
  replace F_value_c1 := F_value_c1.other W104 (Or.inl (Ne.symm ne_a1_c1))
  replace V_t_c1 := V_t_c1.other W104 (Ne.symm ne_a1_t_c1)
  replace K0 := K0.wr W104 (Or.inl (List.mem_of_getElem? (i := 0) rfl))
  have N104 := Fr.snoc X104 N0 g_a1
  show Go p e below _ (T104.setTop (mkF m 17 #[.val (.ref a1), .val (.ref b2), .val (.int (0 : Int32)), .val (.int (0 : Int32)), .val .null, .unset] []))
  show Go p e below _ (T104.setTop (mkF m 17 #[.val (.ref a1), .val (.ref b2), .val (.int (0 : Int32)), .val (.int (0 : Int32)), .val .null, .unset] []))
  refine Go.by (fun t => XS.aloadN X104.here hx rfl (hb hby d9_17) rfl rfl) ?_
  show Go p e below _ (T104.setTop (mkF m 18 #[.val (.ref a1), .val (.ref b2), .val (.int (0 : Int32)), .val (.int (0 : Int32)), .val .null, .unset] [(.ref a1)]))
  obtain ⟨c2, T105, h105, k105, t_c2, kb_c2, X105, e105, E105, hS105, hk105, hZ105, hown105, E_c2, F_coder_c2, F_value_c2, V_t_c2, lt_c2, ltb_c2, CRn, Lit105, sf105, st105⟩ := ldcCH X104 hx hZ hown (hw _ (List.mem_of_getElem? (i := 74) rfl)) hwS e104 hS hk hEL (by decide) CR.1 (vs := []) (z := 0) (by decide) (by decide) rfl (g := (mkF m 18 #[.val (.ref a1), .val (.ref b2), .val (.int (0 : Int32)), .val (.int (0 : Int32)), .val .null, .unset] [(.ref a1)])) rfl (hb hby d9_18) (n := 0) (by decide) (by decide) (by decide) (by decide)
  refine Go.by (fun t => st105 t) ?_
  replace Sf_a1 := CRn.safe E_a1.lt Sf_a1
  replace CR := CR.trans CRn
  replace E_a1 := E_a1.ext E105
  replace F_value_a1 := F_value_a1.ext E105
  replace F_coder_a1 := F_coder_a1.ext E105
  replace E_c1 := E_c1.ext E105
  replace F_coder_c1 := F_coder_c1.ext E105
  replace F_value_c1 := F_value_c1.ext E105
  replace V_t_c1 := V_t_c1.ext E105
  replace K0 := K0.ext E105
  clear CRn hS hk
  have hS := hS105
  have hk := hk105
  replace hZ := hZ105
  replace hown := hown105
  replace X105 := Stand.num (C := 4) (S := 8) X105 rfl rfl
  have ne_a1_c2 := (sf105 _ Sf_a1).1
  have ne_a1_t_c2 := (sf105 _ Sf_a1).2
  show Go p e below _ (T105.setTop (mkF m 20 #[.val (.ref a1), .val (.ref b2), .val (.int (0 : Int32)), .val (.int (0 : Int32)), .val .null, .unset] [(.ref c2), (.ref a1)]))
  obtain ⟨T106, X106, e106, st106⟩ := getF X105 hx hZ hown (host := "") (Or.inl (hw _ (List.mem_of_getElem? (i := 64) rfl))) Via.refl e105 F_coder_c2 (g := (mkF m 20 #[.val (.ref a1), .val (.ref b2), .val (.int (0 : Int32)), .val (.int (0 : Int32)), .val .null, .unset] [(.ref c2), (.ref a1)])) rfl rfl (hb hby d9_20)
  refine Go.by (fun t => st106 t) ?_
  show Go p e below _ (T106.setTop (mkF m 23 #[.val (.ref a1), .val (.ref b2), .val (.int (0 : Int32)), .val (.int (0 : Int32)), .val .null, .unset] [(.int (0 : Int32)), (.ref a1)]))
  obtain ⟨T107, h107, X107, e107, W107, st107⟩ := putFN X106 hx hZ hown (hw _ (List.mem_of_getElem? (i := 64) rfl)) Via.refl e106 F_coder_a1 E_a1 (Or.inr ⟨(hw _ (List.mem_of_getElem? (i := 65) rfl)), rfl, hnm⟩) (hw _ (List.mem_of_getElem? (i := 50) rfl)) (ty := .byte) (v' := (.int (0 : Int32))) (by decide) (by first | rfl | decide) (by first | rfl | decide | exact fits_nar_byte _) (g := (mkF m 23 #[.val (.ref a1), .val (.ref b2), .val (.int (0 : Int32)), .val (.int (0 : Int32)), .val .null, .unset] [(.int (0 : Int32)), (.ref a1)])) rfl rfl (hb hby d9_23)
  refine Go.by (fun t => st107 t) ?_
  have Sfw : Safe Z EL T105.vm h105 a1 := Sf_a1
  replace Sf_a1 := Safe.wr W107 Sfw CR.1 Sf_a1
  replace CR := CR.trans (CHr.wr W107 Sfw CR.1)
  clear Sfw
  replace hk := Nat.le_trans hk (Keep.of_wr W107).1
  replace F_coder_a1 := F_coder_a1.same W107
  replace E_a1 := E_a1.wr W107
  replace F_value_a1 := F_value_a1.other W107 (Or.inr (slot_ne (Or.inr (hw _ (List.mem_of_getElem? (i := 63) rfl))) (Or.inr (hw _ (List.mem_of_getElem? (i := 65) rfl))) (by decide) (t := (.array .byte)) (t' := .byte) (by decide) (by decide)))
  replace E_c1 := E_c1.wr W107
  replace F_coder_c1 := F_coder_c1.other W107 (Or.inl (Ne.symm ne_a1_c1))
  replace F_value_c1 := F_value_c1.other W107 (Or.inl (Ne.symm ne_a1_c1))
  replace V_t_c1 := V_t_c1.other W107 (Ne.symm ne_a1_t_c1)
  replace E_c2 := E_c2.wr W107
  replace F_coder_c2 := F_coder_c2.other W107 (Or.inl (Ne.symm ne_a1_c2))
  replace F_value_c2 := F_value_c2.other W107 (Or.inl (Ne.symm ne_a1_c2))
  replace V_t_c2 := V_t_c2.other W107 (Ne.symm ne_a1_t_c2)
  replace K0 := K0.wr W107 (Or.inl (List.mem_of_getElem? (i := 0) rfl))
  have N107 := Fr.snoc X107 N104 g_a1
  show Go p e below _ (T107.setTop (mkF m 26 #[.val (.ref a1), .val (.ref b2), .val (.int (0 : Int32)), .val (.int (0 : Int32)), .val .null, .unset] []))
  show Go p e below _ (T107.setTop (mkF m 26 #[.val (.ref a1), .val (.ref b2), .val (.int (0 : Int32)), .val (.int (0 : Int32)), .val .null, .unset] []))
  exact Go.ret0W X107 hS (by rw [e107]; exact hk) (by rw [e107]; exact CR) hZ hEL hx Bd.returns Bd.notSynchronized (hb hby d9_26) (by decide) (by decide) (by first | (rw [e107]; exact ⟨rfl, N107, K0, t_c1, kb_c1, _, _, E_a1, F_value_a1, F_coder_a1, V_t_c1, Or.inl ⟨rfl, rfl, rfl, allN⟩, allN, Nat.zero_le _⟩) | exact ⟨rfl, N107, K0, t_c1, kb_c1, _, _, E_a1, F_value_a1, F_coder_a1, V_t_c1, Or.inl ⟨rfl, rfl, rfl, allN⟩, allN, Nat.zero_le _⟩)
def Q_rm8 (Z : State) (a1 b2 : Addr) (kc : ClassId) (vs : List Value) (dv : Value) (h0 : Heap) (n0 : Nat) : Option Value → Heap → List Loc → Prop := fun v h L => v = none ∧ Fr n0 L ∧ Keep h0 h [a1] ∧ StrAt Z h a1 []
set_option maxRecDepth 65536 in
set_option maxHeartbeats 40000000 in
theorem rm8 (l : Launch) (Z : State) (a0 : Array Value) (hw : ∀ d ∈ tables_1, d.before a0 Z = true) (ws : List Jvm.Cond) (a1 b2 : Addr) (kc : ClassId) (vs : List Value) (dv : Value) (h0 : Heap) (n0 : Nat) (E_a1 : Exa Z h0 a1 "java/lang/String") (F_value_a1 : Fld Z h0 a1 "java/lang/String" "value" "[B" .null) (F_coder_a1 : Fld Z h0 a1 "java/lang/String" "coder" "B" (.int 0)) (g_a1 : n0 ≤ a1) (V_b2 : Arv Z h0 b2 kc .char (0 : Int32) vs dv) :
    MetFree l (⟨"java/lang/String", "<init>", "([C)V"⟩ : MethodName) (head1 (Jvm.Cond.code (⟨"java/lang/String", "<init>", "([C)V"⟩ : MethodName) jdk_42_method_3_code 2 none :: ws) ({ frames := 2, cells := 4, slots := 8, locals := 29 } : Room)) (fun a U => a = #[(.ref a1), (.ref b2)] ∧ Z.Warmed39 U.vm ∧ U.heap = h0 ∧ CHv Z EL U.vm h0) (fun _ _ _ _ _ => True) (fun _ U o U' => ∃ v L, o = .returned v ∧ Q_rm8 Z a1 b2 kc vs dv h0 n0 v U'.heap L ∧ CHr Z EL U.vm U.heap U'.vm U'.heap ∧ ReturnedEndW U o U' L ({ frames := 2, cells := 4, slots := 8, locals := 29 } : Room).cells ({ frames := 2, cells := 4, slots := 8, locals := 29 } : Room).slots) := by
  refine MetFree.of_bodySF (plainFor_of_name pn_1) hisR ?_
  intro p e s m args below meth c s₁ Bd hml0 hP hK
  obtain ⟨rfl, hZ, hh, CH0⟩ := hP
  have hx := Bd.exec
  have hby := Bd.bytes
  have hml : c.maxLocals = 2 := hml0
  have hown : s.vm.findClass "java/lang/String" = some m.cls := findClass_of_methodNamed Bd.named
  have hnm := (name_of_methodNamed Bd.named Bd.method).1
  have X0 : Stand p l e ({ frames := 2, cells := 4, slots := 8, locals := 29 } : Room) (s.setVm s.vm) m #[(.ref a1), (.ref b2)] below meth c s₁ [] 0 0 := Stand.of_body Bd
  have e0 : s₁.heap = h0 := by rw [← hh, Bd.state]; rfl
  have N0 := Fr.nil n0
  have hS : s.Since s.vm 0 := (State.WarmedH.refl s).since 0
  have hk : 0 ≤ h0.size := Nat.zero_le _
  have CR : CHr Z EL s.vm s.heap s.vm h0 := by rw [hh]; exact CHr.refl CH0
  have hEL := ew_of hw
  have hwS := ws_of hw
  have ef : entryFrame m #[(.ref a1), (.ref b2)] 2 = (mkF m 0 #[.val (.ref a1), .val (.ref b2)] []) := by first | (simp [entryFrame, mkF, argsToLocals, Value.category, maxLocals]; done) | rfl
  show Go p e below (EndW EL Z (fun v h L => v = none ∧ Fr n0 L ∧ Keep h0 h [a1] ∧ StrAt Z h a1 []) s 4 8) (s₁.setTop (entryFrame m #[(.ref a1), (.ref b2)] 2))
  rw [ef]
  show Go p e below _ (s₁.setTop (mkF m 0 #[.val (.ref a1), .val (.ref b2)] []))
  show Go p e below _ (s₁.setTop (mkF m 0 #[.val (.ref a1), .val (.ref b2)] []))
  refine Go.by (fun t => XS.aloadN X0.here hx rfl (hb hby d8_0) rfl rfl) ?_
  show Go p e below _ (s₁.setTop (mkF m 1 #[.val (.ref a1), .val (.ref b2)] [(.ref a1)]))
  refine Go.by (fun t => XS.aloadN X0.here hx rfl (hb hby d8_1) rfl rfl) ?_
  show Go p e below _ (s₁.setTop (mkF m 2 #[.val (.ref a1), .val (.ref b2)] [(.ref b2), (.ref a1)]))
  refine Go.by (fun t => XS.iconst X0.here hx rfl (hb hby d8_2)) ?_
  show Go p e below _ (s₁.setTop (mkF m 3 #[.val (.ref a1), .val (.ref b2)] [(.int (0 : Int32)), (.ref b2), (.ref a1)]))
  refine Go.by (fun t => XS.aloadN X0.here hx rfl (hb hby d8_3) rfl rfl) ?_
  show Go p e below _ (s₁.setTop (mkF m 4 #[.val (.ref a1), .val (.ref b2)] [(.ref b2), (.int (0 : Int32)), (.ref b2), (.ref a1)]))
  obtain ⟨cl_108, Ar_108, q_108, S_108, M_108, -, -⟩ := id V_b2
  refine Go.by (fun t => X0.arraylength hx (by rw [e0]; exact Ar_108.1) (State.isArrayOf_alike hZ.alike Ar_108.2.1) (g := (mkF m 4 #[.val (.ref a1), .val (.ref b2)] [(.ref b2), (.int (0 : Int32)), (.ref b2), (.ref a1)])) rfl rfl (hb hby d8_4) t) ?_
  rw [len_of S_108 M_108]
  show Go p e below _ (s₁.setTop (mkF m 5 #[.val (.ref a1), .val (.ref b2)] [(.int (0 : Int32)), (.int (0 : Int32)), (.ref b2), (.ref a1)]))
  show Go p e below _ (s₁.setTop (mkF m 5 #[.val (.ref a1), .val (.ref b2)] [(.int (0 : Int32)), (.int (0 : Int32)), (.ref b2), (.ref a1)]))
  refine Go.by (fun t => XS.aconstNull X0.here hx rfl (hb hby d8_5)) ?_
  show Go p e below _ (s₁.setTop (mkF m 6 #[.val (.ref a1), .val (.ref b2)] [.null, (.int (0 : Int32)), (.int (0 : Int32)), (.ref b2), (.ref a1)]))
  obtain ⟨_, _, ⟨T109, L109, k109, n109⟩, -, X109, hSn, hgn, ⟨Lc109, hQ109, l109, y109, z109, CRn⟩, st109⟩ := X0.specialBackS hx (y := (⟨"java/lang/String", "<init>", "([CIILjava/lang/Void;)V"⟩ : MethodName)) rfl hown (mvT (s := s.setVm s.vm) hZ (hw _ (List.mem_of_getElem? (i := 71) rfl))) (mvT (s := s.setVm s.vm) hZ (hw _ (List.mem_of_getElem? (i := 72) rfl))) (mvT (s := s.setVm s.vm) hZ (hw _ (List.mem_of_getElem? (i := 73) rfl))) (by decide) (backOfSH (W := 0) (rm9 l Z a0 hw [] a1 b2 h0 n0 E_a1 F_value_a1 F_coder_a1 g_a1) hZ (hw _ (List.mem_of_getElem? (i := 73) rfl)) (hw _ (List.mem_of_getElem? (i := 42) rfl)) (by decide) (by decide) hEL CR.1) (g := (mkF m 6 #[.val (.ref a1), .val (.ref b2)] [.null, (.int (0 : Int32)), (.int (0 : Int32)), (.ref b2), (.ref a1)])) rfl (by rw [hml]; rfl) (Steps.refl _) (a := a1) (argsL := [(.ref b2), (.int (0 : Int32)), (.int (0 : Int32)), .null]) (rest := []) (lenOf pd_16 rfl) rfl (by show 2 * 0 + _ ≤ _; exact Nat.le_of_eq rfl) (hb hby d8_6) (fun _ _ => ⟨rfl, e0, (by decide : 0 + 4 ≤ _), (by decide : 0 + 8 ≤ _)⟩)
  dsimp only [Pt.U, Pt.locs, Pt.cells, Pt.slots] at X109 l109 y109 z109 st109 hQ109 hSn hgn CRn
  subst y109 z109
  rw [e0] at hgn
  obtain ⟨X109', hS109, hZ109, hown109⟩ := rebS hS hk X109 hSn hgn hZ hown
  obtain ⟨rfl, Nq109, K109, S_a1⟩ := hQ109
  have N109 : Fr n0 L109 := by rw [l109]; exact Fr.app N0 Nq109
  clear l109
  refine Go.by (fun t => st109.trans) ?_
  replace X109' := Stand.num (C := 4) (S := 8) X109' rfl rfl
  replace CR := CR.trans CRn
  clear CRn hS hk hSn
  have hS := hS109
  have hk : T109.heap.size ≤ T109.heap.size := Nat.le_refl _
  replace hZ := hZ109
  replace hown := hown109
  show Go p e below _ (T109.setTop (mkF m 9 #[.val (.ref a1), .val (.ref b2)] []))
  show Go p e below _ (T109.setTop (mkF m 9 #[.val (.ref a1), .val (.ref b2)] []))
  exact Go.ret0W X109' hS hk CR hZ hEL hx Bd.returns Bd.notSynchronized (hb hby d8_9) (by decide) (by decide) ⟨rfl, N109, K109, S_a1⟩
def Q_rm13 (Z : State) (a1 : Addr) (h0 : Heap) (n0 : Nat) : Option Value → Heap → List Loc → Prop := fun v h L => v = none ∧ Fr n0 L ∧ h = h0
set_option maxRecDepth 65536 in
set_option maxHeartbeats 40000000 in
theorem rm13 (l : Launch) (Z : State) (a0 : Array Value) (hw : ∀ d ∈ tables_1, d.before a0 Z = true) (ws : List Jvm.Cond) (a1 : Addr) (h0 : Heap) (n0 : Nat)  :
    MetFree l (⟨"java/util/AbstractCollection", "<init>", "()V"⟩ : MethodName) (head1 (Jvm.Cond.code (⟨"java/util/AbstractCollection", "<init>", "()V"⟩ : MethodName) jdk_22_method_1_code 1 none :: ws) ({ frames := 1, cells := 0, slots := 0, locals := 12 } : Room)) (fun a U => a = #[(.ref a1)] ∧ Z.Warmed39 U.vm ∧ U.heap = h0) (fun _ _ _ _ _ => True) (fun _ U o U' => ∃ v L, o = .returned v ∧ Q_rm13 Z a1 h0 n0 v U'.heap L ∧ FrameEnd U o U' L ({ frames := 1, cells := 0, slots := 0, locals := 12 } : Room).cells ({ frames := 1, cells := 0, slots := 0, locals := 12 } : Room).slots) := by
  refine MetFree.of_bodySF (plainFor_of_name pn_6) hisR ?_
  intro p e s m args below meth c s₁ Bd hml0 hP hK
  obtain ⟨rfl, hZ, hh⟩ := hP
  have hx := Bd.exec
  have hby := Bd.bytes
  have hml : c.maxLocals = 1 := hml0
  have hown : s.vm.findClass "java/util/AbstractCollection" = some m.cls := findClass_of_methodNamed Bd.named
  have hnm := (name_of_methodNamed Bd.named Bd.method).1
  have X0 : Stand p l e ({ frames := 1, cells := 0, slots := 0, locals := 12 } : Room) s m #[(.ref a1)] below meth c s₁ [] 0 0 := Stand.of_body Bd
  have e0 : s₁.heap = h0 := by rw [← hh, Bd.state]; rfl
  have N0 := Fr.nil n0
  have ef : entryFrame m #[(.ref a1)] 1 = (mkF m 0 #[.val (.ref a1)] []) := by first | (simp [entryFrame, mkF, argsToLocals, Value.category, maxLocals]; done) | rfl
  show Go p e below (End (fun v h L => v = none ∧ Fr n0 L ∧ h = h0) s 0 0) (s₁.setTop (entryFrame m #[(.ref a1)] 1))
  rw [ef]
  show Go p e below _ (s₁.setTop (mkF m 0 #[.val (.ref a1)] []))
  show Go p e below _ (s₁.setTop (mkF m 0 #[.val (.ref a1)] []))
  refine Go.by (fun t => XS.aloadN X0.here hx rfl (hb hby d13_0) rfl rfl) ?_
  show Go p e below _ (s₁.setTop (mkF m 1 #[.val (.ref a1)] [(.ref a1)]))
  obtain ⟨T110, X110, e110, st110⟩ := initO X0 hx hZ hown (hw _ (List.mem_of_getElem? (i := 102) rfl)) (hw _ (List.mem_of_getElem? (i := 60) rfl)) (hw _ (List.mem_of_getElem? (i := 61) rfl)) e0 (g := (mkF m 1 #[.val (.ref a1)] [(.ref a1)])) rfl (by rw [hml]; rfl) rfl (hb hby d13_1) (by decide) (W := 0) (by show 2 * 0 + _ ≤ _; exact Nat.le_of_eq rfl) (by decide)
  refine Go.by (fun t => st110 t) ?_
  show Go p e below _ (T110.setTop (mkF m 4 #[.val (.ref a1)] []))
  show Go p e below _ (T110.setTop (mkF m 4 #[.val (.ref a1)] []))
  exact Go.ret0 X110 hx Bd.returns Bd.notSynchronized (hb hby d13_4) (by decide) (by decide) (by first | (rw [e110]; exact ⟨rfl, N0, rfl⟩) | exact ⟨rfl, N0, rfl⟩)
def Q_rm19 (Z : State) (a1 : Addr) (h0 : Heap) (n0 : Nat) : Option Value → Heap → List Loc → Prop := fun v h L => v = none ∧ Fr n0 L ∧ h = h0
set_option maxRecDepth 65536 in
set_option maxHeartbeats 40000000 in
theorem rm19 (l : Launch) (Z : State) (a0 : Array Value) (hw : ∀ d ∈ tables_1, d.before a0 Z = true) (ws : List Jvm.Cond) (a1 : Addr) (h0 : Heap) (n0 : Nat)  :
    MetFree l (⟨"java/lang/Record", "<init>", "()V"⟩ : MethodName) (head1 (Jvm.Cond.code (⟨"java/lang/Record", "<init>", "()V"⟩ : MethodName) jdk_30_method_1_code 1 none :: ws) ({ frames := 1, cells := 0, slots := 0, locals := 12 } : Room)) (fun a U => a = #[(.ref a1)] ∧ Z.Warmed39 U.vm ∧ U.heap = h0) (fun _ _ _ _ _ => True) (fun _ U o U' => ∃ v L, o = .returned v ∧ Q_rm19 Z a1 h0 n0 v U'.heap L ∧ FrameEnd U o U' L ({ frames := 1, cells := 0, slots := 0, locals := 12 } : Room).cells ({ frames := 1, cells := 0, slots := 0, locals := 12 } : Room).slots) := by
  refine MetFree.of_bodySF (plainFor_of_name pn_9) hisR ?_
  intro p e s m args below meth c s₁ Bd hml0 hP hK
  obtain ⟨rfl, hZ, hh⟩ := hP
  have hx := Bd.exec
  have hby := Bd.bytes
  have hml : c.maxLocals = 1 := hml0
  have hown : s.vm.findClass "java/lang/Record" = some m.cls := findClass_of_methodNamed Bd.named
  have hnm := (name_of_methodNamed Bd.named Bd.method).1
  have X0 : Stand p l e ({ frames := 1, cells := 0, slots := 0, locals := 12 } : Room) s m #[(.ref a1)] below meth c s₁ [] 0 0 := Stand.of_body Bd
  have e0 : s₁.heap = h0 := by rw [← hh, Bd.state]; rfl
  have N0 := Fr.nil n0
  have ef : entryFrame m #[(.ref a1)] 1 = (mkF m 0 #[.val (.ref a1)] []) := by first | (simp [entryFrame, mkF, argsToLocals, Value.category, maxLocals]; done) | rfl
  show Go p e below (End (fun v h L => v = none ∧ Fr n0 L ∧ h = h0) s 0 0) (s₁.setTop (entryFrame m #[(.ref a1)] 1))
  rw [ef]
  show Go p e below _ (s₁.setTop (mkF m 0 #[.val (.ref a1)] []))
  show Go p e below _ (s₁.setTop (mkF m 0 #[.val (.ref a1)] []))
  refine Go.by (fun t => XS.aloadN X0.here hx rfl (hb hby d19_0) rfl rfl) ?_
  show Go p e below _ (s₁.setTop (mkF m 1 #[.val (.ref a1)] [(.ref a1)]))
  obtain ⟨T111, X111, e111, st111⟩ := initO X0 hx hZ hown (hw _ (List.mem_of_getElem? (i := 153) rfl)) (hw _ (List.mem_of_getElem? (i := 60) rfl)) (hw _ (List.mem_of_getElem? (i := 61) rfl)) e0 (g := (mkF m 1 #[.val (.ref a1)] [(.ref a1)])) rfl (by rw [hml]; rfl) rfl (hb hby d19_1) (by decide) (W := 0) (by show 2 * 0 + _ ≤ _; exact Nat.le_of_eq rfl) (by decide)
  refine Go.by (fun t => st111 t) ?_
  show Go p e below _ (T111.setTop (mkF m 4 #[.val (.ref a1)] []))
  show Go p e below _ (T111.setTop (mkF m 4 #[.val (.ref a1)] []))
  exact Go.ret0 X111 hx Bd.returns Bd.notSynchronized (hb hby d19_4) (by decide) (by decide) (by first | (rw [e111]; exact ⟨rfl, N0, rfl⟩) | exact ⟨rfl, N0, rfl⟩)
def Q_rm12 (Z : State) (a1 : Addr) (h0 : Heap) (n0 : Nat) : Option Value → Heap → List Loc → Prop := fun v h L => v = none ∧ Fr n0 L ∧ Keep h0 h [a1] ∧ Fld Z h a1 "java/util/ArrayList" "size" "I" (.int 0) ∧ Fld Z h a1 "java/util/ArrayList" "elementData" "[Ljava/lang/Object;" .null ∧ Fld Z h a1 "java/util/AbstractList" "modCount" "I" (.int 0)
set_option maxRecDepth 65536 in
set_option maxHeartbeats 40000000 in
theorem rm12 (l : Launch) (Z : State) (a0 : Array Value) (hw : ∀ d ∈ tables_1, d.before a0 Z = true) (ws : List Jvm.Cond) (a1 : Addr) (h0 : Heap) (n0 : Nat) (E_a1 : Exa Z h0 a1 "java/util/ArrayList") (F_size_a1 : Fld Z h0 a1 "java/util/ArrayList" "size" "I" (.int 0)) (F_elementData_a1 : Fld Z h0 a1 "java/util/ArrayList" "elementData" "[Ljava/lang/Object;" .null) (F_modCount_a1 : Fld Z h0 a1 "java/util/AbstractList" "modCount" "I" (.int 0)) (g_a1 : n0 ≤ a1) :
    MetFree l (⟨"java/util/AbstractList", "<init>", "()V"⟩ : MethodName) (head1 (Jvm.Cond.code (⟨"java/util/AbstractList", "<init>", "()V"⟩ : MethodName) jdk_39_method_1_code 1 none :: ws) ({ frames := 2, cells := 0, slots := 0, locals := 24 } : Room)) (fun a U => a = #[(.ref a1)] ∧ Z.Warmed39 U.vm ∧ U.heap = h0) (fun _ _ _ _ _ => True) (fun _ U o U' => ∃ v L, o = .returned v ∧ Q_rm12 Z a1 h0 n0 v U'.heap L ∧ FrameEnd U o U' L ({ frames := 2, cells := 0, slots := 0, locals := 24 } : Room).cells ({ frames := 2, cells := 0, slots := 0, locals := 24 } : Room).slots) := by
  refine MetFree.of_bodySF (plainFor_of_name pn_5) hisR ?_
  intro p e s m args below meth c s₁ Bd hml0 hP hK
  obtain ⟨rfl, hZ, hh⟩ := hP
  have hx := Bd.exec
  have hby := Bd.bytes
  have hml : c.maxLocals = 1 := hml0
  have hown : s.vm.findClass "java/util/AbstractList" = some m.cls := findClass_of_methodNamed Bd.named
  have hnm := (name_of_methodNamed Bd.named Bd.method).1
  have X0 : Stand p l e ({ frames := 2, cells := 0, slots := 0, locals := 24 } : Room) s m #[(.ref a1)] below meth c s₁ [] 0 0 := Stand.of_body Bd
  have e0 : s₁.heap = h0 := by rw [← hh, Bd.state]; rfl
  have N0 := Fr.nil n0
  have ef : entryFrame m #[(.ref a1)] 1 = (mkF m 0 #[.val (.ref a1)] []) := by first | (simp [entryFrame, mkF, argsToLocals, Value.category, maxLocals]; done) | rfl
  show Go p e below (End (fun v h L => v = none ∧ Fr n0 L ∧ Keep h0 h [a1] ∧ Fld Z h a1 "java/util/ArrayList" "size" "I" (.int 0) ∧ Fld Z h a1 "java/util/ArrayList" "elementData" "[Ljava/lang/Object;" .null ∧ Fld Z h a1 "java/util/AbstractList" "modCount" "I" (.int 0)) s 0 0) (s₁.setTop (entryFrame m #[(.ref a1)] 1))
  rw [ef]
  show Go p e below _ (s₁.setTop (mkF m 0 #[.val (.ref a1)] []))
  have K0 : Keep h0 h0 [a1] := Keep.refl _ _
  show Go p e below _ (s₁.setTop (mkF m 0 #[.val (.ref a1)] []))
  refine Go.by (fun t => XS.aloadN X0.here hx rfl (hb hby d12_0) rfl rfl) ?_
  show Go p e below _ (s₁.setTop (mkF m 1 #[.val (.ref a1)] [(.ref a1)]))
  obtain ⟨_, _, ⟨T112, L112, k112, n112⟩, -, X112, ⟨Lc112, hQ112, l112, y112, z112⟩, st112⟩ := X0.specialBack hx (y := (⟨"java/util/AbstractCollection", "<init>", "()V"⟩ : MethodName)) rfl hown (mvT hZ (hw _ (List.mem_of_getElem? (i := 96) rfl))) (mvT hZ (hw _ (List.mem_of_getElem? (i := 97) rfl))) (mvT hZ (hw _ (List.mem_of_getElem? (i := 101) rfl))) (by decide) (backOf (W := 0) (rm13 l Z a0 hw [] a1 h0 n0) hZ (hw _ (List.mem_of_getElem? (i := 101) rfl)) (hw _ (List.mem_of_getElem? (i := 100) rfl)) (by decide) (by decide)) (g := (mkF m 1 #[.val (.ref a1)] [(.ref a1)])) rfl (by rw [hml]; rfl) (Steps.refl _) (a := a1) (argsL := []) (rest := []) (lenOf pd_2 rfl) rfl (by show 2 * 0 + _ ≤ _; exact Nat.le_of_eq rfl) (hb hby d12_1) (fun _ _ => ⟨rfl, e0, (by decide : 0 + 0 ≤ _), (by decide : 0 + 0 ≤ _)⟩)
  dsimp only [Pt.U, Pt.locs, Pt.cells, Pt.slots] at X112 l112 y112 z112 st112 hQ112
  subst y112 z112
  obtain ⟨rfl, Nq112, e112⟩ := hQ112
  have N112 : Fr n0 L112 := by rw [l112]; exact Fr.app N0 Nq112
  clear l112
  refine Go.by (fun t => st112.trans) ?_
  replace X112 := Stand.num (C := 0) (S := 0) X112 rfl rfl
  show Go p e below _ (T112.setTop (mkF m 4 #[.val (.ref a1)] []))
  show Go p e below _ (T112.setTop (mkF m 4 #[.val (.ref a1)] []))
  refine Go.by (fun t => XS.aloadN X112.here hx rfl (hb hby d12_4) rfl rfl) ?_
  show Go p e below _ (T112.setTop (mkF m 5 #[.val (.ref a1)] [(.ref a1)]))
  refine Go.by (fun t => XS.iconst X112.here hx rfl (hb hby d12_5)) ?_
  show Go p e below _ (T112.setTop (mkF m 6 #[.val (.ref a1)] [(.int (0 : Int32)), (.ref a1)]))
  obtain ⟨T113, h113, X113, e113, W113, st113⟩ := putF X112 hx hZ hown (host := "") (Or.inl (hw _ (List.mem_of_getElem? (i := 103) rfl))) Via.refl e112 F_modCount_a1 E_a1 (Or.inl (hw _ (List.mem_of_getElem? (i := 104) rfl))) (hw _ (List.mem_of_getElem? (i := 85) rfl)) (ty := .int) (by decide) rfl rfl (g := (mkF m 6 #[.val (.ref a1)] [(.int (0 : Int32)), (.ref a1)])) rfl rfl (hb hby d12_6)
  refine Go.by (fun t => st113 t) ?_
  replace F_modCount_a1 := F_modCount_a1.same W113
  replace E_a1 := E_a1.wr W113
  replace F_size_a1 := F_size_a1.other W113 (Or.inr (slot_ne (Or.inl (hw _ (List.mem_of_getElem? (i := 127) rfl))) (Or.inl (hw _ (List.mem_of_getElem? (i := 104) rfl))) (by decide) (t := .int) (t' := .int) (by decide) (by decide)))
  replace F_elementData_a1 := F_elementData_a1.other W113 (Or.inr (slot_ne (Or.inl (hw _ (List.mem_of_getElem? (i := 107) rfl))) (Or.inl (hw _ (List.mem_of_getElem? (i := 104) rfl))) (by decide) (t := (.array (.object "java/lang/Object"))) (t' := .int) (by decide) (by decide)))
  replace K0 := K0.wr W113 (Or.inl (List.mem_of_getElem? (i := 0) rfl))
  have N113 := Fr.snoc X113 N112 g_a1
  show Go p e below _ (T113.setTop (mkF m 9 #[.val (.ref a1)] []))
  show Go p e below _ (T113.setTop (mkF m 9 #[.val (.ref a1)] []))
  exact Go.ret0 X113 hx Bd.returns Bd.notSynchronized (hb hby d12_9) (by decide) (by decide) (by first | (rw [e113]; exact ⟨rfl, N113, K0, F_size_a1, F_elementData_a1, F_modCount_a1⟩) | exact ⟨rfl, N113, K0, F_size_a1, F_elementData_a1, F_modCount_a1⟩)
def Q_rm11 (Z : State) (a1 de : Addr) (h0 : Heap) (n0 : Nat) : Option Value → Heap → List Loc → Prop := fun v h L => v = none ∧ Fr n0 L ∧ Keep h0 h [a1] ∧ Fld Z h a1 "java/util/ArrayList" "size" "I" (.int 0) ∧ Fld Z h a1 "java/util/ArrayList" "elementData" "[Ljava/lang/Object;" (.ref de) ∧ Fld Z h a1 "java/util/AbstractList" "modCount" "I" (.int 0)
set_option maxRecDepth 65536 in
set_option maxHeartbeats 40000000 in
theorem rm11 (l : Launch) (Z : State) (a0 : Array Value) (hw : ∀ d ∈ tables_1, d.before a0 Z = true) (ws : List Jvm.Cond) (a1 de : Addr) (h0 : Heap) (n0 : Nat) (Od : Old Z n0 h0) (S_DE : Sta Z Z.heap "java/util/ArrayList" "DEFAULTCAPACITY_EMPTY_ELEMENTDATA" "[Ljava/lang/Object;" (.ref de)) (E_a1 : Exa Z h0 a1 "java/util/ArrayList") (F_size_a1 : Fld Z h0 a1 "java/util/ArrayList" "size" "I" (.int 0)) (F_elementData_a1 : Fld Z h0 a1 "java/util/ArrayList" "elementData" "[Ljava/lang/Object;" .null) (F_modCount_a1 : Fld Z h0 a1 "java/util/AbstractList" "modCount" "I" (.int 0)) (g_a1 : n0 ≤ a1) :
    MetFree l (⟨"java/util/ArrayList", "<init>", "()V"⟩ : MethodName) (head1 (Jvm.Cond.code (⟨"java/util/ArrayList", "<init>", "()V"⟩ : MethodName) jdk_38_method_2_code 1 none :: ws) ({ frames := 3, cells := 0, slots := 0, locals := 36 } : Room)) (fun a U => a = #[(.ref a1)] ∧ Z.Warmed39 U.vm ∧ U.heap = h0) (fun _ _ _ _ _ => True) (fun _ U o U' => ∃ v L, o = .returned v ∧ Q_rm11 Z a1 de h0 n0 v U'.heap L ∧ FrameEnd U o U' L ({ frames := 3, cells := 0, slots := 0, locals := 36 } : Room).cells ({ frames := 3, cells := 0, slots := 0, locals := 36 } : Room).slots) := by
  refine MetFree.of_bodySF (plainFor_of_name pn_4) hisR ?_
  intro p e s m args below meth c s₁ Bd hml0 hP hK
  obtain ⟨rfl, hZ, hh⟩ := hP
  have hx := Bd.exec
  have hby := Bd.bytes
  have hml : c.maxLocals = 1 := hml0
  have hown : s.vm.findClass "java/util/ArrayList" = some m.cls := findClass_of_methodNamed Bd.named
  have hnm := (name_of_methodNamed Bd.named Bd.method).1
  have X0 : Stand p l e ({ frames := 3, cells := 0, slots := 0, locals := 36 } : Room) s m #[(.ref a1)] below meth c s₁ [] 0 0 := Stand.of_body Bd
  have e0 : s₁.heap = h0 := by rw [← hh, Bd.state]; rfl
  have N0 := Fr.nil n0
  have ef : entryFrame m #[(.ref a1)] 1 = (mkF m 0 #[.val (.ref a1)] []) := by first | (simp [entryFrame, mkF, argsToLocals, Value.category, maxLocals]; done) | rfl
  show Go p e below (End (fun v h L => v = none ∧ Fr n0 L ∧ Keep h0 h [a1] ∧ Fld Z h a1 "java/util/ArrayList" "size" "I" (.int 0) ∧ Fld Z h a1 "java/util/ArrayList" "elementData" "[Ljava/lang/Object;" (.ref de) ∧ Fld Z h a1 "java/util/AbstractList" "modCount" "I" (.int 0)) s 0 0) (s₁.setTop (entryFrame m #[(.ref a1)] 1))
  rw [ef]
  show Go p e below _ (s₁.setTop (mkF m 0 #[.val (.ref a1)] []))
  have K0 : Keep h0 h0 [a1] := Keep.refl _ _
  show Go p e below _ (s₁.setTop (mkF m 0 #[.val (.ref a1)] []))
  refine Go.by (fun t => XS.aloadN X0.here hx rfl (hb hby d11_0) rfl rfl) ?_
  show Go p e below _ (s₁.setTop (mkF m 1 #[.val (.ref a1)] [(.ref a1)]))
  obtain ⟨_, _, ⟨T114, L114, k114, n114⟩, -, X114, ⟨Lc114, hQ114, l114, y114, z114⟩, st114⟩ := X0.specialBack hx (y := (⟨"java/util/AbstractList", "<init>", "()V"⟩ : MethodName)) rfl hown (mvT hZ (hw _ (List.mem_of_getElem? (i := 90) rfl))) (mvT hZ (hw _ (List.mem_of_getElem? (i := 91) rfl))) (mvT hZ (hw _ (List.mem_of_getElem? (i := 95) rfl))) (by decide) (backOf (W := 0) (rm12 l Z a0 hw [] a1 h0 n0 E_a1 F_size_a1 F_elementData_a1 F_modCount_a1 g_a1) hZ (hw _ (List.mem_of_getElem? (i := 95) rfl)) (hw _ (List.mem_of_getElem? (i := 94) rfl)) (by decide) (by decide)) (g := (mkF m 1 #[.val (.ref a1)] [(.ref a1)])) rfl (by rw [hml]; rfl) (Steps.refl _) (a := a1) (argsL := []) (rest := []) (lenOf pd_2 rfl) rfl (by show 2 * 0 + _ ≤ _; exact Nat.le_of_eq rfl) (hb hby d11_1) (fun _ _ => ⟨rfl, e0, (by decide : 0 + 0 ≤ _), (by decide : 0 + 0 ≤ _)⟩)
  dsimp only [Pt.U, Pt.locs, Pt.cells, Pt.slots] at X114 l114 y114 z114 st114 hQ114
  subst y114 z114
  obtain ⟨rfl, Nq114, K114, Fz, Fe, Fm⟩ := hQ114
  have N114 : Fr n0 L114 := by rw [l114]; exact Fr.app N0 Nq114
  clear l114
  refine Go.by (fun t => st114.trans) ?_
  replace X114 := Stand.num (C := 0) (S := 0) X114 rfl rfl
  replace E_a1 := E_a1.keep K114
  replace Od := Od.keep K114 (allS g_a1 all0)
  replace K0 := K0.trans K114 (allS (P := fun x => x ∈ _ ∨ _ ≤ x) (Or.inl (List.mem_of_getElem? (i := 0) rfl)) all0)
  show Go p e below _ (T114.setTop (mkF m 4 #[.val (.ref a1)] []))
  have F_size_a1 := Fz
  have F_elementData_a1 := Fe
  have F_modCount_a1 := Fm
  show Go p e below _ (T114.setTop (mkF m 4 #[.val (.ref a1)] []))
  refine Go.by (fun t => XS.aloadN X114.here hx rfl (hb hby d11_4) rfl rfl) ?_
  show Go p e below _ (T114.setTop (mkF m 5 #[.val (.ref a1)] [(.ref a1)]))
  obtain ⟨T115, X115, e115, st115⟩ := getS2 X114 hx hZ hown (host := "") (Or.inl (hw _ (List.mem_of_getElem? (i := 105) rfl))) Via.refl rfl (S_DE.ext Od.2) (g := (mkF m 5 #[.val (.ref a1)] [(.ref a1)])) rfl (hb hby d11_5)
  refine Go.by (fun t => st115 t) ?_
  show Go p e below _ (T115.setTop (mkF m 8 #[.val (.ref a1)] [(.ref de), (.ref a1)]))
  obtain ⟨T116, h116, X116, e116, W116, st116⟩ := putF X115 hx hZ hown (host := "") (Or.inl (hw _ (List.mem_of_getElem? (i := 106) rfl))) Via.refl e115 F_elementData_a1 E_a1 (Or.inl (hw _ (List.mem_of_getElem? (i := 107) rfl))) (hw _ (List.mem_of_getElem? (i := 85) rfl)) (ty := (.array (.object "java/lang/Object"))) (by decide) rfl rfl (g := (mkF m 8 #[.val (.ref a1)] [(.ref de), (.ref a1)])) rfl rfl (hb hby d11_8)
  refine Go.by (fun t => st116 t) ?_
  replace F_elementData_a1 := F_elementData_a1.same W116
  replace Od := Od.wr W116 g_a1
  replace E_a1 := E_a1.wr W116
  replace F_size_a1 := F_size_a1.other W116 (Or.inr (slot_ne (Or.inl (hw _ (List.mem_of_getElem? (i := 127) rfl))) (Or.inl (hw _ (List.mem_of_getElem? (i := 107) rfl))) (by decide) (t := .int) (t' := (.array (.object "java/lang/Object"))) (by decide) (by decide)))
  replace F_modCount_a1 := F_modCount_a1.other W116 (Or.inr (slot_ne (Or.inl (hw _ (List.mem_of_getElem? (i := 104) rfl))) (Or.inl (hw _ (List.mem_of_getElem? (i := 107) rfl))) (by decide) (t := .int) (t' := (.array (.object "java/lang/Object"))) (by decide) (by decide)))
  replace K0 := K0.wr W116 (Or.inl (List.mem_of_getElem? (i := 0) rfl))
  have N116 := Fr.snoc X116 N114 g_a1
  show Go p e below _ (T116.setTop (mkF m 11 #[.val (.ref a1)] []))
  show Go p e below _ (T116.setTop (mkF m 11 #[.val (.ref a1)] []))
  exact Go.ret0 X116 hx Bd.returns Bd.notSynchronized (hb hby d11_11) (by decide) (by decide) (by first | (rw [e116]; exact ⟨rfl, N116, K0, F_size_a1, F_elementData_a1, F_modCount_a1⟩) | exact ⟨rfl, N116, K0, F_size_a1, F_elementData_a1, F_modCount_a1⟩)
def Q_rm10 (Z : State) (a1 de : Addr) (h0 : Heap) (n0 : Nat) : Option Value → Heap → List Loc → Prop := fun v h L => ∃ l1 l2 : Addr, v = none ∧ h0.size ≤ l1 ∧ h0.size ≤ l2 ∧ l1 ≠ l2 ∧ Fr n0 L ∧ Keep h0 h [a1] ∧ Fld Z h a1 "com/example/slicewright/slicewright/report/Report" "slices" "Ljava/util/List;" (.ref l1) ∧ Fld Z h a1 "com/example/slicewright/slicewright/report/Report" "errors" "Ljava/util/List;" (.ref l2) ∧ Exa Z h l1 "java/util/ArrayList" ∧ Fld Z h l1 "java/util/ArrayList" "size" "I" (.int 0) ∧ Fld Z h l1 "java/util/ArrayList" "elementData" "[Ljava/lang/Object;" (.ref de) ∧ Fld Z h l1 "java/util/AbstractList" "modCount" "I" (.int 0) ∧ Exa Z h l2 "java/util/ArrayList" ∧ Fld Z h l2 "java/util/ArrayList" "size" "I" (.int 0) ∧ Fld Z h l2 "java/util/ArrayList" "elementData" "[Ljava/lang/Object;" (.ref de) ∧ Fld Z h l2 "java/util/AbstractList" "modCount" "I" (.int 0)
set_option maxRecDepth 65536 in
set_option maxHeartbeats 40000000 in
theorem rm10 (l : Launch) (Z : State) (a0 : Array Value) (hw : ∀ d ∈ tables_1, d.before a0 Z = true) (ws : List Jvm.Cond) (a1 de : Addr) (h0 : Heap) (n0 : Nat) (Z0 : n0 ≤ h0.size) (Od : Old Z n0 h0) (S_DE : Sta Z Z.heap "java/util/ArrayList" "DEFAULTCAPACITY_EMPTY_ELEMENTDATA" "[Ljava/lang/Object;" (.ref de)) (E_a1 : Exa Z h0 a1 "com/example/slicewright/slicewright/report/Report") (F_slices_a1 : Fld Z h0 a1 "com/example/slicewright/slicewright/report/Report" "slices" "Ljava/util/List;" .null) (F_errors_a1 : Fld Z h0 a1 "com/example/slicewright/slicewright/report/Report" "errors" "Ljava/util/List;" .null) (g_a1 : n0 ≤ a1) :
    MetFree l (⟨"com/example/slicewright/slicewright/report/Report", "<init>", "()V"⟩ : MethodName) (head1 (Jvm.Cond.code (⟨"com/example/slicewright/slicewright/report/Report", "<init>", "()V"⟩ : MethodName) prog_24_method_1_code 1 none :: ws) ({ frames := 4, cells := 2, slots := 6, locals := 50 } : Room)) (fun a U => a = #[(.ref a1)] ∧ Z.Warmed39 U.vm ∧ U.heap = h0) (fun _ _ _ _ _ => True) (fun _ U o U' => ∃ v L, o = .returned v ∧ Q_rm10 Z a1 de h0 n0 v U'.heap L ∧ FrameEnd U o U' L ({ frames := 4, cells := 2, slots := 6, locals := 50 } : Room).cells ({ frames := 4, cells := 2, slots := 6, locals := 50 } : Room).slots) := by
  refine MetFree.of_bodySF (plainFor_of_name pn_3) hisR ?_
  intro p e s m args below meth c s₁ Bd hml0 hP hK
  obtain ⟨rfl, hZ, hh⟩ := hP
  have hx := Bd.exec
  have hby := Bd.bytes
  have hml : c.maxLocals = 1 := hml0
  have hown : s.vm.findClass "com/example/slicewright/slicewright/report/Report" = some m.cls := findClass_of_methodNamed Bd.named
  have hnm := (name_of_methodNamed Bd.named Bd.method).1
  have X0 : Stand p l e ({ frames := 4, cells := 2, slots := 6, locals := 50 } : Room) s m #[(.ref a1)] below meth c s₁ [] 0 0 := Stand.of_body Bd
  have e0 : s₁.heap = h0 := by rw [← hh, Bd.state]; rfl
  have N0 := Fr.nil n0
  have ef : entryFrame m #[(.ref a1)] 1 = (mkF m 0 #[.val (.ref a1)] []) := by first | (simp [entryFrame, mkF, argsToLocals, Value.category, maxLocals]; done) | rfl
  show Go p e below (End (fun v h L => ∃ l1 l2 : Addr, v = none ∧ h0.size ≤ l1 ∧ h0.size ≤ l2 ∧ l1 ≠ l2 ∧ Fr n0 L ∧ Keep h0 h [a1] ∧ Fld Z h a1 "com/example/slicewright/slicewright/report/Report" "slices" "Ljava/util/List;" (.ref l1) ∧ Fld Z h a1 "com/example/slicewright/slicewright/report/Report" "errors" "Ljava/util/List;" (.ref l2) ∧ Exa Z h l1 "java/util/ArrayList" ∧ Fld Z h l1 "java/util/ArrayList" "size" "I" (.int 0) ∧ Fld Z h l1 "java/util/ArrayList" "elementData" "[Ljava/lang/Object;" (.ref de) ∧ Fld Z h l1 "java/util/AbstractList" "modCount" "I" (.int 0) ∧ Exa Z h l2 "java/util/ArrayList" ∧ Fld Z h l2 "java/util/ArrayList" "size" "I" (.int 0) ∧ Fld Z h l2 "java/util/ArrayList" "elementData" "[Ljava/lang/Object;" (.ref de) ∧ Fld Z h l2 "java/util/AbstractList" "modCount" "I" (.int 0)) s 2 6) (s₁.setTop (entryFrame m #[(.ref a1)] 1))
  rw [ef]
  show Go p e below _ (s₁.setTop (mkF m 0 #[.val (.ref a1)] []))
  have K0 : Keep h0 h0 [a1] := Keep.refl _ _
  show Go p e below _ (s₁.setTop (mkF m 0 #[.val (.ref a1)] []))
  refine Go.by (fun t => XS.aloadN X0.here hx rfl (hb hby d10_0) rfl rfl) ?_
  show Go p e below _ (s₁.setTop (mkF m 1 #[.val (.ref a1)] [(.ref a1)]))
  obtain ⟨T117, X117, e117, st117⟩ := initO X0 hx hZ hown (hw _ (List.mem_of_getElem? (i := 83) rfl)) (hw _ (List.mem_of_getElem? (i := 60) rfl)) (hw _ (List.mem_of_getElem? (i := 61) rfl)) e0 (g := (mkF m 1 #[.val (.ref a1)] [(.ref a1)])) rfl (by rw [hml]; rfl) rfl (hb hby d10_1) (by decide) (W := 0) (by show 2 * 0 + _ ≤ _; exact Nat.le_of_eq rfl) (by decide)
  refine Go.by (fun t => st117 t) ?_
  show Go p e below _ (T117.setTop (mkF m 4 #[.val (.ref a1)] []))
  show Go p e below _ (T117.setTop (mkF m 4 #[.val (.ref a1)] []))
  refine Go.by (fun t => XS.aloadN X117.here hx rfl (hb hby d10_4) rfl rfl) ?_
  show Go p e below _ (T117.setTop (mkF m 5 #[.val (.ref a1)] [(.ref a1)]))
  obtain ⟨T118, h118, X118, e118, E118, A118, D118, -, st118⟩ := newO X117 hx hZ hown (hw _ (List.mem_of_getElem? (i := 84) rfl)) (hw _ (List.mem_of_getElem? (i := 85) rfl)) (hw _ (List.mem_of_getElem? (i := 86) rfl)) e117 (g := (mkF m 5 #[.val (.ref a1)] [(.ref a1)])) rfl (hb hby d10_5) (by decide) (by decide)
  obtain ⟨l1, g118⟩ : ∃ z, z = h0.size := ⟨_, rfl⟩
  rw [← g118] at A118 D118 st118
  refine Go.by (fun t => st118 t) ?_
  have g_l1 : n0 ≤ l1 := Nat.le_trans Z0 (Nat.le_of_eq g118.symm)
  have sz_l1 : h0.size ≤ l1 := Nat.le_trans K0.1 (Nat.le_of_eq g118.symm)
  have ne_a1_l1 : a1 ≠ l1 := Nat.ne_of_lt (Nat.lt_of_lt_of_le E_a1.lt (Nat.le_of_eq g118.symm))
  replace E_a1 := E_a1.ext E118
  replace F_slices_a1 := F_slices_a1.ext E118
  replace F_errors_a1 := F_errors_a1.ext E118
  replace Od := Od.ext E118
  replace Z0 := Nat.le_trans Z0 E118.1
  replace K0 := K0.ext E118
  have E_l1 := A118
  have F_modCount_l1 : Fld Z h118 l1 "java/util/AbstractList" "modCount" "I" (.int (0 : Int32)) := D118 (Or.inl (hw _ (List.mem_of_getElem? (i := 104) rfl))) (ty := .int) (by decide)
  have F_elementData_l1 : Fld Z h118 l1 "java/util/ArrayList" "elementData" "[Ljava/lang/Object;" .null := D118 (Or.inl (hw _ (List.mem_of_getElem? (i := 107) rfl))) (ty := (.array (.object "java/lang/Object"))) (by decide)
  have F_size_l1 : Fld Z h118 l1 "java/util/ArrayList" "size" "I" (.int (0 : Int32)) := D118 (Or.inl (hw _ (List.mem_of_getElem? (i := 127) rfl))) (ty := .int) (by decide)
  replace X118 := Stand.num (C := 1) (S := 3) X118 rfl rfl
  show Go p e below _ (T118.setTop (mkF m 8 #[.val (.ref a1)] [(.ref l1), (.ref a1)]))
  show Go p e below _ (T118.setTop (mkF m 8 #[.val (.ref a1)] [(.ref l1), (.ref a1)]))
  refine Go.by (fun t => XS.dup X118.here hx rfl (hb hby d10_8) rfl rfl) ?_
  show Go p e below _ (T118.setTop (mkF m 9 #[.val (.ref a1)] [(.ref l1), (.ref l1), (.ref a1)]))
  obtain ⟨_, _, ⟨T119, L119, k119, n119⟩, -, X119, ⟨Lc119, hQ119, l119, y119, z119⟩, st119⟩ := X118.specialBack hx (y := (⟨"java/util/ArrayList", "<init>", "()V"⟩ : MethodName)) rfl hown (mvT hZ (hw _ (List.mem_of_getElem? (i := 87) rfl))) (mvT hZ (hw _ (List.mem_of_getElem? (i := 88) rfl))) (mvT hZ (hw _ (List.mem_of_getElem? (i := 89) rfl))) (by decide) (backOf (W := 2) (rm11 l Z a0 hw [] l1 de h118 n0 Od S_DE E_l1 F_size_l1 F_elementData_l1 F_modCount_l1 g_l1) hZ (hw _ (List.mem_of_getElem? (i := 89) rfl)) (hw _ (List.mem_of_getElem? (i := 86) rfl)) (by decide) (by decide)) (g := (mkF m 9 #[.val (.ref a1)] [(.ref l1), (.ref l1), (.ref a1)])) rfl (by rw [hml]; rfl) (Steps.refl _) (a := l1) (argsL := []) (rest := [(.ref l1), (.ref a1)]) (lenOf pd_2 rfl) rfl (by show 2 * 0 + _ ≤ _; exact Nat.le_of_eq rfl) (hb hby d10_9) (fun _ _ => ⟨rfl, e118, (by decide : 1 + 0 ≤ _), (by decide : 3 + 0 ≤ _)⟩)
  dsimp only [Pt.U, Pt.locs, Pt.cells, Pt.slots] at X119 l119 y119 z119 st119 hQ119
  subst y119 z119
  obtain ⟨rfl, Nq119, K119, Fz, Fe, Fm⟩ := hQ119
  have N119 : Fr n0 L119 := by rw [l119]; exact Fr.app N0 Nq119
  clear l119
  refine Go.by (fun t => st119.trans) ?_
  replace X119 := Stand.num (C := 1) (S := 3) X119 rfl rfl
  replace E_a1 := E_a1.keep K119
  replace F_slices_a1 := F_slices_a1.keep K119 (ninS ne_a1_l1 nin0)
  replace F_errors_a1 := F_errors_a1.keep K119 (ninS ne_a1_l1 nin0)
  replace Od := Od.keep K119 (allS g_l1 all0)
  replace E_l1 := E_l1.keep K119
  replace Z0 := Nat.le_trans Z0 K119.1
  replace K0 := K0.trans K119 (allS (P := fun x => x ∈ _ ∨ _ ≤ x) (Or.inr sz_l1) all0)
  show Go p e below _ (T119.setTop (mkF m 12 #[.val (.ref a1)] [(.ref l1), (.ref a1)]))
  have F_size_l1 := Fz
  have F_elementData_l1 := Fe
  have F_modCount_l1 := Fm
  clear Fz Fe Fm
  obtain ⟨T120, h120, X120, e120, W120, st120⟩ := putF X119 hx hZ hown (host := "") (Or.inl (hw _ (List.mem_of_getElem? (i := 108) rfl))) Via.refl rfl F_slices_a1 E_a1 (Or.inr ⟨(hw _ (List.mem_of_getElem? (i := 109) rfl)), rfl, hnm⟩) (hw _ (List.mem_of_getElem? (i := 78) rfl)) (ty := (.object "java/util/List")) (by decide) rfl rfl (g := (mkF m 12 #[.val (.ref a1)] [(.ref l1), (.ref a1)])) rfl rfl (hb hby d10_12)
  refine Go.by (fun t => st120 t) ?_
  replace F_slices_a1 := F_slices_a1.same W120
  replace E_a1 := E_a1.wr W120
  replace F_errors_a1 := F_errors_a1.other W120 (Or.inr (slot_ne (Or.inr (hw _ (List.mem_of_getElem? (i := 111) rfl))) (Or.inr (hw _ (List.mem_of_getElem? (i := 109) rfl))) (by decide) (t := (.object "java/util/List")) (t' := (.object "java/util/List")) (by decide) (by decide)))
  replace Od := Od.wr W120 g_a1
  replace E_l1 := E_l1.wr W120
  replace F_size_l1 := F_size_l1.other W120 (Or.inl (Ne.symm ne_a1_l1))
  replace F_elementData_l1 := F_elementData_l1.other W120 (Or.inl (Ne.symm ne_a1_l1))
  replace F_modCount_l1 := F_modCount_l1.other W120 (Or.inl (Ne.symm ne_a1_l1))
  replace Z0 := Nat.le_trans Z0 (Keep.of_wr W120).1
  replace K0 := K0.wr W120 (Or.inl (List.mem_of_getElem? (i := 0) rfl))
  have N120 := Fr.snoc X120 N119 g_a1
  show Go p e below _ (T120.setTop (mkF m 15 #[.val (.ref a1)] []))
  show Go p e below _ (T120.setTop (mkF m 15 #[.val (.ref a1)] []))
  refine Go.by (fun t => XS.aloadN X120.here hx rfl (hb hby d10_15) rfl rfl) ?_
  show Go p e below _ (T120.setTop (mkF m 16 #[.val (.ref a1)] [(.ref a1)]))
  obtain ⟨T121, h121, X121, e121, E121, A121, D121, -, st121⟩ := newO X120 hx hZ hown (hw _ (List.mem_of_getElem? (i := 84) rfl)) (hw _ (List.mem_of_getElem? (i := 85) rfl)) (hw _ (List.mem_of_getElem? (i := 86) rfl)) e120 (g := (mkF m 16 #[.val (.ref a1)] [(.ref a1)])) rfl (hb hby d10_16) (by decide) (by decide)
  obtain ⟨l2, g121⟩ : ∃ z, z = h120.size := ⟨_, rfl⟩
  rw [← g121] at A121 D121 st121
  refine Go.by (fun t => st121 t) ?_
  have g_l2 : n0 ≤ l2 := Nat.le_trans Z0 (Nat.le_of_eq g121.symm)
  have sz_l2 : h0.size ≤ l2 := Nat.le_trans K0.1 (Nat.le_of_eq g121.symm)
  have ne_a1_l2 : a1 ≠ l2 := Nat.ne_of_lt (Nat.lt_of_lt_of_le E_a1.lt (Nat.le_of_eq g121.symm))
  have ne_l1_l2 : l1 ≠ l2 := Nat.ne_of_lt (Nat.lt_of_lt_of_le E_l1.lt (Nat.le_of_eq g121.symm))
  replace E_a1 := E_a1.ext E121
  replace F_slices_a1 := F_slices_a1.ext E121
  replace F_errors_a1 := F_errors_a1.ext E121
  replace Od := Od.ext E121
  replace E_l1 := E_l1.ext E121
  replace F_size_l1 := F_size_l1.ext E121
  replace F_elementData_l1 := F_elementData_l1.ext E121
  replace F_modCount_l1 := F_modCount_l1.ext E121
  replace Z0 := Nat.le_trans Z0 E121.1
  replace K0 := K0.ext E121
  have E_l2 := A121
  have F_modCount_l2 : Fld Z h121 l2 "java/util/AbstractList" "modCount" "I" (.int (0 : Int32)) := D121 (Or.inl (hw _ (List.mem_of_getElem? (i := 104) rfl))) (ty := .int) (by decide)
  have F_elementData_l2 : Fld Z h121 l2 "java/util/ArrayList" "elementData" "[Ljava/lang/Object;" .null := D121 (Or.inl (hw _ (List.mem_of_getElem? (i := 107) rfl))) (ty := (.array (.object "java/lang/Object"))) (by decide)
  have F_size_l2 : Fld Z h121 l2 "java/util/ArrayList" "size" "I" (.int (0 : Int32)) := D121 (Or.inl (hw _ (List.mem_of_getElem? (i := 127) rfl))) (ty := .int) (by decide)
  replace X121 := Stand.num (C := 2) (S := 6) X121 rfl rfl
  show Go p e below _ (T121.setTop (mkF m 19 #[.val (.ref a1)] [(.ref l2), (.ref a1)]))
  show Go p e below _ (T121.setTop (mkF m 19 #[.val (.ref a1)] [(.ref l2), (.ref a1)]))
  refine Go.by (fun t => XS.dup X121.here hx rfl (hb hby d10_19) rfl rfl) ?_
  show Go p e below _ (T121.setTop (mkF m 20 #[.val (.ref a1)] [(.ref l2), (.ref l2), (.ref a1)]))
  obtain ⟨_, _, ⟨T122, L122, k122, n122⟩, -, X122, ⟨Lc122, hQ122, l122, y122, z122⟩, st122⟩ := X121.specialBack hx (y := (⟨"java/util/ArrayList", "<init>", "()V"⟩ : MethodName)) rfl hown (mvT hZ (hw _ (List.mem_of_getElem? (i := 87) rfl))) (mvT hZ (hw _ (List.mem_of_getElem? (i := 88) rfl))) (mvT hZ (hw _ (List.mem_of_getElem? (i := 89) rfl))) (by decide) (backOf (W := 2) (rm11 l Z a0 hw [] l2 de h121 n0 Od S_DE E_l2 F_size_l2 F_elementData_l2 F_modCount_l2 g_l2) hZ (hw _ (List.mem_of_getElem? (i := 89) rfl)) (hw _ (List.mem_of_getElem? (i := 86) rfl)) (by decide) (by decide)) (g := (mkF m 20 #[.val (.ref a1)] [(.ref l2), (.ref l2), (.ref a1)])) rfl (by rw [hml]; rfl) (Steps.refl _) (a := l2) (argsL := []) (rest := [(.ref l2), (.ref a1)]) (lenOf pd_2 rfl) rfl (by show 2 * 0 + _ ≤ _; exact Nat.le_of_eq rfl) (hb hby d10_20) (fun _ _ => ⟨rfl, e121, (by decide : 2 + 0 ≤ _), (by decide : 6 + 0 ≤ _)⟩)
  dsimp only [Pt.U, Pt.locs, Pt.cells, Pt.slots] at X122 l122 y122 z122 st122 hQ122
  subst y122 z122
  obtain ⟨rfl, Nq122, K122, Fz, Fe, Fm⟩ := hQ122
  have N122 : Fr n0 L122 := by rw [l122]; exact Fr.app N120 Nq122
  clear l122
  refine Go.by (fun t => st122.trans) ?_
  replace X122 := Stand.num (C := 2) (S := 6) X122 rfl rfl
  replace E_a1 := E_a1.keep K122
  replace F_slices_a1 := F_slices_a1.keep K122 (ninS ne_a1_l2 nin0)
  replace F_errors_a1 := F_errors_a1.keep K122 (ninS ne_a1_l2 nin0)
  replace Od := Od.keep K122 (allS g_l2 all0)
  replace E_l1 := E_l1.keep K122
  replace F_size_l1 := F_size_l1.keep K122 (ninS ne_l1_l2 nin0)
  replace F_elementData_l1 := F_elementData_l1.keep K122 (ninS ne_l1_l2 nin0)
  replace F_modCount_l1 := F_modCount_l1.keep K122 (ninS ne_l1_l2 nin0)
  replace E_l2 := E_l2.keep K122
  replace Z0 := Nat.le_trans Z0 K122.1
  replace K0 := K0.trans K122 (allS (P := fun x => x ∈ _ ∨ _ ≤ x) (Or.inr sz_l2) all0)
  show Go p e below _ (T122.setTop (mkF m 23 #[.val (.ref a1)] [(.ref l2), (.ref a1)]))
  have F_size_l2 := Fz
  have F_elementData_l2 := Fe
  have F_modCount_l2 := Fm
  clear Fz Fe Fm
  obtain ⟨T123, h123, X123, e123, W123, st123⟩ := putF X122 hx hZ hown (host := "") (Or.inl (hw _ (List.mem_of_getElem? (i := 110) rfl))) Via.refl rfl F_errors_a1 E_a1 (Or.inr ⟨(hw _ (List.mem_of_getElem? (i := 111) rfl)), rfl, hnm⟩) (hw _ (List.mem_of_getElem? (i := 78) rfl)) (ty := (.object "java/util/List")) (by decide) rfl rfl (g := (mkF m 23 #[.val (.ref a1)] [(.ref l2), (.ref a1)])) rfl rfl (hb hby d10_23)
  refine Go.by (fun t => st123 t) ?_
  replace F_errors_a1 := F_errors_a1.same W123
  replace E_a1 := E_a1.wr W123
  replace F_slices_a1 := F_slices_a1.other W123 (Or.inr (slot_ne (Or.inr (hw _ (List.mem_of_getElem? (i := 109) rfl))) (Or.inr (hw _ (List.mem_of_getElem? (i := 111) rfl))) (by decide) (t := (.object "java/util/List")) (t' := (.object "java/util/List")) (by decide) (by decide)))
  replace Od := Od.wr W123 g_a1
  replace E_l1 := E_l1.wr W123
  replace F_size_l1 := F_size_l1.other W123 (Or.inl (Ne.symm ne_a1_l1))
  replace F_elementData_l1 := F_elementData_l1.other W123 (Or.inl (Ne.symm ne_a1_l1))
  replace F_modCount_l1 := F_modCount_l1.other W123 (Or.inl (Ne.symm ne_a1_l1))
  replace E_l2 := E_l2.wr W123
  replace F_size_l2 := F_size_l2.other W123 (Or.inl (Ne.symm ne_a1_l2))
  replace F_elementData_l2 := F_elementData_l2.other W123 (Or.inl (Ne.symm ne_a1_l2))
  replace F_modCount_l2 := F_modCount_l2.other W123 (Or.inl (Ne.symm ne_a1_l2))
  replace Z0 := Nat.le_trans Z0 (Keep.of_wr W123).1
  replace K0 := K0.wr W123 (Or.inl (List.mem_of_getElem? (i := 0) rfl))
  have N123 := Fr.snoc X123 N122 g_a1
  show Go p e below _ (T123.setTop (mkF m 26 #[.val (.ref a1)] []))
  show Go p e below _ (T123.setTop (mkF m 26 #[.val (.ref a1)] []))
  exact Go.ret0 X123 hx Bd.returns Bd.notSynchronized (hb hby d10_26) (by decide) (by decide) (by first | (rw [e123]; exact ⟨l1, l2, rfl, sz_l1, sz_l2, ne_l1_l2, N123, K0, F_slices_a1, F_errors_a1, E_l1, F_size_l1, F_elementData_l1, F_modCount_l1, E_l2, F_size_l2, F_elementData_l2, F_modCount_l2⟩) | exact ⟨l1, l2, rfl, sz_l1, sz_l2, ne_l1_l2, N123, K0, F_slices_a1, F_errors_a1, E_l1, F_size_l1, F_elementData_l1, F_modCount_l1, E_l2, F_size_l2, F_elementData_l2, F_modCount_l2⟩)
def Q_rm15 (Z : State) (a1 : Addr) (w2 : Int32) (h0 : Heap) (n0 : Nat) : Option Value → Heap → List Loc → Prop := fun v h L => v = some (.int (if w2 = 0 then 1 else 0)) ∧ Fr n0 L ∧ h = h0
set_option maxRecDepth 65536 in
set_option maxHeartbeats 40000000 in
theorem rm15 (l : Launch) (Z : State) (a0 : Array Value) (hw : ∀ d ∈ tables_1, d.before a0 Z = true) (ws : List Jvm.Cond) (a1 : Addr) (w2 : Int32) (h0 : Heap) (n0 : Nat) (F_size_a1 : Fld Z h0 a1 "java/util/ArrayList" "size" "I" (.int w2)) :
    MetFree l (⟨"java/util/ArrayList", "isEmpty", "()Z"⟩ : MethodName) (head1 (Jvm.Cond.code (⟨"java/util/ArrayList", "isEmpty", "()Z"⟩ : MethodName) jdk_38_method_9_code 1 (some .boolean) :: ws) ({ frames := 0, cells := 0, slots := 0, locals := 0 } : Room)) (fun a U => a = #[(.ref a1)] ∧ Z.Warmed39 U.vm ∧ U.heap = h0) (fun _ _ _ _ _ => True) (fun _ U o U' => ∃ v L, o = .returned v ∧ Q_rm15 Z a1 w2 h0 n0 v U'.heap L ∧ FrameEnd U o U' L ({ frames := 0, cells := 0, slots := 0, locals := 0 } : Room).cells ({ frames := 0, cells := 0, slots := 0, locals := 0 } : Room).slots) := by
  refine MetFree.of_bodySF (plainFor_of_name pn_4) hisR ?_
  intro p e s m args below meth c s₁ Bd hml0 hP hK
  obtain ⟨rfl, hZ, hh⟩ := hP
  have hx := Bd.exec
  have hby := Bd.bytes
  have hml : c.maxLocals = 1 := hml0
  have hown : s.vm.findClass "java/util/ArrayList" = some m.cls := findClass_of_methodNamed Bd.named
  have hnm := (name_of_methodNamed Bd.named Bd.method).1
  have X0 : Stand p l e ({ frames := 0, cells := 0, slots := 0, locals := 0 } : Room) s m #[(.ref a1)] below meth c s₁ [] 0 0 := Stand.of_body Bd
  have e0 : s₁.heap = h0 := by rw [← hh, Bd.state]; rfl
  have N0 := Fr.nil n0
  have ef : entryFrame m #[(.ref a1)] 1 = (mkF m 0 #[.val (.ref a1)] []) := by first | (simp [entryFrame, mkF, argsToLocals, Value.category, maxLocals]; done) | rfl
  show Go p e below (End (fun v h L => v = some (.int (if w2 = 0 then 1 else 0)) ∧ Fr n0 L ∧ h = h0) s 0 0) (s₁.setTop (entryFrame m #[(.ref a1)] 1))
  rw [ef]
  show Go p e below _ (s₁.setTop (mkF m 0 #[.val (.ref a1)] []))
  show Go p e below _ (s₁.setTop (mkF m 0 #[.val (.ref a1)] []))
  refine Go.by (fun t => XS.aloadN X0.here hx rfl (hb hby d15_0) rfl rfl) ?_
  show Go p e below _ (s₁.setTop (mkF m 1 #[.val (.ref a1)] [(.ref a1)]))
  obtain ⟨T124, X124, e124, st124⟩ := getF X0 hx hZ hown (host := "") (Or.inl (hw _ (List.mem_of_getElem? (i := 126) rfl))) Via.refl e0 F_size_a1 (g := (mkF m 1 #[.val (.ref a1)] [(.ref a1)])) rfl rfl (hb hby d15_1)
  refine Go.by (fun t => st124 t) ?_
  show Go p e below _ (T124.setTop (mkF m 4 #[.val (.ref a1)] [(.int w2)]))
  by_cases hc4 : w2 = (0 : Int32)
  · -- hc4 True
    refine Go.by (fun t => XS.ifNo X124.here hx rfl (hb hby d15_4) rfl ((if0 _ _).trans (teq (hc4 : w2 = (0 : Int32))).2)) ?_
    show Go p e below _ (T124.setTop (mkF m 7 #[.val (.ref a1)] []))
    show Go p e below _ (T124.setTop (mkF m 7 #[.val (.ref a1)] []))
    refine Go.by (fun t => XS.iconst X124.here hx rfl (hb hby d15_7)) ?_
    show Go p e below _ (T124.setTop (mkF m 8 #[.val (.ref a1)] [(.int (1 : Int32))]))
    refine Go.by (fun t => XS.goto X124.here hx rfl (pc0 := 8) (pc' := 12) rfl (hb hby d15_8) (by decide) (by decide)) ?_
    show Go p e below _ (T124.setTop (mkF m 12 #[.val (.ref a1)] [(.int (1 : Int32))]))
    exact Go.ret1 X124 hx Bd.returns Bd.notSynchronized (by first | rfl | decide) (Or.inl ⟨rfl, by simp, _, rfl⟩) (hb hby d15_12) (by decide) (by decide) (by first | (rw [e124]; exact ⟨by rw [if_pos hc4], N0, rfl⟩) | exact ⟨by rw [if_pos hc4], N0, rfl⟩)
  · -- hc4 False
    refine Go.by (fun t => XS.ifYes X124.here hx rfl (pc0 := 4) (pc' := 11) rfl (hb hby d15_4) rfl ((if0 _ _).trans (feq (hc4 : ¬ (w2 = (0 : Int32)))).2) (by decide) (by decide)) ?_
    show Go p e below _ (T124.setTop (mkF m 11 #[.val (.ref a1)] []))
    show Go p e below _ (T124.setTop (mkF m 11 #[.val (.ref a1)] []))
    refine Go.by (fun t => XS.iconst X124.here hx rfl (hb hby d15_11)) ?_
    show Go p e below _ (T124.setTop (mkF m 12 #[.val (.ref a1)] [(.int (0 : Int32))]))
    exact Go.ret1 X124 hx Bd.returns Bd.notSynchronized (by first | rfl | decide) (Or.inl ⟨rfl, by simp, _, rfl⟩) (hb hby d15_12) (by decide) (by decide) (by first | (rw [e124]; exact ⟨by rw [if_neg hc4], N0, rfl⟩) | exact ⟨by rw [if_neg hc4], N0, rfl⟩)
def Q_rm31 (Z : State) (a1 : Addr) (w2 : Int32) (h0 : Heap) (n0 : Nat) : Option Value → Heap → List Loc → Prop := fun v h L => v = some (.int w2) ∧ Fr n0 L ∧ h = h0
set_option maxRecDepth 65536 in
set_option maxHeartbeats 40000000 in
theorem rm31 (l : Launch) (Z : State) (a0 : Array Value) (hw : ∀ d ∈ tables_1, d.before a0 Z = true) (ws : List Jvm.Cond) (a1 : Addr) (w2 : Int32) (h0 : Heap) (n0 : Nat) (F_f_a1 : Fld Z h0 a1 "java/util/ArrayList" "size" "I" (.int w2)) :
    MetFree l (⟨"java/util/ArrayList", "size", "()I"⟩ : MethodName) (head1 (Jvm.Cond.code (⟨"java/util/ArrayList", "size", "()I"⟩ : MethodName) jdk_38_method_8_code 1 (some .int) :: ws) ({ frames := 0, cells := 0, slots := 0, locals := 0 } : Room)) (fun a U => a = #[(.ref a1)] ∧ Z.Warmed39 U.vm ∧ U.heap = h0) (fun _ _ _ _ _ => True) (fun _ U o U' => ∃ v L, o = .returned v ∧ Q_rm31 Z a1 w2 h0 n0 v U'.heap L ∧ FrameEnd U o U' L ({ frames := 0, cells := 0, slots := 0, locals := 0 } : Room).cells ({ frames := 0, cells := 0, slots := 0, locals := 0 } : Room).slots) := by
  refine MetFree.of_bodySF (plainFor_of_name pn_4) hisR ?_
  intro p e s m args below meth c s₁ Bd hml0 hP hK
  obtain ⟨rfl, hZ, hh⟩ := hP
  have hx := Bd.exec
  have hby := Bd.bytes
  have hml : c.maxLocals = 1 := hml0
  have hown : s.vm.findClass "java/util/ArrayList" = some m.cls := findClass_of_methodNamed Bd.named
  have hnm := (name_of_methodNamed Bd.named Bd.method).1
  have X0 : Stand p l e ({ frames := 0, cells := 0, slots := 0, locals := 0 } : Room) s m #[(.ref a1)] below meth c s₁ [] 0 0 := Stand.of_body Bd
  have e0 : s₁.heap = h0 := by rw [← hh, Bd.state]; rfl
  have N0 := Fr.nil n0
  have ef : entryFrame m #[(.ref a1)] 1 = (mkF m 0 #[.val (.ref a1)] []) := by first | (simp [entryFrame, mkF, argsToLocals, Value.category, maxLocals]; done) | rfl
  show Go p e below (End (fun v h L => v = some (.int w2) ∧ Fr n0 L ∧ h = h0) s 0 0) (s₁.setTop (entryFrame m #[(.ref a1)] 1))
  rw [ef]
  show Go p e below _ (s₁.setTop (mkF m 0 #[.val (.ref a1)] []))
  show Go p e below _ (s₁.setTop (mkF m 0 #[.val (.ref a1)] []))
  refine Go.by (fun t => XS.aloadN X0.here hx rfl (hb hby d31_0) rfl rfl) ?_
  show Go p e below _ (s₁.setTop (mkF m 1 #[.val (.ref a1)] [(.ref a1)]))
  obtain ⟨T125, X125, e125, st125⟩ := getF X0 hx hZ hown (host := "") (Or.inl (hw _ (List.mem_of_getElem? (i := 126) rfl))) Via.refl e0 F_f_a1 (g := (mkF m 1 #[.val (.ref a1)] [(.ref a1)])) rfl rfl (hb hby d31_1)
  refine Go.by (fun t => st125 t) ?_
  show Go p e below _ (T125.setTop (mkF m 4 #[.val (.ref a1)] [(.int w2)]))
  show Go p e below _ (T125.setTop (mkF m 4 #[.val (.ref a1)] [(.int w2)]))
  exact Go.ret1 X125 hx Bd.returns Bd.notSynchronized rfl (Or.inl ⟨rfl, by simp, _, rfl⟩) (hb hby d31_4) (by decide) (by decide) (by first | (rw [e125]; exact ⟨rfl, N0, rfl⟩) | exact ⟨rfl, N0, rfl⟩)
def Q_rm14 (Z : State) (a1 l2 : Addr) (w2 : Int32) (h0 : Heap) (n0 : Nat) : Option Value → Heap → List Loc → Prop := fun v h L => v = some (.int (if w2 = 0 then 1 else 0)) ∧ Fr n0 L ∧ h = h0
set_option maxRecDepth 65536 in
set_option maxHeartbeats 40000000 in
theorem rm14 (l : Launch) (Z : State) (a0 : Array Value) (hw : ∀ d ∈ tables_1, d.before a0 Z = true) (ws : List Jvm.Cond) (a1 l2 : Addr) (w2 : Int32) (h0 : Heap) (n0 : Nat) (F_errors_a1 : Fld Z h0 a1 "com/example/slicewright/slicewright/report/Report" "errors" "Ljava/util/List;" (.ref l2)) (E_l2 : Exa Z h0 l2 "java/util/ArrayList") (F_size_l2 : Fld Z h0 l2 "java/util/ArrayList" "size" "I" (.int w2)) :
    MetFree l (⟨"com/example/slicewright/slicewright/report/Report", "isValid", "()Z"⟩ : MethodName) (head1 (Jvm.Cond.code (⟨"com/example/slicewright/slicewright/report/Report", "isValid", "()Z"⟩ : MethodName) prog_24_method_6_code 1 (some .boolean) :: ws) ({ frames := 1, cells := 0, slots := 0, locals := 12 } : Room)) (fun a U => a = #[(.ref a1)] ∧ Z.Warmed39 U.vm ∧ U.heap = h0) (fun _ _ _ _ _ => True) (fun _ U o U' => ∃ v L, o = .returned v ∧ Q_rm14 Z a1 l2 w2 h0 n0 v U'.heap L ∧ FrameEnd U o U' L ({ frames := 1, cells := 0, slots := 0, locals := 12 } : Room).cells ({ frames := 1, cells := 0, slots := 0, locals := 12 } : Room).slots) := by
  refine MetFree.of_bodySF (plainFor_of_name pn_3) hisR ?_
  intro p e s m args below meth c s₁ Bd hml0 hP hK
  obtain ⟨rfl, hZ, hh⟩ := hP
  have hx := Bd.exec
  have hby := Bd.bytes
  have hml : c.maxLocals = 1 := hml0
  have hown : s.vm.findClass "com/example/slicewright/slicewright/report/Report" = some m.cls := findClass_of_methodNamed Bd.named
  have hnm := (name_of_methodNamed Bd.named Bd.method).1
  have X0 : Stand p l e ({ frames := 1, cells := 0, slots := 0, locals := 12 } : Room) s m #[(.ref a1)] below meth c s₁ [] 0 0 := Stand.of_body Bd
  have e0 : s₁.heap = h0 := by rw [← hh, Bd.state]; rfl
  have N0 := Fr.nil n0
  have ef : entryFrame m #[(.ref a1)] 1 = (mkF m 0 #[.val (.ref a1)] []) := by first | (simp [entryFrame, mkF, argsToLocals, Value.category, maxLocals]; done) | rfl
  show Go p e below (End (fun v h L => v = some (.int (if w2 = 0 then 1 else 0)) ∧ Fr n0 L ∧ h = h0) s 0 0) (s₁.setTop (entryFrame m #[(.ref a1)] 1))
  rw [ef]
  show Go p e below _ (s₁.setTop (mkF m 0 #[.val (.ref a1)] []))
  show Go p e below _ (s₁.setTop (mkF m 0 #[.val (.ref a1)] []))
  refine Go.by (fun t => XS.aloadN X0.here hx rfl (hb hby d14_0) rfl rfl) ?_
  show Go p e below _ (s₁.setTop (mkF m 1 #[.val (.ref a1)] [(.ref a1)]))
  obtain ⟨T126, X126, e126, st126⟩ := getF X0 hx hZ hown (host := "") (Or.inl (hw _ (List.mem_of_getElem? (i := 110) rfl))) Via.refl e0 F_errors_a1 (g := (mkF m 1 #[.val (.ref a1)] [(.ref a1)])) rfl rfl (hb hby d14_1)
  refine Go.by (fun t => st126 t) ?_
  show Go p e below _ (T126.setTop (mkF m 4 #[.val (.ref a1)] [(.ref l2)]))
  obtain ⟨cq127, kq127, q127a, q127b, q127c⟩ := isOf hZ e126 E_l2
  obtain ⟨_, _, ⟨T127, L127, k127, n127⟩, -, X127, ⟨Lc127, hQ127, l127, y127, z127⟩, st127⟩ := X126.interfaceBack hx (xi := (⟨"java/util/List", "isEmpty", "()Z"⟩ : MethodName)) (y := (⟨"java/util/ArrayList", "isEmpty", "()Z"⟩ : MethodName)) hown (mvT hZ (hw _ (List.mem_of_getElem? (i := 117) rfl))) (mvT hZ (hw _ (List.mem_of_getElem? (i := 118) rfl))) (mvT hZ (hw _ (List.mem_of_getElem? (i := 119) rfl))) (mvT hZ (hw _ (List.mem_of_getElem? (i := 120) rfl))) (mvT hZ (hw _ (List.mem_of_getElem? (i := 121) rfl))) (mvT hZ (hw _ (List.mem_of_getElem? (i := 122) rfl))) (mvT hZ (hw _ (List.mem_of_getElem? (i := 123) rfl))) (mvT hZ (hw _ (List.mem_of_getElem? (i := 124) rfl))) (by decide) (backOf (W := 0) (rm15 l Z a0 hw [] l2 w2 h0 n0 F_size_l2) hZ (hw _ (List.mem_of_getElem? (i := 125) rfl)) (hw _ (List.mem_of_getElem? (i := 86) rfl)) (by decide) (by decide)) q127a q127b q127c (g := (mkF m 4 #[.val (.ref a1)] [(.ref l2)])) rfl (by rw [hml]; rfl) (Steps.refl _) (argsL := []) (rest := []) (lenOf pd_3 rfl) rfl (by show 2 * 0 + _ ≤ _; exact Nat.le_of_eq rfl) (hb hby d14_4) (fun _ _ => ⟨rfl, e126, (by decide : 0 + 0 ≤ _), (by decide : 0 + 0 ≤ _)⟩)
  dsimp only [Pt.U, Pt.locs, Pt.cells, Pt.slots] at X127 l127 y127 z127 st127 hQ127
  subst y127 z127
  obtain ⟨rfl, Nq127, e127⟩ := hQ127
  have N127 : Fr n0 L127 := by rw [l127]; exact Fr.app N0 Nq127
  clear l127
  refine Go.by (fun t => st127.trans) ?_
  replace X127 := Stand.num (C := 0) (S := 0) X127 rfl rfl
  show Go p e below _ (T127.setTop (mkF m 9 #[.val (.ref a1)] [(.int (if w2 = 0 then 1 else 0))]))
  show Go p e below _ (T127.setTop (mkF m 9 #[.val (.ref a1)] [(.int (if w2 = 0 then 1 else 0))]))
  exact Go.ret1 X127 hx Bd.returns Bd.notSynchronized (by by_cases hz : w2 = 0 <;> simp only [hz, if_pos, if_neg, if_true, if_false] <;> rfl) (Or.inl ⟨rfl, by simp, _, rfl⟩) (hb hby d14_9) (by decide) (by decide) (by first | (rw [e127]; exact ⟨rfl, N127, rfl⟩) | exact ⟨rfl, N127, rfl⟩)
def Q_rm17 (Z : State) (a1 a2 : Addr) (h0 : Heap) (n0 : Nat) : Option Value → Heap → List Loc → Prop := fun v h L => v = some (.ref a1) ∧ Fr n0 L ∧ h = h0
set_option maxRecDepth 65536 in
set_option maxHeartbeats 40000000 in
theorem rm17 (l : Launch) (Z : State) (a0 : Array Value) (hw : ∀ d ∈ tables_1, d.before a0 Z = true) (ws : List Jvm.Cond) (a1 a2 : Addr) (h0 : Heap) (n0 : Nat)  :
    MetFree l (⟨"java/util/Objects", "requireNonNull", "(Ljava/lang/Object;Ljava/lang/String;)Ljava/lang/Object;"⟩ : MethodName) (head1 (Jvm.Cond.code (⟨"java/util/Objects", "requireNonNull", "(Ljava/lang/Object;Ljava/lang/String;)Ljava/lang/Object;"⟩ : MethodName) jdk_31_method_11_code 2 (some (.object "java/lang/Object")) :: ws) ({ frames := 0, cells := 0, slots := 0, locals := 0 } : Room)) (fun a U => a = #[(.ref a1), (.ref a2)] ∧ Z.Warmed39 U.vm ∧ U.heap = h0) (fun _ _ _ _ _ => True) (fun _ U o U' => ∃ v L, o = .returned v ∧ Q_rm17 Z a1 a2 h0 n0 v U'.heap L ∧ FrameEnd U o U' L ({ frames := 0, cells := 0, slots := 0, locals := 0 } : Room).cells ({ frames := 0, cells := 0, slots := 0, locals := 0 } : Room).slots) := by
  refine MetFree.of_bodySF (plainFor_of_name pn_7) hisR ?_
  intro p e s m args below meth c s₁ Bd hml0 hP hK
  obtain ⟨rfl, hZ, hh⟩ := hP
  have hx := Bd.exec
  have hby := Bd.bytes
  have hml : c.maxLocals = 2 := hml0
  have hown : s.vm.findClass "java/util/Objects" = some m.cls := findClass_of_methodNamed Bd.named
  have hnm := (name_of_methodNamed Bd.named Bd.method).1
  have X0 : Stand p l e ({ frames := 0, cells := 0, slots := 0, locals := 0 } : Room) s m #[(.ref a1), (.ref a2)] below meth c s₁ [] 0 0 := Stand.of_body Bd
  have e0 : s₁.heap = h0 := by rw [← hh, Bd.state]; rfl
  have N0 := Fr.nil n0
  have ef : entryFrame m #[(.ref a1), (.ref a2)] 2 = (mkF m 0 #[.val (.ref a1), .val (.ref a2)] []) := by first | (simp [entryFrame, mkF, argsToLocals, Value.category, maxLocals]; done) | rfl
  show Go p e below (End (fun v h L => v = some (.ref a1) ∧ Fr n0 L ∧ h = h0) s 0 0) (s₁.setTop (entryFrame m #[(.ref a1), (.ref a2)] 2))
  rw [ef]
  show Go p e below _ (s₁.setTop (mkF m 0 #[.val (.ref a1), .val (.ref a2)] []))
  show Go p e below _ (s₁.setTop (mkF m 0 #[.val (.ref a1), .val (.ref a2)] []))
  refine Go.by (fun t => XS.aloadN X0.here hx rfl (hb hby d17_0) rfl rfl) ?_
  show Go p e below _ (s₁.setTop (mkF m 1 #[.val (.ref a1), .val (.ref a2)] [(.ref a1)]))
  refine Go.by (fun t => XS.ifnonnullYes X0.here hx rfl (pc0 := 1) (pc' := 13) rfl (hb hby d17_1) rfl (by decide) (by decide)) ?_
  show Go p e below _ (s₁.setTop (mkF m 13 #[.val (.ref a1), .val (.ref a2)] []))
  show Go p e below _ (s₁.setTop (mkF m 13 #[.val (.ref a1), .val (.ref a2)] []))
  refine Go.by (fun t => XS.aloadN X0.here hx rfl (hb hby d17_13) rfl rfl) ?_
  show Go p e below _ (s₁.setTop (mkF m 14 #[.val (.ref a1), .val (.ref a2)] [(.ref a1)]))
  exact Go.ret1 X0 hx Bd.returns Bd.notSynchronized rfl (Or.inr (Or.inr (Or.inr (Or.inr ⟨rfl, rfl, rfl⟩)))) (hb hby d17_14) (by decide) (by decide) (by first | (rw [e0]; exact ⟨rfl, N0, rfl⟩) | exact ⟨rfl, N0, rfl⟩)
def Q_rm18 (Z : State) (a1 k2 s3 m4 : Addr) (h0 : Heap) (n0 : Nat) : Option Value → Heap → List Loc → Prop := fun v h L => v = none ∧ Fr n0 L ∧ Keep h0 h [a1] ∧ Fld Z h a1 "com/example/slicewright/slicewright/report/Report$Finding" "kind" "Lcom/example/slicewright/slicewright/report/ErrorKind;" (.ref k2) ∧ Fld Z h a1 "com/example/slicewright/slicewright/report/Report$Finding" "location" "Ljava/lang/String;" (.ref s3) ∧ Fld Z h a1 "com/example/slicewright/slicewright/report/Report$Finding" "message" "Ljava/lang/String;" (.ref m4)
set_option maxRecDepth 65536 in
set_option maxHeartbeats 40000000 in
theorem rm18 (l : Launch) (Z : State) (a0 : Array Value) (hw : ∀ d ∈ tables_1, d.before a0 Z = true) (ws : List Jvm.Cond) (a1 k2 s3 m4 : Addr) (h0 : Heap) (n0 : Nat) (E_a1 : Exa Z h0 a1 "com/example/slicewright/slicewright/report/Report$Finding") (F_kind_a1 : Fld Z h0 a1 "com/example/slicewright/slicewright/report/Report$Finding" "kind" "Lcom/example/slicewright/slicewright/report/ErrorKind;" .null) (F_location_a1 : Fld Z h0 a1 "com/example/slicewright/slicewright/report/Report$Finding" "location" "Ljava/lang/String;" .null) (F_message_a1 : Fld Z h0 a1 "com/example/slicewright/slicewright/report/Report$Finding" "message" "Ljava/lang/String;" .null) (g_a1 : n0 ≤ a1) :
    MetFree l (⟨"com/example/slicewright/slicewright/report/Report$Finding", "<init>", "(Lcom/example/slicewright/slicewright/report/ErrorKind;Ljava/lang/String;Ljava/lang/String;)V"⟩ : MethodName) (head1 (Jvm.Cond.code (⟨"com/example/slicewright/slicewright/report/Report$Finding", "<init>", "(Lcom/example/slicewright/slicewright/report/ErrorKind;Ljava/lang/String;Ljava/lang/String;)V"⟩ : MethodName) prog_25_method_1_code 4 none :: ws) ({ frames := 2, cells := 0, slots := 0, locals := 24 } : Room)) (fun a U => a = #[(.ref a1), (.ref k2), (.ref s3), (.ref m4)] ∧ Z.Warmed39 U.vm ∧ U.heap = h0) (fun _ _ _ _ _ => True) (fun _ U o U' => ∃ v L, o = .returned v ∧ Q_rm18 Z a1 k2 s3 m4 h0 n0 v U'.heap L ∧ FrameEnd U o U' L ({ frames := 2, cells := 0, slots := 0, locals := 24 } : Room).cells ({ frames := 2, cells := 0, slots := 0, locals := 24 } : Room).slots) := by
  refine MetFree.of_bodySF (plainFor_of_name pn_8) hisR ?_
  intro p e s m args below meth c s₁ Bd hml0 hP hK
  obtain ⟨rfl, hZ, hh⟩ := hP
  have hx := Bd.exec
  have hby := Bd.bytes
  have hml : c.maxLocals = 4 := hml0
  have hown : s.vm.findClass "com/example/slicewright/slicewright/report/Report$Finding" = some m.cls := findClass_of_methodNamed Bd.named
  have hnm := (name_of_methodNamed Bd.named Bd.method).1
  have X0 : Stand p l e ({ frames := 2, cells := 0, slots := 0, locals := 24 } : Room) s m #[(.ref a1), (.ref k2), (.ref s3), (.ref m4)] below meth c s₁ [] 0 0 := Stand.of_body Bd
  have e0 : s₁.heap = h0 := by rw [← hh, Bd.state]; rfl
  have N0 := Fr.nil n0
  have ef : entryFrame m #[(.ref a1), (.ref k2), (.ref s3), (.ref m4)] 4 = (mkF m 0 #[.val (.ref a1), .val (.ref k2), .val (.ref s3), .val (.ref m4)] []) := by first | (simp [entryFrame, mkF, argsToLocals, Value.category, maxLocals]; done) | rfl
  show Go p e below (End (fun v h L => v = none ∧ Fr n0 L ∧ Keep h0 h [a1] ∧ Fld Z h a1 "com/example/slicewright/slicewright/report/Report$Finding" "kind" "Lcom/example/slicewright/slicewright/report/ErrorKind;" (.ref k2) ∧ Fld Z h a1 "com/example/slicewright/slicewright/report/Report$Finding" "location" "Ljava/lang/String;" (.ref s3) ∧ Fld Z h a1 "com/example/slicewright/slicewright/report/Report$Finding" "message" "Ljava/lang/String;" (.ref m4)) s 0 0) (s₁.setTop (entryFrame m #[(.ref a1), (.ref k2), (.ref s3), (.ref m4)] 4))
  rw [ef]
  show Go p e below _ (s₁.setTop (mkF m 0 #[.val (.ref a1), .val (.ref k2), .val (.ref s3), .val (.ref m4)] []))
  have K0 : Keep h0 h0 [a1] := Keep.refl _ _
  show Go p e below _ (s₁.setTop (mkF m 0 #[.val (.ref a1), .val (.ref k2), .val (.ref s3), .val (.ref m4)] []))
  refine Go.by (fun t => XS.aloadN X0.here hx rfl (hb hby d18_0) rfl rfl) ?_
  show Go p e below _ (s₁.setTop (mkF m 1 #[.val (.ref a1), .val (.ref k2), .val (.ref s3), .val (.ref m4)] [(.ref a1)]))
  obtain ⟨_, _, ⟨T128, L128, k128, n128⟩, -, X128, ⟨Lc128, hQ128, l128, y128, z128⟩, st128⟩ := X0.specialBack hx (y := (⟨"java/lang/Record", "<init>", "()V"⟩ : MethodName)) rfl hown (mvT hZ (hw _ (List.mem_of_getElem? (i := 148) rfl))) (mvT hZ (hw _ (List.mem_of_getElem? (i := 149) rfl))) (mvT hZ (hw _ (List.mem_of_getElem? (i := 152) rfl))) (by decide) (backOf (W := 0) (rm19 l Z a0 hw [] a1 h0 n0) hZ (hw _ (List.mem_of_getElem? (i := 152) rfl)) (hw _ (List.mem_of_getElem? (i := 151) rfl)) (by decide) (by decide)) (g := (mkF m 1 #[.val (.ref a1), .val (.ref k2), .val (.ref s3), .val (.ref m4)] [(.ref a1)])) rfl (by rw [hml]; rfl) (Steps.refl _) (a := a1) (argsL := []) (rest := []) (lenOf pd_2 rfl) rfl (by show 2 * 0 + _ ≤ _; exact Nat.le_of_eq rfl) (hb hby d18_1) (fun _ _ => ⟨rfl, e0, (by decide : 0 + 0 ≤ _), (by decide : 0 + 0 ≤ _)⟩)
  dsimp only [Pt.U, Pt.locs, Pt.cells, Pt.slots] at X128 l128 y128 z128 st128 hQ128
  subst y128 z128
  obtain ⟨rfl, Nq128, e128⟩ := hQ128
  have N128 : Fr n0 L128 := by rw [l128]; exact Fr.app N0 Nq128
  clear l128
  refine Go.by (fun t => st128.trans) ?_
  replace X128 := Stand.num (C := 0) (S := 0) X128 rfl rfl
  show Go p e below _ (T128.setTop (mkF m 4 #[.val (.ref a1), .val (.ref k2), .val (.ref s3), .val (.ref m4)] []))
  show Go p e below _ (T128.setTop (mkF m 4 #[.val (.ref a1), .val (.ref k2), .val (.ref s3), .val (.ref m4)] []))
  refine Go.by (fun t => XS.aloadN X128.here hx rfl (hb hby d18_4) rfl rfl) ?_
  show Go p e below _ (T128.setTop (mkF m 5 #[.val (.ref a1), .val (.ref k2), .val (.ref s3), .val (.ref m4)] [(.ref a1)]))
  refine Go.by (fun t => XS.aloadN X128.here hx rfl (hb hby d18_5) rfl rfl) ?_
  show Go p e below _ (T128.setTop (mkF m 6 #[.val (.ref a1), .val (.ref k2), .val (.ref s3), .val (.ref m4)] [(.ref k2), (.ref a1)]))
  obtain ⟨T129, h129, X129, e129, W129, st129⟩ := putF X128 hx hZ hown (host := "") (Or.inl (hw _ (List.mem_of_getElem? (i := 154) rfl))) Via.refl e128 F_kind_a1 E_a1 (Or.inr ⟨(hw _ (List.mem_of_getElem? (i := 155) rfl)), rfl, hnm⟩) (hw _ (List.mem_of_getElem? (i := 134) rfl)) (ty := (.object "com/example/slicewright/slicewright/report/ErrorKind")) (by decide) rfl rfl (g := (mkF m 6 #[.val (.ref a1), .val (.ref k2), .val (.ref s3), .val (.ref m4)] [(.ref k2), (.ref a1)])) rfl rfl (hb hby d18_6)
  refine Go.by (fun t => st129 t) ?_
  replace F_kind_a1 := F_kind_a1.same W129
  replace E_a1 := E_a1.wr W129
  replace F_location_a1 := F_location_a1.other W129 (Or.inr (slot_ne (Or.inr (hw _ (List.mem_of_getElem? (i := 157) rfl))) (Or.inr (hw _ (List.mem_of_getElem? (i := 155) rfl))) (by decide) (t := (.object "java/lang/String")) (t' := (.object "com/example/slicewright/slicewright/report/ErrorKind")) (by decide) (by decide)))
  replace F_message_a1 := F_message_a1.other W129 (Or.inr (slot_ne (Or.inr (hw _ (List.mem_of_getElem? (i := 159) rfl))) (Or.inr (hw _ (List.mem_of_getElem? (i := 155) rfl))) (by decide) (t := (.object "java/lang/String")) (t' := (.object "com/example/slicewright/slicewright/report/ErrorKind")) (by decide) (by decide)))
  replace K0 := K0.wr W129 (Or.inl (List.mem_of_getElem? (i := 0) rfl))
  have N129 := Fr.snoc X129 N128 g_a1
  show Go p e below _ (T129.setTop (mkF m 9 #[.val (.ref a1), .val (.ref k2), .val (.ref s3), .val (.ref m4)] []))
  show Go p e below _ (T129.setTop (mkF m 9 #[.val (.ref a1), .val (.ref k2), .val (.ref s3), .val (.ref m4)] []))
  refine Go.by (fun t => XS.aloadN X129.here hx rfl (hb hby d18_9) rfl rfl) ?_
  show Go p e below _ (T129.setTop (mkF m 10 #[.val (.ref a1), .val (.ref k2), .val (.ref s3), .val (.ref m4)] [(.ref a1)]))
  refine Go.by (fun t => XS.aloadN X129.here hx rfl (hb hby d18_10) rfl rfl) ?_
  show Go p e below _ (T129.setTop (mkF m 11 #[.val (.ref a1), .val (.ref k2), .val (.ref s3), .val (.ref m4)] [(.ref s3), (.ref a1)]))
  obtain ⟨T130, h130, X130, e130, W130, st130⟩ := putF X129 hx hZ hown (host := "") (Or.inl (hw _ (List.mem_of_getElem? (i := 156) rfl))) Via.refl e129 F_location_a1 E_a1 (Or.inr ⟨(hw _ (List.mem_of_getElem? (i := 157) rfl)), rfl, hnm⟩) (hw _ (List.mem_of_getElem? (i := 134) rfl)) (ty := (.object "java/lang/String")) (by decide) rfl rfl (g := (mkF m 11 #[.val (.ref a1), .val (.ref k2), .val (.ref s3), .val (.ref m4)] [(.ref s3), (.ref a1)])) rfl rfl (hb hby d18_11)
  refine Go.by (fun t => st130 t) ?_
  replace F_location_a1 := F_location_a1.same W130
  replace E_a1 := E_a1.wr W130
  replace F_kind_a1 := F_kind_a1.other W130 (Or.inr (slot_ne (Or.inr (hw _ (List.mem_of_getElem? (i := 155) rfl))) (Or.inr (hw _ (List.mem_of_getElem? (i := 157) rfl))) (by decide) (t := (.object "com/example/slicewright/slicewright/report/ErrorKind")) (t' := (.object "java/lang/String")) (by decide) (by decide)))
  replace F_message_a1 := F_message_a1.other W130 (Or.inr (slot_ne (Or.inr (hw _ (List.mem_of_getElem? (i := 159) rfl))) (Or.inr (hw _ (List.mem_of_getElem? (i := 157) rfl))) (by decide) (t := (.object "java/lang/String")) (t' := (.object "java/lang/String")) (by decide) (by decide)))
  replace K0 := K0.wr W130 (Or.inl (List.mem_of_getElem? (i := 0) rfl))
  have N130 := Fr.snoc X130 N129 g_a1
  show Go p e below _ (T130.setTop (mkF m 14 #[.val (.ref a1), .val (.ref k2), .val (.ref s3), .val (.ref m4)] []))
  show Go p e below _ (T130.setTop (mkF m 14 #[.val (.ref a1), .val (.ref k2), .val (.ref s3), .val (.ref m4)] []))
  refine Go.by (fun t => XS.aloadN X130.here hx rfl (hb hby d18_14) rfl rfl) ?_
  show Go p e below _ (T130.setTop (mkF m 15 #[.val (.ref a1), .val (.ref k2), .val (.ref s3), .val (.ref m4)] [(.ref a1)]))
  refine Go.by (fun t => XS.aloadN X130.here hx rfl (hb hby d18_15) rfl rfl) ?_
  show Go p e below _ (T130.setTop (mkF m 16 #[.val (.ref a1), .val (.ref k2), .val (.ref s3), .val (.ref m4)] [(.ref m4), (.ref a1)]))
  obtain ⟨T131, h131, X131, e131, W131, st131⟩ := putF X130 hx hZ hown (host := "") (Or.inl (hw _ (List.mem_of_getElem? (i := 158) rfl))) Via.refl e130 F_message_a1 E_a1 (Or.inr ⟨(hw _ (List.mem_of_getElem? (i := 159) rfl)), rfl, hnm⟩) (hw _ (List.mem_of_getElem? (i := 134) rfl)) (ty := (.object "java/lang/String")) (by decide) rfl rfl (g := (mkF m 16 #[.val (.ref a1), .val (.ref k2), .val (.ref s3), .val (.ref m4)] [(.ref m4), (.ref a1)])) rfl rfl (hb hby d18_16)
  refine Go.by (fun t => st131 t) ?_
  replace F_message_a1 := F_message_a1.same W131
  replace E_a1 := E_a1.wr W131
  replace F_kind_a1 := F_kind_a1.other W131 (Or.inr (slot_ne (Or.inr (hw _ (List.mem_of_getElem? (i := 155) rfl))) (Or.inr (hw _ (List.mem_of_getElem? (i := 159) rfl))) (by decide) (t := (.object "com/example/slicewright/slicewright/report/ErrorKind")) (t' := (.object "java/lang/String")) (by decide) (by decide)))
  replace F_location_a1 := F_location_a1.other W131 (Or.inr (slot_ne (Or.inr (hw _ (List.mem_of_getElem? (i := 157) rfl))) (Or.inr (hw _ (List.mem_of_getElem? (i := 159) rfl))) (by decide) (t := (.object "java/lang/String")) (t' := (.object "java/lang/String")) (by decide) (by decide)))
  replace K0 := K0.wr W131 (Or.inl (List.mem_of_getElem? (i := 0) rfl))
  have N131 := Fr.snoc X131 N130 g_a1
  show Go p e below _ (T131.setTop (mkF m 19 #[.val (.ref a1), .val (.ref k2), .val (.ref s3), .val (.ref m4)] []))
  show Go p e below _ (T131.setTop (mkF m 19 #[.val (.ref a1), .val (.ref k2), .val (.ref s3), .val (.ref m4)] []))
  exact Go.ret0 X131 hx Bd.returns Bd.notSynchronized (hb hby d18_19) (by decide) (by decide) (by first | (rw [e131]; exact ⟨rfl, N131, K0, F_kind_a1, F_location_a1, F_message_a1⟩) | exact ⟨rfl, N131, K0, F_kind_a1, F_location_a1, F_message_a1⟩)
def Q_rm24 (Z : State) (p1 p2 : Int32) (h0 : Heap) (n0 : Nat) : Option Value → Heap → List Loc → Prop := fun v h L => v = some (.int p1) ∧ Fr n0 L ∧ h = h0
set_option maxRecDepth 65536 in
set_option maxHeartbeats 40000000 in
theorem rm24 (l : Launch) (Z : State) (a0 : Array Value) (hw : ∀ d ∈ tables_1, d.before a0 Z = true) (ws : List Jvm.Cond) (p1 p2 : Int32) (h0 : Heap) (n0 : Nat) (hle : ¬ p1 < p2) :
    MetFree l (⟨"java/lang/Math", "max", "(II)I"⟩ : MethodName) (head1 (Jvm.Cond.code (⟨"java/lang/Math", "max", "(II)I"⟩ : MethodName) jdk_29_method_65_code 2 (some .int) :: ws) ({ frames := 0, cells := 0, slots := 0, locals := 0 } : Room)) (fun a U => a = #[(.int p1), (.int p2)] ∧ Z.Warmed39 U.vm ∧ U.heap = h0) (fun _ _ _ _ _ => True) (fun _ U o U' => ∃ v L, o = .returned v ∧ Q_rm24 Z p1 p2 h0 n0 v U'.heap L ∧ FrameEnd U o U' L ({ frames := 0, cells := 0, slots := 0, locals := 0 } : Room).cells ({ frames := 0, cells := 0, slots := 0, locals := 0 } : Room).slots) := by
  refine MetFree.of_bodySF (Jvm.Free.JP.mathPlain rfl (by decide +kernel)) hisR ?_
  intro p e s m args below meth c s₁ Bd hml0 hP hK
  obtain ⟨rfl, hZ, hh⟩ := hP
  have hx := Bd.exec
  have hby := Bd.bytes
  have hml : c.maxLocals = 2 := hml0
  have hown : s.vm.findClass "java/lang/Math" = some m.cls := findClass_of_methodNamed Bd.named
  have hnm := (name_of_methodNamed Bd.named Bd.method).1
  have X0 : Stand p l e ({ frames := 0, cells := 0, slots := 0, locals := 0 } : Room) s m #[(.int p1), (.int p2)] below meth c s₁ [] 0 0 := Stand.of_body Bd
  have e0 : s₁.heap = h0 := by rw [← hh, Bd.state]; rfl
  have N0 := Fr.nil n0
  have ef : entryFrame m #[(.int p1), (.int p2)] 2 = (mkF m 0 #[.val (.int p1), .val (.int p2)] []) := by first | (simp [entryFrame, mkF, argsToLocals, Value.category, maxLocals]; done) | rfl
  show Go p e below (End (fun v h L => v = some (.int p1) ∧ Fr n0 L ∧ h = h0) s 0 0) (s₁.setTop (entryFrame m #[(.int p1), (.int p2)] 2))
  rw [ef]
  show Go p e below _ (s₁.setTop (mkF m 0 #[.val (.int p1), .val (.int p2)] []))
  show Go p e below _ (s₁.setTop (mkF m 0 #[.val (.int p1), .val (.int p2)] []))
  refine Go.by (fun t => XS.iloadN X0.here hx rfl (hb hby d24_0) rfl ) ?_
  show Go p e below _ (s₁.setTop (mkF m 1 #[.val (.int p1), .val (.int p2)] [(.int p1)]))
  refine Go.by (fun t => XS.iloadN X0.here hx rfl (hb hby d24_1) rfl ) ?_
  show Go p e below _ (s₁.setTop (mkF m 2 #[.val (.int p1), .val (.int p2)] [(.int p2), (.int p1)]))
  refine Go.by (fun t => XS.icmpNo X0.here hx rfl (hb hby d24_2) rfl (flt (hle : ¬ (p1 < p2))).1) ?_
  show Go p e below _ (s₁.setTop (mkF m 5 #[.val (.int p1), .val (.int p2)] []))
  show Go p e below _ (s₁.setTop (mkF m 5 #[.val (.int p1), .val (.int p2)] []))
  refine Go.by (fun t => XS.iloadN X0.here hx rfl (hb hby d24_5) rfl ) ?_
  show Go p e below _ (s₁.setTop (mkF m 6 #[.val (.int p1), .val (.int p2)] [(.int p1)]))
  refine Go.by (fun t => XS.goto X0.here hx rfl (pc0 := 6) (pc' := 10) rfl (hb hby d24_6) (by decide) (by decide)) ?_
  show Go p e below _ (s₁.setTop (mkF m 10 #[.val (.int p1), .val (.int p2)] [(.int p1)]))
  exact Go.ret1 X0 hx Bd.returns Bd.notSynchronized rfl (Or.inl ⟨rfl, by simp, _, rfl⟩) (hb hby d24_10) (by decide) (by decide) (by first | (rw [e0]; exact ⟨rfl, N0, rfl⟩) | exact ⟨rfl, N0, rfl⟩)
def Q_rm23 (Z : State) (a1 de : Addr) (kd : ClassId) (mc : Int32) (h0 : Heap) (n0 : Nat) : Option Value → Heap → List Loc → Prop := fun v h L => ∃ (ar : Addr) (kc : ClassId), v = some (.ref ar) ∧ h0.size ≤ ar ∧ Fr n0 L ∧ Keep h0 h [a1] ∧ Ovr Z kc "java/lang/Object" ∧ Arv Z h ar kc (.object "java/lang/Object") (10 : Int32) [.null, .null, .null, .null, .null, .null, .null, .null, .null, .null] .null ∧ Fld Z h a1 "java/util/ArrayList" "size" "I" (.int 0) ∧ Fld Z h a1 "java/util/ArrayList" "elementData" "[Ljava/lang/Object;" (.ref ar) ∧ Fld Z h a1 "java/util/AbstractList" "modCount" "I" (.int mc)
set_option maxRecDepth 65536 in
set_option maxHeartbeats 40000000 in
theorem rm23 (l : Launch) (Z : State) (a0 : Array Value) (hw : ∀ d ∈ tables_1, d.before a0 Z = true) (ws : List Jvm.Cond) (a1 de : Addr) (kd : ClassId) (mc : Int32) (h0 : Heap) (n0 : Nat) (Z0 : n0 ≤ h0.size) (Od : Old Z n0 h0) (S_DE : Sta Z Z.heap "java/util/ArrayList" "DEFAULTCAPACITY_EMPTY_ELEMENTDATA" "[Ljava/lang/Object;" (.ref de)) (V_de : Arv Z Z.heap de kd (.object "java/lang/Object") (0 : Int32) [] .null) (E_a1 : Exa Z h0 a1 "java/util/ArrayList") (F_size_a1 : Fld Z h0 a1 "java/util/ArrayList" "size" "I" (.int 0)) (F_elementData_a1 : Fld Z h0 a1 "java/util/ArrayList" "elementData" "[Ljava/lang/Object;" (.ref de)) (F_modCount_a1 : Fld Z h0 a1 "java/util/AbstractList" "modCount" "I" (.int mc)) (g_a1 : n0 ≤ a1) :
    MetFree l (⟨"java/util/ArrayList", "grow", "(I)[Ljava/lang/Object;"⟩ : MethodName) (head1 (Jvm.Cond.code (⟨"java/util/ArrayList", "grow", "(I)[Ljava/lang/Object;"⟩ : MethodName) jdk_38_method_6_code 4 (some (.array (.object "java/lang/Object"))) :: ws) ({ frames := 1, cells := 1, slots := 10, locals := 20 } : Room)) (fun a U => a = #[(.ref a1), (.int (1 : Int32))] ∧ Z.Warmed39 U.vm ∧ U.heap = h0) (fun _ _ _ _ _ => True) (fun _ U o U' => ∃ v L, o = .returned v ∧ Q_rm23 Z a1 de kd mc h0 n0 v U'.heap L ∧ FrameEnd U o U' L ({ frames := 1, cells := 1, slots := 10, locals := 20 } : Room).cells ({ frames := 1, cells := 1, slots := 10, locals := 20 } : Room).slots) := by
  refine MetFree.of_bodySF (plainFor_of_name pn_4) hisR ?_
  intro p e s m args below meth c s₁ Bd hml0 hP hK
  obtain ⟨rfl, hZ, hh⟩ := hP
  have hx := Bd.exec
  have hby := Bd.bytes
  have hml : c.maxLocals = 4 := hml0
  have hown : s.vm.findClass "java/util/ArrayList" = some m.cls := findClass_of_methodNamed Bd.named
  have hnm := (name_of_methodNamed Bd.named Bd.method).1
  have X0 : Stand p l e ({ frames := 1, cells := 1, slots := 10, locals := 20 } : Room) s m #[(.ref a1), (.int (1 : Int32))] below meth c s₁ [] 0 0 := Stand.of_body Bd
  have e0 : s₁.heap = h0 := by rw [← hh, Bd.state]; rfl
  have N0 := Fr.nil n0
  have V_de' := V_de.ext Od.2
  have ef : entryFrame m #[(.ref a1), (.int (1 : Int32))] 4 = (mkF m 0 #[.val (.ref a1), .val (.int (1 : Int32)), .unset, .unset] []) := by first | (simp [entryFrame, mkF, argsToLocals, Value.category, maxLocals]; done) | rfl
  show Go p e below (End (fun v h L => ∃ (ar : Addr) (kc : ClassId), v = some (.ref ar) ∧ h0.size ≤ ar ∧ Fr n0 L ∧ Keep h0 h [a1] ∧ Ovr Z kc "java/lang/Object" ∧ Arv Z h ar kc (.object "java/lang/Object") (10 : Int32) [.null, .null, .null, .null, .null, .null, .null, .null, .null, .null] .null ∧ Fld Z h a1 "java/util/ArrayList" "size" "I" (.int 0) ∧ Fld Z h a1 "java/util/ArrayList" "elementData" "[Ljava/lang/Object;" (.ref ar) ∧ Fld Z h a1 "java/util/AbstractList" "modCount" "I" (.int mc)) s 1 10) (s₁.setTop (entryFrame m #[(.ref a1), (.int (1 : Int32))] 4))
  rw [ef]
  show Go p e below _ (s₁.setTop (mkF m 0 #[.val (.ref a1), .val (.int (1 : Int32)), .unset, .unset] []))
  have K0 : Keep h0 h0 [a1] := Keep.refl _ _
  show Go p e below _ (s₁.setTop (mkF m 0 #[.val (.ref a1), .val (.int (1 : Int32)), .unset, .unset] []))
  refine Go.by (fun t => XS.aloadN X0.here hx rfl (hb hby d23_0) rfl rfl) ?_
  show Go p e below _ (s₁.setTop (mkF m 1 #[.val (.ref a1), .val (.int (1 : Int32)), .unset, .unset] [(.ref a1)]))
  obtain ⟨T132, X132, e132, st132⟩ := getF X0 hx hZ hown (host := "") (Or.inl (hw _ (List.mem_of_getElem? (i := 106) rfl))) Via.refl e0 F_elementData_a1 (g := (mkF m 1 #[.val (.ref a1), .val (.int (1 : Int32)), .unset, .unset] [(.ref a1)])) rfl rfl (hb hby d23_1)
  refine Go.by (fun t => st132 t) ?_
  show Go p e below _ (T132.setTop (mkF m 4 #[.val (.ref a1), .val (.int (1 : Int32)), .unset, .unset] [(.ref de)]))
  obtain ⟨cl_133, Ar_133, q_133, S_133, M_133, -, -⟩ := id V_de'
  refine Go.by (fun t => X132.arraylength hx (by rw [e132]; exact Ar_133.1) (State.isArrayOf_alike hZ.alike Ar_133.2.1) (g := (mkF m 4 #[.val (.ref a1), .val (.int (1 : Int32)), .unset, .unset] [(.ref de)])) rfl rfl (hb hby d23_4) t) ?_
  rw [len_of S_133 M_133]
  show Go p e below _ (T132.setTop (mkF m 5 #[.val (.ref a1), .val (.int (1 : Int32)), .unset, .unset] [(.int (0 : Int32))]))
  show Go p e below _ (T132.setTop (mkF m 5 #[.val (.ref a1), .val (.int (1 : Int32)), .unset, .unset] [(.int (0 : Int32))]))
  refine Go.by (fun t => XS.istoreN X132.here hx rfl (hb hby d23_5) rfl (l' := #[.val (.ref a1), .val (.int (1 : Int32)), .val (.int (0 : Int32)), .unset]) rfl) ?_
  show Go p e below _ (T132.setTop (mkF m 6 #[.val (.ref a1), .val (.int (1 : Int32)), .val (.int (0 : Int32)), .unset] []))
  refine Go.by (fun t => XS.iloadN X132.here hx rfl (hb hby d23_6) rfl ) ?_
  show Go p e below _ (T132.setTop (mkF m 7 #[.val (.ref a1), .val (.int (1 : Int32)), .val (.int (0 : Int32)), .unset] [(.int (0 : Int32))]))
  refine Go.by (fun t => XS.ifNo X132.here hx rfl (hb hby d23_7) rfl ((if0 _ _).trans (flt (by decide : ¬ ((0 : Int32) < (0 : Int32)))).2.2.1)) ?_
  show Go p e below _ (T132.setTop (mkF m 10 #[.val (.ref a1), .val (.int (1 : Int32)), .val (.int (0 : Int32)), .unset] []))
  show Go p e below _ (T132.setTop (mkF m 10 #[.val (.ref a1), .val (.int (1 : Int32)), .val (.int (0 : Int32)), .unset] []))
  refine Go.by (fun t => XS.aloadN X132.here hx rfl (hb hby d23_10) rfl rfl) ?_
  show Go p e below _ (T132.setTop (mkF m 11 #[.val (.ref a1), .val (.int (1 : Int32)), .val (.int (0 : Int32)), .unset] [(.ref a1)]))
  obtain ⟨T134, X134, e134, st134⟩ := getF X132 hx hZ hown (host := "") (Or.inl (hw _ (List.mem_of_getElem? (i := 106) rfl))) Via.refl e132 F_elementData_a1 (g := (mkF m 11 #[.val (.ref a1), .val (.int (1 : Int32)), .val (.int (0 : Int32)), .unset] [(.ref a1)])) rfl rfl (hb hby d23_11)
  refine Go.by (fun t => st134 t) ?_
  show Go p e below _ (T134.setTop (mkF m 14 #[.val (.ref a1), .val (.int (1 : Int32)), .val (.int (0 : Int32)), .unset] [(.ref de)]))
  obtain ⟨T135, X135, e135, st135⟩ := getS2 X134 hx hZ hown (host := "") (Or.inl (hw _ (List.mem_of_getElem? (i := 105) rfl))) Via.refl e134 (S_DE.ext Od.2) (g := (mkF m 14 #[.val (.ref a1), .val (.int (1 : Int32)), .val (.int (0 : Int32)), .unset] [(.ref de)])) rfl (hb hby d23_14)
  refine Go.by (fun t => st135 t) ?_
  show Go p e below _ (T135.setTop (mkF m 17 #[.val (.ref a1), .val (.int (1 : Int32)), .val (.int (0 : Int32)), .unset] [(.ref de), (.ref de)]))
  refine Go.by (fun t => Jvm.RoadKit.acmp (g := (mkF m 17 #[.val (.ref a1), .val (.int (1 : Int32)), .val (.int (0 : Int32)), .unset] [(.ref de), (.ref de)])) X135 hx rfl rfl rfl (pc0 := 17) (pc' := 45) (same := true) rfl (hb hby d23_17) rfl (decide_eq_true rfl) (by decide) (by decide)) ?_
  show Go p e below _ (T135.setTop (mkF m 45 #[.val (.ref a1), .val (.int (1 : Int32)), .val (.int (0 : Int32)), .unset] []))
  show Go p e below _ (T135.setTop (mkF m 45 #[.val (.ref a1), .val (.int (1 : Int32)), .val (.int (0 : Int32)), .unset] []))
  refine Go.by (fun t => XS.aloadN X135.here hx rfl (hb hby d23_45) rfl rfl) ?_
  show Go p e below _ (T135.setTop (mkF m 46 #[.val (.ref a1), .val (.int (1 : Int32)), .val (.int (0 : Int32)), .unset] [(.ref a1)]))
  refine Go.by (fun t => XS.bipush X135.here hx rfl (hb hby d23_46)) ?_
  show Go p e below _ (T135.setTop (mkF m 48 #[.val (.ref a1), .val (.int (1 : Int32)), .val (.int (0 : Int32)), .unset] [(.int (10 : Int32)), (.ref a1)]))
  refine Go.by (fun t => XS.iloadN X135.here hx rfl (hb hby d23_48) rfl ) ?_
  show Go p e below _ (T135.setTop (mkF m 49 #[.val (.ref a1), .val (.int (1 : Int32)), .val (.int (0 : Int32)), .unset] [(.int (1 : Int32)), (.int (10 : Int32)), (.ref a1)]))
  obtain ⟨_, _, ⟨T136, L136, k136, n136⟩, -, X136, ⟨Lc136, hQ136, l136, y136, z136⟩, st136⟩ := Jvm.LawKit.callS X135 hx (y := (⟨"java/lang/Math", "max", "(II)I"⟩ : MethodName)) hown (mvT hZ (hw _ (List.mem_of_getElem? (i := 185) rfl))) (mvT hZ (hw _ (List.mem_of_getElem? (i := 186) rfl))) (mvT hZ (hw _ (List.mem_of_getElem? (i := 187) rfl))) (mvT hZ (hw _ (List.mem_of_getElem? (i := 188) rfl))) (by decide) (backOf (W := 1) (rm24 l Z a0 hw [] 10 1 h0 n0 (by decide)) hZ (hw _ (List.mem_of_getElem? (i := 188) rfl)) (hw _ (List.mem_of_getElem? (i := 187) rfl)) (by decide) (by decide)) (g := (mkF m 49 #[.val (.ref a1), .val (.int (1 : Int32)), .val (.int (0 : Int32)), .unset] [(.int (1 : Int32)), (.int (10 : Int32)), (.ref a1)])) rfl (by rw [hml]; rfl) (argsL := [(.int (10 : Int32)), (.int (1 : Int32))]) (rest := [(.ref a1)]) (lenOf pd_23 rfl) rfl (by show 2 * 0 + _ ≤ _; exact Nat.le_of_eq rfl) (hb hby d23_49) (fun _ _ => ⟨rfl, e135, (by decide : 0 + 0 ≤ _), (by decide : 0 + 0 ≤ _)⟩)
  dsimp only [Pt.U, Pt.locs, Pt.cells, Pt.slots] at X136 l136 y136 z136 st136 hQ136
  subst y136 z136
  obtain ⟨rfl, Nq136, e136⟩ := hQ136
  have N136 : Fr n0 L136 := by rw [l136]; exact Fr.app N0 Nq136
  clear l136
  refine Go.by (fun t => st136 t) ?_
  replace X136 := Stand.num (C := 0) (S := 0) X136 rfl rfl
  show Go p e below _ (T136.setTop (mkF m 52 #[.val (.ref a1), .val (.int (1 : Int32)), .val (.int (0 : Int32)), .unset] [(.int (10 : Int32)), (.ref a1)]))
  obtain ⟨T137, h137, k137, X137, e137, E137, A137, O137, st137⟩ := newR X136 hx hZ hown (hw _ (List.mem_of_getElem? (i := 189) rfl)) (hw _ (List.mem_of_getElem? (i := 190) rfl)) e136 (g := (mkF m 52 #[.val (.ref a1), .val (.int (1 : Int32)), .val (.int (0 : Int32)), .unset] [(.int (10 : Int32)), (.ref a1)])) rfl (hb hby d23_52) rfl (by decide) (cap := 10) (by decide) (by decide) (by decide) (by decide)
  obtain ⟨ar, g137⟩ : ∃ z, z = h0.size := ⟨_, rfl⟩
  rw [← g137] at A137 st137
  refine Go.by (fun t => st137 t) ?_
  have g_ar : n0 ≤ ar := Nat.le_trans Z0 (Nat.le_of_eq g137.symm)
  have sz_ar : h0.size ≤ ar := Nat.le_trans K0.1 (Nat.le_of_eq g137.symm)
  have ne_a1_ar : a1 ≠ ar := Nat.ne_of_lt (Nat.lt_of_lt_of_le E_a1.lt (Nat.le_of_eq g137.symm))
  replace E_a1 := E_a1.ext E137
  replace F_size_a1 := F_size_a1.ext E137
  replace F_elementData_a1 := F_elementData_a1.ext E137
  replace F_modCount_a1 := F_modCount_a1.ext E137
  replace Od := Od.ext E137
  replace Z0 := Nat.le_trans Z0 E137.1
  replace K0 := K0.ext E137
  have V_ar : Arv Z h137 ar k137 (.object "java/lang/Object") (10 : Int32) [.null, .null, .null, .null, .null, .null, .null, .null, .null, .null] .null := (Arv.new A137 (by decide)).pad (pad_rep [] .null 10)
  replace X137 := Stand.num (C := 1) (S := 10) X137 rfl rfl
  show Go p e below _ (T137.setTop (mkF m 55 #[.val (.ref a1), .val (.int (1 : Int32)), .val (.int (0 : Int32)), .unset] [(.ref ar), (.ref a1)]))
  show Go p e below _ (T137.setTop (mkF m 55 #[.val (.ref a1), .val (.int (1 : Int32)), .val (.int (0 : Int32)), .unset] [(.ref ar), (.ref a1)]))
  refine Go.by (fun t => XS.dupX1 X137.here hx rfl (hb hby d23_55) rfl rfl rfl) ?_
  show Go p e below _ (T137.setTop (mkF m 56 #[.val (.ref a1), .val (.int (1 : Int32)), .val (.int (0 : Int32)), .unset] [(.ref ar), (.ref a1), (.ref ar)]))
  obtain ⟨T138, h138, X138, e138, W138, st138⟩ := putF X137 hx hZ hown (host := "") (Or.inl (hw _ (List.mem_of_getElem? (i := 106) rfl))) Via.refl e137 F_elementData_a1 E_a1 (Or.inl (hw _ (List.mem_of_getElem? (i := 107) rfl))) (hw _ (List.mem_of_getElem? (i := 85) rfl)) (ty := (.array (.object "java/lang/Object"))) (by decide) rfl rfl (g := (mkF m 56 #[.val (.ref a1), .val (.int (1 : Int32)), .val (.int (0 : Int32)), .unset] [(.ref ar), (.ref a1), (.ref ar)])) rfl rfl (hb hby d23_56)
  refine Go.by (fun t => st138 t) ?_
  replace F_elementData_a1 := F_elementData_a1.same W138
  replace E_a1 := E_a1.wr W138
  replace F_size_a1 := F_size_a1.other W138 (Or.inr (slot_ne (Or.inl (hw _ (List.mem_of_getElem? (i := 127) rfl))) (Or.inl (hw _ (List.mem_of_getElem? (i := 107) rfl))) (by decide) (t := .int) (t' := (.array (.object "java/lang/Object"))) (by decide) (by decide)))
  replace F_modCount_a1 := F_modCount_a1.other W138 (Or.inr (slot_ne (Or.inl (hw _ (List.mem_of_getElem? (i := 104) rfl))) (Or.inl (hw _ (List.mem_of_getElem? (i := 107) rfl))) (by decide) (t := .int) (t' := (.array (.object "java/lang/Object"))) (by decide) (by decide)))
  replace Od := Od.wr W138 g_a1
  replace V_ar := V_ar.other W138 (Ne.symm ne_a1_ar)
  replace Z0 := Nat.le_trans Z0 (Keep.of_wr W138).1
  replace K0 := K0.wr W138 (Or.inl (List.mem_of_getElem? (i := 0) rfl))
  have N138 := Fr.snoc X138 N136 g_a1
  show Go p e below _ (T138.setTop (mkF m 59 #[.val (.ref a1), .val (.int (1 : Int32)), .val (.int (0 : Int32)), .unset] [(.ref ar)]))
  show Go p e below _ (T138.setTop (mkF m 59 #[.val (.ref a1), .val (.int (1 : Int32)), .val (.int (0 : Int32)), .unset] [(.ref ar)]))
  exact Go.ret1 X138 hx Bd.returns Bd.notSynchronized rfl (Or.inr (Or.inr (Or.inr (Or.inr ⟨rfl, rfl, rfl⟩)))) (hb hby d23_59) (by decide) (by decide) (by first | (rw [e138]; exact ⟨ar, _, rfl, sz_ar, N138, K0, O137, V_ar, F_size_a1, F_elementData_a1, F_modCount_a1⟩) | exact ⟨ar, _, rfl, sz_ar, N138, K0, O137, V_ar, F_size_a1, F_elementData_a1, F_modCount_a1⟩)
def Q_rm22 (Z : State) (a1 de : Addr) (kd : ClassId) (mc : Int32) (h0 : Heap) (n0 : Nat) : Option Value → Heap → List Loc → Prop := fun v h L => ∃ (ar : Addr) (kc : ClassId), v = some (.ref ar) ∧ h0.size ≤ ar ∧ Fr n0 L ∧ Keep h0 h [a1] ∧ Ovr Z kc "java/lang/Object" ∧ Arv Z h ar kc (.object "java/lang/Object") (10 : Int32) [.null, .null, .null, .null, .null, .null, .null, .null, .null, .null] .null ∧ Fld Z h a1 "java/util/ArrayList" "size" "I" (.int 0) ∧ Fld Z h a1 "java/util/ArrayList" "elementData" "[Ljava/lang/Object;" (.ref ar) ∧ Fld Z h a1 "java/util/AbstractList" "modCount" "I" (.int mc)
set_option maxRecDepth 65536 in
set_option maxHeartbeats 40000000 in
theorem rm22 (l : Launch) (Z : State) (a0 : Array Value) (hw : ∀ d ∈ tables_1, d.before a0 Z = true) (ws : List Jvm.Cond) (a1 de : Addr) (kd : ClassId) (mc : Int32) (h0 : Heap) (n0 : Nat) (Z0 : n0 ≤ h0.size) (Od : Old Z n0 h0) (S_DE : Sta Z Z.heap "java/util/ArrayList" "DEFAULTCAPACITY_EMPTY_ELEMENTDATA" "[Ljava/lang/Object;" (.ref de)) (V_de : Arv Z Z.heap de kd (.object "java/lang/Object") (0 : Int32) [] .null) (E_a1 : Exa Z h0 a1 "java/util/ArrayList") (F_size_a1 : Fld Z h0 a1 "java/util/ArrayList" "size" "I" (.int 0)) (F_elementData_a1 : Fld Z h0 a1 "java/util/ArrayList" "elementData" "[Ljava/lang/Object;" (.ref de)) (F_modCount_a1 : Fld Z h0 a1 "java/util/AbstractList" "modCount" "I" (.int mc)) (g_a1 : n0 ≤ a1) :
    MetFree l (⟨"java/util/ArrayList", "grow", "()[Ljava/lang/Object;"⟩ : MethodName) (head1 (Jvm.Cond.code (⟨"java/util/ArrayList", "grow", "()[Ljava/lang/Object;"⟩ : MethodName) jdk_38_method_7_code 1 (some (.array (.object "java/lang/Object"))) :: ws) ({ frames := 2, cells := 1, slots := 10, locals := 36 } : Room)) (fun a U => a = #[(.ref a1)] ∧ Z.Warmed39 U.vm ∧ U.heap = h0) (fun _ _ _ _ _ => True) (fun _ U o U' => ∃ v L, o = .returned v ∧ Q_rm22 Z a1 de kd mc h0 n0 v U'.heap L ∧ FrameEnd U o U' L ({ frames := 2, cells := 1, slots := 10, locals := 36 } : Room).cells ({ frames := 2, cells := 1, slots := 10, locals := 36 } : Room).slots) := by
  refine MetFree.of_bodySF (plainFor_of_name pn_4) hisR ?_
  intro p e s m args below meth c s₁ Bd hml0 hP hK
  obtain ⟨rfl, hZ, hh⟩ := hP
  have hx := Bd.exec
  have hby := Bd.bytes
  have hml : c.maxLocals = 1 := hml0
  have hown : s.vm.findClass "java/util/ArrayList" = some m.cls := findClass_of_methodNamed Bd.named
  have hnm := (name_of_methodNamed Bd.named Bd.method).1
  have X0 : Stand p l e ({ frames := 2, cells := 1, slots := 10, locals := 36 } : Room) s m #[(.ref a1)] below meth c s₁ [] 0 0 := Stand.of_body Bd
  have e0 : s₁.heap = h0 := by rw [← hh, Bd.state]; rfl
  have N0 := Fr.nil n0
  have ef : entryFrame m #[(.ref a1)] 1 = (mkF m 0 #[.val (.ref a1)] []) := by first | (simp [entryFrame, mkF, argsToLocals, Value.category, maxLocals]; done) | rfl
  show Go p e below (End (fun v h L => ∃ (ar : Addr) (kc : ClassId), v = some (.ref ar) ∧ h0.size ≤ ar ∧ Fr n0 L ∧ Keep h0 h [a1] ∧ Ovr Z kc "java/lang/Object" ∧ Arv Z h ar kc (.object "java/lang/Object") (10 : Int32) [.null, .null, .null, .null, .null, .null, .null, .null, .null, .null] .null ∧ Fld Z h a1 "java/util/ArrayList" "size" "I" (.int 0) ∧ Fld Z h a1 "java/util/ArrayList" "elementData" "[Ljava/lang/Object;" (.ref ar) ∧ Fld Z h a1 "java/util/AbstractList" "modCount" "I" (.int mc)) s 1 10) (s₁.setTop (entryFrame m #[(.ref a1)] 1))
  rw [ef]
  show Go p e below _ (s₁.setTop (mkF m 0 #[.val (.ref a1)] []))
  show Go p e below _ (s₁.setTop (mkF m 0 #[.val (.ref a1)] []))
  refine Go.by (fun t => XS.aloadN X0.here hx rfl (hb hby d22_0) rfl rfl) ?_
  show Go p e below _ (s₁.setTop (mkF m 1 #[.val (.ref a1)] [(.ref a1)]))
  refine Go.by (fun t => XS.aloadN X0.here hx rfl (hb hby d22_1) rfl rfl) ?_
  show Go p e below _ (s₁.setTop (mkF m 2 #[.val (.ref a1)] [(.ref a1), (.ref a1)]))
  obtain ⟨T139, X139, e139, st139⟩ := getF X0 hx hZ hown (host := "") (Or.inl (hw _ (List.mem_of_getElem? (i := 126) rfl))) Via.refl e0 F_size_a1 (g := (mkF m 2 #[.val (.ref a1)] [(.ref a1), (.ref a1)])) rfl rfl (hb hby d22_2)
  refine Go.by (fun t => st139 t) ?_
  show Go p e below _ (T139.setTop (mkF m 5 #[.val (.ref a1)] [(.int (0 : Int32)), (.ref a1)]))
  show Go p e below _ (T139.setTop (mkF m 5 #[.val (.ref a1)] [(.int (0 : Int32)), (.ref a1)]))
  refine Go.by (fun t => XS.iconst X139.here hx rfl (hb hby d22_5)) ?_
  show Go p e below _ (T139.setTop (mkF m 6 #[.val (.ref a1)] [(.int (1 : Int32)), (.int (0 : Int32)), (.ref a1)]))
  refine Go.by (fun t => XS.iadd X139.here hx rfl (hb hby d22_6) rfl) ?_
  show Go p e below _ (T139.setTop (mkF m 7 #[.val (.ref a1)] [(.int ((0 : Int32) + (1 : Int32))), (.ref a1)]))
  rw [show (0 : Int32) + (1 : Int32) = 1 from rfl]
  show Go p e below _ (T139.setTop (mkF m 7 #[.val (.ref a1)] [(.int (1 : Int32)), (.ref a1)]))
  obtain ⟨cq140, q140, q140'⟩ := E_a1.cell
  obtain ⟨_, _, ⟨T140, L140, k140, n140⟩, -, X140, ⟨Lc140, hQ140, l140, y140, z140⟩, st140⟩ := X139.privateBack hx (y := (⟨"java/util/ArrayList", "grow", "(I)[Ljava/lang/Object;"⟩ : MethodName)) hown (mvT hZ (hw _ (List.mem_of_getElem? (i := 180) rfl))) (mvT hZ (hw _ (List.mem_of_getElem? (i := 181) rfl))) (mvT hZ (hw _ (List.mem_of_getElem? (i := 183) rfl))) (Cond.privateMethod_at (mvP hZ (hw _ (List.mem_of_getElem? (i := 182) rfl)) (args := #[]))) (mvT hZ (hw _ (List.mem_of_getElem? (i := 184) rfl))) (by decide) (backOf (W := 0) (rm23 l Z a0 hw [] a1 de kd mc h0 n0 Z0 Od S_DE V_de E_a1 F_size_a1 F_elementData_a1 F_modCount_a1 g_a1) hZ (hw _ (List.mem_of_getElem? (i := 184) rfl)) (hw _ (List.mem_of_getElem? (i := 86) rfl)) (by decide) (by decide)) (g := (mkF m 7 #[.val (.ref a1)] [(.int (1 : Int32)), (.ref a1)])) rfl (by rw [hml]; rfl) (Steps.refl _) (a := a1) (by rw [e139]; exact q140) q140' (argsL := [(.int (1 : Int32))]) (rest := []) (lenOf pd_22 rfl) rfl (by show 2 * 0 + _ ≤ _; exact Nat.le_of_eq rfl) (hb hby d22_7) (fun _ _ => ⟨rfl, e139, (by decide : 0 + 1 ≤ _), (by decide : 0 + 10 ≤ _)⟩)
  dsimp only [Pt.U, Pt.locs, Pt.cells, Pt.slots] at X140 l140 y140 z140 st140 hQ140
  subst y140 z140
  obtain ⟨ar, kc, rfl, har, Nq140, K140, Ov, V_ar, Fz, Fe, Fm⟩ := hQ140
  have N140 : Fr n0 L140 := by rw [l140]; exact Fr.app N0 Nq140
  clear l140
  refine Go.by (fun t => st140.trans) ?_
  replace X140 := Stand.num (C := 1) (S := 10) X140 rfl rfl
  show Go p e below _ (T140.setTop (mkF m 10 #[.val (.ref a1)] [(.ref ar)]))
  show Go p e below _ (T140.setTop (mkF m 10 #[.val (.ref a1)] [(.ref ar)]))
  exact Go.ret1 X140 hx Bd.returns Bd.notSynchronized rfl (Or.inr (Or.inr (Or.inr (Or.inr ⟨rfl, rfl, rfl⟩)))) (hb hby d22_10) (by decide) (by decide) ⟨ar, kc, rfl, har, N140, K140, Ov, V_ar, Fz, Fe, Fm⟩
def Q_rmA3a (Z : State) (a1 x2 de : Addr) (kd : ClassId) (mc : Int32) (h0 : Heap) (n0 : Nat) : Option Value → Heap → List Loc → Prop := fun v h L => ∃ (ar : Addr) (kc : ClassId), v = none ∧ h0.size ≤ ar ∧ Fr n0 L ∧ Keep h0 h [a1] ∧ Ovr Z kc "java/lang/Object" ∧ Arv Z h ar kc (.object "java/lang/Object") (10 : Int32) [(.ref x2), .null, .null, .null, .null, .null, .null, .null, .null, .null] .null ∧ Fld Z h a1 "java/util/ArrayList" "size" "I" (.int 1) ∧ Fld Z h a1 "java/util/ArrayList" "elementData" "[Ljava/lang/Object;" (.ref ar) ∧ Fld Z h a1 "java/util/AbstractList" "modCount" "I" (.int mc)
set_option maxRecDepth 65536 in
set_option maxHeartbeats 40000000 in
theorem rmA3a (l : Launch) (Z : State) (a0 : Array Value) (hw : ∀ d ∈ tables_1, d.before a0 Z = true) (ws : List Jvm.Cond) (a1 x2 de : Addr) (kd : ClassId) (mc : Int32) (h0 : Heap) (n0 : Nat) (Z0 : n0 ≤ h0.size) (Od : Old Z n0 h0) (S_DE : Sta Z Z.heap "java/util/ArrayList" "DEFAULTCAPACITY_EMPTY_ELEMENTDATA" "[Ljava/lang/Object;" (.ref de)) (V_de : Arv Z Z.heap de kd (.object "java/lang/Object") (0 : Int32) [] .null) (E_a1 : Exa Z h0 a1 "java/util/ArrayList") (F_size_a1 : Fld Z h0 a1 "java/util/ArrayList" "size" "I" (.int 0)) (F_elementData_a1 : Fld Z h0 a1 "java/util/ArrayList" "elementData" "[Ljava/lang/Object;" (.ref de)) (F_modCount_a1 : Fld Z h0 a1 "java/util/AbstractList" "modCount" "I" (.int mc)) (g_a1 : n0 ≤ a1) (E_x2 : Exa Z h0 x2 "com/example/slicewright/slicewright/report/Report$Finding") :
    MetFree l (⟨"java/util/ArrayList", "add", "(Ljava/lang/Object;[Ljava/lang/Object;I)V"⟩ : MethodName) (head1 (Jvm.Cond.code (⟨"java/util/ArrayList", "add", "(Ljava/lang/Object;[Ljava/lang/Object;I)V"⟩ : MethodName) jdk_38_method_24_code 4 none :: ws) ({ frames := 3, cells := 1, slots := 10, locals := 50 } : Room)) (fun a U => a = #[(.ref a1), (.ref x2), (.ref de), (.int (0 : Int32))] ∧ Z.Warmed39 U.vm ∧ U.heap = h0) (fun _ _ _ _ _ => True) (fun _ U o U' => ∃ v L, o = .returned v ∧ Q_rmA3a Z a1 x2 de kd mc h0 n0 v U'.heap L ∧ FrameEnd U o U' L ({ frames := 3, cells := 1, slots := 10, locals := 50 } : Room).cells ({ frames := 3, cells := 1, slots := 10, locals := 50 } : Room).slots) := by
  refine MetFree.of_bodySF (plainFor_of_name pn_4) hisR ?_
  intro p e s m args below meth c s₁ Bd hml0 hP hK
  obtain ⟨rfl, hZ, hh⟩ := hP
  have hx := Bd.exec
  have hby := Bd.bytes
  have hml : c.maxLocals = 4 := hml0
  have hown : s.vm.findClass "java/util/ArrayList" = some m.cls := findClass_of_methodNamed Bd.named
  have hnm := (name_of_methodNamed Bd.named Bd.method).1
  have X0 : Stand p l e ({ frames := 3, cells := 1, slots := 10, locals := 50 } : Room) s m #[(.ref a1), (.ref x2), (.ref de), (.int (0 : Int32))] below meth c s₁ [] 0 0 := Stand.of_body Bd
  have e0 : s₁.heap = h0 := by rw [← hh, Bd.state]; rfl
  have N0 := Fr.nil n0
  have V_de' := V_de.ext Od.2
  have ef : entryFrame m #[(.ref a1), (.ref x2), (.ref de), (.int (0 : Int32))] 4 = (mkF m 0 #[.val (.ref a1), .val (.ref x2), .val (.ref de), .val (.int (0 : Int32))] []) := by first | (simp [entryFrame, mkF, argsToLocals, Value.category, maxLocals]; done) | rfl
  show Go p e below (End (fun v h L => ∃ (ar : Addr) (kc : ClassId), v = none ∧ h0.size ≤ ar ∧ Fr n0 L ∧ Keep h0 h [a1] ∧ Ovr Z kc "java/lang/Object" ∧ Arv Z h ar kc (.object "java/lang/Object") (10 : Int32) [(.ref x2), .null, .null, .null, .null, .null, .null, .null, .null, .null] .null ∧ Fld Z h a1 "java/util/ArrayList" "size" "I" (.int 1) ∧ Fld Z h a1 "java/util/ArrayList" "elementData" "[Ljava/lang/Object;" (.ref ar) ∧ Fld Z h a1 "java/util/AbstractList" "modCount" "I" (.int mc)) s 1 10) (s₁.setTop (entryFrame m #[(.ref a1), (.ref x2), (.ref de), (.int (0 : Int32))] 4))
  rw [ef]
  show Go p e below _ (s₁.setTop (mkF m 0 #[.val (.ref a1), .val (.ref x2), .val (.ref de), .val (.int (0 : Int32))] []))
  have K0 : Keep h0 h0 [a1] := Keep.refl _ _
  show Go p e below _ (s₁.setTop (mkF m 0 #[.val (.ref a1), .val (.ref x2), .val (.ref de), .val (.int (0 : Int32))] []))
  refine Go.by (fun t => XS.iloadN X0.here hx rfl (hb hby d21_0) rfl ) ?_
  show Go p e below _ (s₁.setTop (mkF m 1 #[.val (.ref a1), .val (.ref x2), .val (.ref de), .val (.int (0 : Int32))] [(.int (0 : Int32))]))
  refine Go.by (fun t => XS.aloadN X0.here hx rfl (hb hby d21_1) rfl rfl) ?_
  show Go p e below _ (s₁.setTop (mkF m 2 #[.val (.ref a1), .val (.ref x2), .val (.ref de), .val (.int (0 : Int32))] [(.ref de), (.int (0 : Int32))]))
  obtain ⟨cl_141, Ar_141, q_141, S_141, M_141, -, -⟩ := id V_de'
  refine Go.by (fun t => X0.arraylength hx (by rw [e0]; exact Ar_141.1) (State.isArrayOf_alike hZ.alike Ar_141.2.1) (g := (mkF m 2 #[.val (.ref a1), .val (.ref x2), .val (.ref de), .val (.int (0 : Int32))] [(.ref de), (.int (0 : Int32))])) rfl rfl (hb hby d21_2) t) ?_
  rw [len_of S_141 M_141]
  show Go p e below _ (s₁.setTop (mkF m 3 #[.val (.ref a1), .val (.ref x2), .val (.ref de), .val (.int (0 : Int32))] [(.int (0 : Int32)), (.int (0 : Int32))]))
  refine Go.by (fun t => XS.icmpNo X0.here hx rfl (hb hby d21_3) rfl (teq (rfl : (0 : Int32) = (0 : Int32))).2) ?_
  show Go p e below _ (s₁.setTop (mkF m 6 #[.val (.ref a1), .val (.ref x2), .val (.ref de), .val (.int (0 : Int32))] []))
  show Go p e below _ (s₁.setTop (mkF m 6 #[.val (.ref a1), .val (.ref x2), .val (.ref de), .val (.int (0 : Int32))] []))
  refine Go.by (fun t => XS.aloadN X0.here hx rfl (hb hby d21_6) rfl rfl) ?_
  show Go p e below _ (s₁.setTop (mkF m 7 #[.val (.ref a1), .val (.ref x2), .val (.ref de), .val (.int (0 : Int32))] [(.ref a1)]))
  obtain ⟨cq142, q142, q142'⟩ := E_a1.cell
  obtain ⟨_, _, ⟨T142, L142, k142, n142⟩, -, X142, ⟨Lc142, hQ142, l142, y142, z142⟩, st142⟩ := X0.privateBack hx (y := (⟨"java/util/ArrayList", "grow", "()[Ljava/lang/Object;"⟩ : MethodName)) hown (mvT hZ (hw _ (List.mem_of_getElem? (i := 175) rfl))) (mvT hZ (hw _ (List.mem_of_getElem? (i := 176) rfl))) (mvT hZ (hw _ (List.mem_of_getElem? (i := 178) rfl))) (Cond.privateMethod_at (mvP hZ (hw _ (List.mem_of_getElem? (i := 177) rfl)) (args := #[]))) (mvT hZ (hw _ (List.mem_of_getElem? (i := 179) rfl))) (by decide) (backOf (W := 0) (rm22 l Z a0 hw [] a1 de kd mc h0 n0 Z0 Od S_DE V_de E_a1 F_size_a1 F_elementData_a1 F_modCount_a1 g_a1) hZ (hw _ (List.mem_of_getElem? (i := 179) rfl)) (hw _ (List.mem_of_getElem? (i := 86) rfl)) (by decide) (by decide)) (g := (mkF m 7 #[.val (.ref a1), .val (.ref x2), .val (.ref de), .val (.int (0 : Int32))] [(.ref a1)])) rfl (by rw [hml]; rfl) (Steps.refl _) (a := a1) (by rw [e0]; exact q142) q142' (argsL := []) (rest := []) (lenOf pd_21 rfl) rfl (by show 2 * 0 + _ ≤ _; exact Nat.le_of_eq rfl) (hb hby d21_7) (fun _ _ => ⟨rfl, e0, (by decide : 0 + 1 ≤ _), (by decide : 0 + 10 ≤ _)⟩)
  dsimp only [Pt.U, Pt.locs, Pt.cells, Pt.slots] at X142 l142 y142 z142 st142 hQ142
  subst y142 z142
  obtain ⟨ar, kc, rfl, sz_ar, Nq142, K142, Ov, V_ar, Fz, Fe, Fm⟩ := hQ142
  have g_ar : n0 ≤ ar := Nat.le_trans Z0 sz_ar
  have ne_a1_ar : a1 ≠ ar := Nat.ne_of_lt (Nat.lt_of_lt_of_le E_a1.lt sz_ar)
  have ne_x2_ar : x2 ≠ ar := Nat.ne_of_lt (Nat.lt_of_lt_of_le E_x2.lt sz_ar)
  have N142 : Fr n0 L142 := by rw [l142]; exact Fr.app N0 Nq142
  clear l142
  refine Go.by (fun t => st142.trans) ?_
  replace X142 := Stand.num (C := 1) (S := 10) X142 rfl rfl
  replace E_a1 := E_a1.keep K142
  replace Od := Od.keep K142 (allS g_a1 all0)
  replace E_x2 := E_x2.keep K142
  replace Z0 := Nat.le_trans Z0 K142.1
  replace K0 := K0.trans K142 (allS (P := fun x => x ∈ _ ∨ _ ≤ x) (Or.inl (List.mem_of_getElem? (i := 0) rfl)) all0)
  show Go p e below _ (T142.setTop (mkF m 10 #[.val (.ref a1), .val (.ref x2), .val (.ref de), .val (.int (0 : Int32))] [(.ref ar)]))
  have F_size_a1 := Fz
  have F_elementData_a1 := Fe
  have F_modCount_a1 := Fm
  show Go p e below _ (T142.setTop (mkF m 10 #[.val (.ref a1), .val (.ref x2), .val (.ref de), .val (.int (0 : Int32))] [(.ref ar)]))
  refine Go.by (fun t => XS.astoreN X142.here hx rfl (hb hby d21_10) rfl rfl (l' := #[.val (.ref a1), .val (.ref x2), .val (.ref ar), .val (.int (0 : Int32))]) rfl) ?_
  show Go p e below _ (T142.setTop (mkF m 11 #[.val (.ref a1), .val (.ref x2), .val (.ref ar), .val (.int (0 : Int32))] []))
  refine Go.by (fun t => XS.aloadN X142.here hx rfl (hb hby d21_11) rfl rfl) ?_
  show Go p e below _ (T142.setTop (mkF m 12 #[.val (.ref a1), .val (.ref x2), .val (.ref ar), .val (.int (0 : Int32))] [(.ref ar)]))
  refine Go.by (fun t => XS.iloadN X142.here hx rfl (hb hby d21_12) rfl ) ?_
  show Go p e below _ (T142.setTop (mkF m 13 #[.val (.ref a1), .val (.ref x2), .val (.ref ar), .val (.int (0 : Int32))] [(.int (0 : Int32)), (.ref ar)]))
  refine Go.by (fun t => XS.aloadN X142.here hx rfl (hb hby d21_13) rfl rfl) ?_
  show Go p e below _ (T142.setTop (mkF m 14 #[.val (.ref a1), .val (.ref x2), .val (.ref ar), .val (.int (0 : Int32))] [(.ref x2), (.int (0 : Int32)), (.ref ar)]))
  obtain ⟨cl_143, Ar_143, q_143, S_143, M_143, H_143, G_143⟩ := id V_ar
  obtain ⟨T143, h143, X143, e143, W143, st143⟩ := stR X142 hx hZ rfl Ar_143 (j := (0 : Int32)) (inb_of S_143 ⟨by decide, by decide⟩) rfl (Sto.ofV Ar_143 q_143 Ov (Ins.of_exa E_x2 (hw _ (List.mem_of_getElem? (i := 191) rfl)))) (g := (mkF m 14 #[.val (.ref a1), .val (.ref x2), .val (.ref ar), .val (.int (0 : Int32))] [(.ref x2), (.int (0 : Int32)), (.ref ar)])) rfl rfl (hb hby d21_14)
  refine Go.by (fun t => st143 t) ?_
  replace V_ar := Arv.set Ar_143 q_143 S_143 M_143 H_143 G_143 rfl W143 0 rfl (Nat.le_of_ble_eq_true rfl)
  replace V_ar : Arv Z h143 ar kc (.object "java/lang/Object") (10 : Int32) [(.ref x2), .null, .null, .null, .null, .null, .null, .null, .null, .null] .null := V_ar
  replace Od := Od.wr W143 g_ar
  replace E_x2 := E_x2.wr W143
  replace E_a1 := E_a1.wr W143
  replace F_size_a1 := F_size_a1.other W143 (Or.inl ne_a1_ar)
  replace F_elementData_a1 := F_elementData_a1.other W143 (Or.inl ne_a1_ar)
  replace F_modCount_a1 := F_modCount_a1.other W143 (Or.inl ne_a1_ar)
  replace Z0 := Nat.le_trans Z0 (Keep.of_wr W143).1
  replace K0 := K0.wr W143 (Or.inr sz_ar)
  have N143 := Fr.snoc X143 N142 g_ar
  show Go p e below _ (T143.setTop (mkF m 15 #[.val (.ref a1), .val (.ref x2), .val (.ref ar), .val (.int (0 : Int32))] []))
  show Go p e below _ (T143.setTop (mkF m 15 #[.val (.ref a1), .val (.ref x2), .val (.ref ar), .val (.int (0 : Int32))] []))
  refine Go.by (fun t => XS.aloadN X143.here hx rfl (hb hby d21_15) rfl rfl) ?_
  show Go p e below _ (T143.setTop (mkF m 16 #[.val (.ref a1), .val (.ref x2), .val (.ref ar), .val (.int (0 : Int32))] [(.ref a1)]))
  refine Go.by (fun t => XS.iloadN X143.here hx rfl (hb hby d21_16) rfl ) ?_
  show Go p e below _ (T143.setTop (mkF m 17 #[.val (.ref a1), .val (.ref x2), .val (.ref ar), .val (.int (0 : Int32))] [(.int (0 : Int32)), (.ref a1)]))
  refine Go.by (fun t => XS.iconst X143.here hx rfl (hb hby d21_17)) ?_
  show Go p e below _ (T143.setTop (mkF m 18 #[.val (.ref a1), .val (.ref x2), .val (.ref ar), .val (.int (0 : Int32))] [(.int (1 : Int32)), (.int (0 : Int32)), (.ref a1)]))
  refine Go.by (fun t => XS.iadd X143.here hx rfl (hb hby d21_18) rfl) ?_
  show Go p e below _ (T143.setTop (mkF m 19 #[.val (.ref a1), .val (.ref x2), .val (.ref ar), .val (.int (0 : Int32))] [(.int ((0 : Int32) + (1 : Int32))), (.ref a1)]))
  rw [show (0 : Int32) + (1 : Int32) = 1 from rfl]
  show Go p e below _ (T143.setTop (mkF m 19 #[.val (.ref a1), .val (.ref x2), .val (.ref ar), .val (.int (0 : Int32))] [(.int (1 : Int32)), (.ref a1)]))
  obtain ⟨T144, h144, X144, e144, W144, st144⟩ := putF X143 hx hZ hown (host := "") (Or.inl (hw _ (List.mem_of_getElem? (i := 126) rfl))) Via.refl e143 F_size_a1 E_a1 (Or.inl (hw _ (List.mem_of_getElem? (i := 127) rfl))) (hw _ (List.mem_of_getElem? (i := 85) rfl)) (ty := .int) (by decide) rfl rfl (g := (mkF m 19 #[.val (.ref a1), .val (.ref x2), .val (.ref ar), .val (.int (0 : Int32))] [(.int (1 : Int32)), (.ref a1)])) rfl rfl (hb hby d21_19)
  refine Go.by (fun t => st144 t) ?_
  replace F_size_a1 := F_size_a1.same W144
  replace Od := Od.wr W144 g_a1
  replace E_x2 := E_x2.wr W144
  replace E_a1 := E_a1.wr W144
  replace F_elementData_a1 := F_elementData_a1.other W144 (Or.inr (slot_ne (Or.inl (hw _ (List.mem_of_getElem? (i := 107) rfl))) (Or.inl (hw _ (List.mem_of_getElem? (i := 127) rfl))) (by decide) (t := (.array (.object "java/lang/Object"))) (t' := .int) (by decide) (by decide)))
  replace F_modCount_a1 := F_modCount_a1.other W144 (Or.inr (slot_ne (Or.inl (hw _ (List.mem_of_getElem? (i := 104) rfl))) (Or.inl (hw _ (List.mem_of_getElem? (i := 127) rfl))) (by decide) (t := .int) (t' := .int) (by decide) (by decide)))
  replace V_ar := V_ar.other W144 (Ne.symm ne_a1_ar)
  replace Z0 := Nat.le_trans Z0 (Keep.of_wr W144).1
  replace K0 := K0.wr W144 (Or.inl (List.mem_of_getElem? (i := 0) rfl))
  have N144 := Fr.snoc X144 N143 g_a1
  show Go p e below _ (T144.setTop (mkF m 22 #[.val (.ref a1), .val (.ref x2), .val (.ref ar), .val (.int (0 : Int32))] []))
  show Go p e below _ (T144.setTop (mkF m 22 #[.val (.ref a1), .val (.ref x2), .val (.ref ar), .val (.int (0 : Int32))] []))
  exact Go.ret0 X144 hx Bd.returns Bd.notSynchronized (hb hby d21_22) (by decide) (by decide) (by first | (rw [e144]; exact ⟨ar, kc, rfl, sz_ar, N144, K0, Ov, V_ar, F_size_a1, F_elementData_a1, F_modCount_a1⟩) | exact ⟨ar, kc, rfl, sz_ar, N144, K0, Ov, V_ar, F_size_a1, F_elementData_a1, F_modCount_a1⟩)
def Q_rmA1a (Z : State) (a1 x2 de : Addr) (kd : ClassId) (mc : Int32) (h0 : Heap) (n0 : Nat) : Option Value → Heap → List Loc → Prop := fun v h L => ∃ (ar : Addr) (kc : ClassId), v = some (.int 1) ∧ h0.size ≤ ar ∧ Fr n0 L ∧ Keep h0 h [a1] ∧ Ovr Z kc "java/lang/Object" ∧ Arv Z h ar kc (.object "java/lang/Object") (10 : Int32) [(.ref x2), .null, .null, .null, .null, .null, .null, .null, .null, .null] .null ∧ Fld Z h a1 "java/util/ArrayList" "size" "I" (.int 1) ∧ Fld Z h a1 "java/util/ArrayList" "elementData" "[Ljava/lang/Object;" (.ref ar) ∧ Fld Z h a1 "java/util/AbstractList" "modCount" "I" (.int (mc + 1))
set_option maxRecDepth 65536 in
set_option maxHeartbeats 40000000 in
theorem rmA1a (l : Launch) (Z : State) (a0 : Array Value) (hw : ∀ d ∈ tables_1, d.before a0 Z = true) (ws : List Jvm.Cond) (a1 x2 de : Addr) (kd : ClassId) (mc : Int32) (h0 : Heap) (n0 : Nat) (Z0 : n0 ≤ h0.size) (Od : Old Z n0 h0) (S_DE : Sta Z Z.heap "java/util/ArrayList" "DEFAULTCAPACITY_EMPTY_ELEMENTDATA" "[Ljava/lang/Object;" (.ref de)) (V_de : Arv Z Z.heap de kd (.object "java/lang/Object") (0 : Int32) [] .null) (E_a1 : Exa Z h0 a1 "java/util/ArrayList") (F_size_a1 : Fld Z h0 a1 "java/util/ArrayList" "size" "I" (.int 0)) (F_elementData_a1 : Fld Z h0 a1 "java/util/ArrayList" "elementData" "[Ljava/lang/Object;" (.ref de)) (F_modCount_a1 : Fld Z h0 a1 "java/util/AbstractList" "modCount" "I" (.int mc)) (g_a1 : n0 ≤ a1) (E_x2 : Exa Z h0 x2 "com/example/slicewright/slicewright/report/Report$Finding") :
    MetFree l (⟨"java/util/ArrayList", "add", "(Ljava/lang/Object;)Z"⟩ : MethodName) (head1 (Jvm.Cond.code (⟨"java/util/ArrayList", "add", "(Ljava/lang/Object;)Z"⟩ : MethodName) jdk_38_method_25_code 2 (some .boolean) :: ws) ({ frames := 4, cells := 1, slots := 10, locals := 70 } : Room)) (fun a U => a = #[(.ref a1), (.ref x2)] ∧ Z.Warmed39 U.vm ∧ U.heap = h0) (fun _ _ _ _ _ => True) (fun _ U o U' => ∃ v L, o = .returned v ∧ Q_rmA1a Z a1 x2 de kd mc h0 n0 v U'.heap L ∧ FrameEnd U o U' L ({ frames := 4, cells := 1, slots := 10, locals := 70 } : Room).cells ({ frames := 4, cells := 1, slots := 10, locals := 70 } : Room).slots) := by
  refine MetFree.of_bodySF (plainFor_of_name pn_4) hisR ?_
  intro p e s m args below meth c s₁ Bd hml0 hP hK
  obtain ⟨rfl, hZ, hh⟩ := hP
  have hx := Bd.exec
  have hby := Bd.bytes
  have hml : c.maxLocals = 2 := hml0
  have hown : s.vm.findClass "java/util/ArrayList" = some m.cls := findClass_of_methodNamed Bd.named
  have hnm := (name_of_methodNamed Bd.named Bd.method).1
  have X0 : Stand p l e ({ frames := 4, cells := 1, slots := 10, locals := 70 } : Room) s m #[(.ref a1), (.ref x2)] below meth c s₁ [] 0 0 := Stand.of_body Bd
  have e0 : s₁.heap = h0 := by rw [← hh, Bd.state]; rfl
  have N0 := Fr.nil n0
  have ef : entryFrame m #[(.ref a1), (.ref x2)] 2 = (mkF m 0 #[.val (.ref a1), .val (.ref x2)] []) := by first | (simp [entryFrame, mkF, argsToLocals, Value.category, maxLocals]; done) | rfl
  show Go p e below (End (fun v h L => ∃ (ar : Addr) (kc : ClassId), v = some (.int 1) ∧ h0.size ≤ ar ∧ Fr n0 L ∧ Keep h0 h [a1] ∧ Ovr Z kc "java/lang/Object" ∧ Arv Z h ar kc (.object "java/lang/Object") (10 : Int32) [(.ref x2), .null, .null, .null, .null, .null, .null, .null, .null, .null] .null ∧ Fld Z h a1 "java/util/ArrayList" "size" "I" (.int 1) ∧ Fld Z h a1 "java/util/ArrayList" "elementData" "[Ljava/lang/Object;" (.ref ar) ∧ Fld Z h a1 "java/util/AbstractList" "modCount" "I" (.int (mc + 1))) s 1 10) (s₁.setTop (entryFrame m #[(.ref a1), (.ref x2)] 2))
  rw [ef]
  show Go p e below _ (s₁.setTop (mkF m 0 #[.val (.ref a1), .val (.ref x2)] []))
  have K0 : Keep h0 h0 [a1] := Keep.refl _ _
  show Go p e below _ (s₁.setTop (mkF m 0 #[.val (.ref a1), .val (.ref x2)] []))
  refine Go.by (fun t => XS.aloadN X0.here hx rfl (hb hby d20_0) rfl rfl) ?_
  show Go p e below _ (s₁.setTop (mkF m 1 #[.val (.ref a1), .val (.ref x2)] [(.ref a1)]))
  refine Go.by (fun t => XS.dup X0.here hx rfl (hb hby d20_1) rfl rfl) ?_
  show Go p e below _ (s₁.setTop (mkF m 2 #[.val (.ref a1), .val (.ref x2)] [(.ref a1), (.ref a1)]))
  obtain ⟨T145, X145, e145, st145⟩ := getF X0 hx hZ hown (host := "") (Or.inl (hw _ (List.mem_of_getElem? (i := 168) rfl))) (Via.of (hw _ (List.mem_of_getElem? (i := 169) rfl))) e0 F_modCount_a1 (g := (mkF m 2 #[.val (.ref a1), .val (.ref x2)] [(.ref a1), (.ref a1)])) rfl rfl (hb hby d20_2)
  refine Go.by (fun t => st145 t) ?_
  show Go p e below _ (T145.setTop (mkF m 5 #[.val (.ref a1), .val (.ref x2)] [(.int mc), (.ref a1)]))
  show Go p e below _ (T145.setTop (mkF m 5 #[.val (.ref a1), .val (.ref x2)] [(.int mc), (.ref a1)]))
  refine Go.by (fun t => XS.iconst X145.here hx rfl (hb hby d20_5)) ?_
  show Go p e below _ (T145.setTop (mkF m 6 #[.val (.ref a1), .val (.ref x2)] [(.int (1 : Int32)), (.int mc), (.ref a1)]))
  refine Go.by (fun t => XS.iadd X145.here hx rfl (hb hby d20_6) rfl) ?_
  show Go p e below _ (T145.setTop (mkF m 7 #[.val (.ref a1), .val (.ref x2)] [(.int (mc + (1 : Int32))), (.ref a1)]))
  obtain ⟨T146, h146, X146, e146, W146, st146⟩ := putF X145 hx hZ hown (host := "") (Or.inl (hw _ (List.mem_of_getElem? (i := 168) rfl))) (Via.of (hw _ (List.mem_of_getElem? (i := 169) rfl))) e145 F_modCount_a1 E_a1 (Or.inl (hw _ (List.mem_of_getElem? (i := 104) rfl))) (hw _ (List.mem_of_getElem? (i := 85) rfl)) (ty := .int) (by decide) rfl rfl (g := (mkF m 7 #[.val (.ref a1), .val (.ref x2)] [(.int (mc + (1 : Int32))), (.ref a1)])) rfl rfl (hb hby d20_7)
  refine Go.by (fun t => st146 t) ?_
  replace F_modCount_a1 := F_modCount_a1.same W146
  replace E_a1 := E_a1.wr W146
  replace F_size_a1 := F_size_a1.other W146 (Or.inr (slot_ne (Or.inl (hw _ (List.mem_of_getElem? (i := 127) rfl))) (Or.inl (hw _ (List.mem_of_getElem? (i := 104) rfl))) (by decide) (t := .int) (t' := .int) (by decide) (by decide)))
  replace F_elementData_a1 := F_elementData_a1.other W146 (Or.inr (slot_ne (Or.inl (hw _ (List.mem_of_getElem? (i := 107) rfl))) (Or.inl (hw _ (List.mem_of_getElem? (i := 104) rfl))) (by decide) (t := (.array (.object "java/lang/Object"))) (t' := .int) (by decide) (by decide)))
  replace Od := Od.wr W146 g_a1
  replace E_x2 := E_x2.wr W146
  replace Z0 := Nat.le_trans Z0 (Keep.of_wr W146).1
  replace K0 := K0.wr W146 (Or.inl (List.mem_of_getElem? (i := 0) rfl))
  have N146 := Fr.snoc X146 N0 g_a1
  show Go p e below _ (T146.setTop (mkF m 10 #[.val (.ref a1), .val (.ref x2)] []))
  show Go p e below _ (T146.setTop (mkF m 10 #[.val (.ref a1), .val (.ref x2)] []))
  refine Go.by (fun t => XS.aloadN X146.here hx rfl (hb hby d20_10) rfl rfl) ?_
  show Go p e below _ (T146.setTop (mkF m 11 #[.val (.ref a1), .val (.ref x2)] [(.ref a1)]))
  refine Go.by (fun t => XS.aloadN X146.here hx rfl (hb hby d20_11) rfl rfl) ?_
  show Go p e below _ (T146.setTop (mkF m 12 #[.val (.ref a1), .val (.ref x2)] [(.ref x2), (.ref a1)]))
  refine Go.by (fun t => XS.aloadN X146.here hx rfl (hb hby d20_12) rfl rfl) ?_
  show Go p e below _ (T146.setTop (mkF m 13 #[.val (.ref a1), .val (.ref x2)] [(.ref a1), (.ref x2), (.ref a1)]))
  obtain ⟨T147, X147, e147, st147⟩ := getF X146 hx hZ hown (host := "") (Or.inl (hw _ (List.mem_of_getElem? (i := 106) rfl))) Via.refl e146 F_elementData_a1 (g := (mkF m 13 #[.val (.ref a1), .val (.ref x2)] [(.ref a1), (.ref x2), (.ref a1)])) rfl rfl (hb hby d20_13)
  refine Go.by (fun t => st147 t) ?_
  show Go p e below _ (T147.setTop (mkF m 16 #[.val (.ref a1), .val (.ref x2)] [(.ref de), (.ref x2), (.ref a1)]))
  show Go p e below _ (T147.setTop (mkF m 16 #[.val (.ref a1), .val (.ref x2)] [(.ref de), (.ref x2), (.ref a1)]))
  refine Go.by (fun t => XS.aloadN X147.here hx rfl (hb hby d20_16) rfl rfl) ?_
  show Go p e below _ (T147.setTop (mkF m 17 #[.val (.ref a1), .val (.ref x2)] [(.ref a1), (.ref de), (.ref x2), (.ref a1)]))
  obtain ⟨T148, X148, e148, st148⟩ := getF X147 hx hZ hown (host := "") (Or.inl (hw _ (List.mem_of_getElem? (i := 126) rfl))) Via.refl e147 F_size_a1 (g := (mkF m 17 #[.val (.ref a1), .val (.ref x2)] [(.ref a1), (.ref de), (.ref x2), (.ref a1)])) rfl rfl (hb hby d20_17)
  refine Go.by (fun t => st148 t) ?_
  show Go p e below _ (T148.setTop (mkF m 20 #[.val (.ref a1), .val (.ref x2)] [(.int (0 : Int32)), (.ref de), (.ref x2), (.ref a1)]))
  obtain ⟨cq149, q149, q149'⟩ := E_a1.cell
  obtain ⟨_, _, ⟨T149, L149, k149, n149⟩, -, X149, ⟨Lc149, hQ149, l149, y149, z149⟩, st149⟩ := X148.privateBack hx (y := (⟨"java/util/ArrayList", "add", "(Ljava/lang/Object;[Ljava/lang/Object;I)V"⟩ : MethodName)) hown (mvT hZ (hw _ (List.mem_of_getElem? (i := 170) rfl))) (mvT hZ (hw _ (List.mem_of_getElem? (i := 171) rfl))) (mvT hZ (hw _ (List.mem_of_getElem? (i := 173) rfl))) (Cond.privateMethod_at (mvP hZ (hw _ (List.mem_of_getElem? (i := 172) rfl)) (args := #[]))) (mvT hZ (hw _ (List.mem_of_getElem? (i := 174) rfl))) (by decide) (backOf (W := 0) (rmA3a l Z a0 hw [] a1 x2 de kd (mc + 1) h146 n0 Z0 Od S_DE V_de E_a1 F_size_a1 F_elementData_a1 F_modCount_a1 g_a1 E_x2) hZ (hw _ (List.mem_of_getElem? (i := 174) rfl)) (hw _ (List.mem_of_getElem? (i := 86) rfl)) (by decide) (by decide)) (g := (mkF m 20 #[.val (.ref a1), .val (.ref x2)] [(.int (0 : Int32)), (.ref de), (.ref x2), (.ref a1)])) rfl (by rw [hml]; rfl) (Steps.refl _) (a := a1) (by rw [e148]; exact q149) q149' (argsL := [(.ref x2), (.ref de), (.int (0 : Int32))]) (rest := []) (lenOf pd_20 rfl) rfl (by show 2 * 0 + _ ≤ _; exact Nat.le_of_eq rfl) (hb hby d20_20) (fun _ _ => ⟨rfl, e148, (by decide : 0 + 1 ≤ _), (by decide : 0 + 10 ≤ _)⟩)
  dsimp only [Pt.U, Pt.locs, Pt.cells, Pt.slots] at X149 l149 y149 z149 st149 hQ149
  subst y149 z149
  obtain ⟨ar, kc, rfl, sz_ar, Nq149, K149, Ov, V_ar, Fz, Fe, Fm⟩ := hQ149
  replace sz_ar := Nat.le_trans K0.1 sz_ar
  have N149 : Fr n0 L149 := by rw [l149]; exact Fr.app N146 Nq149
  clear l149
  refine Go.by (fun t => st149.trans) ?_
  replace X149 := Stand.num (C := 1) (S := 10) X149 rfl rfl
  replace Od := Od.keep K149 (allS g_a1 all0)
  replace Z0 := Nat.le_trans Z0 K149.1
  replace K0 := K0.trans K149 (allS (P := fun x => x ∈ _ ∨ _ ≤ x) (Or.inl (List.mem_of_getElem? (i := 0) rfl)) all0)
  show Go p e below _ (T149.setTop (mkF m 23 #[.val (.ref a1), .val (.ref x2)] []))
  show Go p e below _ (T149.setTop (mkF m 23 #[.val (.ref a1), .val (.ref x2)] []))
  refine Go.by (fun t => XS.iconst X149.here hx rfl (hb hby d20_23)) ?_
  show Go p e below _ (T149.setTop (mkF m 24 #[.val (.ref a1), .val (.ref x2)] [(.int (1 : Int32))]))
  exact Go.ret1 X149 hx Bd.returns Bd.notSynchronized (by first | rfl | decide) (Or.inl ⟨rfl, by simp, _, rfl⟩) (hb hby d20_24) (by decide) (by decide) ⟨ar, kc, rfl, sz_ar, N149, K0, Ov, V_ar, Fz, Fe, Fm⟩
def Q_rmA3b (Z : State) (a1 x1 x2 ar : Addr) (kc : ClassId) (mc : Int32) (h0 : Heap) (n0 : Nat) : Option Value → Heap → List Loc → Prop := fun v h L => v = none ∧ Fr n0 L ∧ Keep h0 h [a1, ar] ∧ Arv Z h ar kc (.object "java/lang/Object") (10 : Int32) [(.ref x1), (.ref x2), .null, .null, .null, .null, .null, .null, .null, .null] .null ∧ Fld Z h a1 "java/util/ArrayList" "size" "I" (.int 2) ∧ Fld Z h a1 "java/util/ArrayList" "elementData" "[Ljava/lang/Object;" (.ref ar) ∧ Fld Z h a1 "java/util/AbstractList" "modCount" "I" (.int mc)
set_option maxRecDepth 65536 in
set_option maxHeartbeats 40000000 in
theorem rmA3b (l : Launch) (Z : State) (a0 : Array Value) (hw : ∀ d ∈ tables_1, d.before a0 Z = true) (ws : List Jvm.Cond) (a1 x1 x2 ar : Addr) (kc : ClassId) (mc : Int32) (h0 : Heap) (n0 : Nat) (E_a1 : Exa Z h0 a1 "java/util/ArrayList") (F_size_a1 : Fld Z h0 a1 "java/util/ArrayList" "size" "I" (.int 1)) (F_elementData_a1 : Fld Z h0 a1 "java/util/ArrayList" "elementData" "[Ljava/lang/Object;" (.ref ar)) (F_modCount_a1 : Fld Z h0 a1 "java/util/AbstractList" "modCount" "I" (.int mc)) (g_a1 : n0 ≤ a1) (g_ar : n0 ≤ ar) (Ov : Ovr Z kc "java/lang/Object") (V_ar : Arv Z h0 ar kc (.object "java/lang/Object") (10 : Int32) [(.ref x1), .null, .null, .null, .null, .null, .null, .null, .null, .null] .null) (E_x2 : Exa Z h0 x2 "com/example/slicewright/slicewright/report/Report$Finding") :
    MetFree l (⟨"java/util/ArrayList", "add", "(Ljava/lang/Object;[Ljava/lang/Object;I)V"⟩ : MethodName) (head1 (Jvm.Cond.code (⟨"java/util/ArrayList", "add", "(Ljava/lang/Object;[Ljava/lang/Object;I)V"⟩ : MethodName) jdk_38_method_24_code 4 none :: ws) ({ frames := 0, cells := 0, slots := 0, locals := 0 } : Room)) (fun a U => a = #[(.ref a1), (.ref x2), (.ref ar), (.int (1 : Int32))] ∧ Z.Warmed39 U.vm ∧ U.heap = h0) (fun _ _ _ _ _ => True) (fun _ U o U' => ∃ v L, o = .returned v ∧ Q_rmA3b Z a1 x1 x2 ar kc mc h0 n0 v U'.heap L ∧ FrameEnd U o U' L ({ frames := 0, cells := 0, slots := 0, locals := 0 } : Room).cells ({ frames := 0, cells := 0, slots := 0, locals := 0 } : Room).slots) := by
  refine MetFree.of_bodySF (plainFor_of_name pn_4) hisR ?_
  intro p e s m args below meth c s₁ Bd hml0 hP hK
  obtain ⟨rfl, hZ, hh⟩ := hP
  have hx := Bd.exec
  have hby := Bd.bytes
  have hml : c.maxLocals = 4 := hml0
  have hown : s.vm.findClass "java/util/ArrayList" = some m.cls := findClass_of_methodNamed Bd.named
  have hnm := (name_of_methodNamed Bd.named Bd.method).1
  have X0 : Stand p l e ({ frames := 0, cells := 0, slots := 0, locals := 0 } : Room) s m #[(.ref a1), (.ref x2), (.ref ar), (.int (1 : Int32))] below meth c s₁ [] 0 0 := Stand.of_body Bd
  have e0 : s₁.heap = h0 := by rw [← hh, Bd.state]; rfl
  have N0 := Fr.nil n0
  have ef : entryFrame m #[(.ref a1), (.ref x2), (.ref ar), (.int (1 : Int32))] 4 = (mkF m 0 #[.val (.ref a1), .val (.ref x2), .val (.ref ar), .val (.int (1 : Int32))] []) := by first | (simp [entryFrame, mkF, argsToLocals, Value.category, maxLocals]; done) | rfl
  show Go p e below (End (fun v h L => v = none ∧ Fr n0 L ∧ Keep h0 h [a1, ar] ∧ Arv Z h ar kc (.object "java/lang/Object") (10 : Int32) [(.ref x1), (.ref x2), .null, .null, .null, .null, .null, .null, .null, .null] .null ∧ Fld Z h a1 "java/util/ArrayList" "size" "I" (.int 2) ∧ Fld Z h a1 "java/util/ArrayList" "elementData" "[Ljava/lang/Object;" (.ref ar) ∧ Fld Z h a1 "java/util/AbstractList" "modCount" "I" (.int mc)) s 0 0) (s₁.setTop (entryFrame m #[(.ref a1), (.ref x2), (.ref ar), (.int (1 : Int32))] 4))
  rw [ef]
  show Go p e below _ (s₁.setTop (mkF m 0 #[.val (.ref a1), .val (.ref x2), .val (.ref ar), .val (.int (1 : Int32))] []))
  have K0 : Keep h0 h0 [a1, ar] := Keep.refl _ _
  show Go p e below _ (s₁.setTop (mkF m 0 #[.val (.ref a1), .val (.ref x2), .val (.ref ar), .val (.int (1 : Int32))] []))
  refine Go.by (fun t => XS.iloadN X0.here hx rfl (hb hby d21_0) rfl ) ?_
  show Go p e below _ (s₁.setTop (mkF m 1 #[.val (.ref a1), .val (.ref x2), .val (.ref ar), .val (.int (1 : Int32))] [(.int (1 : Int32))]))
  refine Go.by (fun t => XS.aloadN X0.here hx rfl (hb hby d21_1) rfl rfl) ?_
  show Go p e below _ (s₁.setTop (mkF m 2 #[.val (.ref a1), .val (.ref x2), .val (.ref ar), .val (.int (1 : Int32))] [(.ref ar), (.int (1 : Int32))]))
  obtain ⟨cl_150, Ar_150, q_150, S_150, M_150, -, -⟩ := id V_ar
  refine Go.by (fun t => X0.arraylength hx (by rw [e0]; exact Ar_150.1) (State.isArrayOf_alike hZ.alike Ar_150.2.1) (g := (mkF m 2 #[.val (.ref a1), .val (.ref x2), .val (.ref ar), .val (.int (1 : Int32))] [(.ref ar), (.int (1 : Int32))])) rfl rfl (hb hby d21_2) t) ?_
  rw [len_of S_150 M_150]
  show Go p e below _ (s₁.setTop (mkF m 3 #[.val (.ref a1), .val (.ref x2), .val (.ref ar), .val (.int (1 : Int32))] [(.int (10 : Int32)), (.int (1 : Int32))]))
  refine Go.by (fun t => XS.icmpYes X0.here hx rfl (pc0 := 3) (pc' := 11) rfl (hb hby d21_3) rfl (feq (by decide : ¬ ((1 : Int32) = (10 : Int32)))).2 (by decide) (by decide)) ?_
  show Go p e below _ (s₁.setTop (mkF m 11 #[.val (.ref a1), .val (.ref x2), .val (.ref ar), .val (.int (1 : Int32))] []))
  show Go p e below _ (s₁.setTop (mkF m 11 #[.val (.ref a1), .val (.ref x2), .val (.ref ar), .val (.int (1 : Int32))] []))
  refine Go.by (fun t => XS.aloadN X0.here hx rfl (hb hby d21_11) rfl rfl) ?_
  show Go p e below _ (s₁.setTop (mkF m 12 #[.val (.ref a1), .val (.ref x2), .val (.ref ar), .val (.int (1 : Int32))] [(.ref ar)]))
  refine Go.by (fun t => XS.iloadN X0.here hx rfl (hb hby d21_12) rfl ) ?_
  show Go p e below _ (s₁.setTop (mkF m 13 #[.val (.ref a1), .val (.ref x2), .val (.ref ar), .val (.int (1 : Int32))] [(.int (1 : Int32)), (.ref ar)]))
  refine Go.by (fun t => XS.aloadN X0.here hx rfl (hb hby d21_13) rfl rfl) ?_
  show Go p e below _ (s₁.setTop (mkF m 14 #[.val (.ref a1), .val (.ref x2), .val (.ref ar), .val (.int (1 : Int32))] [(.ref x2), (.int (1 : Int32)), (.ref ar)]))
  obtain ⟨cl_151, Ar_151, q_151, S_151, M_151, H_151, G_151⟩ := id V_ar
  obtain ⟨T151, h151, X151, e151, W151, st151⟩ := stR X0 hx hZ e0 Ar_151 (j := (1 : Int32)) (inb_of S_151 ⟨by decide, by decide⟩) rfl (Sto.ofV Ar_151 q_151 Ov (Ins.of_exa E_x2 (hw _ (List.mem_of_getElem? (i := 191) rfl)))) (g := (mkF m 14 #[.val (.ref a1), .val (.ref x2), .val (.ref ar), .val (.int (1 : Int32))] [(.ref x2), (.int (1 : Int32)), (.ref ar)])) rfl rfl (hb hby d21_14)
  refine Go.by (fun t => st151 t) ?_
  have ne_a1_ar : a1 ≠ ar := Exa.neArv E_a1 V_ar (hw _ (List.mem_of_getElem? (i := 85) rfl))
  replace V_ar := Arv.set Ar_151 q_151 S_151 M_151 H_151 G_151 rfl W151 1 rfl (Nat.le_of_ble_eq_true rfl)
  replace V_ar : Arv Z h151 ar kc (.object "java/lang/Object") (10 : Int32) [(.ref x1), (.ref x2), .null, .null, .null, .null, .null, .null, .null, .null] .null := V_ar
  replace E_a1 := E_a1.wr W151
  replace F_size_a1 := F_size_a1.other W151 (Or.inl ne_a1_ar)
  replace F_elementData_a1 := F_elementData_a1.other W151 (Or.inl ne_a1_ar)
  replace F_modCount_a1 := F_modCount_a1.other W151 (Or.inl ne_a1_ar)
  replace E_x2 := E_x2.wr W151
  replace K0 := K0.wr W151 (Or.inl (List.mem_of_getElem? (i := 1) rfl))
  have N151 := Fr.snoc X151 N0 g_ar
  show Go p e below _ (T151.setTop (mkF m 15 #[.val (.ref a1), .val (.ref x2), .val (.ref ar), .val (.int (1 : Int32))] []))
  show Go p e below _ (T151.setTop (mkF m 15 #[.val (.ref a1), .val (.ref x2), .val (.ref ar), .val (.int (1 : Int32))] []))
  refine Go.by (fun t => XS.aloadN X151.here hx rfl (hb hby d21_15) rfl rfl) ?_
  show Go p e below _ (T151.setTop (mkF m 16 #[.val (.ref a1), .val (.ref x2), .val (.ref ar), .val (.int (1 : Int32))] [(.ref a1)]))
  refine Go.by (fun t => XS.iloadN X151.here hx rfl (hb hby d21_16) rfl ) ?_
  show Go p e below _ (T151.setTop (mkF m 17 #[.val (.ref a1), .val (.ref x2), .val (.ref ar), .val (.int (1 : Int32))] [(.int (1 : Int32)), (.ref a1)]))
  refine Go.by (fun t => XS.iconst X151.here hx rfl (hb hby d21_17)) ?_
  show Go p e below _ (T151.setTop (mkF m 18 #[.val (.ref a1), .val (.ref x2), .val (.ref ar), .val (.int (1 : Int32))] [(.int (1 : Int32)), (.int (1 : Int32)), (.ref a1)]))
  refine Go.by (fun t => XS.iadd X151.here hx rfl (hb hby d21_18) rfl) ?_
  show Go p e below _ (T151.setTop (mkF m 19 #[.val (.ref a1), .val (.ref x2), .val (.ref ar), .val (.int (1 : Int32))] [(.int ((1 : Int32) + (1 : Int32))), (.ref a1)]))
  rw [show (1 : Int32) + (1 : Int32) = 2 from rfl]
  show Go p e below _ (T151.setTop (mkF m 19 #[.val (.ref a1), .val (.ref x2), .val (.ref ar), .val (.int (1 : Int32))] [(.int (2 : Int32)), (.ref a1)]))
  obtain ⟨T152, h152, X152, e152, W152, st152⟩ := putF X151 hx hZ hown (host := "") (Or.inl (hw _ (List.mem_of_getElem? (i := 126) rfl))) Via.refl e151 F_size_a1 E_a1 (Or.inl (hw _ (List.mem_of_getElem? (i := 127) rfl))) (hw _ (List.mem_of_getElem? (i := 85) rfl)) (ty := .int) (by decide) rfl rfl (g := (mkF m 19 #[.val (.ref a1), .val (.ref x2), .val (.ref ar), .val (.int (1 : Int32))] [(.int (2 : Int32)), (.ref a1)])) rfl rfl (hb hby d21_19)
  refine Go.by (fun t => st152 t) ?_
  replace F_size_a1 := F_size_a1.same W152
  replace E_a1 := E_a1.wr W152
  replace F_elementData_a1 := F_elementData_a1.other W152 (Or.inr (slot_ne (Or.inl (hw _ (List.mem_of_getElem? (i := 107) rfl))) (Or.inl (hw _ (List.mem_of_getElem? (i := 127) rfl))) (by decide) (t := (.array (.object "java/lang/Object"))) (t' := .int) (by decide) (by decide)))
  replace F_modCount_a1 := F_modCount_a1.other W152 (Or.inr (slot_ne (Or.inl (hw _ (List.mem_of_getElem? (i := 104) rfl))) (Or.inl (hw _ (List.mem_of_getElem? (i := 127) rfl))) (by decide) (t := .int) (t' := .int) (by decide) (by decide)))
  replace E_x2 := E_x2.wr W152
  replace V_ar := V_ar.other W152 (Ne.symm ne_a1_ar)
  replace K0 := K0.wr W152 (Or.inl (List.mem_of_getElem? (i := 0) rfl))
  have N152 := Fr.snoc X152 N151 g_a1
  show Go p e below _ (T152.setTop (mkF m 22 #[.val (.ref a1), .val (.ref x2), .val (.ref ar), .val (.int (1 : Int32))] []))
  show Go p e below _ (T152.setTop (mkF m 22 #[.val (.ref a1), .val (.ref x2), .val (.ref ar), .val (.int (1 : Int32))] []))
  exact Go.ret0 X152 hx Bd.returns Bd.notSynchronized (hb hby d21_22) (by decide) (by decide) (by first | (rw [e152]; exact ⟨rfl, N152, K0, V_ar, F_size_a1, F_elementData_a1, F_modCount_a1⟩) | exact ⟨rfl, N152, K0, V_ar, F_size_a1, F_elementData_a1, F_modCount_a1⟩)
def Q_rmA1b (Z : State) (a1 x1 x2 ar : Addr) (kc : ClassId) (mc : Int32) (h0 : Heap) (n0 : Nat) : Option Value → Heap → List Loc → Prop := fun v h L => v = some (.int 1) ∧ Fr n0 L ∧ Keep h0 h [a1, ar] ∧ Arv Z h ar kc (.object "java/lang/Object") (10 : Int32) [(.ref x1), (.ref x2), .null, .null, .null, .null, .null, .null, .null, .null] .null ∧ Fld Z h a1 "java/util/ArrayList" "size" "I" (.int 2) ∧ Fld Z h a1 "java/util/ArrayList" "elementData" "[Ljava/lang/Object;" (.ref ar) ∧ Fld Z h a1 "java/util/AbstractList" "modCount" "I" (.int (mc + 1))
set_option maxRecDepth 65536 in
set_option maxHeartbeats 40000000 in
theorem rmA1b (l : Launch) (Z : State) (a0 : Array Value) (hw : ∀ d ∈ tables_1, d.before a0 Z = true) (ws : List Jvm.Cond) (a1 x1 x2 ar : Addr) (kc : ClassId) (mc : Int32) (h0 : Heap) (n0 : Nat) (E_a1 : Exa Z h0 a1 "java/util/ArrayList") (F_size_a1 : Fld Z h0 a1 "java/util/ArrayList" "size" "I" (.int 1)) (F_elementData_a1 : Fld Z h0 a1 "java/util/ArrayList" "elementData" "[Ljava/lang/Object;" (.ref ar)) (F_modCount_a1 : Fld Z h0 a1 "java/util/AbstractList" "modCount" "I" (.int mc)) (g_a1 : n0 ≤ a1) (g_ar : n0 ≤ ar) (Ov : Ovr Z kc "java/lang/Object") (V_ar : Arv Z h0 ar kc (.object "java/lang/Object") (10 : Int32) [(.ref x1), .null, .null, .null, .null, .null, .null, .null, .null, .null] .null) (E_x2 : Exa Z h0 x2 "com/example/slicewright/slicewright/report/Report$Finding") :
    MetFree l (⟨"java/util/ArrayList", "add", "(Ljava/lang/Object;)Z"⟩ : MethodName) (head1 (Jvm.Cond.code (⟨"java/util/ArrayList", "add", "(Ljava/lang/Object;)Z"⟩ : MethodName) jdk_38_method_25_code 2 (some .boolean) :: ws) ({ frames := 1, cells := 0, slots := 0, locals := 20 } : Room)) (fun a U => a = #[(.ref a1), (.ref x2)] ∧ Z.Warmed39 U.vm ∧ U.heap = h0) (fun _ _ _ _ _ => True) (fun _ U o U' => ∃ v L, o = .returned v ∧ Q_rmA1b Z a1 x1 x2 ar kc mc h0 n0 v U'.heap L ∧ FrameEnd U o U' L ({ frames := 1, cells := 0, slots := 0, locals := 20 } : Room).cells ({ frames := 1, cells := 0, slots := 0, locals := 20 } : Room).slots) := by
  refine MetFree.of_bodySF (plainFor_of_name pn_4) hisR ?_
  intro p e s m args below meth c s₁ Bd hml0 hP hK
  obtain ⟨rfl, hZ, hh⟩ := hP
  have hx := Bd.exec
  have hby := Bd.bytes
  have hml : c.maxLocals = 2 := hml0
  have hown : s.vm.findClass "java/util/ArrayList" = some m.cls := findClass_of_methodNamed Bd.named
  have hnm := (name_of_methodNamed Bd.named Bd.method).1
  have X0 : Stand p l e ({ frames := 1, cells := 0, slots := 0, locals := 20 } : Room) s m #[(.ref a1), (.ref x2)] below meth c s₁ [] 0 0 := Stand.of_body Bd
  have e0 : s₁.heap = h0 := by rw [← hh, Bd.state]; rfl
  have N0 := Fr.nil n0
  have ef : entryFrame m #[(.ref a1), (.ref x2)] 2 = (mkF m 0 #[.val (.ref a1), .val (.ref x2)] []) := by first | (simp [entryFrame, mkF, argsToLocals, Value.category, maxLocals]; done) | rfl
  show Go p e below (End (fun v h L => v = some (.int 1) ∧ Fr n0 L ∧ Keep h0 h [a1, ar] ∧ Arv Z h ar kc (.object "java/lang/Object") (10 : Int32) [(.ref x1), (.ref x2), .null, .null, .null, .null, .null, .null, .null, .null] .null ∧ Fld Z h a1 "java/util/ArrayList" "size" "I" (.int 2) ∧ Fld Z h a1 "java/util/ArrayList" "elementData" "[Ljava/lang/Object;" (.ref ar) ∧ Fld Z h a1 "java/util/AbstractList" "modCount" "I" (.int (mc + 1))) s 0 0) (s₁.setTop (entryFrame m #[(.ref a1), (.ref x2)] 2))
  rw [ef]
  show Go p e below _ (s₁.setTop (mkF m 0 #[.val (.ref a1), .val (.ref x2)] []))
  have K0 : Keep h0 h0 [a1, ar] := Keep.refl _ _
  show Go p e below _ (s₁.setTop (mkF m 0 #[.val (.ref a1), .val (.ref x2)] []))
  refine Go.by (fun t => XS.aloadN X0.here hx rfl (hb hby d20_0) rfl rfl) ?_
  show Go p e below _ (s₁.setTop (mkF m 1 #[.val (.ref a1), .val (.ref x2)] [(.ref a1)]))
  refine Go.by (fun t => XS.dup X0.here hx rfl (hb hby d20_1) rfl rfl) ?_
  show Go p e below _ (s₁.setTop (mkF m 2 #[.val (.ref a1), .val (.ref x2)] [(.ref a1), (.ref a1)]))
  obtain ⟨T153, X153, e153, st153⟩ := getF X0 hx hZ hown (host := "") (Or.inl (hw _ (List.mem_of_getElem? (i := 168) rfl))) (Via.of (hw _ (List.mem_of_getElem? (i := 169) rfl))) e0 F_modCount_a1 (g := (mkF m 2 #[.val (.ref a1), .val (.ref x2)] [(.ref a1), (.ref a1)])) rfl rfl (hb hby d20_2)
  refine Go.by (fun t => st153 t) ?_
  show Go p e below _ (T153.setTop (mkF m 5 #[.val (.ref a1), .val (.ref x2)] [(.int mc), (.ref a1)]))
  show Go p e below _ (T153.setTop (mkF m 5 #[.val (.ref a1), .val (.ref x2)] [(.int mc), (.ref a1)]))
  refine Go.by (fun t => XS.iconst X153.here hx rfl (hb hby d20_5)) ?_
  show Go p e below _ (T153.setTop (mkF m 6 #[.val (.ref a1), .val (.ref x2)] [(.int (1 : Int32)), (.int mc), (.ref a1)]))
  refine Go.by (fun t => XS.iadd X153.here hx rfl (hb hby d20_6) rfl) ?_
  show Go p e below _ (T153.setTop (mkF m 7 #[.val (.ref a1), .val (.ref x2)] [(.int (mc + (1 : Int32))), (.ref a1)]))
  obtain ⟨T154, h154, X154, e154, W154, st154⟩ := putF X153 hx hZ hown (host := "") (Or.inl (hw _ (List.mem_of_getElem? (i := 168) rfl))) (Via.of (hw _ (List.mem_of_getElem? (i := 169) rfl))) e153 F_modCount_a1 E_a1 (Or.inl (hw _ (List.mem_of_getElem? (i := 104) rfl))) (hw _ (List.mem_of_getElem? (i := 85) rfl)) (ty := .int) (by decide) rfl rfl (g := (mkF m 7 #[.val (.ref a1), .val (.ref x2)] [(.int (mc + (1 : Int32))), (.ref a1)])) rfl rfl (hb hby d20_7)
  refine Go.by (fun t => st154 t) ?_
  have ne_ar_a1 : ar ≠ a1 := Ne.symm (Exa.neArv E_a1 V_ar (hw _ (List.mem_of_getElem? (i := 85) rfl)))
  replace F_modCount_a1 := F_modCount_a1.same W154
  replace E_a1 := E_a1.wr W154
  replace F_size_a1 := F_size_a1.other W154 (Or.inr (slot_ne (Or.inl (hw _ (List.mem_of_getElem? (i := 127) rfl))) (Or.inl (hw _ (List.mem_of_getElem? (i := 104) rfl))) (by decide) (t := .int) (t' := .int) (by decide) (by decide)))
  replace F_elementData_a1 := F_elementData_a1.other W154 (Or.inr (slot_ne (Or.inl (hw _ (List.mem_of_getElem? (i := 107) rfl))) (Or.inl (hw _ (List.mem_of_getElem? (i := 104) rfl))) (by decide) (t := (.array (.object "java/lang/Object"))) (t' := .int) (by decide) (by decide)))
  replace E_x2 := E_x2.wr W154
  replace V_ar := V_ar.other W154 ne_ar_a1
  replace K0 := K0.wr W154 (Or.inl (List.mem_of_getElem? (i := 0) rfl))
  have N154 := Fr.snoc X154 N0 g_a1
  show Go p e below _ (T154.setTop (mkF m 10 #[.val (.ref a1), .val (.ref x2)] []))
  show Go p e below _ (T154.setTop (mkF m 10 #[.val (.ref a1), .val (.ref x2)] []))
  refine Go.by (fun t => XS.aloadN X154.here hx rfl (hb hby d20_10) rfl rfl) ?_
  show Go p e below _ (T154.setTop (mkF m 11 #[.val (.ref a1), .val (.ref x2)] [(.ref a1)]))
  refine Go.by (fun t => XS.aloadN X154.here hx rfl (hb hby d20_11) rfl rfl) ?_
  show Go p e below _ (T154.setTop (mkF m 12 #[.val (.ref a1), .val (.ref x2)] [(.ref x2), (.ref a1)]))
  refine Go.by (fun t => XS.aloadN X154.here hx rfl (hb hby d20_12) rfl rfl) ?_
  show Go p e below _ (T154.setTop (mkF m 13 #[.val (.ref a1), .val (.ref x2)] [(.ref a1), (.ref x2), (.ref a1)]))
  obtain ⟨T155, X155, e155, st155⟩ := getF X154 hx hZ hown (host := "") (Or.inl (hw _ (List.mem_of_getElem? (i := 106) rfl))) Via.refl e154 F_elementData_a1 (g := (mkF m 13 #[.val (.ref a1), .val (.ref x2)] [(.ref a1), (.ref x2), (.ref a1)])) rfl rfl (hb hby d20_13)
  refine Go.by (fun t => st155 t) ?_
  show Go p e below _ (T155.setTop (mkF m 16 #[.val (.ref a1), .val (.ref x2)] [(.ref ar), (.ref x2), (.ref a1)]))
  show Go p e below _ (T155.setTop (mkF m 16 #[.val (.ref a1), .val (.ref x2)] [(.ref ar), (.ref x2), (.ref a1)]))
  refine Go.by (fun t => XS.aloadN X155.here hx rfl (hb hby d20_16) rfl rfl) ?_
  show Go p e below _ (T155.setTop (mkF m 17 #[.val (.ref a1), .val (.ref x2)] [(.ref a1), (.ref ar), (.ref x2), (.ref a1)]))
  obtain ⟨T156, X156, e156, st156⟩ := getF X155 hx hZ hown (host := "") (Or.inl (hw _ (List.mem_of_getElem? (i := 126) rfl))) Via.refl e155 F_size_a1 (g := (mkF m 17 #[.val (.ref a1), .val (.ref x2)] [(.ref a1), (.ref ar), (.ref x2), (.ref a1)])) rfl rfl (hb hby d20_17)
  refine Go.by (fun t => st156 t) ?_
  show Go p e below _ (T156.setTop (mkF m 20 #[.val (.ref a1), .val (.ref x2)] [(.int (1 : Int32)), (.ref ar), (.ref x2), (.ref a1)]))
  obtain ⟨cq157, q157, q157'⟩ := E_a1.cell
  obtain ⟨_, _, ⟨T157, L157, k157, n157⟩, -, X157, ⟨Lc157, hQ157, l157, y157, z157⟩, st157⟩ := X156.privateBack hx (y := (⟨"java/util/ArrayList", "add", "(Ljava/lang/Object;[Ljava/lang/Object;I)V"⟩ : MethodName)) hown (mvT hZ (hw _ (List.mem_of_getElem? (i := 170) rfl))) (mvT hZ (hw _ (List.mem_of_getElem? (i := 171) rfl))) (mvT hZ (hw _ (List.mem_of_getElem? (i := 173) rfl))) (Cond.privateMethod_at (mvP hZ (hw _ (List.mem_of_getElem? (i := 172) rfl)) (args := #[]))) (mvT hZ (hw _ (List.mem_of_getElem? (i := 174) rfl))) (by decide) (backOf (W := 0) (rmA3b l Z a0 hw [] a1 x1 x2 ar kc (mc + 1) h154 n0 E_a1 F_size_a1 F_elementData_a1 F_modCount_a1 g_a1 g_ar Ov V_ar E_x2) hZ (hw _ (List.mem_of_getElem? (i := 174) rfl)) (hw _ (List.mem_of_getElem? (i := 86) rfl)) (by decide) (by decide)) (g := (mkF m 20 #[.val (.ref a1), .val (.ref x2)] [(.int (1 : Int32)), (.ref ar), (.ref x2), (.ref a1)])) rfl (by rw [hml]; rfl) (Steps.refl _) (a := a1) (by rw [e156]; exact q157) q157' (argsL := [(.ref x2), (.ref ar), (.int (1 : Int32))]) (rest := []) (lenOf pd_20 rfl) rfl (by show 2 * 0 + _ ≤ _; exact Nat.le_of_eq rfl) (hb hby d20_20) (fun _ _ => ⟨rfl, e156, (by decide : 0 + 0 ≤ _), (by decide : 0 + 0 ≤ _)⟩)
  dsimp only [Pt.U, Pt.locs, Pt.cells, Pt.slots] at X157 l157 y157 z157 st157 hQ157
  subst y157 z157
  obtain ⟨rfl, Nq157, K157, V_arn, Fz, Fe, Fm⟩ := hQ157
  have N157 : Fr n0 L157 := by rw [l157]; exact Fr.app N154 Nq157
  clear l157
  refine Go.by (fun t => st157.trans) ?_
  replace X157 := Stand.num (C := 0) (S := 0) X157 rfl rfl
  replace K0 := K0.trans K157 (allS (P := fun x => x ∈ _ ∨ _ ≤ x) (Or.inl (List.mem_of_getElem? (i := 0) rfl)) (allS (P := fun x => x ∈ _ ∨ _ ≤ x) (Or.inl (List.mem_of_getElem? (i := 1) rfl)) all0))
  show Go p e below _ (T157.setTop (mkF m 23 #[.val (.ref a1), .val (.ref x2)] []))
  show Go p e below _ (T157.setTop (mkF m 23 #[.val (.ref a1), .val (.ref x2)] []))
  refine Go.by (fun t => XS.iconst X157.here hx rfl (hb hby d20_23)) ?_
  show Go p e below _ (T157.setTop (mkF m 24 #[.val (.ref a1), .val (.ref x2)] [(.int (1 : Int32))]))
  exact Go.ret1 X157 hx Bd.returns Bd.notSynchronized (by first | rfl | decide) (Or.inl ⟨rfl, by simp, _, rfl⟩) (hb hby d20_24) (by decide) (by decide) ⟨rfl, N157, K0, V_arn, Fz, Fe, Fm⟩
def Q_rmAE1 (Z : State) (a1 k2 s3 m4 l2 de : Addr) (kd : ClassId) (mc : Int32) (h0 : Heap) (n0 : Nat) : Option Value → Heap → List Loc → Prop := fun v h L => ∃ (f ar : Addr) (kc : ClassId), v = none ∧ h0.size ≤ f ∧ h0.size ≤ ar ∧ Fr n0 L ∧ Keep h0 h [l2] ∧ Exa Z h f "com/example/slicewright/slicewright/report/Report$Finding" ∧ Fld Z h f "com/example/slicewright/slicewright/report/Report$Finding" "kind" "Lcom/example/slicewright/slicewright/report/ErrorKind;" (.ref k2) ∧ Fld Z h f "com/example/slicewright/slicewright/report/Report$Finding" "location" "Ljava/lang/String;" (.ref s3) ∧ Fld Z h f "com/example/slicewright/slicewright/report/Report$Finding" "message" "Ljava/lang/String;" (.ref m4) ∧ Ovr Z kc "java/lang/Object" ∧ Arv Z h ar kc (.object "java/lang/Object") (10 : Int32) [(.ref f), .null, .null, .null, .null, .null, .null, .null, .null, .null] .null ∧ Fld Z h l2 "java/util/ArrayList" "size" "I" (.int 1) ∧ Fld Z h l2 "java/util/ArrayList" "elementData" "[Ljava/lang/Object;" (.ref ar) ∧ Fld Z h l2 "java/util/AbstractList" "modCount" "I" (.int (mc + 1))
set_option maxRecDepth 65536 in
set_option maxHeartbeats 40000000 in
theorem rmAE1 (l : Launch) (Z : State) (a0 : Array Value) (hw : ∀ d ∈ tables_1, d.before a0 Z = true) (ws : List Jvm.Cond) (a1 k2 s3 m4 l2 de : Addr) (kd : ClassId) (mc : Int32) (h0 : Heap) (n0 : Nat) (Z0 : n0 ≤ h0.size) (Od : Old Z n0 h0) (S_DE : Sta Z Z.heap "java/util/ArrayList" "DEFAULTCAPACITY_EMPTY_ELEMENTDATA" "[Ljava/lang/Object;" (.ref de)) (V_de : Arv Z Z.heap de kd (.object "java/lang/Object") (0 : Int32) [] .null) (F_errors_a1 : Fld Z h0 a1 "com/example/slicewright/slicewright/report/Report" "errors" "Ljava/util/List;" (.ref l2)) (E_l2 : Exa Z h0 l2 "java/util/ArrayList") (F_size_l2 : Fld Z h0 l2 "java/util/ArrayList" "size" "I" (.int 0)) (F_elementData_l2 : Fld Z h0 l2 "java/util/ArrayList" "elementData" "[Ljava/lang/Object;" (.ref de)) (F_modCount_l2 : Fld Z h0 l2 "java/util/AbstractList" "modCount" "I" (.int mc)) (g_l2 : n0 ≤ l2) (E_k2 : Exa Z h0 k2 "com/example/slicewright/slicewright/report/ErrorKind") (E_s3 : Exa Z h0 s3 "java/lang/String") (E_m4 : Exa Z h0 m4 "java/lang/String") :
    MetFree l (⟨"com/example/slicewright/slicewright/report/Report", "addError", "(Lcom/example/slicewright/slicewright/report/ErrorKind;Ljava/lang/String;Ljava/lang/String;)V"⟩ : MethodName) (head1 (Jvm.Cond.code (⟨"com/example/slicewright/slicewright/report/Report", "addError", "(Lcom/example/slicewright/slicewright/report/ErrorKind;Ljava/lang/String;Ljava/lang/String;)V"⟩ : MethodName) prog_24_method_3_code 4 none :: ws) ({ frames := 5, cells := 8, slots := 101, locals := 90 } : Room)) (fun a U => a = #[(.ref a1), (.ref k2), (.ref s3), (.ref m4)] ∧ Z.Warmed39 U.vm ∧ U.heap = h0 ∧ CHv Z EL U.vm h0) (fun _ _ _ _ _ => True) (fun _ U o U' => ∃ v L, o = .returned v ∧ Q_rmAE1 Z a1 k2 s3 m4 l2 de kd mc h0 n0 v U'.heap L ∧ CHr Z EL U.vm U.heap U'.vm U'.heap ∧ ReturnedEndW U o U' L ({ frames := 5, cells := 8, slots := 101, locals := 90 } : Room).cells ({ frames := 5, cells := 8, slots := 101, locals := 90 } : Room).slots) := by
  refine MetFree.of_bodySF (plainFor_of_name pn_3) hisR ?_
  intro p e s m args below meth c s₁ Bd hml0 hP hK
  obtain ⟨rfl, hZ, hh, CH0⟩ := hP
  have hx := Bd.exec
  have hby := Bd.bytes
  have hml : c.maxLocals = 4 := hml0
  have hown : s.vm.findClass "com/example/slicewright/slicewright/report/Report" = some m.cls := findClass_of_methodNamed Bd.named
  have hnm := (name_of_methodNamed Bd.named Bd.method).1
  have X0 : Stand p l e ({ frames := 5, cells := 8, slots := 101, locals := 90 } : Room) (s.setVm s.vm) m #[(.ref a1), (.ref k2), (.ref s3), (.ref m4)] below meth c s₁ [] 0 0 := Stand.of_body Bd
  have e0 : s₁.heap = h0 := by rw [← hh, Bd.state]; rfl
  have N0 := Fr.nil n0
  have hS : s.Since s.vm 0 := (State.WarmedH.refl s).since 0
  have hk : 0 ≤ h0.size := Nat.zero_le _
  have CR : CHr Z EL s.vm s.heap s.vm h0 := by rw [hh]; exact CHr.refl CH0
  have hEL := ew_of hw
  have hwS := ws_of hw
  have ef : entryFrame m #[(.ref a1), (.ref k2), (.ref s3), (.ref m4)] 4 = (mkF m 0 #[.val (.ref a1), .val (.ref k2), .val (.ref s3), .val (.ref m4)] []) := by first | (simp [entryFrame, mkF, argsToLocals, Value.category, maxLocals]; done) | rfl
  show Go p e below (EndW EL Z (fun v h L => ∃ (f ar : Addr) (kc : ClassId), v = none ∧ h0.size ≤ f ∧ h0.size ≤ ar ∧ Fr n0 L ∧ Keep h0 h [l2] ∧ Exa Z h f "com/example/slicewright/slicewright/report/Report$Finding" ∧ Fld Z h f "com/example/slicewright/slicewright/report/Report$Finding" "kind" "Lcom/example/slicewright/slicewright/report/ErrorKind;" (.ref k2) ∧ Fld Z h f "com/example/slicewright/slicewright/report/Report$Finding" "location" "Ljava/lang/String;" (.ref s3) ∧ Fld Z h f "com/example/slicewright/slicewright/report/Report$Finding" "message" "Ljava/lang/String;" (.ref m4) ∧ Ovr Z kc "java/lang/Object" ∧ Arv Z h ar kc (.object "java/lang/Object") (10 : Int32) [(.ref f), .null, .null, .null, .null, .null, .null, .null, .null, .null] .null ∧ Fld Z h l2 "java/util/ArrayList" "size" "I" (.int 1) ∧ Fld Z h l2 "java/util/ArrayList" "elementData" "[Ljava/lang/Object;" (.ref ar) ∧ Fld Z h l2 "java/util/AbstractList" "modCount" "I" (.int (mc + 1))) s 8 101) (s₁.setTop (entryFrame m #[(.ref a1), (.ref k2), (.ref s3), (.ref m4)] 4))
  rw [ef]
  show Go p e below _ (s₁.setTop (mkF m 0 #[.val (.ref a1), .val (.ref k2), .val (.ref s3), .val (.ref m4)] []))
  have K0 : Keep h0 h0 [l2] := Keep.refl _ _
  show Go p e below _ (s₁.setTop (mkF m 0 #[.val (.ref a1), .val (.ref k2), .val (.ref s3), .val (.ref m4)] []))
  refine Go.by (fun t => XS.aloadN X0.here hx rfl (hb hby d16_0) rfl rfl) ?_
  show Go p e below _ (s₁.setTop (mkF m 1 #[.val (.ref a1), .val (.ref k2), .val (.ref s3), .val (.ref m4)] [(.ref a1)]))
  obtain ⟨T158, X158, e158, st158⟩ := getF X0 hx hZ hown (host := "") (Or.inl (hw _ (List.mem_of_getElem? (i := 110) rfl))) Via.refl e0 F_errors_a1 (g := (mkF m 1 #[.val (.ref a1), .val (.ref k2), .val (.ref s3), .val (.ref m4)] [(.ref a1)])) rfl rfl (hb hby d16_1)
  refine Go.by (fun t => st158 t) ?_
  show Go p e below _ (T158.setTop (mkF m 4 #[.val (.ref a1), .val (.ref k2), .val (.ref s3), .val (.ref m4)] [(.ref l2)]))
  obtain ⟨T159, h159, X159, e159, E159, A159, D159, -, st159⟩ := newO X158 hx hZ hown (hw _ (List.mem_of_getElem? (i := 133) rfl)) (hw _ (List.mem_of_getElem? (i := 134) rfl)) (hw _ (List.mem_of_getElem? (i := 135) rfl)) e158 (g := (mkF m 4 #[.val (.ref a1), .val (.ref k2), .val (.ref s3), .val (.ref m4)] [(.ref l2)])) rfl (hb hby d16_4) (by decide) (by decide)
  obtain ⟨f, g159⟩ : ∃ z, z = h0.size := ⟨_, rfl⟩
  rw [← g159] at A159 D159 st159
  refine Go.by (fun t => st159 t) ?_
  have g_f : n0 ≤ f := Nat.le_trans Z0 (Nat.le_of_eq g159.symm)
  have sz_f : h0.size ≤ f := Nat.le_trans K0.1 (Nat.le_of_eq g159.symm)
  have ne_k2_f : k2 ≠ f := Nat.ne_of_lt (Nat.lt_of_lt_of_le E_k2.lt (Nat.le_of_eq g159.symm))
  have ne_l2_f : l2 ≠ f := Nat.ne_of_lt (Nat.lt_of_lt_of_le E_l2.lt (Nat.le_of_eq g159.symm))
  have ne_m4_f : m4 ≠ f := Nat.ne_of_lt (Nat.lt_of_lt_of_le E_m4.lt (Nat.le_of_eq g159.symm))
  have ne_s3_f : s3 ≠ f := Nat.ne_of_lt (Nat.lt_of_lt_of_le E_s3.lt (Nat.le_of_eq g159.symm))
  replace CR := CR.trans (CHr.ext E159 CR.1)
  replace hk := Nat.le_trans hk E159.1
  replace E_l2 := E_l2.ext E159
  replace F_size_l2 := F_size_l2.ext E159
  replace F_elementData_l2 := F_elementData_l2.ext E159
  replace F_modCount_l2 := F_modCount_l2.ext E159
  replace E_k2 := E_k2.ext E159
  replace E_s3 := E_s3.ext E159
  replace E_m4 := E_m4.ext E159
  replace Od := Od.ext E159
  replace Z0 := Nat.le_trans Z0 E159.1
  replace K0 := K0.ext E159
  have E_f := A159
  have F_kind_f : Fld Z h159 f "com/example/slicewright/slicewright/report/Report$Finding" "kind" "Lcom/example/slicewright/slicewright/report/ErrorKind;" .null := D159 (Or.inr (hw _ (List.mem_of_getElem? (i := 155) rfl))) (ty := (.object "com/example/slicewright/slicewright/report/ErrorKind")) (by decide)
  have F_location_f : Fld Z h159 f "com/example/slicewright/slicewright/report/Report$Finding" "location" "Ljava/lang/String;" .null := D159 (Or.inr (hw _ (List.mem_of_getElem? (i := 157) rfl))) (ty := (.object "java/lang/String")) (by decide)
  have F_message_f : Fld Z h159 f "com/example/slicewright/slicewright/report/Report$Finding" "message" "Ljava/lang/String;" .null := D159 (Or.inr (hw _ (List.mem_of_getElem? (i := 159) rfl))) (ty := (.object "java/lang/String")) (by decide)
  replace X159 := Stand.num (C := 1) (S := 3) X159 rfl rfl
  show Go p e below _ (T159.setTop (mkF m 7 #[.val (.ref a1), .val (.ref k2), .val (.ref s3), .val (.ref m4)] [(.ref f), (.ref l2)]))
  show Go p e below _ (T159.setTop (mkF m 7 #[.val (.ref a1), .val (.ref k2), .val (.ref s3), .val (.ref m4)] [(.ref f), (.ref l2)]))
  refine Go.by (fun t => XS.dup X159.here hx rfl (hb hby d16_7) rfl rfl) ?_
  show Go p e below _ (T159.setTop (mkF m 8 #[.val (.ref a1), .val (.ref k2), .val (.ref s3), .val (.ref m4)] [(.ref f), (.ref f), (.ref l2)]))
  refine Go.by (fun t => XS.aloadN X159.here hx rfl (hb hby d16_8) rfl rfl) ?_
  show Go p e below _ (T159.setTop (mkF m 9 #[.val (.ref a1), .val (.ref k2), .val (.ref s3), .val (.ref m4)] [(.ref k2), (.ref f), (.ref f), (.ref l2)]))
  obtain ⟨c160, T160, h160, k160, X160, e160, E160, hS160, hk160, hZ160, hown160, CRn, Lit160, st160⟩ := ldcOH X159 hx hZ hown (hw _ (List.mem_of_getElem? (i := 136) rfl)) hwS e159 hS hk hEL CR.1 (g := (mkF m 9 #[.val (.ref a1), .val (.ref k2), .val (.ref s3), .val (.ref m4)] [(.ref k2), (.ref f), (.ref f), (.ref l2)])) rfl (hb hby d16_9) (n := 16) (by decide) (by decide) (by decide) (by decide)
  refine Go.by (fun t => st160 t) ?_
  replace CR := CR.trans CRn
  replace E_l2 := E_l2.ext E160
  replace F_size_l2 := F_size_l2.ext E160
  replace F_elementData_l2 := F_elementData_l2.ext E160
  replace F_modCount_l2 := F_modCount_l2.ext E160
  replace E_k2 := E_k2.ext E160
  replace E_s3 := E_s3.ext E160
  replace E_m4 := E_m4.ext E160
  replace Od := Od.ext E160
  replace E_f := E_f.ext E160
  replace F_kind_f := F_kind_f.ext E160
  replace F_location_f := F_location_f.ext E160
  replace F_message_f := F_message_f.ext E160
  replace Z0 := Nat.le_trans Z0 E160.1
  replace K0 := K0.ext E160
  clear CRn hS hk
  have hS := hS160
  have hk := hk160
  replace hZ := hZ160
  replace hown := hown160
  replace X160 := Stand.num (C := 3) (S := 23) X160 rfl rfl
  show Go p e below _ (T160.setTop (mkF m 11 #[.val (.ref a1), .val (.ref k2), .val (.ref s3), .val (.ref m4)] [(.ref c160), (.ref k2), (.ref f), (.ref f), (.ref l2)]))
  obtain ⟨_, _, ⟨T161, L161, k161, n161⟩, -, X161, ⟨Lc161, hQ161, l161, y161, z161⟩, st161⟩ := Jvm.LawKit.callS X160 hx (y := (⟨"java/util/Objects", "requireNonNull", "(Ljava/lang/Object;Ljava/lang/String;)Ljava/lang/Object;"⟩ : MethodName)) hown (mvT hZ (hw _ (List.mem_of_getElem? (i := 137) rfl))) (mvT hZ (hw _ (List.mem_of_getElem? (i := 138) rfl))) (mvT hZ (hw _ (List.mem_of_getElem? (i := 139) rfl))) (mvT hZ (hw _ (List.mem_of_getElem? (i := 140) rfl))) (by decide) (backOf (W := 3) (rm17 l Z a0 hw [] k2 c160 h160 n0) hZ (hw _ (List.mem_of_getElem? (i := 140) rfl)) (hw _ (List.mem_of_getElem? (i := 139) rfl)) (by decide) (by decide)) (g := (mkF m 11 #[.val (.ref a1), .val (.ref k2), .val (.ref s3), .val (.ref m4)] [(.ref c160), (.ref k2), (.ref f), (.ref f), (.ref l2)])) rfl (by rw [hml]; rfl) (argsL := [(.ref k2), (.ref c160)]) (rest := [(.ref f), (.ref f), (.ref l2)]) (lenOf pd_19 rfl) rfl (by show 2 * 0 + _ ≤ _; exact Nat.le_of_eq rfl) (hb hby d16_11) (fun _ _ => ⟨rfl, e160, (by decide : 3 + 0 ≤ _), (by decide : 23 + 0 ≤ _)⟩)
  dsimp only [Pt.U, Pt.locs, Pt.cells, Pt.slots] at X161 l161 y161 z161 st161 hQ161
  subst y161 z161
  obtain ⟨rfl, Nq161, e161⟩ := hQ161
  have N161 : Fr n0 L161 := by rw [l161]; exact Fr.app N0 Nq161
  clear l161
  refine Go.by (fun t => st161 t) ?_
  replace X161 := Stand.num (C := 3) (S := 23) X161 rfl rfl
  show Go p e below _ (T161.setTop (mkF m 14 #[.val (.ref a1), .val (.ref k2), .val (.ref s3), .val (.ref m4)] [(.ref k2), (.ref f), (.ref f), (.ref l2)]))
  obtain ⟨T162, X162, e162, st162⟩ := castY X161 hx hZ hown (hw _ (List.mem_of_getElem? (i := 141) rfl)) e161 (Ins.self E_k2) (g := (mkF m 14 #[.val (.ref a1), .val (.ref k2), .val (.ref s3), .val (.ref m4)] [(.ref k2), (.ref f), (.ref f), (.ref l2)])) rfl rfl (hb hby d16_14)
  refine Go.by (fun t => st162 t) ?_
  show Go p e below _ (T162.setTop (mkF m 17 #[.val (.ref a1), .val (.ref k2), .val (.ref s3), .val (.ref m4)] [(.ref k2), (.ref f), (.ref f), (.ref l2)]))
  show Go p e below _ (T162.setTop (mkF m 17 #[.val (.ref a1), .val (.ref k2), .val (.ref s3), .val (.ref m4)] [(.ref k2), (.ref f), (.ref f), (.ref l2)]))
  refine Go.by (fun t => XS.aloadN X162.here hx rfl (hb hby d16_17) rfl rfl) ?_
  show Go p e below _ (T162.setTop (mkF m 18 #[.val (.ref a1), .val (.ref k2), .val (.ref s3), .val (.ref m4)] [(.ref s3), (.ref k2), (.ref f), (.ref f), (.ref l2)]))
  obtain ⟨c163, T163, h163, k163, X163, e163, E163, hS163, hk163, hZ163, hown163, CRn, Lit163, st163⟩ := ldcOH X162 hx hZ hown (hw _ (List.mem_of_getElem? (i := 142) rfl)) hwS e162 hS hk hEL CR.1 (g := (mkF m 18 #[.val (.ref a1), .val (.ref k2), .val (.ref s3), .val (.ref m4)] [(.ref s3), (.ref k2), (.ref f), (.ref f), (.ref l2)])) rfl (hb hby d16_18) (n := 32) (by decide) (by decide) (by decide) (by decide)
  refine Go.by (fun t => st163 t) ?_
  replace CR := CR.trans CRn
  replace E_l2 := E_l2.ext E163
  replace F_size_l2 := F_size_l2.ext E163
  replace F_elementData_l2 := F_elementData_l2.ext E163
  replace F_modCount_l2 := F_modCount_l2.ext E163
  replace E_k2 := E_k2.ext E163
  replace E_s3 := E_s3.ext E163
  replace E_m4 := E_m4.ext E163
  replace Od := Od.ext E163
  replace E_f := E_f.ext E163
  replace F_kind_f := F_kind_f.ext E163
  replace F_location_f := F_location_f.ext E163
  replace F_message_f := F_message_f.ext E163
  replace Z0 := Nat.le_trans Z0 E163.1
  replace K0 := K0.ext E163
  clear CRn hS hk
  have hS := hS163
  have hk := hk163
  replace hZ := hZ163
  replace hown := hown163
  replace X163 := Stand.num (C := 5) (S := 59) X163 rfl rfl
  show Go p e below _ (T163.setTop (mkF m 20 #[.val (.ref a1), .val (.ref k2), .val (.ref s3), .val (.ref m4)] [(.ref c163), (.ref s3), (.ref k2), (.ref f), (.ref f), (.ref l2)]))
  obtain ⟨_, _, ⟨T164, L164, k164, n164⟩, -, X164, ⟨Lc164, hQ164, l164, y164, z164⟩, st164⟩ := Jvm.LawKit.callS X163 hx (y := (⟨"java/util/Objects", "requireNonNull", "(Ljava/lang/Object;Ljava/lang/String;)Ljava/lang/Object;"⟩ : MethodName)) hown (mvT hZ (hw _ (List.mem_of_getElem? (i := 137) rfl))) (mvT hZ (hw _ (List.mem_of_getElem? (i := 138) rfl))) (mvT hZ (hw _ (List.mem_of_getElem? (i := 139) rfl))) (mvT hZ (hw _ (List.mem_of_getElem? (i := 140) rfl))) (by decide) (backOf (W := 4) (rm17 l Z a0 hw [] s3 c163 h163 n0) hZ (hw _ (List.mem_of_getElem? (i := 140) rfl)) (hw _ (List.mem_of_getElem? (i := 139) rfl)) (by decide) (by decide)) (g := (mkF m 20 #[.val (.ref a1), .val (.ref k2), .val (.ref s3), .val (.ref m4)] [(.ref c163), (.ref s3), (.ref k2), (.ref f), (.ref f), (.ref l2)])) rfl (by rw [hml]; rfl) (argsL := [(.ref s3), (.ref c163)]) (rest := [(.ref k2), (.ref f), (.ref f), (.ref l2)]) (lenOf pd_19 rfl) rfl (by show 2 * 0 + _ ≤ _; exact Nat.le_of_eq rfl) (hb hby d16_20) (fun _ _ => ⟨rfl, e163, (by decide : 5 + 0 ≤ _), (by decide : 59 + 0 ≤ _)⟩)
  dsimp only [Pt.U, Pt.locs, Pt.cells, Pt.slots] at X164 l164 y164 z164 st164 hQ164
  subst y164 z164
  obtain ⟨rfl, Nq164, e164⟩ := hQ164
  have N164 : Fr n0 L164 := by rw [l164]; exact Fr.app N161 Nq164
  clear l164
  refine Go.by (fun t => st164 t) ?_
  replace X164 := Stand.num (C := 5) (S := 59) X164 rfl rfl
  show Go p e below _ (T164.setTop (mkF m 23 #[.val (.ref a1), .val (.ref k2), .val (.ref s3), .val (.ref m4)] [(.ref s3), (.ref k2), (.ref f), (.ref f), (.ref l2)]))
  obtain ⟨T165, X165, e165, st165⟩ := castY X164 hx hZ hown (hw _ (List.mem_of_getElem? (i := 143) rfl)) e164 (Ins.self E_s3) (g := (mkF m 23 #[.val (.ref a1), .val (.ref k2), .val (.ref s3), .val (.ref m4)] [(.ref s3), (.ref k2), (.ref f), (.ref f), (.ref l2)])) rfl rfl (hb hby d16_23)
  refine Go.by (fun t => st165 t) ?_
  show Go p e below _ (T165.setTop (mkF m 26 #[.val (.ref a1), .val (.ref k2), .val (.ref s3), .val (.ref m4)] [(.ref s3), (.ref k2), (.ref f), (.ref f), (.ref l2)]))
  show Go p e below _ (T165.setTop (mkF m 26 #[.val (.ref a1), .val (.ref k2), .val (.ref s3), .val (.ref m4)] [(.ref s3), (.ref k2), (.ref f), (.ref f), (.ref l2)]))
  refine Go.by (fun t => XS.aloadN X165.here hx rfl (hb hby d16_26) rfl rfl) ?_
  show Go p e below _ (T165.setTop (mkF m 27 #[.val (.ref a1), .val (.ref k2), .val (.ref s3), .val (.ref m4)] [(.ref m4), (.ref s3), (.ref k2), (.ref f), (.ref f), (.ref l2)]))
  obtain ⟨c166, T166, h166, k166, X166, e166, E166, hS166, hk166, hZ166, hown166, CRn, Lit166, st166⟩ := ldcOH X165 hx hZ hown (hw _ (List.mem_of_getElem? (i := 144) rfl)) hwS e165 hS hk hEL CR.1 (g := (mkF m 27 #[.val (.ref a1), .val (.ref k2), .val (.ref s3), .val (.ref m4)] [(.ref m4), (.ref s3), (.ref k2), (.ref f), (.ref f), (.ref l2)])) rfl (hb hby d16_27) (n := 28) (by decide) (by decide) (by decide) (by decide)
  refine Go.by (fun t => st166 t) ?_
  replace CR := CR.trans CRn
  replace E_l2 := E_l2.ext E166
  replace F_size_l2 := F_size_l2.ext E166
  replace F_elementData_l2 := F_elementData_l2.ext E166
  replace F_modCount_l2 := F_modCount_l2.ext E166
  replace E_k2 := E_k2.ext E166
  replace E_s3 := E_s3.ext E166
  replace E_m4 := E_m4.ext E166
  replace Od := Od.ext E166
  replace E_f := E_f.ext E166
  replace F_kind_f := F_kind_f.ext E166
  replace F_location_f := F_location_f.ext E166
  replace F_message_f := F_message_f.ext E166
  replace Z0 := Nat.le_trans Z0 E166.1
  replace K0 := K0.ext E166
  clear CRn hS hk
  have hS := hS166
  have hk := hk166
  replace hZ := hZ166
  replace hown := hown166
  replace X166 := Stand.num (C := 7) (S := 91) X166 rfl rfl
  show Go p e below _ (T166.setTop (mkF m 29 #[.val (.ref a1), .val (.ref k2), .val (.ref s3), .val (.ref m4)] [(.ref c166), (.ref m4), (.ref s3), (.ref k2), (.ref f), (.ref f), (.ref l2)]))
  obtain ⟨_, _, ⟨T167, L167, k167, n167⟩, -, X167, ⟨Lc167, hQ167, l167, y167, z167⟩, st167⟩ := Jvm.LawKit.callS X166 hx (y := (⟨"java/util/Objects", "requireNonNull", "(Ljava/lang/Object;Ljava/lang/String;)Ljava/lang/Object;"⟩ : MethodName)) hown (mvT hZ (hw _ (List.mem_of_getElem? (i := 137) rfl))) (mvT hZ (hw _ (List.mem_of_getElem? (i := 138) rfl))) (mvT hZ (hw _ (List.mem_of_getElem? (i := 139) rfl))) (mvT hZ (hw _ (List.mem_of_getElem? (i := 140) rfl))) (by decide) (backOf (W := 5) (rm17 l Z a0 hw [] m4 c166 h166 n0) hZ (hw _ (List.mem_of_getElem? (i := 140) rfl)) (hw _ (List.mem_of_getElem? (i := 139) rfl)) (by decide) (by decide)) (g := (mkF m 29 #[.val (.ref a1), .val (.ref k2), .val (.ref s3), .val (.ref m4)] [(.ref c166), (.ref m4), (.ref s3), (.ref k2), (.ref f), (.ref f), (.ref l2)])) rfl (by rw [hml]; rfl) (argsL := [(.ref m4), (.ref c166)]) (rest := [(.ref s3), (.ref k2), (.ref f), (.ref f), (.ref l2)]) (lenOf pd_19 rfl) rfl (by show 2 * 0 + _ ≤ _; exact Nat.le_of_eq rfl) (hb hby d16_29) (fun _ _ => ⟨rfl, e166, (by decide : 7 + 0 ≤ _), (by decide : 91 + 0 ≤ _)⟩)
  dsimp only [Pt.U, Pt.locs, Pt.cells, Pt.slots] at X167 l167 y167 z167 st167 hQ167
  subst y167 z167
  obtain ⟨rfl, Nq167, e167⟩ := hQ167
  have N167 : Fr n0 L167 := by rw [l167]; exact Fr.app N164 Nq167
  clear l167
  refine Go.by (fun t => st167 t) ?_
  replace X167 := Stand.num (C := 7) (S := 91) X167 rfl rfl
  show Go p e below _ (T167.setTop (mkF m 32 #[.val (.ref a1), .val (.ref k2), .val (.ref s3), .val (.ref m4)] [(.ref m4), (.ref s3), (.ref k2), (.ref f), (.ref f), (.ref l2)]))
  obtain ⟨T168, X168, e168, st168⟩ := castY X167 hx hZ hown (hw _ (List.mem_of_getElem? (i := 143) rfl)) e167 (Ins.self E_m4) (g := (mkF m 32 #[.val (.ref a1), .val (.ref k2), .val (.ref s3), .val (.ref m4)] [(.ref m4), (.ref s3), (.ref k2), (.ref f), (.ref f), (.ref l2)])) rfl rfl (hb hby d16_32)
  refine Go.by (fun t => st168 t) ?_
  show Go p e below _ (T168.setTop (mkF m 35 #[.val (.ref a1), .val (.ref k2), .val (.ref s3), .val (.ref m4)] [(.ref m4), (.ref s3), (.ref k2), (.ref f), (.ref f), (.ref l2)]))
  show Go p e below _ (T168.setTop (mkF m 35 #[.val (.ref a1), .val (.ref k2), .val (.ref s3), .val (.ref m4)] [(.ref m4), (.ref s3), (.ref k2), (.ref f), (.ref f), (.ref l2)]))
  obtain ⟨_, _, ⟨T169, L169, k169, n169⟩, -, X169, ⟨Lc169, hQ169, l169, y169, z169⟩, st169⟩ := X168.specialBack hx (y := (⟨"com/example/slicewright/slicewright/report/Report$Finding", "<init>", "(Lcom/example/slicewright/slicewright/report/ErrorKind;Ljava/lang/String;Ljava/lang/String;)V"⟩ : MethodName)) rfl hown (mvT hZ (hw _ (List.mem_of_getElem? (i := 145) rfl))) (mvT hZ (hw _ (List.mem_of_getElem? (i := 146) rfl))) (mvT hZ (hw _ (List.mem_of_getElem? (i := 147) rfl))) (by decide) (backOf (W := 2) (rm18 l Z a0 hw [] f k2 s3 m4 h166 n0 E_f F_kind_f F_location_f F_message_f g_f) hZ (hw _ (List.mem_of_getElem? (i := 147) rfl)) (hw _ (List.mem_of_getElem? (i := 135) rfl)) (by decide) (by decide)) (g := (mkF m 35 #[.val (.ref a1), .val (.ref k2), .val (.ref s3), .val (.ref m4)] [(.ref m4), (.ref s3), (.ref k2), (.ref f), (.ref f), (.ref l2)])) rfl (by rw [hml]; rfl) (Steps.refl _) (a := f) (argsL := [(.ref k2), (.ref s3), (.ref m4)]) (rest := [(.ref f), (.ref l2)]) (lenOf pd_4 rfl) rfl (by show 2 * 0 + _ ≤ _; exact Nat.le_of_eq rfl) (hb hby d16_35) (fun _ _ => ⟨rfl, e168, (by decide : 7 + 0 ≤ _), (by decide : 91 + 0 ≤ _)⟩)
  dsimp only [Pt.U, Pt.locs, Pt.cells, Pt.slots] at X169 l169 y169 z169 st169 hQ169
  subst y169 z169
  obtain ⟨rfl, Nq169, K169, Fk, Fl, Fm⟩ := hQ169
  have N169 : Fr n0 L169 := by rw [l169]; exact Fr.app N167 Nq169
  clear l169
  refine Go.by (fun t => st169.trans) ?_
  replace X169 := Stand.num (C := 7) (S := 91) X169 rfl rfl
  have Sfw := ((sfS (Safe.exa hZ.alike E_f (by decide) (by decide)) sf0) : ∀ x ∈ [f], Safe Z EL T166.vm h166 x)
  replace CR := CR.trans (CHr.keep K169 Sfw CR.1)
  clear Sfw
  replace hk := Nat.le_trans hk K169.1
  replace E_l2 := E_l2.keep K169
  replace F_size_l2 := F_size_l2.keep K169 (ninS ne_l2_f nin0)
  replace F_elementData_l2 := F_elementData_l2.keep K169 (ninS ne_l2_f nin0)
  replace F_modCount_l2 := F_modCount_l2.keep K169 (ninS ne_l2_f nin0)
  replace E_k2 := E_k2.keep K169
  replace E_s3 := E_s3.keep K169
  replace E_m4 := E_m4.keep K169
  replace Od := Od.keep K169 (allS g_f all0)
  replace E_f := E_f.keep K169
  replace Z0 := Nat.le_trans Z0 K169.1
  replace K0 := K0.trans K169 (allS (P := fun x => x ∈ _ ∨ _ ≤ x) (Or.inr sz_f) all0)
  show Go p e below _ (T169.setTop (mkF m 38 #[.val (.ref a1), .val (.ref k2), .val (.ref s3), .val (.ref m4)] [(.ref f), (.ref l2)]))
  show Go p e below _ (T169.setTop (mkF m 38 #[.val (.ref a1), .val (.ref k2), .val (.ref s3), .val (.ref m4)] [(.ref f), (.ref l2)]))
  obtain ⟨cq170, kq170, q170a, q170b, q170c⟩ := isOf hZ rfl E_l2
  obtain ⟨_, _, ⟨T170, L170, k170, n170⟩, -, X170, ⟨Lc170, hQ170, l170, y170, z170⟩, st170⟩ := X169.interfaceBack hx (xi := (⟨"java/util/List", "add", "(Ljava/lang/Object;)Z"⟩ : MethodName)) (y := (⟨"java/util/ArrayList", "add", "(Ljava/lang/Object;)Z"⟩ : MethodName)) hown (mvT hZ (hw _ (List.mem_of_getElem? (i := 160) rfl))) (mvT hZ (hw _ (List.mem_of_getElem? (i := 161) rfl))) (mvT hZ (hw _ (List.mem_of_getElem? (i := 162) rfl))) (mvT hZ (hw _ (List.mem_of_getElem? (i := 163) rfl))) (mvT hZ (hw _ (List.mem_of_getElem? (i := 164) rfl))) (mvT hZ (hw _ (List.mem_of_getElem? (i := 165) rfl))) (mvT hZ (hw _ (List.mem_of_getElem? (i := 166) rfl))) (mvT hZ (hw _ (List.mem_of_getElem? (i := 124) rfl))) (by decide) (backOf (W := 0) (rmA1a l Z a0 hw [] l2 f de kd mc T169.heap n0 Z0 Od S_DE V_de E_l2 F_size_l2 F_elementData_l2 F_modCount_l2 g_l2 E_f) hZ (hw _ (List.mem_of_getElem? (i := 167) rfl)) (hw _ (List.mem_of_getElem? (i := 86) rfl)) (by decide) (by decide)) q170a q170b q170c (g := (mkF m 38 #[.val (.ref a1), .val (.ref k2), .val (.ref s3), .val (.ref m4)] [(.ref f), (.ref l2)])) rfl (by rw [hml]; rfl) (Steps.refl _) (argsL := [(.ref f)]) (rest := []) (lenOf pd_10 rfl) rfl (by show 2 * 0 + _ ≤ _; exact Nat.le_of_eq rfl) (hb hby d16_38) (fun _ _ => ⟨rfl, rfl, (by decide : 7 + 1 ≤ _), (by decide : 91 + 10 ≤ _)⟩)
  dsimp only [Pt.U, Pt.locs, Pt.cells, Pt.slots] at X170 l170 y170 z170 st170 hQ170
  subst y170 z170
  obtain ⟨ar, kc, rfl, sz_ar, Nq170, K170, Ov, V_ar, Fz, Fe, Fc⟩ := hQ170
  replace sz_ar := Nat.le_trans K0.1 sz_ar
  have N170 : Fr n0 L170 := by rw [l170]; exact Fr.app N169 Nq170
  clear l170
  refine Go.by (fun t => st170.trans) ?_
  replace X170 := Stand.num (C := 8) (S := 101) X170 rfl rfl
  have Sfw := ((sfS (Safe.exa hZ.alike E_l2 (by decide) (by decide)) sf0) : ∀ x ∈ [l2], Safe Z EL T166.vm T169.heap x)
  replace CR := CR.trans (CHr.keep K170 Sfw CR.1)
  clear Sfw
  replace hk := Nat.le_trans hk K170.1
  replace E_l2 := E_l2.keep K170
  replace E_k2 := E_k2.keep K170
  replace E_s3 := E_s3.keep K170
  replace E_m4 := E_m4.keep K170
  replace Od := Od.keep K170 (allS g_l2 all0)
  replace E_f := E_f.keep K170
  replace Fk := Fk.keep K170 (ninS (Ne.symm ne_l2_f) nin0)
  replace Fl := Fl.keep K170 (ninS (Ne.symm ne_l2_f) nin0)
  replace Fm := Fm.keep K170 (ninS (Ne.symm ne_l2_f) nin0)
  replace Z0 := Nat.le_trans Z0 K170.1
  replace K0 := K0.trans K170 (allS (P := fun x => x ∈ _ ∨ _ ≤ x) (Or.inl (List.mem_of_getElem? (i := 0) rfl)) all0)
  show Go p e below _ (T170.setTop (mkF m 43 #[.val (.ref a1), .val (.ref k2), .val (.ref s3), .val (.ref m4)] [(.int (1 : Int32))]))
  show Go p e below _ (T170.setTop (mkF m 43 #[.val (.ref a1), .val (.ref k2), .val (.ref s3), .val (.ref m4)] [(.int (1 : Int32))]))
  refine Go.by (fun t => XS.pop X170.here hx rfl (hb hby d16_43) rfl rfl) ?_
  show Go p e below _ (T170.setTop (mkF m 44 #[.val (.ref a1), .val (.ref k2), .val (.ref s3), .val (.ref m4)] []))
  exact Go.ret0W X170 hS hk CR hZ hEL hx Bd.returns Bd.notSynchronized (hb hby d16_44) (by decide) (by decide) ⟨f, ar, kc, rfl, sz_f, sz_ar, N170, K0, E_f, Fk, Fl, Fm, Ov, V_ar, Fz, Fe, Fc⟩
def Q_rmAE2 (Z : State) (a1 k2 s3 m4 l2 x1 ar : Addr) (kc : ClassId) (mc : Int32) (h0 : Heap) (n0 : Nat) : Option Value → Heap → List Loc → Prop := fun v h L => ∃ f : Addr, v = none ∧ h0.size ≤ f ∧ Fr n0 L ∧ Keep h0 h [l2, ar] ∧ Exa Z h f "com/example/slicewright/slicewright/report/Report$Finding" ∧ Fld Z h f "com/example/slicewright/slicewright/report/Report$Finding" "kind" "Lcom/example/slicewright/slicewright/report/ErrorKind;" (.ref k2) ∧ Fld Z h f "com/example/slicewright/slicewright/report/Report$Finding" "location" "Ljava/lang/String;" (.ref s3) ∧ Fld Z h f "com/example/slicewright/slicewright/report/Report$Finding" "message" "Ljava/lang/String;" (.ref m4) ∧ Arv Z h ar kc (.object "java/lang/Object") (10 : Int32) [(.ref x1), (.ref f), .null, .null, .null, .null, .null, .null, .null, .null] .null ∧ Fld Z h l2 "java/util/ArrayList" "size" "I" (.int 2) ∧ Fld Z h l2 "java/util/ArrayList" "elementData" "[Ljava/lang/Object;" (.ref ar) ∧ Fld Z h l2 "java/util/AbstractList" "modCount" "I" (.int (mc + 1))
set_option maxRecDepth 65536 in
set_option maxHeartbeats 40000000 in
theorem rmAE2 (l : Launch) (Z : State) (a0 : Array Value) (hw : ∀ d ∈ tables_1, d.before a0 Z = true) (ws : List Jvm.Cond) (a1 k2 s3 m4 l2 x1 ar : Addr) (kc : ClassId) (mc : Int32) (h0 : Heap) (n0 : Nat) (Z0 : n0 ≤ h0.size) (F_errors_a1 : Fld Z h0 a1 "com/example/slicewright/slicewright/report/Report" "errors" "Ljava/util/List;" (.ref l2)) (E_l2 : Exa Z h0 l2 "java/util/ArrayList") (F_size_l2 : Fld Z h0 l2 "java/util/ArrayList" "size" "I" (.int 1)) (F_elementData_l2 : Fld Z h0 l2 "java/util/ArrayList" "elementData" "[Ljava/lang/Object;" (.ref ar)) (F_modCount_l2 : Fld Z h0 l2 "java/util/AbstractList" "modCount" "I" (.int mc)) (g_l2 : n0 ≤ l2) (g_ar : n0 ≤ ar) (Ov : Ovr Z kc "java/lang/Object") (V_ar : Arv Z h0 ar kc (.object "java/lang/Object") (10 : Int32) [(.ref x1), .null, .null, .null, .null, .null, .null, .null, .null, .null] .null) (E_k2 : Exa Z h0 k2 "com/example/slicewright/slicewright/report/ErrorKind") (E_s3 : Exa Z h0 s3 "java/lang/String") (E_m4 : Exa Z h0 m4 "java/lang/String") :
    MetFree l (⟨"com/example/slicewright/slicewright/report/Report", "addError", "(Lcom/example/slicewright/slicewright/report/ErrorKind;Ljava/lang/String;Ljava/lang/String;)V"⟩ : MethodName) (head1 (Jvm.Cond.code (⟨"com/example/slicewright/slicewright/report/Report", "addError", "(Lcom/example/slicewright/slicewright/report/ErrorKind;Ljava/lang/String;Ljava/lang/String;)V"⟩ : MethodName) prog_24_method_3_code 4 none :: ws) ({ frames := 5, cells := 7, slots := 91, locals := 90 } : Room)) (fun a U => a = #[(.ref a1), (.ref k2), (.ref s3), (.ref m4)] ∧ Z.Warmed39 U.vm ∧ U.heap = h0 ∧ CHv Z EL U.vm h0) (fun _ _ _ _ _ => True) (fun _ U o U' => ∃ v L, o = .returned v ∧ Q_rmAE2 Z a1 k2 s3 m4 l2 x1 ar kc mc h0 n0 v U'.heap L ∧ CHr Z EL U.vm U.heap U'.vm U'.heap ∧ ReturnedEndW U o U' L ({ frames := 5, cells := 7, slots := 91, locals := 90 } : Room).cells ({ frames := 5, cells := 7, slots := 91, locals := 90 } : Room).slots) := by
  refine MetFree.of_bodySF (plainFor_of_name pn_3) hisR ?_
  intro p e s m args below meth c s₁ Bd hml0 hP hK
  obtain ⟨rfl, hZ, hh, CH0⟩ := hP
  have hx := Bd.exec
  have hby := Bd.bytes
  have hml : c.maxLocals = 4 := hml0
  have hown : s.vm.findClass "com/example/slicewright/slicewright/report/Report" = some m.cls := findClass_of_methodNamed Bd.named
  have hnm := (name_of_methodNamed Bd.named Bd.method).1
  have X0 : Stand p l e ({ frames := 5, cells := 7, slots := 91, locals := 90 } : Room) (s.setVm s.vm) m #[(.ref a1), (.ref k2), (.ref s3), (.ref m4)] below meth c s₁ [] 0 0 := Stand.of_body Bd
  have e0 : s₁.heap = h0 := by rw [← hh, Bd.state]; rfl
  have N0 := Fr.nil n0
  have hS : s.Since s.vm 0 := (State.WarmedH.refl s).since 0
  have hk : 0 ≤ h0.size := Nat.zero_le _
  have CR : CHr Z EL s.vm s.heap s.vm h0 := by rw [hh]; exact CHr.refl CH0
  have hEL := ew_of hw
  have hwS := ws_of hw
  have ef : entryFrame m #[(.ref a1), (.ref k2), (.ref s3), (.ref m4)] 4 = (mkF m 0 #[.val (.ref a1), .val (.ref k2), .val (.ref s3), .val (.ref m4)] []) := by first | (simp [entryFrame, mkF, argsToLocals, Value.category, maxLocals]; done) | rfl
  show Go p e below (EndW EL Z (fun v h L => ∃ f : Addr, v = none ∧ h0.size ≤ f ∧ Fr n0 L ∧ Keep h0 h [l2, ar] ∧ Exa Z h f "com/example/slicewright/slicewright/report/Report$Finding" ∧ Fld Z h f "com/example/slicewright/slicewright/report/Report$Finding" "kind" "Lcom/example/slicewright/slicewright/report/ErrorKind;" (.ref k2) ∧ Fld Z h f "com/example/slicewright/slicewright/report/Report$Finding" "location" "Ljava/lang/String;" (.ref s3) ∧ Fld Z h f "com/example/slicewright/slicewright/report/Report$Finding" "message" "Ljava/lang/String;" (.ref m4) ∧ Arv Z h ar kc (.object "java/lang/Object") (10 : Int32) [(.ref x1), (.ref f), .null, .null, .null, .null, .null, .null, .null, .null] .null ∧ Fld Z h l2 "java/util/ArrayList" "size" "I" (.int 2) ∧ Fld Z h l2 "java/util/ArrayList" "elementData" "[Ljava/lang/Object;" (.ref ar) ∧ Fld Z h l2 "java/util/AbstractList" "modCount" "I" (.int (mc + 1))) s 7 91) (s₁.setTop (entryFrame m #[(.ref a1), (.ref k2), (.ref s3), (.ref m4)] 4))
  rw [ef]
  show Go p e below _ (s₁.setTop (mkF m 0 #[.val (.ref a1), .val (.ref k2), .val (.ref s3), .val (.ref m4)] []))
  have K0 : Keep h0 h0 [l2, ar] := Keep.refl _ _
  show Go p e below _ (s₁.setTop (mkF m 0 #[.val (.ref a1), .val (.ref k2), .val (.ref s3), .val (.ref m4)] []))
  refine Go.by (fun t => XS.aloadN X0.here hx rfl (hb hby d16_0) rfl rfl) ?_
  show Go p e below _ (s₁.setTop (mkF m 1 #[.val (.ref a1), .val (.ref k2), .val (.ref s3), .val (.ref m4)] [(.ref a1)]))
  obtain ⟨T171, X171, e171, st171⟩ := getF X0 hx hZ hown (host := "") (Or.inl (hw _ (List.mem_of_getElem? (i := 110) rfl))) Via.refl e0 F_errors_a1 (g := (mkF m 1 #[.val (.ref a1), .val (.ref k2), .val (.ref s3), .val (.ref m4)] [(.ref a1)])) rfl rfl (hb hby d16_1)
  refine Go.by (fun t => st171 t) ?_
  show Go p e below _ (T171.setTop (mkF m 4 #[.val (.ref a1), .val (.ref k2), .val (.ref s3), .val (.ref m4)] [(.ref l2)]))
  obtain ⟨T172, h172, X172, e172, E172, A172, D172, -, st172⟩ := newO X171 hx hZ hown (hw _ (List.mem_of_getElem? (i := 133) rfl)) (hw _ (List.mem_of_getElem? (i := 134) rfl)) (hw _ (List.mem_of_getElem? (i := 135) rfl)) e171 (g := (mkF m 4 #[.val (.ref a1), .val (.ref k2), .val (.ref s3), .val (.ref m4)] [(.ref l2)])) rfl (hb hby d16_4) (by decide) (by decide)
  obtain ⟨f, g172⟩ : ∃ z, z = h0.size := ⟨_, rfl⟩
  rw [← g172] at A172 D172 st172
  refine Go.by (fun t => st172 t) ?_
  have g_f : n0 ≤ f := Nat.le_trans Z0 (Nat.le_of_eq g172.symm)
  have sz_f : h0.size ≤ f := Nat.le_trans K0.1 (Nat.le_of_eq g172.symm)
  have ne_ar_f : ar ≠ f := Nat.ne_of_lt (Nat.lt_of_lt_of_le V_ar.lt (Nat.le_of_eq g172.symm))
  have ne_k2_f : k2 ≠ f := Nat.ne_of_lt (Nat.lt_of_lt_of_le E_k2.lt (Nat.le_of_eq g172.symm))
  have ne_l2_f : l2 ≠ f := Nat.ne_of_lt (Nat.lt_of_lt_of_le E_l2.lt (Nat.le_of_eq g172.symm))
  have ne_m4_f : m4 ≠ f := Nat.ne_of_lt (Nat.lt_of_lt_of_le E_m4.lt (Nat.le_of_eq g172.symm))
  have ne_s3_f : s3 ≠ f := Nat.ne_of_lt (Nat.lt_of_lt_of_le E_s3.lt (Nat.le_of_eq g172.symm))
  replace CR := CR.trans (CHr.ext E172 CR.1)
  replace hk := Nat.le_trans hk E172.1
  replace E_l2 := E_l2.ext E172
  replace F_size_l2 := F_size_l2.ext E172
  replace F_elementData_l2 := F_elementData_l2.ext E172
  replace F_modCount_l2 := F_modCount_l2.ext E172
  replace E_k2 := E_k2.ext E172
  replace E_s3 := E_s3.ext E172
  replace E_m4 := E_m4.ext E172
  replace V_ar := V_ar.ext E172
  replace Z0 := Nat.le_trans Z0 E172.1
  replace K0 := K0.ext E172
  have E_f := A172
  have F_kind_f : Fld Z h172 f "com/example/slicewright/slicewright/report/Report$Finding" "kind" "Lcom/example/slicewright/slicewright/report/ErrorKind;" .null := D172 (Or.inr (hw _ (List.mem_of_getElem? (i := 155) rfl))) (ty := (.object "com/example/slicewright/slicewright/report/ErrorKind")) (by decide)
  have F_location_f : Fld Z h172 f "com/example/slicewright/slicewright/report/Report$Finding" "location" "Ljava/lang/String;" .null := D172 (Or.inr (hw _ (List.mem_of_getElem? (i := 157) rfl))) (ty := (.object "java/lang/String")) (by decide)
  have F_message_f : Fld Z h172 f "com/example/slicewright/slicewright/report/Report$Finding" "message" "Ljava/lang/String;" .null := D172 (Or.inr (hw _ (List.mem_of_getElem? (i := 159) rfl))) (ty := (.object "java/lang/String")) (by decide)
  replace X172 := Stand.num (C := 1) (S := 3) X172 rfl rfl
  show Go p e below _ (T172.setTop (mkF m 7 #[.val (.ref a1), .val (.ref k2), .val (.ref s3), .val (.ref m4)] [(.ref f), (.ref l2)]))
  show Go p e below _ (T172.setTop (mkF m 7 #[.val (.ref a1), .val (.ref k2), .val (.ref s3), .val (.ref m4)] [(.ref f), (.ref l2)]))
  refine Go.by (fun t => XS.dup X172.here hx rfl (hb hby d16_7) rfl rfl) ?_
  show Go p e below _ (T172.setTop (mkF m 8 #[.val (.ref a1), .val (.ref k2), .val (.ref s3), .val (.ref m4)] [(.ref f), (.ref f), (.ref l2)]))
  refine Go.by (fun t => XS.aloadN X172.here hx rfl (hb hby d16_8) rfl rfl) ?_
  show Go p e below _ (T172.setTop (mkF m 9 #[.val (.ref a1), .val (.ref k2), .val (.ref s3), .val (.ref m4)] [(.ref k2), (.ref f), (.ref f), (.ref l2)]))
  obtain ⟨c173, T173, h173, k173, X173, e173, E173, hS173, hk173, hZ173, hown173, CRn, Lit173, st173⟩ := ldcOH X172 hx hZ hown (hw _ (List.mem_of_getElem? (i := 136) rfl)) hwS e172 hS hk hEL CR.1 (g := (mkF m 9 #[.val (.ref a1), .val (.ref k2), .val (.ref s3), .val (.ref m4)] [(.ref k2), (.ref f), (.ref f), (.ref l2)])) rfl (hb hby d16_9) (n := 16) (by decide) (by decide) (by decide) (by decide)
  refine Go.by (fun t => st173 t) ?_
  replace CR := CR.trans CRn
  replace E_l2 := E_l2.ext E173
  replace F_size_l2 := F_size_l2.ext E173
  replace F_elementData_l2 := F_elementData_l2.ext E173
  replace F_modCount_l2 := F_modCount_l2.ext E173
  replace E_k2 := E_k2.ext E173
  replace E_s3 := E_s3.ext E173
  replace E_m4 := E_m4.ext E173
  replace V_ar := V_ar.ext E173
  replace E_f := E_f.ext E173
  replace F_kind_f := F_kind_f.ext E173
  replace F_location_f := F_location_f.ext E173
  replace F_message_f := F_message_f.ext E173
  replace Z0 := Nat.le_trans Z0 E173.1
  replace K0 := K0.ext E173
  clear CRn hS hk
  have hS := hS173
  have hk := hk173
  replace hZ := hZ173
  replace hown := hown173
  replace X173 := Stand.num (C := 3) (S := 23) X173 rfl rfl
  show Go p e below _ (T173.setTop (mkF m 11 #[.val (.ref a1), .val (.ref k2), .val (.ref s3), .val (.ref m4)] [(.ref c173), (.ref k2), (.ref f), (.ref f), (.ref l2)]))
  obtain ⟨_, _, ⟨T174, L174, k174, n174⟩, -, X174, ⟨Lc174, hQ174, l174, y174, z174⟩, st174⟩ := Jvm.LawKit.callS X173 hx (y := (⟨"java/util/Objects", "requireNonNull", "(Ljava/lang/Object;Ljava/lang/String;)Ljava/lang/Object;"⟩ : MethodName)) hown (mvT hZ (hw _ (List.mem_of_getElem? (i := 137) rfl))) (mvT hZ (hw _ (List.mem_of_getElem? (i := 138) rfl))) (mvT hZ (hw _ (List.mem_of_getElem? (i := 139) rfl))) (mvT hZ (hw _ (List.mem_of_getElem? (i := 140) rfl))) (by decide) (backOf (W := 3) (rm17 l Z a0 hw [] k2 c173 h173 n0) hZ (hw _ (List.mem_of_getElem? (i := 140) rfl)) (hw _ (List.mem_of_getElem? (i := 139) rfl)) (by decide) (by decide)) (g := (mkF m 11 #[.val (.ref a1), .val (.ref k2), .val (.ref s3), .val (.ref m4)] [(.ref c173), (.ref k2), (.ref f), (.ref f), (.ref l2)])) rfl (by rw [hml]; rfl) (argsL := [(.ref k2), (.ref c173)]) (rest := [(.ref f), (.ref f), (.ref l2)]) (lenOf pd_19 rfl) rfl (by show 2 * 0 + _ ≤ _; exact Nat.le_of_eq rfl) (hb hby d16_11) (fun _ _ => ⟨rfl, e173, (by decide : 3 + 0 ≤ _), (by decide : 23 + 0 ≤ _)⟩)
  dsimp only [Pt.U, Pt.locs, Pt.cells, Pt.slots] at X174 l174 y174 z174 st174 hQ174
  subst y174 z174
  obtain ⟨rfl, Nq174, e174⟩ := hQ174
  have N174 : Fr n0 L174 := by rw [l174]; exact Fr.app N0 Nq174
  clear l174
  refine Go.by (fun t => st174 t) ?_
  replace X174 := Stand.num (C := 3) (S := 23) X174 rfl rfl
  show Go p e below _ (T174.setTop (mkF m 14 #[.val (.ref a1), .val (.ref k2), .val (.ref s3), .val (.ref m4)] [(.ref k2), (.ref f), (.ref f), (.ref l2)]))
  obtain ⟨T175, X175, e175, st175⟩ := castY X174 hx hZ hown (hw _ (List.mem_of_getElem? (i := 141) rfl)) e174 (Ins.self E_k2) (g := (mkF m 14 #[.val (.ref a1), .val (.ref k2), .val (.ref s3), .val (.ref m4)] [(.ref k2), (.ref f), (.ref f), (.ref l2)])) rfl rfl (hb hby d16_14)
  refine Go.by (fun t => st175 t) ?_
  show Go p e below _ (T175.setTop (mkF m 17 #[.val (.ref a1), .val (.ref k2), .val (.ref s3), .val (.ref m4)] [(.ref k2), (.ref f), (.ref f), (.ref l2)]))
  show Go p e below _ (T175.setTop (mkF m 17 #[.val (.ref a1), .val (.ref k2), .val (.ref s3), .val (.ref m4)] [(.ref k2), (.ref f), (.ref f), (.ref l2)]))
  refine Go.by (fun t => XS.aloadN X175.here hx rfl (hb hby d16_17) rfl rfl) ?_
  show Go p e below _ (T175.setTop (mkF m 18 #[.val (.ref a1), .val (.ref k2), .val (.ref s3), .val (.ref m4)] [(.ref s3), (.ref k2), (.ref f), (.ref f), (.ref l2)]))
  obtain ⟨c176, T176, h176, k176, X176, e176, E176, hS176, hk176, hZ176, hown176, CRn, Lit176, st176⟩ := ldcOH X175 hx hZ hown (hw _ (List.mem_of_getElem? (i := 142) rfl)) hwS e175 hS hk hEL CR.1 (g := (mkF m 18 #[.val (.ref a1), .val (.ref k2), .val (.ref s3), .val (.ref m4)] [(.ref s3), (.ref k2), (.ref f), (.ref f), (.ref l2)])) rfl (hb hby d16_18) (n := 32) (by decide) (by decide) (by decide) (by decide)
  refine Go.by (fun t => st176 t) ?_
  replace CR := CR.trans CRn
  replace E_l2 := E_l2.ext E176
  replace F_size_l2 := F_size_l2.ext E176
  replace F_elementData_l2 := F_elementData_l2.ext E176
  replace F_modCount_l2 := F_modCount_l2.ext E176
  replace E_k2 := E_k2.ext E176
  replace E_s3 := E_s3.ext E176
  replace E_m4 := E_m4.ext E176
  replace V_ar := V_ar.ext E176
  replace E_f := E_f.ext E176
  replace F_kind_f := F_kind_f.ext E176
  replace F_location_f := F_location_f.ext E176
  replace F_message_f := F_message_f.ext E176
  replace Z0 := Nat.le_trans Z0 E176.1
  replace K0 := K0.ext E176
  clear CRn hS hk
  have hS := hS176
  have hk := hk176
  replace hZ := hZ176
  replace hown := hown176
  replace X176 := Stand.num (C := 5) (S := 59) X176 rfl rfl
  show Go p e below _ (T176.setTop (mkF m 20 #[.val (.ref a1), .val (.ref k2), .val (.ref s3), .val (.ref m4)] [(.ref c176), (.ref s3), (.ref k2), (.ref f), (.ref f), (.ref l2)]))
  obtain ⟨_, _, ⟨T177, L177, k177, n177⟩, -, X177, ⟨Lc177, hQ177, l177, y177, z177⟩, st177⟩ := Jvm.LawKit.callS X176 hx (y := (⟨"java/util/Objects", "requireNonNull", "(Ljava/lang/Object;Ljava/lang/String;)Ljava/lang/Object;"⟩ : MethodName)) hown (mvT hZ (hw _ (List.mem_of_getElem? (i := 137) rfl))) (mvT hZ (hw _ (List.mem_of_getElem? (i := 138) rfl))) (mvT hZ (hw _ (List.mem_of_getElem? (i := 139) rfl))) (mvT hZ (hw _ (List.mem_of_getElem? (i := 140) rfl))) (by decide) (backOf (W := 4) (rm17 l Z a0 hw [] s3 c176 h176 n0) hZ (hw _ (List.mem_of_getElem? (i := 140) rfl)) (hw _ (List.mem_of_getElem? (i := 139) rfl)) (by decide) (by decide)) (g := (mkF m 20 #[.val (.ref a1), .val (.ref k2), .val (.ref s3), .val (.ref m4)] [(.ref c176), (.ref s3), (.ref k2), (.ref f), (.ref f), (.ref l2)])) rfl (by rw [hml]; rfl) (argsL := [(.ref s3), (.ref c176)]) (rest := [(.ref k2), (.ref f), (.ref f), (.ref l2)]) (lenOf pd_19 rfl) rfl (by show 2 * 0 + _ ≤ _; exact Nat.le_of_eq rfl) (hb hby d16_20) (fun _ _ => ⟨rfl, e176, (by decide : 5 + 0 ≤ _), (by decide : 59 + 0 ≤ _)⟩)
  dsimp only [Pt.U, Pt.locs, Pt.cells, Pt.slots] at X177 l177 y177 z177 st177 hQ177
  subst y177 z177
  obtain ⟨rfl, Nq177, e177⟩ := hQ177
  have N177 : Fr n0 L177 := by rw [l177]; exact Fr.app N174 Nq177
  clear l177
  refine Go.by (fun t => st177 t) ?_
  replace X177 := Stand.num (C := 5) (S := 59) X177 rfl rfl
  show Go p e below _ (T177.setTop (mkF m 23 #[.val (.ref a1), .val (.ref k2), .val (.ref s3), .val (.ref m4)] [(.ref s3), (.ref k2), (.ref f), (.ref f), (.ref l2)]))
  obtain ⟨T178, X178, e178, st178⟩ := castY X177 hx hZ hown (hw _ (List.mem_of_getElem? (i := 143) rfl)) e177 (Ins.self E_s3) (g := (mkF m 23 #[.val (.ref a1), .val (.ref k2), .val (.ref s3), .val (.ref m4)] [(.ref s3), (.ref k2), (.ref f), (.ref f), (.ref l2)])) rfl rfl (hb hby d16_23)
  refine Go.by (fun t => st178 t) ?_
  show Go p e below _ (T178.setTop (mkF m 26 #[.val (.ref a1), .val (.ref k2), .val (.ref s3), .val (.ref m4)] [(.ref s3), (.ref k2), (.ref f), (.ref f), (.ref l2)]))
  show Go p e below _ (T178.setTop (mkF m 26 #[.val (.ref a1), .val (.ref k2), .val (.ref s3), .val (.ref m4)] [(.ref s3), (.ref k2), (.ref f), (.ref f), (.ref l2)]))
  refine Go.by (fun t => XS.aloadN X178.here hx rfl (hb hby d16_26) rfl rfl) ?_
  show Go p e below _ (T178.setTop (mkF m 27 #[.val (.ref a1), .val (.ref k2), .val (.ref s3), .val (.ref m4)] [(.ref m4), (.ref s3), (.ref k2), (.ref f), (.ref f), (.ref l2)]))
  obtain ⟨c179, T179, h179, k179, X179, e179, E179, hS179, hk179, hZ179, hown179, CRn, Lit179, st179⟩ := ldcOH X178 hx hZ hown (hw _ (List.mem_of_getElem? (i := 144) rfl)) hwS e178 hS hk hEL CR.1 (g := (mkF m 27 #[.val (.ref a1), .val (.ref k2), .val (.ref s3), .val (.ref m4)] [(.ref m4), (.ref s3), (.ref k2), (.ref f), (.ref f), (.ref l2)])) rfl (hb hby d16_27) (n := 28) (by decide) (by decide) (by decide) (by decide)
  refine Go.by (fun t => st179 t) ?_
  replace CR := CR.trans CRn
  replace E_l2 := E_l2.ext E179
  replace F_size_l2 := F_size_l2.ext E179
  replace F_elementData_l2 := F_elementData_l2.ext E179
  replace F_modCount_l2 := F_modCount_l2.ext E179
  replace E_k2 := E_k2.ext E179
  replace E_s3 := E_s3.ext E179
  replace E_m4 := E_m4.ext E179
  replace V_ar := V_ar.ext E179
  replace E_f := E_f.ext E179
  replace F_kind_f := F_kind_f.ext E179
  replace F_location_f := F_location_f.ext E179
  replace F_message_f := F_message_f.ext E179
  replace Z0 := Nat.le_trans Z0 E179.1
  replace K0 := K0.ext E179
  clear CRn hS hk
  have hS := hS179
  have hk := hk179
  replace hZ := hZ179
  replace hown := hown179
  replace X179 := Stand.num (C := 7) (S := 91) X179 rfl rfl
  show Go p e below _ (T179.setTop (mkF m 29 #[.val (.ref a1), .val (.ref k2), .val (.ref s3), .val (.ref m4)] [(.ref c179), (.ref m4), (.ref s3), (.ref k2), (.ref f), (.ref f), (.ref l2)]))
  obtain ⟨_, _, ⟨T180, L180, k180, n180⟩, -, X180, ⟨Lc180, hQ180, l180, y180, z180⟩, st180⟩ := Jvm.LawKit.callS X179 hx (y := (⟨"java/util/Objects", "requireNonNull", "(Ljava/lang/Object;Ljava/lang/String;)Ljava/lang/Object;"⟩ : MethodName)) hown (mvT hZ (hw _ (List.mem_of_getElem? (i := 137) rfl))) (mvT hZ (hw _ (List.mem_of_getElem? (i := 138) rfl))) (mvT hZ (hw _ (List.mem_of_getElem? (i := 139) rfl))) (mvT hZ (hw _ (List.mem_of_getElem? (i := 140) rfl))) (by decide) (backOf (W := 5) (rm17 l Z a0 hw [] m4 c179 h179 n0) hZ (hw _ (List.mem_of_getElem? (i := 140) rfl)) (hw _ (List.mem_of_getElem? (i := 139) rfl)) (by decide) (by decide)) (g := (mkF m 29 #[.val (.ref a1), .val (.ref k2), .val (.ref s3), .val (.ref m4)] [(.ref c179), (.ref m4), (.ref s3), (.ref k2), (.ref f), (.ref f), (.ref l2)])) rfl (by rw [hml]; rfl) (argsL := [(.ref m4), (.ref c179)]) (rest := [(.ref s3), (.ref k2), (.ref f), (.ref f), (.ref l2)]) (lenOf pd_19 rfl) rfl (by show 2 * 0 + _ ≤ _; exact Nat.le_of_eq rfl) (hb hby d16_29) (fun _ _ => ⟨rfl, e179, (by decide : 7 + 0 ≤ _), (by decide : 91 + 0 ≤ _)⟩)
  dsimp only [Pt.U, Pt.locs, Pt.cells, Pt.slots] at X180 l180 y180 z180 st180 hQ180
  subst y180 z180
  obtain ⟨rfl, Nq180, e180⟩ := hQ180
  have N180 : Fr n0 L180 := by rw [l180]; exact Fr.app N177 Nq180
  clear l180
  refine Go.by (fun t => st180 t) ?_
  replace X180 := Stand.num (C := 7) (S := 91) X180 rfl rfl
  show Go p e below _ (T180.setTop (mkF m 32 #[.val (.ref a1), .val (.ref k2), .val (.ref s3), .val (.ref m4)] [(.ref m4), (.ref s3), (.ref k2), (.ref f), (.ref f), (.ref l2)]))
  obtain ⟨T181, X181, e181, st181⟩ := castY X180 hx hZ hown (hw _ (List.mem_of_getElem? (i := 143) rfl)) e180 (Ins.self E_m4) (g := (mkF m 32 #[.val (.ref a1), .val (.ref k2), .val (.ref s3), .val (.ref m4)] [(.ref m4), (.ref s3), (.ref k2), (.ref f), (.ref f), (.ref l2)])) rfl rfl (hb hby d16_32)
  refine Go.by (fun t => st181 t) ?_
  show Go p e below _ (T181.setTop (mkF m 35 #[.val (.ref a1), .val (.ref k2), .val (.ref s3), .val (.ref m4)] [(.ref m4), (.ref s3), (.ref k2), (.ref f), (.ref f), (.ref l2)]))
  show Go p e below _ (T181.setTop (mkF m 35 #[.val (.ref a1), .val (.ref k2), .val (.ref s3), .val (.ref m4)] [(.ref m4), (.ref s3), (.ref k2), (.ref f), (.ref f), (.ref l2)]))
  obtain ⟨_, _, ⟨T182, L182, k182, n182⟩, -, X182, ⟨Lc182, hQ182, l182, y182, z182⟩, st182⟩ := X181.specialBack hx (y := (⟨"com/example/slicewright/slicewright/report/Report$Finding", "<init>", "(Lcom/example/slicewright/slicewright/report/ErrorKind;Ljava/lang/String;Ljava/lang/String;)V"⟩ : MethodName)) rfl hown (mvT hZ (hw _ (List.mem_of_getElem? (i := 145) rfl))) (mvT hZ (hw _ (List.mem_of_getElem? (i := 146) rfl))) (mvT hZ (hw _ (List.mem_of_getElem? (i := 147) rfl))) (by decide) (backOf (W := 2) (rm18 l Z a0 hw [] f k2 s3 m4 h179 n0 E_f F_kind_f F_location_f F_message_f g_f) hZ (hw _ (List.mem_of_getElem? (i := 147) rfl)) (hw _ (List.mem_of_getElem? (i := 135) rfl)) (by decide) (by decide)) (g := (mkF m 35 #[.val (.ref a1), .val (.ref k2), .val (.ref s3), .val (.ref m4)] [(.ref m4), (.ref s3), (.ref k2), (.ref f), (.ref f), (.ref l2)])) rfl (by rw [hml]; rfl) (Steps.refl _) (a := f) (argsL := [(.ref k2), (.ref s3), (.ref m4)]) (rest := [(.ref f), (.ref l2)]) (lenOf pd_4 rfl) rfl (by show 2 * 0 + _ ≤ _; exact Nat.le_of_eq rfl) (hb hby d16_35) (fun _ _ => ⟨rfl, e181, (by decide : 7 + 0 ≤ _), (by decide : 91 + 0 ≤ _)⟩)
  dsimp only [Pt.U, Pt.locs, Pt.cells, Pt.slots] at X182 l182 y182 z182 st182 hQ182
  subst y182 z182
  obtain ⟨rfl, Nq182, K182, Fk, Fl, Fm⟩ := hQ182
  have N182 : Fr n0 L182 := by rw [l182]; exact Fr.app N180 Nq182
  clear l182
  refine Go.by (fun t => st182.trans) ?_
  replace X182 := Stand.num (C := 7) (S := 91) X182 rfl rfl
  have Sfw := ((sfS (Safe.exa hZ.alike E_f (by decide) (by decide)) sf0) : ∀ x ∈ [f], Safe Z EL T179.vm h179 x)
  replace CR := CR.trans (CHr.keep K182 Sfw CR.1)
  clear Sfw
  replace hk := Nat.le_trans hk K182.1
  replace E_l2 := E_l2.keep K182
  replace F_size_l2 := F_size_l2.keep K182 (ninS ne_l2_f nin0)
  replace F_elementData_l2 := F_elementData_l2.keep K182 (ninS ne_l2_f nin0)
  replace F_modCount_l2 := F_modCount_l2.keep K182 (ninS ne_l2_f nin0)
  replace E_k2 := E_k2.keep K182
  replace E_s3 := E_s3.keep K182
  replace E_m4 := E_m4.keep K182
  replace V_ar := V_ar.keep K182 (ninS ne_ar_f nin0)
  replace E_f := E_f.keep K182
  replace Z0 := Nat.le_trans Z0 K182.1
  replace K0 := K0.trans K182 (allS (P := fun x => x ∈ _ ∨ _ ≤ x) (Or.inr sz_f) all0)
  show Go p e below _ (T182.setTop (mkF m 38 #[.val (.ref a1), .val (.ref k2), .val (.ref s3), .val (.ref m4)] [(.ref f), (.ref l2)]))
  show Go p e below _ (T182.setTop (mkF m 38 #[.val (.ref a1), .val (.ref k2), .val (.ref s3), .val (.ref m4)] [(.ref f), (.ref l2)]))
  obtain ⟨cq183, kq183, q183a, q183b, q183c⟩ := isOf hZ rfl E_l2
  obtain ⟨_, _, ⟨T183, L183, k183, n183⟩, -, X183, ⟨Lc183, hQ183, l183, y183, z183⟩, st183⟩ := X182.interfaceBack hx (xi := (⟨"java/util/List", "add", "(Ljava/lang/Object;)Z"⟩ : MethodName)) (y := (⟨"java/util/ArrayList", "add", "(Ljava/lang/Object;)Z"⟩ : MethodName)) hown (mvT hZ (hw _ (List.mem_of_getElem? (i := 160) rfl))) (mvT hZ (hw _ (List.mem_of_getElem? (i := 161) rfl))) (mvT hZ (hw _ (List.mem_of_getElem? (i := 162) rfl))) (mvT hZ (hw _ (List.mem_of_getElem? (i := 163) rfl))) (mvT hZ (hw _ (List.mem_of_getElem? (i := 164) rfl))) (mvT hZ (hw _ (List.mem_of_getElem? (i := 165) rfl))) (mvT hZ (hw _ (List.mem_of_getElem? (i := 166) rfl))) (mvT hZ (hw _ (List.mem_of_getElem? (i := 124) rfl))) (by decide) (backOf (W := 0) (rmA1b l Z a0 hw [] l2 x1 f ar kc mc T182.heap n0 E_l2 F_size_l2 F_elementData_l2 F_modCount_l2 g_l2 g_ar Ov V_ar E_f) hZ (hw _ (List.mem_of_getElem? (i := 167) rfl)) (hw _ (List.mem_of_getElem? (i := 86) rfl)) (by decide) (by decide)) q183a q183b q183c (g := (mkF m 38 #[.val (.ref a1), .val (.ref k2), .val (.ref s3), .val (.ref m4)] [(.ref f), (.ref l2)])) rfl (by rw [hml]; rfl) (Steps.refl _) (argsL := [(.ref f)]) (rest := []) (lenOf pd_10 rfl) rfl (by show 2 * 0 + _ ≤ _; exact Nat.le_of_eq rfl) (hb hby d16_38) (fun _ _ => ⟨rfl, rfl, (by decide : 7 + 0 ≤ _), (by decide : 91 + 0 ≤ _)⟩)
  dsimp only [Pt.U, Pt.locs, Pt.cells, Pt.slots] at X183 l183 y183 z183 st183 hQ183
  subst y183 z183
  obtain ⟨rfl, Nq183, K183, V_arn, Fz, Fe, Fc⟩ := hQ183
  have ne_l2_ar : l2 ≠ ar := Exa.neArv E_l2 V_ar (hw _ (List.mem_of_getElem? (i := 85) rfl))
  have N183 : Fr n0 L183 := by rw [l183]; exact Fr.app N182 Nq183
  clear l183
  refine Go.by (fun t => st183.trans) ?_
  replace X183 := Stand.num (C := 7) (S := 91) X183 rfl rfl
  have Sfw := ((sfS (Safe.exa hZ.alike E_l2 (by decide) (by decide)) (sfS (Safe.arv hZ.alike V_ar (by decide)) sf0)) : ∀ x ∈ [l2, ar], Safe Z EL T179.vm T182.heap x)
  replace CR := CR.trans (CHr.keep K183 Sfw CR.1)
  clear Sfw
  replace hk := Nat.le_trans hk K183.1
  replace E_l2 := E_l2.keep K183
  replace E_k2 := E_k2.keep K183
  replace E_s3 := E_s3.keep K183
  replace E_m4 := E_m4.keep K183
  replace E_f := E_f.keep K183
  replace Fk := Fk.keep K183 (ninS (Ne.symm ne_l2_f) (ninS (Ne.symm ne_ar_f) nin0))
  replace Fl := Fl.keep K183 (ninS (Ne.symm ne_l2_f) (ninS (Ne.symm ne_ar_f) nin0))
  replace Fm := Fm.keep K183 (ninS (Ne.symm ne_l2_f) (ninS (Ne.symm ne_ar_f) nin0))
  replace Z0 := Nat.le_trans Z0 K183.1
  replace K0 := K0.trans K183 (allS (P := fun x => x ∈ _ ∨ _ ≤ x) (Or.inl (List.mem_of_getElem? (i := 0) rfl)) (allS (P := fun x => x ∈ _ ∨ _ ≤ x) (Or.inl (List.mem_of_getElem? (i := 1) rfl)) all0))
  show Go p e below _ (T183.setTop (mkF m 43 #[.val (.ref a1), .val (.ref k2), .val (.ref s3), .val (.ref m4)] [(.int (1 : Int32))]))
  show Go p e below _ (T183.setTop (mkF m 43 #[.val (.ref a1), .val (.ref k2), .val (.ref s3), .val (.ref m4)] [(.int (1 : Int32))]))
  refine Go.by (fun t => XS.pop X183.here hx rfl (hb hby d16_43) rfl rfl) ?_
  show Go p e below _ (T183.setTop (mkF m 44 #[.val (.ref a1), .val (.ref k2), .val (.ref s3), .val (.ref m4)] []))
  exact Go.ret0W X183 hS hk CR hZ hEL hx Bd.returns Bd.notSynchronized (hb hby d16_44) (by decide) (by decide) ⟨f, rfl, sz_f, N183, K0, E_f, Fk, Fl, Fm, V_arn, Fz, Fe, Fc⟩
def Q_rm29 (Z : State) (a1 l2 : Addr) (h0 : Heap) (n0 : Nat) : Option Value → Heap → List Loc → Prop := fun v h L => v = none ∧ Fr n0 L ∧ Keep h0 h [a1] ∧ Exa Z h a1 "java/util/Collections$UnmodifiableRandomAccessList" ∧ Fld Z h a1 "java/util/Collections$UnmodifiableCollection" "c" "Ljava/util/Collection;" (.ref l2) ∧ Fld Z h a1 "java/util/Collections$UnmodifiableList" "list" "Ljava/util/List;" .null
set_option maxRecDepth 65536 in
set_option maxHeartbeats 40000000 in
theorem rm29 (l : Launch) (Z : State) (a0 : Array Value) (hw : ∀ d ∈ tables_1, d.before a0 Z = true) (ws : List Jvm.Cond) (a1 l2 : Addr) (h0 : Heap) (n0 : Nat) (E_a1 : Exa Z h0 a1 "java/util/Collections$UnmodifiableRandomAccessList") (F_c_a1 : Fld Z h0 a1 "java/util/Collections$UnmodifiableCollection" "c" "Ljava/util/Collection;" .null) (F_list_a1 : Fld Z h0 a1 "java/util/Collections$UnmodifiableList" "list" "Ljava/util/List;" .null) (g_a1 : n0 ≤ a1) :
    MetFree l (⟨"java/util/Collections$UnmodifiableCollection", "<init>", "(Ljava/util/Collection;)V"⟩ : MethodName) (head1 (Jvm.Cond.code (⟨"java/util/Collections$UnmodifiableCollection", "<init>", "(Ljava/util/Collection;)V"⟩ : MethodName) jdk_119_method_1_code 2 none :: ws) ({ frames := 1, cells := 0, slots := 0, locals := 12 } : Room)) (fun a U => a = #[(.ref a1), (.ref l2)] ∧ Z.Warmed39 U.vm ∧ U.heap = h0) (fun _ _ _ _ _ => True) (fun _ U o U' => ∃ v L, o = .returned v ∧ Q_rm29 Z a1 l2 h0 n0 v U'.heap L ∧ FrameEnd U o U' L ({ frames := 1, cells := 0, slots := 0, locals := 12 } : Room).cells ({ frames := 1, cells := 0, slots := 0, locals := 12 } : Room).slots) := by
  refine MetFree.of_bodySF (plainFor_of_name pn_13) hisR ?_
  intro p e s m args below meth c s₁ Bd hml0 hP hK
  obtain ⟨rfl, hZ, hh⟩ := hP
  have hx := Bd.exec
  have hby := Bd.bytes
  have hml : c.maxLocals = 2 := hml0
  have hown : s.vm.findClass "java/util/Collections$UnmodifiableCollection" = some m.cls := findClass_of_methodNamed Bd.named
  have hnm := (name_of_methodNamed Bd.named Bd.method).1
  have X0 : Stand p l e ({ frames := 1, cells := 0, slots := 0, locals := 12 } : Room) s m #[(.ref a1), (.ref l2)] below meth c s₁ [] 0 0 := Stand.of_body Bd
  have e0 : s₁.heap = h0 := by rw [← hh, Bd.state]; rfl
  have N0 := Fr.nil n0
  have ef : entryFrame m #[(.ref a1), (.ref l2)] 2 = (mkF m 0 #[.val (.ref a1), .val (.ref l2)] []) := by first | (simp [entryFrame, mkF, argsToLocals, Value.category, maxLocals]; done) | rfl
  show Go p e below (End (fun v h L => v = none ∧ Fr n0 L ∧ Keep h0 h [a1] ∧ Exa Z h a1 "java/util/Collections$UnmodifiableRandomAccessList" ∧ Fld Z h a1 "java/util/Collections$UnmodifiableCollection" "c" "Ljava/util/Collection;" (.ref l2) ∧ Fld Z h a1 "java/util/Collections$UnmodifiableList" "list" "Ljava/util/List;" .null) s 0 0) (s₁.setTop (entryFrame m #[(.ref a1), (.ref l2)] 2))
  rw [ef]
  show Go p e below _ (s₁.setTop (mkF m 0 #[.val (.ref a1), .val (.ref l2)] []))
  have K0 : Keep h0 h0 [a1] := Keep.refl _ _
  show Go p e below _ (s₁.setTop (mkF m 0 #[.val (.ref a1), .val (.ref l2)] []))
  refine Go.by (fun t => XS.aloadN X0.here hx rfl (hb hby d29_0) rfl rfl) ?_
  show Go p e below _ (s₁.setTop (mkF m 1 #[.val (.ref a1), .val (.ref l2)] [(.ref a1)]))
  obtain ⟨T184, X184, e184, st184⟩ := initO X0 hx hZ hown (hw _ (List.mem_of_getElem? (i := 234) rfl)) (hw _ (List.mem_of_getElem? (i := 60) rfl)) (hw _ (List.mem_of_getElem? (i := 61) rfl)) e0 (g := (mkF m 1 #[.val (.ref a1), .val (.ref l2)] [(.ref a1)])) rfl (by rw [hml]; rfl) rfl (hb hby d29_1) (by decide) (W := 0) (by show 2 * 0 + _ ≤ _; exact Nat.le_of_eq rfl) (by decide)
  refine Go.by (fun t => st184 t) ?_
  show Go p e below _ (T184.setTop (mkF m 4 #[.val (.ref a1), .val (.ref l2)] []))
  show Go p e below _ (T184.setTop (mkF m 4 #[.val (.ref a1), .val (.ref l2)] []))
  refine Go.by (fun t => XS.aloadN X184.here hx rfl (hb hby d29_4) rfl rfl) ?_
  show Go p e below _ (T184.setTop (mkF m 5 #[.val (.ref a1), .val (.ref l2)] [(.ref l2)]))
  refine Go.by (fun t => XS.ifnonnullYes X184.here hx rfl (pc0 := 5) (pc' := 16) rfl (hb hby d29_5) rfl (by decide) (by decide)) ?_
  show Go p e below _ (T184.setTop (mkF m 16 #[.val (.ref a1), .val (.ref l2)] []))
  show Go p e below _ (T184.setTop (mkF m 16 #[.val (.ref a1), .val (.ref l2)] []))
  refine Go.by (fun t => XS.aloadN X184.here hx rfl (hb hby d29_16) rfl rfl) ?_
  show Go p e below _ (T184.setTop (mkF m 17 #[.val (.ref a1), .val (.ref l2)] [(.ref a1)]))
  refine Go.by (fun t => XS.aloadN X184.here hx rfl (hb hby d29_17) rfl rfl) ?_
  show Go p e below _ (T184.setTop (mkF m 18 #[.val (.ref a1), .val (.ref l2)] [(.ref l2), (.ref a1)]))
  obtain ⟨T185, h185, X185, e185, W185, st185⟩ := putF X184 hx hZ hown (host := "") (Or.inl (hw _ (List.mem_of_getElem? (i := 235) rfl))) Via.refl e184 F_c_a1 E_a1 (Or.inr ⟨(hw _ (List.mem_of_getElem? (i := 236) rfl)), rfl, hnm⟩) (hw _ (List.mem_of_getElem? (i := 217) rfl)) (ty := (.object "java/util/Collection")) (by decide) rfl rfl (g := (mkF m 18 #[.val (.ref a1), .val (.ref l2)] [(.ref l2), (.ref a1)])) rfl rfl (hb hby d29_18)
  refine Go.by (fun t => st185 t) ?_
  replace F_c_a1 := F_c_a1.same W185
  replace E_a1 := E_a1.wr W185
  replace F_list_a1 := F_list_a1.other W185 (Or.inr (slot_ne (Or.inr (hw _ (List.mem_of_getElem? (i := 238) rfl))) (Or.inr (hw _ (List.mem_of_getElem? (i := 236) rfl))) (by decide) (t := (.object "java/util/List")) (t' := (.object "java/util/Collection")) (by decide) (by decide)))
  replace K0 := K0.wr W185 (Or.inl (List.mem_of_getElem? (i := 0) rfl))
  have N185 := Fr.snoc X185 N0 g_a1
  show Go p e below _ (T185.setTop (mkF m 21 #[.val (.ref a1), .val (.ref l2)] []))
  show Go p e below _ (T185.setTop (mkF m 21 #[.val (.ref a1), .val (.ref l2)] []))
  exact Go.ret0 X185 hx Bd.returns Bd.notSynchronized (hb hby d29_21) (by decide) (by decide) (by first | (rw [e185]; exact ⟨rfl, N185, K0, E_a1, F_c_a1, F_list_a1⟩) | exact ⟨rfl, N185, K0, E_a1, F_c_a1, F_list_a1⟩)
def Q_rm28 (Z : State) (a1 l2 : Addr) (h0 : Heap) (n0 : Nat) : Option Value → Heap → List Loc → Prop := fun v h L => v = none ∧ Fr n0 L ∧ Keep h0 h [a1] ∧ Exa Z h a1 "java/util/Collections$UnmodifiableRandomAccessList" ∧ Fld Z h a1 "java/util/Collections$UnmodifiableCollection" "c" "Ljava/util/Collection;" (.ref l2) ∧ Fld Z h a1 "java/util/Collections$UnmodifiableList" "list" "Ljava/util/List;" (.ref l2)
set_option maxRecDepth 65536 in
set_option maxHeartbeats 40000000 in
theorem rm28 (l : Launch) (Z : State) (a0 : Array Value) (hw : ∀ d ∈ tables_1, d.before a0 Z = true) (ws : List Jvm.Cond) (a1 l2 : Addr) (h0 : Heap) (n0 : Nat) (E_a1 : Exa Z h0 a1 "java/util/Collections$UnmodifiableRandomAccessList") (F_c_a1 : Fld Z h0 a1 "java/util/Collections$UnmodifiableCollection" "c" "Ljava/util/Collection;" .null) (F_list_a1 : Fld Z h0 a1 "java/util/Collections$UnmodifiableList" "list" "Ljava/util/List;" .null) (g_a1 : n0 ≤ a1) :
    MetFree l (⟨"java/util/Collections$UnmodifiableList", "<init>", "(Ljava/util/List;)V"⟩ : MethodName) (head1 (Jvm.Cond.code (⟨"java/util/Collections$UnmodifiableList", "<init>", "(Ljava/util/List;)V"⟩ : MethodName) jdk_120_method_1_code 2 none :: ws) ({ frames := 2, cells := 0, slots := 0, locals := 25 } : Room)) (fun a U => a = #[(.ref a1), (.ref l2)] ∧ Z.Warmed39 U.vm ∧ U.heap = h0) (fun _ _ _ _ _ => True) (fun _ U o U' => ∃ v L, o = .returned v ∧ Q_rm28 Z a1 l2 h0 n0 v U'.heap L ∧ FrameEnd U o U' L ({ frames := 2, cells := 0, slots := 0, locals := 25 } : Room).cells ({ frames := 2, cells := 0, slots := 0, locals := 25 } : Room).slots) := by
  refine MetFree.of_bodySF (plainFor_of_name pn_12) hisR ?_
  intro p e s m args below meth c s₁ Bd hml0 hP hK
  obtain ⟨rfl, hZ, hh⟩ := hP
  have hx := Bd.exec
  have hby := Bd.bytes
  have hml : c.maxLocals = 2 := hml0
  have hown : s.vm.findClass "java/util/Collections$UnmodifiableList" = some m.cls := findClass_of_methodNamed Bd.named
  have hnm := (name_of_methodNamed Bd.named Bd.method).1
  have X0 : Stand p l e ({ frames := 2, cells := 0, slots := 0, locals := 25 } : Room) s m #[(.ref a1), (.ref l2)] below meth c s₁ [] 0 0 := Stand.of_body Bd
  have e0 : s₁.heap = h0 := by rw [← hh, Bd.state]; rfl
  have N0 := Fr.nil n0
  have ef : entryFrame m #[(.ref a1), (.ref l2)] 2 = (mkF m 0 #[.val (.ref a1), .val (.ref l2)] []) := by first | (simp [entryFrame, mkF, argsToLocals, Value.category, maxLocals]; done) | rfl
  show Go p e below (End (fun v h L => v = none ∧ Fr n0 L ∧ Keep h0 h [a1] ∧ Exa Z h a1 "java/util/Collections$UnmodifiableRandomAccessList" ∧ Fld Z h a1 "java/util/Collections$UnmodifiableCollection" "c" "Ljava/util/Collection;" (.ref l2) ∧ Fld Z h a1 "java/util/Collections$UnmodifiableList" "list" "Ljava/util/List;" (.ref l2)) s 0 0) (s₁.setTop (entryFrame m #[(.ref a1), (.ref l2)] 2))
  rw [ef]
  show Go p e below _ (s₁.setTop (mkF m 0 #[.val (.ref a1), .val (.ref l2)] []))
  have K0 : Keep h0 h0 [a1] := Keep.refl _ _
  show Go p e below _ (s₁.setTop (mkF m 0 #[.val (.ref a1), .val (.ref l2)] []))
  refine Go.by (fun t => XS.aloadN X0.here hx rfl (hb hby d28_0) rfl rfl) ?_
  show Go p e below _ (s₁.setTop (mkF m 1 #[.val (.ref a1), .val (.ref l2)] [(.ref a1)]))
  refine Go.by (fun t => XS.aloadN X0.here hx rfl (hb hby d28_1) rfl rfl) ?_
  show Go p e below _ (s₁.setTop (mkF m 2 #[.val (.ref a1), .val (.ref l2)] [(.ref l2), (.ref a1)]))
  obtain ⟨_, _, ⟨T186, L186, k186, n186⟩, -, X186, ⟨Lc186, hQ186, l186, y186, z186⟩, st186⟩ := X0.specialBack hx (y := (⟨"java/util/Collections$UnmodifiableCollection", "<init>", "(Ljava/util/Collection;)V"⟩ : MethodName)) rfl hown (mvT hZ (hw _ (List.mem_of_getElem? (i := 228) rfl))) (mvT hZ (hw _ (List.mem_of_getElem? (i := 229) rfl))) (mvT hZ (hw _ (List.mem_of_getElem? (i := 233) rfl))) (by decide) (backOf (W := 0) (rm29 l Z a0 hw [] a1 l2 h0 n0 E_a1 F_c_a1 F_list_a1 g_a1) hZ (hw _ (List.mem_of_getElem? (i := 233) rfl)) (hw _ (List.mem_of_getElem? (i := 232) rfl)) (by decide) (by decide)) (g := (mkF m 2 #[.val (.ref a1), .val (.ref l2)] [(.ref l2), (.ref a1)])) rfl (by rw [hml]; rfl) (Steps.refl _) (a := a1) (argsL := [(.ref l2)]) (rest := []) (lenOf pd_27 rfl) rfl (by show 2 * 0 + _ ≤ _; exact Nat.le_of_eq rfl) (hb hby d28_2) (fun _ _ => ⟨rfl, e0, (by decide : 0 + 0 ≤ _), (by decide : 0 + 0 ≤ _)⟩)
  dsimp only [Pt.U, Pt.locs, Pt.cells, Pt.slots] at X186 l186 y186 z186 st186 hQ186
  subst y186 z186
  obtain ⟨rfl, Nq186, K186, E_n, Fc, Fl⟩ := hQ186
  have N186 : Fr n0 L186 := by rw [l186]; exact Fr.app N0 Nq186
  clear l186
  refine Go.by (fun t => st186.trans) ?_
  replace X186 := Stand.num (C := 0) (S := 0) X186 rfl rfl
  replace E_a1 := E_a1.keep K186
  replace K0 := K0.trans K186 (allS (P := fun x => x ∈ _ ∨ _ ≤ x) (Or.inl (List.mem_of_getElem? (i := 0) rfl)) all0)
  show Go p e below _ (T186.setTop (mkF m 5 #[.val (.ref a1), .val (.ref l2)] []))
  have F_c_a1 := Fc
  have F_list_a1 := Fl
  show Go p e below _ (T186.setTop (mkF m 5 #[.val (.ref a1), .val (.ref l2)] []))
  refine Go.by (fun t => XS.aloadN X186.here hx rfl (hb hby d28_5) rfl rfl) ?_
  show Go p e below _ (T186.setTop (mkF m 6 #[.val (.ref a1), .val (.ref l2)] [(.ref a1)]))
  refine Go.by (fun t => XS.aloadN X186.here hx rfl (hb hby d28_6) rfl rfl) ?_
  show Go p e below _ (T186.setTop (mkF m 7 #[.val (.ref a1), .val (.ref l2)] [(.ref l2), (.ref a1)]))
  obtain ⟨T187, h187, X187, e187, W187, st187⟩ := putF X186 hx hZ hown (host := "") (Or.inl (hw _ (List.mem_of_getElem? (i := 237) rfl))) Via.refl rfl F_list_a1 E_a1 (Or.inr ⟨(hw _ (List.mem_of_getElem? (i := 238) rfl)), rfl, hnm⟩) (hw _ (List.mem_of_getElem? (i := 217) rfl)) (ty := (.object "java/util/List")) (by decide) rfl rfl (g := (mkF m 7 #[.val (.ref a1), .val (.ref l2)] [(.ref l2), (.ref a1)])) rfl rfl (hb hby d28_7)
  refine Go.by (fun t => st187 t) ?_
  replace F_list_a1 := F_list_a1.same W187
  replace E_a1 := E_a1.wr W187
  replace F_c_a1 := F_c_a1.other W187 (Or.inr (slot_ne (Or.inr (hw _ (List.mem_of_getElem? (i := 236) rfl))) (Or.inr (hw _ (List.mem_of_getElem? (i := 238) rfl))) (by decide) (t := (.object "java/util/Collection")) (t' := (.object "java/util/List")) (by decide) (by decide)))
  replace K0 := K0.wr W187 (Or.inl (List.mem_of_getElem? (i := 0) rfl))
  have N187 := Fr.snoc X187 N186 g_a1
  show Go p e below _ (T187.setTop (mkF m 10 #[.val (.ref a1), .val (.ref l2)] []))
  show Go p e below _ (T187.setTop (mkF m 10 #[.val (.ref a1), .val (.ref l2)] []))
  exact Go.ret0 X187 hx Bd.returns Bd.notSynchronized (hb hby d28_10) (by decide) (by decide) (by first | (rw [e187]; exact ⟨rfl, N187, K0, E_a1, F_c_a1, F_list_a1⟩) | exact ⟨rfl, N187, K0, E_a1, F_c_a1, F_list_a1⟩)
def Q_rm27 (Z : State) (a1 l2 : Addr) (h0 : Heap) (n0 : Nat) : Option Value → Heap → List Loc → Prop := fun v h L => v = none ∧ Fr n0 L ∧ Keep h0 h [a1] ∧ Exa Z h a1 "java/util/Collections$UnmodifiableRandomAccessList" ∧ Fld Z h a1 "java/util/Collections$UnmodifiableCollection" "c" "Ljava/util/Collection;" (.ref l2) ∧ Fld Z h a1 "java/util/Collections$UnmodifiableList" "list" "Ljava/util/List;" (.ref l2)
set_option maxRecDepth 65536 in
set_option maxHeartbeats 40000000 in
theorem rm27 (l : Launch) (Z : State) (a0 : Array Value) (hw : ∀ d ∈ tables_1, d.before a0 Z = true) (ws : List Jvm.Cond) (a1 l2 : Addr) (h0 : Heap) (n0 : Nat) (E_a1 : Exa Z h0 a1 "java/util/Collections$UnmodifiableRandomAccessList") (F_c_a1 : Fld Z h0 a1 "java/util/Collections$UnmodifiableCollection" "c" "Ljava/util/Collection;" .null) (F_list_a1 : Fld Z h0 a1 "java/util/Collections$UnmodifiableList" "list" "Ljava/util/List;" .null) (g_a1 : n0 ≤ a1) :
    MetFree l (⟨"java/util/Collections$UnmodifiableRandomAccessList", "<init>", "(Ljava/util/List;)V"⟩ : MethodName) (head1 (Jvm.Cond.code (⟨"java/util/Collections$UnmodifiableRandomAccessList", "<init>", "(Ljava/util/List;)V"⟩ : MethodName) jdk_121_method_1_code 2 none :: ws) ({ frames := 3, cells := 0, slots := 0, locals := 38 } : Room)) (fun a U => a = #[(.ref a1), (.ref l2)] ∧ Z.Warmed39 U.vm ∧ U.heap = h0) (fun _ _ _ _ _ => True) (fun _ U o U' => ∃ v L, o = .returned v ∧ Q_rm27 Z a1 l2 h0 n0 v U'.heap L ∧ FrameEnd U o U' L ({ frames := 3, cells := 0, slots := 0, locals := 38 } : Room).cells ({ frames := 3, cells := 0, slots := 0, locals := 38 } : Room).slots) := by
  refine MetFree.of_bodySF (plainFor_of_name pn_11) hisR ?_
  intro p e s m args below meth c s₁ Bd hml0 hP hK
  obtain ⟨rfl, hZ, hh⟩ := hP
  have hx := Bd.exec
  have hby := Bd.bytes
  have hml : c.maxLocals = 2 := hml0
  have hown : s.vm.findClass "java/util/Collections$UnmodifiableRandomAccessList" = some m.cls := findClass_of_methodNamed Bd.named
  have hnm := (name_of_methodNamed Bd.named Bd.method).1
  have X0 : Stand p l e ({ frames := 3, cells := 0, slots := 0, locals := 38 } : Room) s m #[(.ref a1), (.ref l2)] below meth c s₁ [] 0 0 := Stand.of_body Bd
  have e0 : s₁.heap = h0 := by rw [← hh, Bd.state]; rfl
  have N0 := Fr.nil n0
  have ef : entryFrame m #[(.ref a1), (.ref l2)] 2 = (mkF m 0 #[.val (.ref a1), .val (.ref l2)] []) := by first | (simp [entryFrame, mkF, argsToLocals, Value.category, maxLocals]; done) | rfl
  show Go p e below (End (fun v h L => v = none ∧ Fr n0 L ∧ Keep h0 h [a1] ∧ Exa Z h a1 "java/util/Collections$UnmodifiableRandomAccessList" ∧ Fld Z h a1 "java/util/Collections$UnmodifiableCollection" "c" "Ljava/util/Collection;" (.ref l2) ∧ Fld Z h a1 "java/util/Collections$UnmodifiableList" "list" "Ljava/util/List;" (.ref l2)) s 0 0) (s₁.setTop (entryFrame m #[(.ref a1), (.ref l2)] 2))
  rw [ef]
  show Go p e below _ (s₁.setTop (mkF m 0 #[.val (.ref a1), .val (.ref l2)] []))
  have K0 : Keep h0 h0 [a1] := Keep.refl _ _
  show Go p e below _ (s₁.setTop (mkF m 0 #[.val (.ref a1), .val (.ref l2)] []))
  refine Go.by (fun t => XS.aloadN X0.here hx rfl (hb hby d27_0) rfl rfl) ?_
  show Go p e below _ (s₁.setTop (mkF m 1 #[.val (.ref a1), .val (.ref l2)] [(.ref a1)]))
  refine Go.by (fun t => XS.aloadN X0.here hx rfl (hb hby d27_1) rfl rfl) ?_
  show Go p e below _ (s₁.setTop (mkF m 2 #[.val (.ref a1), .val (.ref l2)] [(.ref l2), (.ref a1)]))
  obtain ⟨_, _, ⟨T188, L188, k188, n188⟩, -, X188, ⟨Lc188, hQ188, l188, y188, z188⟩, st188⟩ := X0.specialBack hx (y := (⟨"java/util/Collections$UnmodifiableList", "<init>", "(Ljava/util/List;)V"⟩ : MethodName)) rfl hown (mvT hZ (hw _ (List.mem_of_getElem? (i := 222) rfl))) (mvT hZ (hw _ (List.mem_of_getElem? (i := 223) rfl))) (mvT hZ (hw _ (List.mem_of_getElem? (i := 227) rfl))) (by decide) (backOf (W := 0) (rm28 l Z a0 hw [] a1 l2 h0 n0 E_a1 F_c_a1 F_list_a1 g_a1) hZ (hw _ (List.mem_of_getElem? (i := 227) rfl)) (hw _ (List.mem_of_getElem? (i := 226) rfl)) (by decide) (by decide)) (g := (mkF m 2 #[.val (.ref a1), .val (.ref l2)] [(.ref l2), (.ref a1)])) rfl (by rw [hml]; rfl) (Steps.refl _) (a := a1) (argsL := [(.ref l2)]) (rest := []) (lenOf pd_26 rfl) rfl (by show 2 * 0 + _ ≤ _; exact Nat.le_of_eq rfl) (hb hby d27_2) (fun _ _ => ⟨rfl, e0, (by decide : 0 + 0 ≤ _), (by decide : 0 + 0 ≤ _)⟩)
  dsimp only [Pt.U, Pt.locs, Pt.cells, Pt.slots] at X188 l188 y188 z188 st188 hQ188
  subst y188 z188
  obtain ⟨rfl, Nq188, K188, E_n, Fc, Fl⟩ := hQ188
  have N188 : Fr n0 L188 := by rw [l188]; exact Fr.app N0 Nq188
  clear l188
  refine Go.by (fun t => st188.trans) ?_
  replace X188 := Stand.num (C := 0) (S := 0) X188 rfl rfl
  replace E_a1 := E_a1.keep K188
  replace K0 := K0.trans K188 (allS (P := fun x => x ∈ _ ∨ _ ≤ x) (Or.inl (List.mem_of_getElem? (i := 0) rfl)) all0)
  show Go p e below _ (T188.setTop (mkF m 5 #[.val (.ref a1), .val (.ref l2)] []))
  have F_c_a1 := Fc
  have F_list_a1 := Fl
  show Go p e below _ (T188.setTop (mkF m 5 #[.val (.ref a1), .val (.ref l2)] []))
  exact Go.ret0 X188 hx Bd.returns Bd.notSynchronized (hb hby d27_5) (by decide) (by decide) ⟨rfl, N188, K0, E_a1, F_c_a1, F_list_a1⟩
def Q_rm26 (Z : State) (l2 m1 m2 m3 : Addr) (h0 : Heap) (n0 : Nat) : Option Value → Heap → List Loc → Prop := fun v h L => ∃ b : Addr, v = some (.ref b) ∧ h0.size ≤ b ∧ Fr n0 L ∧ Keep h0 h [] ∧ Exa Z h b "java/util/Collections$UnmodifiableRandomAccessList" ∧ Fld Z h b "java/util/Collections$UnmodifiableCollection" "c" "Ljava/util/Collection;" (.ref l2) ∧ Fld Z h b "java/util/Collections$UnmodifiableList" "list" "Ljava/util/List;" (.ref l2)
set_option maxRecDepth 65536 in
set_option maxHeartbeats 40000000 in
theorem rm26 (l : Launch) (Z : State) (a0 : Array Value) (hw : ∀ d ∈ tables_1, d.before a0 Z = true) (ws : List Jvm.Cond) (l2 m1 m2 m3 : Addr) (h0 : Heap) (n0 : Nat) (Z0 : n0 ≤ h0.size) (E_l2 : Exa Z h0 l2 "java/util/ArrayList") (Mi1 : Mir Z "java/util/ArrayList" m1) (Mi2 : Mir Z "java/util/Collections$UnmodifiableList" m2) (Mi3 : Mir Z "java/util/Collections$UnmodifiableRandomAccessList" m3) :
    MetFree l (⟨"java/util/Collections", "unmodifiableList", "(Ljava/util/List;)Ljava/util/List;"⟩ : MethodName) (head1 (Jvm.Cond.code (⟨"java/util/Collections", "unmodifiableList", "(Ljava/util/List;)Ljava/util/List;"⟩ : MethodName) jdk_79_method_35_code 1 (some (.object "java/util/List")) :: ws) ({ frames := 4, cells := 1, slots := 2, locals := 60 } : Room)) (fun a U => a = #[(.ref l2)] ∧ Z.Warmed39 U.vm ∧ U.heap = h0) (fun _ _ _ _ _ => True) (fun _ U o U' => ∃ v L, o = .returned v ∧ Q_rm26 Z l2 m1 m2 m3 h0 n0 v U'.heap L ∧ FrameEnd U o U' L ({ frames := 4, cells := 1, slots := 2, locals := 60 } : Room).cells ({ frames := 4, cells := 1, slots := 2, locals := 60 } : Room).slots) := by
  refine MetFree.of_bodySF (plainFor_of_name pn_10) hisR ?_
  intro p e s m args below meth c s₁ Bd hml0 hP hK
  obtain ⟨rfl, hZ, hh⟩ := hP
  have hx := Bd.exec
  have hby := Bd.bytes
  have hml : c.maxLocals = 1 := hml0
  have hown : s.vm.findClass "java/util/Collections" = some m.cls := findClass_of_methodNamed Bd.named
  have hnm := (name_of_methodNamed Bd.named Bd.method).1
  have X0 : Stand p l e ({ frames := 4, cells := 1, slots := 2, locals := 60 } : Room) s m #[(.ref l2)] below meth c s₁ [] 0 0 := Stand.of_body Bd
  have e0 : s₁.heap = h0 := by rw [← hh, Bd.state]; rfl
  have N0 := Fr.nil n0
  have ef : entryFrame m #[(.ref l2)] 1 = (mkF m 0 #[.val (.ref l2)] []) := by first | (simp [entryFrame, mkF, argsToLocals, Value.category, maxLocals]; done) | rfl
  show Go p e below (End (fun v h L => ∃ b : Addr, v = some (.ref b) ∧ h0.size ≤ b ∧ Fr n0 L ∧ Keep h0 h [] ∧ Exa Z h b "java/util/Collections$UnmodifiableRandomAccessList" ∧ Fld Z h b "java/util/Collections$UnmodifiableCollection" "c" "Ljava/util/Collection;" (.ref l2) ∧ Fld Z h b "java/util/Collections$UnmodifiableList" "list" "Ljava/util/List;" (.ref l2)) s 1 2) (s₁.setTop (entryFrame m #[(.ref l2)] 1))
  rw [ef]
  show Go p e below _ (s₁.setTop (mkF m 0 #[.val (.ref l2)] []))
  have K0 : Keep h0 h0 [] := Keep.refl _ _
  show Go p e below _ (s₁.setTop (mkF m 0 #[.val (.ref l2)] []))
  refine Go.by (fun t => XS.aloadN X0.here hx rfl (hb hby d26_0) rfl rfl) ?_
  show Go p e below _ (s₁.setTop (mkF m 1 #[.val (.ref l2)] [(.ref l2)]))
  obtain ⟨T189, X189, e189, st189⟩ := gclsI X0 hx hZ (xi := (⟨"java/util/List", "getClass", "()Ljava/lang/Class;"⟩ : MethodName)) hown (hw _ (List.mem_of_getElem? (i := 201) rfl)) (hw _ (List.mem_of_getElem? (i := 202) rfl)) (hw _ (List.mem_of_getElem? (i := 203) rfl)) (hw _ (List.mem_of_getElem? (i := 204) rfl)) (hw _ (List.mem_of_getElem? (i := 205) rfl)) (hw _ (List.mem_of_getElem? (i := 206) rfl)) (hw _ (List.mem_of_getElem? (i := 207) rfl)) (hw _ (List.mem_of_getElem? (i := 124) rfl)) (hw _ (List.mem_of_getElem? (i := 208) rfl)) (by decide) (by decide) rfl rfl e0 E_l2 Mi1 (g := (mkF m 1 #[.val (.ref l2)] [(.ref l2)])) rfl (by rw [hml]; rfl) rfl (hb hby d26_1) (by decide) (by show 2 * 0 + 0 + (nativeFrameWords "java/lang/Object" "getClass" 1 + 11) ≤ _; decide)
  refine Go.by (fun t => st189 t) ?_
  show Go p e below _ (T189.setTop (mkF m 6 #[.val (.ref l2)] [(.ref m1)]))
  obtain ⟨T190, X190, e190, st190⟩ := ldcMir X189 hx hZ hown (hw _ (List.mem_of_getElem? (i := 210) rfl)) e189 Mi2 (g := (mkF m 6 #[.val (.ref l2)] [(.ref m1)])) rfl (hb hby d26_6)
  refine Go.by (fun t => st190 t) ?_
  show Go p e below _ (T190.setTop (mkF m 8 #[.val (.ref l2)] [(.ref m2), (.ref m1)]))
  refine Go.by (fun t => Jvm.RoadKit.acmp (g := (mkF m 8 #[.val (.ref l2)] [(.ref m2), (.ref m1)])) X190 hx rfl rfl rfl (pc0 := 8) (pc' := 11) (same := false) rfl (hb hby d26_8) rfl (decide_eq_false fun q => Mir.ne Mi1 Mi2 (by decide) (Value.ref.inj q)) (by decide) (by decide)) ?_
  show Go p e below _ (T190.setTop (mkF m 11 #[.val (.ref l2)] []))
  show Go p e below _ (T190.setTop (mkF m 11 #[.val (.ref l2)] []))
  refine Go.by (fun t => XS.aloadN X190.here hx rfl (hb hby d26_11) rfl rfl) ?_
  show Go p e below _ (T190.setTop (mkF m 12 #[.val (.ref l2)] [(.ref l2)]))
  obtain ⟨T191, X191, e191, st191⟩ := gclsI X190 hx hZ (xi := (⟨"java/util/List", "getClass", "()Ljava/lang/Class;"⟩ : MethodName)) hown (hw _ (List.mem_of_getElem? (i := 212) rfl)) (hw _ (List.mem_of_getElem? (i := 202) rfl)) (hw _ (List.mem_of_getElem? (i := 203) rfl)) (hw _ (List.mem_of_getElem? (i := 204) rfl)) (hw _ (List.mem_of_getElem? (i := 205) rfl)) (hw _ (List.mem_of_getElem? (i := 206) rfl)) (hw _ (List.mem_of_getElem? (i := 207) rfl)) (hw _ (List.mem_of_getElem? (i := 124) rfl)) (hw _ (List.mem_of_getElem? (i := 208) rfl)) (by decide) (by decide) rfl rfl e190 E_l2 Mi1 (g := (mkF m 12 #[.val (.ref l2)] [(.ref l2)])) rfl (by rw [hml]; rfl) rfl (hb hby d26_12) (by decide) (by show 2 * 0 + 0 + (nativeFrameWords "java/lang/Object" "getClass" 1 + 11) ≤ _; decide)
  refine Go.by (fun t => st191 t) ?_
  show Go p e below _ (T191.setTop (mkF m 17 #[.val (.ref l2)] [(.ref m1)]))
  obtain ⟨T192, X192, e192, st192⟩ := ldcMir X191 hx hZ hown (hw _ (List.mem_of_getElem? (i := 213) rfl)) e191 Mi3 (g := (mkF m 17 #[.val (.ref l2)] [(.ref m1)])) rfl (hb hby d26_17)
  refine Go.by (fun t => st192 t) ?_
  show Go p e below _ (T192.setTop (mkF m 19 #[.val (.ref l2)] [(.ref m3), (.ref m1)]))
  refine Go.by (fun t => Jvm.RoadKit.acmp (g := (mkF m 19 #[.val (.ref l2)] [(.ref m3), (.ref m1)])) X192 hx rfl rfl rfl (pc0 := 19) (pc' := 24) (same := false) rfl (hb hby d26_19) rfl (decide_eq_false fun q => Mir.ne Mi1 Mi3 (by decide) (Value.ref.inj q)) (by decide) (by decide)) ?_
  show Go p e below _ (T192.setTop (mkF m 24 #[.val (.ref l2)] []))
  show Go p e below _ (T192.setTop (mkF m 24 #[.val (.ref l2)] []))
  refine Go.by (fun t => XS.aloadN X192.here hx rfl (hb hby d26_24) rfl rfl) ?_
  show Go p e below _ (T192.setTop (mkF m 25 #[.val (.ref l2)] [(.ref l2)]))
  obtain ⟨T193, X193, e193, st193⟩ := instY X192 hx hZ hown (hw _ (List.mem_of_getElem? (i := 215) rfl)) e192 (Ins.of_exa E_l2 (hw _ (List.mem_of_getElem? (i := 216) rfl))) (g := (mkF m 25 #[.val (.ref l2)] [(.ref l2)])) rfl rfl (hb hby d26_25)
  refine Go.by (fun t => st193 t) ?_
  show Go p e below _ (T193.setTop (mkF m 28 #[.val (.ref l2)] [(.int (1 : Int32))]))
  refine Go.by (fun t => XS.ifNo X193.here hx rfl (hb hby d26_28) rfl ((if0 _ _).trans (feq (by decide : ¬ ((1 : Int32) = (0 : Int32)))).1)) ?_
  show Go p e below _ (T193.setTop (mkF m 31 #[.val (.ref l2)] []))
  show Go p e below _ (T193.setTop (mkF m 31 #[.val (.ref l2)] []))
  obtain ⟨T194, h194, X194, e194, E194, A194, D194, -, st194⟩ := newO X193 hx hZ hown (hw _ (List.mem_of_getElem? (i := 213) rfl)) (hw _ (List.mem_of_getElem? (i := 217) rfl)) (hw _ (List.mem_of_getElem? (i := 218) rfl)) e193 (g := (mkF m 31 #[.val (.ref l2)] [])) rfl (hb hby d26_31) (by decide) (by decide)
  obtain ⟨b, g194⟩ : ∃ z, z = h0.size := ⟨_, rfl⟩
  rw [← g194] at A194 D194 st194
  refine Go.by (fun t => st194 t) ?_
  have g_b : n0 ≤ b := Nat.le_trans Z0 (Nat.le_of_eq g194.symm)
  have sz_b : h0.size ≤ b := Nat.le_trans K0.1 (Nat.le_of_eq g194.symm)
  have ne_l2_b : l2 ≠ b := Nat.ne_of_lt (Nat.lt_of_lt_of_le E_l2.lt (Nat.le_of_eq g194.symm))
  replace E_l2 := E_l2.ext E194
  replace Z0 := Nat.le_trans Z0 E194.1
  replace K0 := K0.ext E194
  have E_b := A194
  have F_c_b : Fld Z h194 b "java/util/Collections$UnmodifiableCollection" "c" "Ljava/util/Collection;" .null := D194 (Or.inr (hw _ (List.mem_of_getElem? (i := 236) rfl))) (ty := (.object "java/util/Collection")) (by decide)
  have F_list_b : Fld Z h194 b "java/util/Collections$UnmodifiableList" "list" "Ljava/util/List;" .null := D194 (Or.inr (hw _ (List.mem_of_getElem? (i := 238) rfl))) (ty := (.object "java/util/List")) (by decide)
  replace X194 := Stand.num (C := 1) (S := 2) X194 rfl rfl
  show Go p e below _ (T194.setTop (mkF m 34 #[.val (.ref l2)] [(.ref b)]))
  show Go p e below _ (T194.setTop (mkF m 34 #[.val (.ref l2)] [(.ref b)]))
  refine Go.by (fun t => XS.dup X194.here hx rfl (hb hby d26_34) rfl rfl) ?_
  show Go p e below _ (T194.setTop (mkF m 35 #[.val (.ref l2)] [(.ref b), (.ref b)]))
  refine Go.by (fun t => XS.aloadN X194.here hx rfl (hb hby d26_35) rfl rfl) ?_
  show Go p e below _ (T194.setTop (mkF m 36 #[.val (.ref l2)] [(.ref l2), (.ref b), (.ref b)]))
  obtain ⟨_, _, ⟨T195, L195, k195, n195⟩, -, X195, ⟨Lc195, hQ195, l195, y195, z195⟩, st195⟩ := X194.specialBack hx (y := (⟨"java/util/Collections$UnmodifiableRandomAccessList", "<init>", "(Ljava/util/List;)V"⟩ : MethodName)) rfl hown (mvT hZ (hw _ (List.mem_of_getElem? (i := 219) rfl))) (mvT hZ (hw _ (List.mem_of_getElem? (i := 220) rfl))) (mvT hZ (hw _ (List.mem_of_getElem? (i := 221) rfl))) (by decide) (backOf (W := 1) (rm27 l Z a0 hw [] b l2 h194 n0 E_b F_c_b F_list_b g_b) hZ (hw _ (List.mem_of_getElem? (i := 221) rfl)) (hw _ (List.mem_of_getElem? (i := 218) rfl)) (by decide) (by decide)) (g := (mkF m 36 #[.val (.ref l2)] [(.ref l2), (.ref b), (.ref b)])) rfl (by rw [hml]; rfl) (Steps.refl _) (a := b) (argsL := [(.ref l2)]) (rest := [(.ref b)]) (lenOf pd_26 rfl) rfl (by show 2 * 0 + _ ≤ _; exact Nat.le_of_eq rfl) (hb hby d26_36) (fun _ _ => ⟨rfl, e194, (by decide : 1 + 0 ≤ _), (by decide : 2 + 0 ≤ _)⟩)
  dsimp only [Pt.U, Pt.locs, Pt.cells, Pt.slots] at X195 l195 y195 z195 st195 hQ195
  subst y195 z195
  obtain ⟨rfl, Nq195, K195, E_n, Fc, Fl⟩ := hQ195
  have N195 : Fr n0 L195 := by rw [l195]; exact Fr.app N0 Nq195
  clear l195
  refine Go.by (fun t => st195.trans) ?_
  replace X195 := Stand.num (C := 1) (S := 2) X195 rfl rfl
  replace E_l2 := E_l2.keep K195
  replace E_b := E_b.keep K195
  replace Z0 := Nat.le_trans Z0 K195.1
  replace K0 := K0.trans K195 (allS (P := fun x => x ∈ _ ∨ _ ≤ x) (Or.inr sz_b) all0)
  show Go p e below _ (T195.setTop (mkF m 39 #[.val (.ref l2)] [(.ref b)]))
  show Go p e below _ (T195.setTop (mkF m 39 #[.val (.ref l2)] [(.ref b)]))
  refine Go.by (fun t => XS.goto X195.here hx rfl (pc0 := 39) (pc' := 50) rfl (hb hby d26_39) (by decide) (by decide)) ?_
  show Go p e below _ (T195.setTop (mkF m 50 #[.val (.ref l2)] [(.ref b)]))
  exact Go.ret1 X195 hx Bd.returns Bd.notSynchronized rfl (Or.inr (Or.inr (Or.inr (Or.inr ⟨rfl, rfl, rfl⟩)))) (hb hby d26_50) (by decide) (by decide) ⟨b, rfl, sz_b, N195, K0, E_n, Fc, Fl⟩
def Q_rm25 (Z : State) (a1 l2 m1 m2 m3 : Addr) (h0 : Heap) (n0 : Nat) : Option Value → Heap → List Loc → Prop := fun v h L => ∃ b : Addr, v = some (.ref b) ∧ h0.size ≤ b ∧ Fr n0 L ∧ Keep h0 h [] ∧ Exa Z h b "java/util/Collections$UnmodifiableRandomAccessList" ∧ Fld Z h b "java/util/Collections$UnmodifiableCollection" "c" "Ljava/util/Collection;" (.ref l2) ∧ Fld Z h b "java/util/Collections$UnmodifiableList" "list" "Ljava/util/List;" (.ref l2)
set_option maxRecDepth 65536 in
set_option maxHeartbeats 40000000 in
theorem rm25 (l : Launch) (Z : State) (a0 : Array Value) (hw : ∀ d ∈ tables_1, d.before a0 Z = true) (ws : List Jvm.Cond) (a1 l2 m1 m2 m3 : Addr) (h0 : Heap) (n0 : Nat) (Z0 : n0 ≤ h0.size) (F_a1 : Fld Z h0 a1 "com/example/slicewright/slicewright/report/Report" "errors" "Ljava/util/List;" (.ref l2)) (E_l2 : Exa Z h0 l2 "java/util/ArrayList") (Mi1 : Mir Z "java/util/ArrayList" m1) (Mi2 : Mir Z "java/util/Collections$UnmodifiableList" m2) (Mi3 : Mir Z "java/util/Collections$UnmodifiableRandomAccessList" m3) :
    MetFree l (⟨"com/example/slicewright/slicewright/report/Report", "errors", "()Ljava/util/List;"⟩ : MethodName) (head1 (Jvm.Cond.code (⟨"com/example/slicewright/slicewright/report/Report", "errors", "()Ljava/util/List;"⟩ : MethodName) prog_24_method_5_code 1 (some (.object "java/util/List")) :: ws) ({ frames := 5, cells := 1, slots := 2, locals := 80 } : Room)) (fun a U => a = #[(.ref a1)] ∧ Z.Warmed39 U.vm ∧ U.heap = h0) (fun _ _ _ _ _ => True) (fun _ U o U' => ∃ v L, o = .returned v ∧ Q_rm25 Z a1 l2 m1 m2 m3 h0 n0 v U'.heap L ∧ FrameEnd U o U' L ({ frames := 5, cells := 1, slots := 2, locals := 80 } : Room).cells ({ frames := 5, cells := 1, slots := 2, locals := 80 } : Room).slots) := by
  refine MetFree.of_bodySF (plainFor_of_name pn_3) hisR ?_
  intro p e s m args below meth c s₁ Bd hml0 hP hK
  obtain ⟨rfl, hZ, hh⟩ := hP
  have hx := Bd.exec
  have hby := Bd.bytes
  have hml : c.maxLocals = 1 := hml0
  have hown : s.vm.findClass "com/example/slicewright/slicewright/report/Report" = some m.cls := findClass_of_methodNamed Bd.named
  have hnm := (name_of_methodNamed Bd.named Bd.method).1
  have X0 : Stand p l e ({ frames := 5, cells := 1, slots := 2, locals := 80 } : Room) s m #[(.ref a1)] below meth c s₁ [] 0 0 := Stand.of_body Bd
  have e0 : s₁.heap = h0 := by rw [← hh, Bd.state]; rfl
  have N0 := Fr.nil n0
  have ef : entryFrame m #[(.ref a1)] 1 = (mkF m 0 #[.val (.ref a1)] []) := by first | (simp [entryFrame, mkF, argsToLocals, Value.category, maxLocals]; done) | rfl
  show Go p e below (End (fun v h L => ∃ b : Addr, v = some (.ref b) ∧ h0.size ≤ b ∧ Fr n0 L ∧ Keep h0 h [] ∧ Exa Z h b "java/util/Collections$UnmodifiableRandomAccessList" ∧ Fld Z h b "java/util/Collections$UnmodifiableCollection" "c" "Ljava/util/Collection;" (.ref l2) ∧ Fld Z h b "java/util/Collections$UnmodifiableList" "list" "Ljava/util/List;" (.ref l2)) s 1 2) (s₁.setTop (entryFrame m #[(.ref a1)] 1))
  rw [ef]
  show Go p e below _ (s₁.setTop (mkF m 0 #[.val (.ref a1)] []))
  show Go p e below _ (s₁.setTop (mkF m 0 #[.val (.ref a1)] []))
  refine Go.by (fun t => XS.aloadN X0.here hx rfl (hb hby d25_0) rfl rfl) ?_
  show Go p e below _ (s₁.setTop (mkF m 1 #[.val (.ref a1)] [(.ref a1)]))
  obtain ⟨T196, X196, e196, st196⟩ := getF X0 hx hZ hown (host := "") (Or.inl (hw _ (List.mem_of_getElem? (i := 110) rfl))) Via.refl e0 F_a1 (g := (mkF m 1 #[.val (.ref a1)] [(.ref a1)])) rfl rfl (hb hby d25_1)
  refine Go.by (fun t => st196 t) ?_
  show Go p e below _ (T196.setTop (mkF m 4 #[.val (.ref a1)] [(.ref l2)]))
  obtain ⟨_, _, ⟨T197, L197, k197, n197⟩, -, X197, ⟨Lc197, hQ197, l197, y197, z197⟩, st197⟩ := Jvm.LawKit.callS X196 hx (y := (⟨"java/util/Collections", "unmodifiableList", "(Ljava/util/List;)Ljava/util/List;"⟩ : MethodName)) hown (mvT hZ (hw _ (List.mem_of_getElem? (i := 197) rfl))) (mvT hZ (hw _ (List.mem_of_getElem? (i := 198) rfl))) (mvT hZ (hw _ (List.mem_of_getElem? (i := 199) rfl))) (mvT hZ (hw _ (List.mem_of_getElem? (i := 200) rfl))) (by decide) (backOf (W := 0) (rm26 l Z a0 hw [] l2 m1 m2 m3 h0 n0 Z0 E_l2 Mi1 Mi2 Mi3) hZ (hw _ (List.mem_of_getElem? (i := 200) rfl)) (hw _ (List.mem_of_getElem? (i := 199) rfl)) (by decide) (by decide)) (g := (mkF m 4 #[.val (.ref a1)] [(.ref l2)])) rfl (by rw [hml]; rfl) (argsL := [(.ref l2)]) (rest := []) (lenOf pd_24 rfl) rfl (by show 2 * 0 + _ ≤ _; exact Nat.le_of_eq rfl) (hb hby d25_4) (fun _ _ => ⟨rfl, e196, (by decide : 0 + 1 ≤ _), (by decide : 0 + 2 ≤ _)⟩)
  dsimp only [Pt.U, Pt.locs, Pt.cells, Pt.slots] at X197 l197 y197 z197 st197 hQ197
  subst y197 z197
  obtain ⟨b, rfl, hbs, Nq197, K197, E_b, Fc, Fl⟩ := hQ197
  have N197 : Fr n0 L197 := by rw [l197]; exact Fr.app N0 Nq197
  clear l197
  refine Go.by (fun t => st197 t) ?_
  replace X197 := Stand.num (C := 1) (S := 2) X197 rfl rfl
  show Go p e below _ (T197.setTop (mkF m 7 #[.val (.ref a1)] [(.ref b)]))
  show Go p e below _ (T197.setTop (mkF m 7 #[.val (.ref a1)] [(.ref b)]))
  exact Go.ret1 X197 hx Bd.returns Bd.notSynchronized rfl (Or.inr (Or.inr (Or.inr (Or.inr ⟨rfl, rfl, rfl⟩)))) (hb hby d25_7) (by decide) (by decide) ⟨b, rfl, hbs, N197, K197, E_b, Fc, Fl⟩
def Q_rm41 (Z : State) (a1 l2 m1 m2 m3 : Addr) (h0 : Heap) (n0 : Nat) : Option Value → Heap → List Loc → Prop := fun v h L => ∃ b : Addr, v = some (.ref b) ∧ h0.size ≤ b ∧ Fr n0 L ∧ Keep h0 h [] ∧ Exa Z h b "java/util/Collections$UnmodifiableRandomAccessList" ∧ Fld Z h b "java/util/Collections$UnmodifiableCollection" "c" "Ljava/util/Collection;" (.ref l2) ∧ Fld Z h b "java/util/Collections$UnmodifiableList" "list" "Ljava/util/List;" (.ref l2)
set_option maxRecDepth 65536 in
set_option maxHeartbeats 40000000 in
theorem rm41 (l : Launch) (Z : State) (a0 : Array Value) (hw : ∀ d ∈ tables_1, d.before a0 Z = true) (ws : List Jvm.Cond) (a1 l2 m1 m2 m3 : Addr) (h0 : Heap) (n0 : Nat) (Z0 : n0 ≤ h0.size) (F_a1 : Fld Z h0 a1 "com/example/slicewright/slicewright/report/Report" "slices" "Ljava/util/List;" (.ref l2)) (E_l2 : Exa Z h0 l2 "java/util/ArrayList") (Mi1 : Mir Z "java/util/ArrayList" m1) (Mi2 : Mir Z "java/util/Collections$UnmodifiableList" m2) (Mi3 : Mir Z "java/util/Collections$UnmodifiableRandomAccessList" m3) :
    MetFree l (⟨"com/example/slicewright/slicewright/report/Report", "slices", "()Ljava/util/List;"⟩ : MethodName) (head1 (Jvm.Cond.code (⟨"com/example/slicewright/slicewright/report/Report", "slices", "()Ljava/util/List;"⟩ : MethodName) prog_24_method_4_code 1 (some (.object "java/util/List")) :: ws) ({ frames := 5, cells := 1, slots := 2, locals := 80 } : Room)) (fun a U => a = #[(.ref a1)] ∧ Z.Warmed39 U.vm ∧ U.heap = h0) (fun _ _ _ _ _ => True) (fun _ U o U' => ∃ v L, o = .returned v ∧ Q_rm41 Z a1 l2 m1 m2 m3 h0 n0 v U'.heap L ∧ FrameEnd U o U' L ({ frames := 5, cells := 1, slots := 2, locals := 80 } : Room).cells ({ frames := 5, cells := 1, slots := 2, locals := 80 } : Room).slots) := by
  refine MetFree.of_bodySF (plainFor_of_name pn_3) hisR ?_
  intro p e s m args below meth c s₁ Bd hml0 hP hK
  obtain ⟨rfl, hZ, hh⟩ := hP
  have hx := Bd.exec
  have hby := Bd.bytes
  have hml : c.maxLocals = 1 := hml0
  have hown : s.vm.findClass "com/example/slicewright/slicewright/report/Report" = some m.cls := findClass_of_methodNamed Bd.named
  have hnm := (name_of_methodNamed Bd.named Bd.method).1
  have X0 : Stand p l e ({ frames := 5, cells := 1, slots := 2, locals := 80 } : Room) s m #[(.ref a1)] below meth c s₁ [] 0 0 := Stand.of_body Bd
  have e0 : s₁.heap = h0 := by rw [← hh, Bd.state]; rfl
  have N0 := Fr.nil n0
  have ef : entryFrame m #[(.ref a1)] 1 = (mkF m 0 #[.val (.ref a1)] []) := by first | (simp [entryFrame, mkF, argsToLocals, Value.category, maxLocals]; done) | rfl
  show Go p e below (End (fun v h L => ∃ b : Addr, v = some (.ref b) ∧ h0.size ≤ b ∧ Fr n0 L ∧ Keep h0 h [] ∧ Exa Z h b "java/util/Collections$UnmodifiableRandomAccessList" ∧ Fld Z h b "java/util/Collections$UnmodifiableCollection" "c" "Ljava/util/Collection;" (.ref l2) ∧ Fld Z h b "java/util/Collections$UnmodifiableList" "list" "Ljava/util/List;" (.ref l2)) s 1 2) (s₁.setTop (entryFrame m #[(.ref a1)] 1))
  rw [ef]
  show Go p e below _ (s₁.setTop (mkF m 0 #[.val (.ref a1)] []))
  show Go p e below _ (s₁.setTop (mkF m 0 #[.val (.ref a1)] []))
  refine Go.by (fun t => XS.aloadN X0.here hx rfl (hb hby d41_0) rfl rfl) ?_
  show Go p e below _ (s₁.setTop (mkF m 1 #[.val (.ref a1)] [(.ref a1)]))
  obtain ⟨T198, X198, e198, st198⟩ := getF X0 hx hZ hown (host := "") (Or.inl (hw _ (List.mem_of_getElem? (i := 108) rfl))) Via.refl e0 F_a1 (g := (mkF m 1 #[.val (.ref a1)] [(.ref a1)])) rfl rfl (hb hby d41_1)
  refine Go.by (fun t => st198 t) ?_
  show Go p e below _ (T198.setTop (mkF m 4 #[.val (.ref a1)] [(.ref l2)]))
  obtain ⟨_, _, ⟨T199, L199, k199, n199⟩, -, X199, ⟨Lc199, hQ199, l199, y199, z199⟩, st199⟩ := Jvm.LawKit.callS X198 hx (y := (⟨"java/util/Collections", "unmodifiableList", "(Ljava/util/List;)Ljava/util/List;"⟩ : MethodName)) hown (mvT hZ (hw _ (List.mem_of_getElem? (i := 197) rfl))) (mvT hZ (hw _ (List.mem_of_getElem? (i := 198) rfl))) (mvT hZ (hw _ (List.mem_of_getElem? (i := 199) rfl))) (mvT hZ (hw _ (List.mem_of_getElem? (i := 200) rfl))) (by decide) (backOf (W := 0) (rm26 l Z a0 hw [] l2 m1 m2 m3 h0 n0 Z0 E_l2 Mi1 Mi2 Mi3) hZ (hw _ (List.mem_of_getElem? (i := 200) rfl)) (hw _ (List.mem_of_getElem? (i := 199) rfl)) (by decide) (by decide)) (g := (mkF m 4 #[.val (.ref a1)] [(.ref l2)])) rfl (by rw [hml]; rfl) (argsL := [(.ref l2)]) (rest := []) (lenOf pd_24 rfl) rfl (by show 2 * 0 + _ ≤ _; exact Nat.le_of_eq rfl) (hb hby d41_4) (fun _ _ => ⟨rfl, e198, (by decide : 0 + 1 ≤ _), (by decide : 0 + 2 ≤ _)⟩)
  dsimp only [Pt.U, Pt.locs, Pt.cells, Pt.slots] at X199 l199 y199 z199 st199 hQ199
  subst y199 z199
  obtain ⟨b, rfl, hbs, Nq199, K199, E_b, Fc, Fl⟩ := hQ199
  have N199 : Fr n0 L199 := by rw [l199]; exact Fr.app N0 Nq199
  clear l199
  refine Go.by (fun t => st199 t) ?_
  replace X199 := Stand.num (C := 1) (S := 2) X199 rfl rfl
  show Go p e below _ (T199.setTop (mkF m 7 #[.val (.ref a1)] [(.ref b)]))
  show Go p e below _ (T199.setTop (mkF m 7 #[.val (.ref a1)] [(.ref b)]))
  exact Go.ret1 X199 hx Bd.returns Bd.notSynchronized rfl (Or.inr (Or.inr (Or.inr (Or.inr ⟨rfl, rfl, rfl⟩)))) (hb hby d41_7) (by decide) (by decide) ⟨b, rfl, hbs, N199, K199, E_b, Fc, Fl⟩
def Q_rm30 (Z : State) (a1 l2 : Addr) (w2 : Int32) (h0 : Heap) (n0 : Nat) : Option Value → Heap → List Loc → Prop := fun v h L => v = some (.int w2) ∧ Fr n0 L ∧ h = h0
set_option maxRecDepth 65536 in
set_option maxHeartbeats 40000000 in
theorem rm30 (l : Launch) (Z : State) (a0 : Array Value) (hw : ∀ d ∈ tables_1, d.before a0 Z = true) (ws : List Jvm.Cond) (a1 l2 : Addr) (w2 : Int32) (h0 : Heap) (n0 : Nat) (F_c_a1 : Fld Z h0 a1 "java/util/Collections$UnmodifiableCollection" "c" "Ljava/util/Collection;" (.ref l2)) (E_l2 : Exa Z h0 l2 "java/util/ArrayList") (F_size_l2 : Fld Z h0 l2 "java/util/ArrayList" "size" "I" (.int w2)) :
    MetFree l (⟨"java/util/Collections$UnmodifiableCollection", "size", "()I"⟩ : MethodName) (head1 (Jvm.Cond.code (⟨"java/util/Collections$UnmodifiableCollection", "size", "()I"⟩ : MethodName) jdk_119_method_2_code 1 (some .int) :: ws) ({ frames := 1, cells := 0, slots := 0, locals := 12 } : Room)) (fun a U => a = #[(.ref a1)] ∧ Z.Warmed39 U.vm ∧ U.heap = h0) (fun _ _ _ _ _ => True) (fun _ U o U' => ∃ v L, o = .returned v ∧ Q_rm30 Z a1 l2 w2 h0 n0 v U'.heap L ∧ FrameEnd U o U' L ({ frames := 1, cells := 0, slots := 0, locals := 12 } : Room).cells ({ frames := 1, cells := 0, slots := 0, locals := 12 } : Room).slots) := by
  refine MetFree.of_bodySF (plainFor_of_name pn_13) hisR ?_
  intro p e s m args below meth c s₁ Bd hml0 hP hK
  obtain ⟨rfl, hZ, hh⟩ := hP
  have hx := Bd.exec
  have hby := Bd.bytes
  have hml : c.maxLocals = 1 := hml0
  have hown : s.vm.findClass "java/util/Collections$UnmodifiableCollection" = some m.cls := findClass_of_methodNamed Bd.named
  have hnm := (name_of_methodNamed Bd.named Bd.method).1
  have X0 : Stand p l e ({ frames := 1, cells := 0, slots := 0, locals := 12 } : Room) s m #[(.ref a1)] below meth c s₁ [] 0 0 := Stand.of_body Bd
  have e0 : s₁.heap = h0 := by rw [← hh, Bd.state]; rfl
  have N0 := Fr.nil n0
  have ef : entryFrame m #[(.ref a1)] 1 = (mkF m 0 #[.val (.ref a1)] []) := by first | (simp [entryFrame, mkF, argsToLocals, Value.category, maxLocals]; done) | rfl
  show Go p e below (End (fun v h L => v = some (.int w2) ∧ Fr n0 L ∧ h = h0) s 0 0) (s₁.setTop (entryFrame m #[(.ref a1)] 1))
  rw [ef]
  show Go p e below _ (s₁.setTop (mkF m 0 #[.val (.ref a1)] []))
  show Go p e below _ (s₁.setTop (mkF m 0 #[.val (.ref a1)] []))
  refine Go.by (fun t => XS.aloadN X0.here hx rfl (hb hby d30_0) rfl rfl) ?_
  show Go p e below _ (s₁.setTop (mkF m 1 #[.val (.ref a1)] [(.ref a1)]))
  obtain ⟨T200, X200, e200, st200⟩ := getF X0 hx hZ hown (host := "") (Or.inl (hw _ (List.mem_of_getElem? (i := 235) rfl))) Via.refl e0 F_c_a1 (g := (mkF m 1 #[.val (.ref a1)] [(.ref a1)])) rfl rfl (hb hby d30_1)
  refine Go.by (fun t => st200 t) ?_
  show Go p e below _ (T200.setTop (mkF m 4 #[.val (.ref a1)] [(.ref l2)]))
  obtain ⟨cq201, kq201, q201a, q201b, q201c⟩ := isOf hZ e200 E_l2
  obtain ⟨_, _, ⟨T201, L201, k201, n201⟩, -, X201, ⟨Lc201, hQ201, l201, y201, z201⟩, st201⟩ := X200.interfaceBack hx (xi := (⟨"java/util/Collection", "size", "()I"⟩ : MethodName)) (y := (⟨"java/util/ArrayList", "size", "()I"⟩ : MethodName)) hown (mvT hZ (hw _ (List.mem_of_getElem? (i := 248) rfl))) (mvT hZ (hw _ (List.mem_of_getElem? (i := 249) rfl))) (mvT hZ (hw _ (List.mem_of_getElem? (i := 250) rfl))) (mvT hZ (hw _ (List.mem_of_getElem? (i := 251) rfl))) (mvT hZ (hw _ (List.mem_of_getElem? (i := 252) rfl))) (mvT hZ (hw _ (List.mem_of_getElem? (i := 253) rfl))) (mvT hZ (hw _ (List.mem_of_getElem? (i := 254) rfl))) (mvT hZ (hw _ (List.mem_of_getElem? (i := 255) rfl))) (by decide) (backOf (W := 0) (rm31 l Z a0 hw [] l2 w2 h0 n0 F_size_l2) hZ (hw _ (List.mem_of_getElem? (i := 256) rfl)) (hw _ (List.mem_of_getElem? (i := 86) rfl)) (by decide) (by decide)) q201a q201b q201c (g := (mkF m 4 #[.val (.ref a1)] [(.ref l2)])) rfl (by rw [hml]; rfl) (Steps.refl _) (argsL := []) (rest := []) (lenOf pd_6 rfl) rfl (by show 2 * 0 + _ ≤ _; exact Nat.le_of_eq rfl) (hb hby d30_4) (fun _ _ => ⟨rfl, e200, (by decide : 0 + 0 ≤ _), (by decide : 0 + 0 ≤ _)⟩)
  dsimp only [Pt.U, Pt.locs, Pt.cells, Pt.slots] at X201 l201 y201 z201 st201 hQ201
  subst y201 z201
  obtain ⟨rfl, Nq201, e201⟩ := hQ201
  have N201 : Fr n0 L201 := by rw [l201]; exact Fr.app N0 Nq201
  clear l201
  refine Go.by (fun t => st201.trans) ?_
  replace X201 := Stand.num (C := 0) (S := 0) X201 rfl rfl
  show Go p e below _ (T201.setTop (mkF m 9 #[.val (.ref a1)] [(.int w2)]))
  show Go p e below _ (T201.setTop (mkF m 9 #[.val (.ref a1)] [(.int w2)]))
  exact Go.ret1 X201 hx Bd.returns Bd.notSynchronized rfl (Or.inl ⟨rfl, by simp, _, rfl⟩) (hb hby d30_9) (by decide) (by decide) (by first | (rw [e201]; exact ⟨rfl, N201, rfl⟩) | exact ⟨rfl, N201, rfl⟩)
def Q_rm35 (Z : State) (p1 p2 : Int32) (h0 : Heap) (n0 : Nat) : Option Value → Heap → List Loc → Prop := fun v h L => v = some (.int p1) ∧ Fr n0 L ∧ h = h0
set_option maxRecDepth 65536 in
set_option maxHeartbeats 40000000 in
theorem rm35 (l : Launch) (Z : State) (a0 : Array Value) (hw : ∀ d ∈ tables_1, d.before a0 Z = true) (ws : List Jvm.Cond) (p1 p2 : Int32) (h0 : Heap) (n0 : Nat) (h1 : ¬ p1 < 0) (h2 : p1 < p2) :
    MetFree l (⟨"jdk/internal/util/Preconditions", "checkIndex", "(IILjava/util/function/BiFunction;)I"⟩ : MethodName) (head1 (Jvm.Cond.code (⟨"jdk/internal/util/Preconditions", "checkIndex", "(IILjava/util/function/BiFunction;)I"⟩ : MethodName) jdk_41_method_11_code 3 (some .int) :: ws) ({ frames := 0, cells := 0, slots := 0, locals := 0 } : Room)) (fun a U => a = #[(.int p1), (.int p2), .null] ∧ Z.Warmed39 U.vm ∧ U.heap = h0) (fun _ _ _ _ _ => True) (fun _ U o U' => ∃ v L, o = .returned v ∧ Q_rm35 Z p1 p2 h0 n0 v U'.heap L ∧ FrameEnd U o U' L ({ frames := 0, cells := 0, slots := 0, locals := 0 } : Room).cells ({ frames := 0, cells := 0, slots := 0, locals := 0 } : Room).slots) := by
  refine MetFree.of_bodySF (plainFor_of_name pn_14) hisR ?_
  intro p e s m args below meth c s₁ Bd hml0 hP hK
  obtain ⟨rfl, hZ, hh⟩ := hP
  have hx := Bd.exec
  have hby := Bd.bytes
  have hml : c.maxLocals = 3 := hml0
  have hown : s.vm.findClass "jdk/internal/util/Preconditions" = some m.cls := findClass_of_methodNamed Bd.named
  have hnm := (name_of_methodNamed Bd.named Bd.method).1
  have X0 : Stand p l e ({ frames := 0, cells := 0, slots := 0, locals := 0 } : Room) s m #[(.int p1), (.int p2), .null] below meth c s₁ [] 0 0 := Stand.of_body Bd
  have e0 : s₁.heap = h0 := by rw [← hh, Bd.state]; rfl
  have N0 := Fr.nil n0
  have ef : entryFrame m #[(.int p1), (.int p2), .null] 3 = (mkF m 0 #[.val (.int p1), .val (.int p2), .val .null] []) := by first | (simp [entryFrame, mkF, argsToLocals, Value.category, maxLocals]; done) | rfl
  show Go p e below (End (fun v h L => v = some (.int p1) ∧ Fr n0 L ∧ h = h0) s 0 0) (s₁.setTop (entryFrame m #[(.int p1), (.int p2), .null] 3))
  rw [ef]
  show Go p e below _ (s₁.setTop (mkF m 0 #[.val (.int p1), .val (.int p2), .val .null] []))
  show Go p e below _ (s₁.setTop (mkF m 0 #[.val (.int p1), .val (.int p2), .val .null] []))
  refine Go.by (fun t => XS.iloadN X0.here hx rfl (hb hby d35_0) rfl ) ?_
  show Go p e below _ (s₁.setTop (mkF m 1 #[.val (.int p1), .val (.int p2), .val .null] [(.int p1)]))
  refine Go.by (fun t => XS.ifNo X0.here hx rfl (hb hby d35_1) rfl ((if0 _ _).trans (flt (h1 : ¬ (p1 < (0 : Int32)))).1)) ?_
  show Go p e below _ (s₁.setTop (mkF m 4 #[.val (.int p1), .val (.int p2), .val .null] []))
  show Go p e below _ (s₁.setTop (mkF m 4 #[.val (.int p1), .val (.int p2), .val .null] []))
  refine Go.by (fun t => XS.iloadN X0.here hx rfl (hb hby d35_4) rfl ) ?_
  show Go p e below _ (s₁.setTop (mkF m 5 #[.val (.int p1), .val (.int p2), .val .null] [(.int p1)]))
  refine Go.by (fun t => XS.iloadN X0.here hx rfl (hb hby d35_5) rfl ) ?_
  show Go p e below _ (s₁.setTop (mkF m 6 #[.val (.int p1), .val (.int p2), .val .null] [(.int p2), (.int p1)]))
  refine Go.by (fun t => XS.icmpYes X0.here hx rfl (pc0 := 6) (pc' := 16) rfl (hb hby d35_6) rfl (tlt (h2 : p1 < p2)).1 (by decide) (by decide)) ?_
  show Go p e below _ (s₁.setTop (mkF m 16 #[.val (.int p1), .val (.int p2), .val .null] []))
  show Go p e below _ (s₁.setTop (mkF m 16 #[.val (.int p1), .val (.int p2), .val .null] []))
  refine Go.by (fun t => XS.iloadN X0.here hx rfl (hb hby d35_16) rfl ) ?_
  show Go p e below _ (s₁.setTop (mkF m 17 #[.val (.int p1), .val (.int p2), .val .null] [(.int p1)]))
  exact Go.ret1 X0 hx Bd.returns Bd.notSynchronized rfl (Or.inl ⟨rfl, by simp, _, rfl⟩) (hb hby d35_17) (by decide) (by decide) (by first | (rw [e0]; exact ⟨rfl, N0, rfl⟩) | exact ⟨rfl, N0, rfl⟩)
def Q_rm34 (Z : State) (p1 p2 : Int32) (h0 : Heap) (n0 : Nat) : Option Value → Heap → List Loc → Prop := fun v h L => v = some (.int p1) ∧ Fr n0 L ∧ h = h0
set_option maxRecDepth 65536 in
set_option maxHeartbeats 40000000 in
theorem rm34 (l : Launch) (Z : State) (a0 : Array Value) (hw : ∀ d ∈ tables_1, d.before a0 Z = true) (ws : List Jvm.Cond) (p1 p2 : Int32) (h0 : Heap) (n0 : Nat) (h1 : ¬ p1 < 0) (h2 : p1 < p2) :
    MetFree l (⟨"java/util/Objects", "checkIndex", "(II)I"⟩ : MethodName) (head1 (Jvm.Cond.code (⟨"java/util/Objects", "checkIndex", "(II)I"⟩ : MethodName) jdk_31_method_17_code 2 (some .int) :: ws) ({ frames := 1, cells := 0, slots := 0, locals := 14 } : Room)) (fun a U => a = #[(.int p1), (.int p2)] ∧ Z.Warmed39 U.vm ∧ U.heap = h0) (fun _ _ _ _ _ => True) (fun _ U o U' => ∃ v L, o = .returned v ∧ Q_rm34 Z p1 p2 h0 n0 v U'.heap L ∧ FrameEnd U o U' L ({ frames := 1, cells := 0, slots := 0, locals := 14 } : Room).cells ({ frames := 1, cells := 0, slots := 0, locals := 14 } : Room).slots) := by
  refine MetFree.of_bodySF (plainFor_of_name pn_7) hisR ?_
  intro p e s m args below meth c s₁ Bd hml0 hP hK
  obtain ⟨rfl, hZ, hh⟩ := hP
  have hx := Bd.exec
  have hby := Bd.bytes
  have hml : c.maxLocals = 2 := hml0
  have hown : s.vm.findClass "java/util/Objects" = some m.cls := findClass_of_methodNamed Bd.named
  have hnm := (name_of_methodNamed Bd.named Bd.method).1
  have X0 : Stand p l e ({ frames := 1, cells := 0, slots := 0, locals := 14 } : Room) s m #[(.int p1), (.int p2)] below meth c s₁ [] 0 0 := Stand.of_body Bd
  have e0 : s₁.heap = h0 := by rw [← hh, Bd.state]; rfl
  have N0 := Fr.nil n0
  have ef : entryFrame m #[(.int p1), (.int p2)] 2 = (mkF m 0 #[.val (.int p1), .val (.int p2)] []) := by first | (simp [entryFrame, mkF, argsToLocals, Value.category, maxLocals]; done) | rfl
  show Go p e below (End (fun v h L => v = some (.int p1) ∧ Fr n0 L ∧ h = h0) s 0 0) (s₁.setTop (entryFrame m #[(.int p1), (.int p2)] 2))
  rw [ef]
  show Go p e below _ (s₁.setTop (mkF m 0 #[.val (.int p1), .val (.int p2)] []))
  show Go p e below _ (s₁.setTop (mkF m 0 #[.val (.int p1), .val (.int p2)] []))
  refine Go.by (fun t => XS.iloadN X0.here hx rfl (hb hby d34_0) rfl ) ?_
  show Go p e below _ (s₁.setTop (mkF m 1 #[.val (.int p1), .val (.int p2)] [(.int p1)]))
  refine Go.by (fun t => XS.iloadN X0.here hx rfl (hb hby d34_1) rfl ) ?_
  show Go p e below _ (s₁.setTop (mkF m 2 #[.val (.int p1), .val (.int p2)] [(.int p2), (.int p1)]))
  refine Go.by (fun t => XS.aconstNull X0.here hx rfl (hb hby d34_2)) ?_
  show Go p e below _ (s₁.setTop (mkF m 3 #[.val (.int p1), .val (.int p2)] [.null, (.int p2), (.int p1)]))
  obtain ⟨_, _, ⟨T202, L202, k202, n202⟩, -, X202, ⟨Lc202, hQ202, l202, y202, z202⟩, st202⟩ := Jvm.LawKit.callS X0 hx (y := (⟨"jdk/internal/util/Preconditions", "checkIndex", "(IILjava/util/function/BiFunction;)I"⟩ : MethodName)) hown (mvT hZ (hw _ (List.mem_of_getElem? (i := 274) rfl))) (mvT hZ (hw _ (List.mem_of_getElem? (i := 275) rfl))) (mvT hZ (hw _ (List.mem_of_getElem? (i := 276) rfl))) (mvT hZ (hw _ (List.mem_of_getElem? (i := 277) rfl))) (by decide) (backOf (W := 0) (rm35 l Z a0 hw [] p1 p2 h0 n0 h1 h2) hZ (hw _ (List.mem_of_getElem? (i := 277) rfl)) (hw _ (List.mem_of_getElem? (i := 276) rfl)) (by decide) (by decide)) (g := (mkF m 3 #[.val (.int p1), .val (.int p2)] [.null, (.int p2), (.int p1)])) rfl (by rw [hml]; rfl) (argsL := [(.int p1), (.int p2), .null]) (rest := []) (lenOf pd_28 rfl) rfl (by show 2 * 0 + _ ≤ _; exact Nat.le_of_eq rfl) (hb hby d34_3) (fun _ _ => ⟨rfl, e0, (by decide : 0 + 0 ≤ _), (by decide : 0 + 0 ≤ _)⟩)
  dsimp only [Pt.U, Pt.locs, Pt.cells, Pt.slots] at X202 l202 y202 z202 st202 hQ202
  subst y202 z202
  obtain ⟨rfl, Nq202, e202⟩ := hQ202
  have N202 : Fr n0 L202 := by rw [l202]; exact Fr.app N0 Nq202
  clear l202
  refine Go.by (fun t => st202 t) ?_
  replace X202 := Stand.num (C := 0) (S := 0) X202 rfl rfl
  show Go p e below _ (T202.setTop (mkF m 6 #[.val (.int p1), .val (.int p2)] [(.int p1)]))
  show Go p e below _ (T202.setTop (mkF m 6 #[.val (.int p1), .val (.int p2)] [(.int p1)]))
  exact Go.ret1 X202 hx Bd.returns Bd.notSynchronized rfl (Or.inl ⟨rfl, by simp, _, rfl⟩) (hb hby d34_6) (by decide) (by decide) (by first | (rw [e202]; exact ⟨rfl, N202, rfl⟩) | exact ⟨rfl, N202, rfl⟩)
def Q_rmED0 (Z : State) (a1 ar x1 x2 : Addr) (kc : ClassId) (h0 : Heap) (n0 : Nat) : Option Value → Heap → List Loc → Prop := fun v h L => v = some (.ref x1) ∧ Fr n0 L ∧ h = h0
set_option maxRecDepth 65536 in
set_option maxHeartbeats 40000000 in
theorem rmED0 (l : Launch) (Z : State) (a0 : Array Value) (hw : ∀ d ∈ tables_1, d.before a0 Z = true) (ws : List Jvm.Cond) (a1 ar x1 x2 : Addr) (kc : ClassId) (h0 : Heap) (n0 : Nat) (F_elementData_a1 : Fld Z h0 a1 "java/util/ArrayList" "elementData" "[Ljava/lang/Object;" (.ref ar)) (V_ar : Arv Z h0 ar kc (.object "java/lang/Object") (10 : Int32) [(.ref x1), (.ref x2), .null, .null, .null, .null, .null, .null, .null, .null] .null) :
    MetFree l (⟨"java/util/ArrayList", "elementData", "(I)Ljava/lang/Object;"⟩ : MethodName) (head1 (Jvm.Cond.code (⟨"java/util/ArrayList", "elementData", "(I)Ljava/lang/Object;"⟩ : MethodName) jdk_38_method_18_code 2 (some (.object "java/lang/Object")) :: ws) ({ frames := 0, cells := 0, slots := 0, locals := 0 } : Room)) (fun a U => a = #[(.ref a1), (.int (0 : Int32))] ∧ Z.Warmed39 U.vm ∧ U.heap = h0) (fun _ _ _ _ _ => True) (fun _ U o U' => ∃ v L, o = .returned v ∧ Q_rmED0 Z a1 ar x1 x2 kc h0 n0 v U'.heap L ∧ FrameEnd U o U' L ({ frames := 0, cells := 0, slots := 0, locals := 0 } : Room).cells ({ frames := 0, cells := 0, slots := 0, locals := 0 } : Room).slots) := by
  refine MetFree.of_bodySF (plainFor_of_name pn_4) hisR ?_
  intro p e s m args below meth c s₁ Bd hml0 hP hK
  obtain ⟨rfl, hZ, hh⟩ := hP
  have hx := Bd.exec
  have hby := Bd.bytes
  have hml : c.maxLocals = 2 := hml0
  have hown : s.vm.findClass "java/util/ArrayList" = some m.cls := findClass_of_methodNamed Bd.named
  have hnm := (name_of_methodNamed Bd.named Bd.method).1
  have X0 : Stand p l e ({ frames := 0, cells := 0, slots := 0, locals := 0 } : Room) s m #[(.ref a1), (.int (0 : Int32))] below meth c s₁ [] 0 0 := Stand.of_body Bd
  have e0 : s₁.heap = h0 := by rw [← hh, Bd.state]; rfl
  have N0 := Fr.nil n0
  have ef : entryFrame m #[(.ref a1), (.int (0 : Int32))] 2 = (mkF m 0 #[.val (.ref a1), .val (.int (0 : Int32))] []) := by first | (simp [entryFrame, mkF, argsToLocals, Value.category, maxLocals]; done) | rfl
  show Go p e below (End (fun v h L => v = some (.ref x1) ∧ Fr n0 L ∧ h = h0) s 0 0) (s₁.setTop (entryFrame m #[(.ref a1), (.int (0 : Int32))] 2))
  rw [ef]
  show Go p e below _ (s₁.setTop (mkF m 0 #[.val (.ref a1), .val (.int (0 : Int32))] []))
  show Go p e below _ (s₁.setTop (mkF m 0 #[.val (.ref a1), .val (.int (0 : Int32))] []))
  refine Go.by (fun t => XS.aloadN X0.here hx rfl (hb hby d36_0) rfl rfl) ?_
  show Go p e below _ (s₁.setTop (mkF m 1 #[.val (.ref a1), .val (.int (0 : Int32))] [(.ref a1)]))
  obtain ⟨T203, X203, e203, st203⟩ := getF X0 hx hZ hown (host := "") (Or.inl (hw _ (List.mem_of_getElem? (i := 106) rfl))) Via.refl e0 F_elementData_a1 (g := (mkF m 1 #[.val (.ref a1), .val (.int (0 : Int32))] [(.ref a1)])) rfl rfl (hb hby d36_1)
  refine Go.by (fun t => st203 t) ?_
  show Go p e below _ (T203.setTop (mkF m 4 #[.val (.ref a1), .val (.int (0 : Int32))] [(.ref ar)]))
  show Go p e below _ (T203.setTop (mkF m 4 #[.val (.ref a1), .val (.int (0 : Int32))] [(.ref ar)]))
  refine Go.by (fun t => XS.iloadN X203.here hx rfl (hb hby d36_4) rfl ) ?_
  show Go p e below _ (T203.setTop (mkF m 5 #[.val (.ref a1), .val (.int (0 : Int32))] [(.int (0 : Int32)), (.ref ar)]))
  obtain ⟨cl_204, Ar_204, q_204, S_204, M_204, H_204, G_204⟩ := id V_ar
  have in_204 := inb_of S_204 (j := (0 : Int32)) ⟨by decide, by decide⟩
  refine Go.by (fun t => X203.aaload hx (j := (0 : Int32)) (v := (.ref x1)) (by rw [e203]; exact Ar_204.1) (State.isArrayOf_alike hZ.alike Ar_204.2.1) rfl Ar_204.2.2 in_204 (H_204.at in_204 rfl) (g := (mkF m 5 #[.val (.ref a1), .val (.int (0 : Int32))] [(.int (0 : Int32)), (.ref ar)])) rfl rfl (hb hby d36_5) t) ?_
  show Go p e below _ (T203.setTop (mkF m 6 #[.val (.ref a1), .val (.int (0 : Int32))] [(.ref x1)]))
  show Go p e below _ (T203.setTop (mkF m 6 #[.val (.ref a1), .val (.int (0 : Int32))] [(.ref x1)]))
  exact Go.ret1 X203 hx Bd.returns Bd.notSynchronized rfl (Or.inr (Or.inr (Or.inr (Or.inr ⟨rfl, rfl, rfl⟩)))) (hb hby d36_6) (by decide) (by decide) (by first | (rw [e203]; exact ⟨rfl, N0, rfl⟩) | exact ⟨rfl, N0, rfl⟩)
def Q_rmGT0 (Z : State) (a1 ar x1 x2 : Addr) (kc : ClassId) (h0 : Heap) (n0 : Nat) : Option Value → Heap → List Loc → Prop := fun v h L => v = some (.ref x1) ∧ Fr n0 L ∧ h = h0
set_option maxRecDepth 65536 in
set_option maxHeartbeats 40000000 in
theorem rmGT0 (l : Launch) (Z : State) (a0 : Array Value) (hw : ∀ d ∈ tables_1, d.before a0 Z = true) (ws : List Jvm.Cond) (a1 ar x1 x2 : Addr) (kc : ClassId) (h0 : Heap) (n0 : Nat) (E_a1 : Exa Z h0 a1 "java/util/ArrayList") (F_size_a1 : Fld Z h0 a1 "java/util/ArrayList" "size" "I" (.int 2)) (F_elementData_a1 : Fld Z h0 a1 "java/util/ArrayList" "elementData" "[Ljava/lang/Object;" (.ref ar)) (V_ar : Arv Z h0 ar kc (.object "java/lang/Object") (10 : Int32) [(.ref x1), (.ref x2), .null, .null, .null, .null, .null, .null, .null, .null] .null) :
    MetFree l (⟨"java/util/ArrayList", "get", "(I)Ljava/lang/Object;"⟩ : MethodName) (head1 (Jvm.Cond.code (⟨"java/util/ArrayList", "get", "(I)Ljava/lang/Object;"⟩ : MethodName) jdk_38_method_20_code 2 (some (.object "java/lang/Object")) :: ws) ({ frames := 2, cells := 0, slots := 0, locals := 30 } : Room)) (fun a U => a = #[(.ref a1), (.int (0 : Int32))] ∧ Z.Warmed39 U.vm ∧ U.heap = h0) (fun _ _ _ _ _ => True) (fun _ U o U' => ∃ v L, o = .returned v ∧ Q_rmGT0 Z a1 ar x1 x2 kc h0 n0 v U'.heap L ∧ FrameEnd U o U' L ({ frames := 2, cells := 0, slots := 0, locals := 30 } : Room).cells ({ frames := 2, cells := 0, slots := 0, locals := 30 } : Room).slots) := by
  refine MetFree.of_bodySF (plainFor_of_name pn_4) hisR ?_
  intro p e s m args below meth c s₁ Bd hml0 hP hK
  obtain ⟨rfl, hZ, hh⟩ := hP
  have hx := Bd.exec
  have hby := Bd.bytes
  have hml : c.maxLocals = 2 := hml0
  have hown : s.vm.findClass "java/util/ArrayList" = some m.cls := findClass_of_methodNamed Bd.named
  have hnm := (name_of_methodNamed Bd.named Bd.method).1
  have X0 : Stand p l e ({ frames := 2, cells := 0, slots := 0, locals := 30 } : Room) s m #[(.ref a1), (.int (0 : Int32))] below meth c s₁ [] 0 0 := Stand.of_body Bd
  have e0 : s₁.heap = h0 := by rw [← hh, Bd.state]; rfl
  have N0 := Fr.nil n0
  have ef : entryFrame m #[(.ref a1), (.int (0 : Int32))] 2 = (mkF m 0 #[.val (.ref a1), .val (.int (0 : Int32))] []) := by first | (simp [entryFrame, mkF, argsToLocals, Value.category, maxLocals]; done) | rfl
  show Go p e below (End (fun v h L => v = some (.ref x1) ∧ Fr n0 L ∧ h = h0) s 0 0) (s₁.setTop (entryFrame m #[(.ref a1), (.int (0 : Int32))] 2))
  rw [ef]
  show Go p e below _ (s₁.setTop (mkF m 0 #[.val (.ref a1), .val (.int (0 : Int32))] []))
  show Go p e below _ (s₁.setTop (mkF m 0 #[.val (.ref a1), .val (.int (0 : Int32))] []))
  refine Go.by (fun t => XS.iloadN X0.here hx rfl (hb hby d33_0) rfl ) ?_
  show Go p e below _ (s₁.setTop (mkF m 1 #[.val (.ref a1), .val (.int (0 : Int32))] [(.int (0 : Int32))]))
  refine Go.by (fun t => XS.aloadN X0.here hx rfl (hb hby d33_1) rfl rfl) ?_
  show Go p e below _ (s₁.setTop (mkF m 2 #[.val (.ref a1), .val (.int (0 : Int32))] [(.ref a1), (.int (0 : Int32))]))
  obtain ⟨T205, X205, e205, st205⟩ := getF X0 hx hZ hown (host := "") (Or.inl (hw _ (List.mem_of_getElem? (i := 126) rfl))) Via.refl e0 F_size_a1 (g := (mkF m 2 #[.val (.ref a1), .val (.int (0 : Int32))] [(.ref a1), (.int (0 : Int32))])) rfl rfl (hb hby d33_2)
  refine Go.by (fun t => st205 t) ?_
  show Go p e below _ (T205.setTop (mkF m 5 #[.val (.ref a1), .val (.int (0 : Int32))] [(.int (2 : Int32)), (.int (0 : Int32))]))
  obtain ⟨_, _, ⟨T206, L206, k206, n206⟩, -, X206, ⟨Lc206, hQ206, l206, y206, z206⟩, st206⟩ := Jvm.LawKit.callS X205 hx (y := (⟨"java/util/Objects", "checkIndex", "(II)I"⟩ : MethodName)) hown (mvT hZ (hw _ (List.mem_of_getElem? (i := 271) rfl))) (mvT hZ (hw _ (List.mem_of_getElem? (i := 272) rfl))) (mvT hZ (hw _ (List.mem_of_getElem? (i := 139) rfl))) (mvT hZ (hw _ (List.mem_of_getElem? (i := 273) rfl))) (by decide) (backOf (W := 0) (rm34 l Z a0 hw [] 0 2 h0 n0 (by decide) (by decide)) hZ (hw _ (List.mem_of_getElem? (i := 273) rfl)) (hw _ (List.mem_of_getElem? (i := 139) rfl)) (by decide) (by decide)) (g := (mkF m 5 #[.val (.ref a1), .val (.int (0 : Int32))] [(.int (2 : Int32)), (.int (0 : Int32))])) rfl (by rw [hml]; rfl) (argsL := [(.int (0 : Int32)), (.int (2 : Int32))]) (rest := []) (lenOf pd_23 rfl) rfl (by show 2 * 0 + _ ≤ _; exact Nat.le_of_eq rfl) (hb hby d33_5) (fun _ _ => ⟨rfl, e205, (by decide : 0 + 0 ≤ _), (by decide : 0 + 0 ≤ _)⟩)
  dsimp only [Pt.U, Pt.locs, Pt.cells, Pt.slots] at X206 l206 y206 z206 st206 hQ206
  subst y206 z206
  obtain ⟨rfl, Nq206, e206⟩ := hQ206
  have N206 : Fr n0 L206 := by rw [l206]; exact Fr.app N0 Nq206
  clear l206
  refine Go.by (fun t => st206 t) ?_
  replace X206 := Stand.num (C := 0) (S := 0) X206 rfl rfl
  show Go p e below _ (T206.setTop (mkF m 8 #[.val (.ref a1), .val (.int (0 : Int32))] [(.int (0 : Int32))]))
  show Go p e below _ (T206.setTop (mkF m 8 #[.val (.ref a1), .val (.int (0 : Int32))] [(.int (0 : Int32))]))
  refine Go.by (fun t => XS.pop X206.here hx rfl (hb hby d33_8) rfl rfl) ?_
  show Go p e below _ (T206.setTop (mkF m 9 #[.val (.ref a1), .val (.int (0 : Int32))] []))
  refine Go.by (fun t => XS.aloadN X206.here hx rfl (hb hby d33_9) rfl rfl) ?_
  show Go p e below _ (T206.setTop (mkF m 10 #[.val (.ref a1), .val (.int (0 : Int32))] [(.ref a1)]))
  refine Go.by (fun t => XS.iloadN X206.here hx rfl (hb hby d33_10) rfl ) ?_
  show Go p e below _ (T206.setTop (mkF m 11 #[.val (.ref a1), .val (.int (0 : Int32))] [(.int (0 : Int32)), (.ref a1)]))
  obtain ⟨cq207, kq207, q207a, q207b, q207c⟩ := isOf hZ e206 E_a1
  obtain ⟨_, _, ⟨T207, L207, k207, n207⟩, -, X207, ⟨Lc207, hQ207, l207, y207, z207⟩, st207⟩ := X206.virtualBack hx (y := (⟨"java/util/ArrayList", "elementData", "(I)Ljava/lang/Object;"⟩ : MethodName)) (z := (⟨"java/util/ArrayList", "elementData", "(I)Ljava/lang/Object;"⟩ : MethodName)) hown (mvT hZ (hw _ (List.mem_of_getElem? (i := 278) rfl))) (mvT hZ (hw _ (List.mem_of_getElem? (i := 279) rfl))) (notFace_of_selects (args := #[]) (mvT hZ (hw _ (List.mem_of_getElem? (i := 281) rfl)))) (mvT hZ (hw _ (List.mem_of_getElem? (i := 281) rfl))) (mvT hZ (hw _ (List.mem_of_getElem? (i := 280) rfl))) (by decide) (backOf (W := 0) (rmED0 l Z a0 hw [] a1 ar x1 x2 kc h0 n0 F_elementData_a1 V_ar) hZ (hw _ (List.mem_of_getElem? (i := 282) rfl)) (hw _ (List.mem_of_getElem? (i := 86) rfl)) (by decide) (by decide)) q207a q207c (g := (mkF m 11 #[.val (.ref a1), .val (.int (0 : Int32))] [(.int (0 : Int32)), (.ref a1)])) rfl (by rw [hml]; rfl) (Steps.refl _) (argsL := [(.int (0 : Int32))]) (rest := []) (lenOf pd_7 rfl) rfl (by show 2 * 0 + _ ≤ _; exact Nat.le_of_eq rfl) (hb hby d33_11) (fun _ _ => ⟨rfl, e206, (by decide : 0 + 0 ≤ _), (by decide : 0 + 0 ≤ _)⟩)
  dsimp only [Pt.U, Pt.locs, Pt.cells, Pt.slots] at X207 l207 y207 z207 st207 hQ207
  subst y207 z207
  obtain ⟨rfl, Nq207, e207⟩ := hQ207
  have N207 : Fr n0 L207 := by rw [l207]; exact Fr.app N206 Nq207
  clear l207
  refine Go.by (fun t => st207.trans) ?_
  replace X207 := Stand.num (C := 0) (S := 0) X207 rfl rfl
  show Go p e below _ (T207.setTop (mkF m 14 #[.val (.ref a1), .val (.int (0 : Int32))] [(.ref x1)]))
  show Go p e below _ (T207.setTop (mkF m 14 #[.val (.ref a1), .val (.int (0 : Int32))] [(.ref x1)]))
  exact Go.ret1 X207 hx Bd.returns Bd.notSynchronized rfl (Or.inr (Or.inr (Or.inr (Or.inr ⟨rfl, rfl, rfl⟩)))) (hb hby d33_14) (by decide) (by decide) (by first | (rw [e207]; exact ⟨rfl, N207, rfl⟩) | exact ⟨rfl, N207, rfl⟩)
def Q_rmUG0 (Z : State) (u1 a1 ar x1 x2 : Addr) (kc : ClassId) (h0 : Heap) (n0 : Nat) : Option Value → Heap → List Loc → Prop := fun v h L => v = some (.ref x1) ∧ Fr n0 L ∧ h = h0
set_option maxRecDepth 65536 in
set_option maxHeartbeats 40000000 in
theorem rmUG0 (l : Launch) (Z : State) (a0 : Array Value) (hw : ∀ d ∈ tables_1, d.before a0 Z = true) (ws : List Jvm.Cond) (u1 a1 ar x1 x2 : Addr) (kc : ClassId) (h0 : Heap) (n0 : Nat) (F_list_u1 : Fld Z h0 u1 "java/util/Collections$UnmodifiableList" "list" "Ljava/util/List;" (.ref a1)) (E_a1 : Exa Z h0 a1 "java/util/ArrayList") (F_size_a1 : Fld Z h0 a1 "java/util/ArrayList" "size" "I" (.int 2)) (F_elementData_a1 : Fld Z h0 a1 "java/util/ArrayList" "elementData" "[Ljava/lang/Object;" (.ref ar)) (V_ar : Arv Z h0 ar kc (.object "java/lang/Object") (10 : Int32) [(.ref x1), (.ref x2), .null, .null, .null, .null, .null, .null, .null, .null] .null) :
    MetFree l (⟨"java/util/Collections$UnmodifiableList", "get", "(I)Ljava/lang/Object;"⟩ : MethodName) (head1 (Jvm.Cond.code (⟨"java/util/Collections$UnmodifiableList", "get", "(I)Ljava/lang/Object;"⟩ : MethodName) jdk_120_method_4_code 2 (some (.object "java/lang/Object")) :: ws) ({ frames := 3, cells := 0, slots := 0, locals := 45 } : Room)) (fun a U => a = #[(.ref u1), (.int (0 : Int32))] ∧ Z.Warmed39 U.vm ∧ U.heap = h0) (fun _ _ _ _ _ => True) (fun _ U o U' => ∃ v L, o = .returned v ∧ Q_rmUG0 Z u1 a1 ar x1 x2 kc h0 n0 v U'.heap L ∧ FrameEnd U o U' L ({ frames := 3, cells := 0, slots := 0, locals := 45 } : Room).cells ({ frames := 3, cells := 0, slots := 0, locals := 45 } : Room).slots) := by
  refine MetFree.of_bodySF (plainFor_of_name pn_12) hisR ?_
  intro p e s m args below meth c s₁ Bd hml0 hP hK
  obtain ⟨rfl, hZ, hh⟩ := hP
  have hx := Bd.exec
  have hby := Bd.bytes
  have hml : c.maxLocals = 2 := hml0
  have hown : s.vm.findClass "java/util/Collections$UnmodifiableList" = some m.cls := findClass_of_methodNamed Bd.named
  have hnm := (name_of_methodNamed Bd.named Bd.method).1
  have X0 : Stand p l e ({ frames := 3, cells := 0, slots := 0, locals := 45 } : Room) s m #[(.ref u1), (.int (0 : Int32))] below meth c s₁ [] 0 0 := Stand.of_body Bd
  have e0 : s₁.heap = h0 := by rw [← hh, Bd.state]; rfl
  have N0 := Fr.nil n0
  have ef : entryFrame m #[(.ref u1), (.int (0 : Int32))] 2 = (mkF m 0 #[.val (.ref u1), .val (.int (0 : Int32))] []) := by first | (simp [entryFrame, mkF, argsToLocals, Value.category, maxLocals]; done) | rfl
  show Go p e below (End (fun v h L => v = some (.ref x1) ∧ Fr n0 L ∧ h = h0) s 0 0) (s₁.setTop (entryFrame m #[(.ref u1), (.int (0 : Int32))] 2))
  rw [ef]
  show Go p e below _ (s₁.setTop (mkF m 0 #[.val (.ref u1), .val (.int (0 : Int32))] []))
  show Go p e below _ (s₁.setTop (mkF m 0 #[.val (.ref u1), .val (.int (0 : Int32))] []))
  refine Go.by (fun t => XS.aloadN X0.here hx rfl (hb hby d32_0) rfl rfl) ?_
  show Go p e below _ (s₁.setTop (mkF m 1 #[.val (.ref u1), .val (.int (0 : Int32))] [(.ref u1)]))
  obtain ⟨T208, X208, e208, st208⟩ := getF X0 hx hZ hown (host := "") (Or.inl (hw _ (List.mem_of_getElem? (i := 237) rfl))) Via.refl e0 F_list_u1 (g := (mkF m 1 #[.val (.ref u1), .val (.int (0 : Int32))] [(.ref u1)])) rfl rfl (hb hby d32_1)
  refine Go.by (fun t => st208 t) ?_
  show Go p e below _ (T208.setTop (mkF m 4 #[.val (.ref u1), .val (.int (0 : Int32))] [(.ref a1)]))
  show Go p e below _ (T208.setTop (mkF m 4 #[.val (.ref u1), .val (.int (0 : Int32))] [(.ref a1)]))
  refine Go.by (fun t => XS.iloadN X208.here hx rfl (hb hby d32_4) rfl ) ?_
  show Go p e below _ (T208.setTop (mkF m 5 #[.val (.ref u1), .val (.int (0 : Int32))] [(.int (0 : Int32)), (.ref a1)]))
  obtain ⟨cq209, kq209, q209a, q209b, q209c⟩ := isOf hZ e208 E_a1
  obtain ⟨_, _, ⟨T209, L209, k209, n209⟩, -, X209, ⟨Lc209, hQ209, l209, y209, z209⟩, st209⟩ := X208.interfaceBack hx (xi := (⟨"java/util/List", "get", "(I)Ljava/lang/Object;"⟩ : MethodName)) (y := (⟨"java/util/ArrayList", "get", "(I)Ljava/lang/Object;"⟩ : MethodName)) hown (mvT hZ (hw _ (List.mem_of_getElem? (i := 265) rfl))) (mvT hZ (hw _ (List.mem_of_getElem? (i := 258) rfl))) (mvT hZ (hw _ (List.mem_of_getElem? (i := 259) rfl))) (mvT hZ (hw _ (List.mem_of_getElem? (i := 266) rfl))) (mvT hZ (hw _ (List.mem_of_getElem? (i := 267) rfl))) (mvT hZ (hw _ (List.mem_of_getElem? (i := 268) rfl))) (mvT hZ (hw _ (List.mem_of_getElem? (i := 269) rfl))) (mvT hZ (hw _ (List.mem_of_getElem? (i := 124) rfl))) (by decide) (backOf (W := 0) (rmGT0 l Z a0 hw [] a1 ar x1 x2 kc h0 n0 E_a1 F_size_a1 F_elementData_a1 V_ar) hZ (hw _ (List.mem_of_getElem? (i := 270) rfl)) (hw _ (List.mem_of_getElem? (i := 86) rfl)) (by decide) (by decide)) q209a q209b q209c (g := (mkF m 5 #[.val (.ref u1), .val (.int (0 : Int32))] [(.int (0 : Int32)), (.ref a1)])) rfl (by rw [hml]; rfl) (Steps.refl _) (argsL := [(.int (0 : Int32))]) (rest := []) (lenOf pd_7 rfl) rfl (by show 2 * 0 + _ ≤ _; exact Nat.le_of_eq rfl) (hb hby d32_5) (fun _ _ => ⟨rfl, e208, (by decide : 0 + 0 ≤ _), (by decide : 0 + 0 ≤ _)⟩)
  dsimp only [Pt.U, Pt.locs, Pt.cells, Pt.slots] at X209 l209 y209 z209 st209 hQ209
  subst y209 z209
  obtain ⟨rfl, Nq209, e209⟩ := hQ209
  have N209 : Fr n0 L209 := by rw [l209]; exact Fr.app N0 Nq209
  clear l209
  refine Go.by (fun t => st209.trans) ?_
  replace X209 := Stand.num (C := 0) (S := 0) X209 rfl rfl
  show Go p e below _ (T209.setTop (mkF m 10 #[.val (.ref u1), .val (.int (0 : Int32))] [(.ref x1)]))
  show Go p e below _ (T209.setTop (mkF m 10 #[.val (.ref u1), .val (.int (0 : Int32))] [(.ref x1)]))
  exact Go.ret1 X209 hx Bd.returns Bd.notSynchronized rfl (Or.inr (Or.inr (Or.inr (Or.inr ⟨rfl, rfl, rfl⟩)))) (hb hby d32_10) (by decide) (by decide) (by first | (rw [e209]; exact ⟨rfl, N209, rfl⟩) | exact ⟨rfl, N209, rfl⟩)
def Q_rmED1 (Z : State) (a1 ar x1 x2 : Addr) (kc : ClassId) (h0 : Heap) (n0 : Nat) : Option Value → Heap → List Loc → Prop := fun v h L => v = some (.ref x2) ∧ Fr n0 L ∧ h = h0
set_option maxRecDepth 65536 in
set_option maxHeartbeats 40000000 in
theorem rmED1 (l : Launch) (Z : State) (a0 : Array Value) (hw : ∀ d ∈ tables_1, d.before a0 Z = true) (ws : List Jvm.Cond) (a1 ar x1 x2 : Addr) (kc : ClassId) (h0 : Heap) (n0 : Nat) (F_elementData_a1 : Fld Z h0 a1 "java/util/ArrayList" "elementData" "[Ljava/lang/Object;" (.ref ar)) (V_ar : Arv Z h0 ar kc (.object "java/lang/Object") (10 : Int32) [(.ref x1), (.ref x2), .null, .null, .null, .null, .null, .null, .null, .null] .null) :
    MetFree l (⟨"java/util/ArrayList", "elementData", "(I)Ljava/lang/Object;"⟩ : MethodName) (head1 (Jvm.Cond.code (⟨"java/util/ArrayList", "elementData", "(I)Ljava/lang/Object;"⟩ : MethodName) jdk_38_method_18_code 2 (some (.object "java/lang/Object")) :: ws) ({ frames := 0, cells := 0, slots := 0, locals := 0 } : Room)) (fun a U => a = #[(.ref a1), (.int (1 : Int32))] ∧ Z.Warmed39 U.vm ∧ U.heap = h0) (fun _ _ _ _ _ => True) (fun _ U o U' => ∃ v L, o = .returned v ∧ Q_rmED1 Z a1 ar x1 x2 kc h0 n0 v U'.heap L ∧ FrameEnd U o U' L ({ frames := 0, cells := 0, slots := 0, locals := 0 } : Room).cells ({ frames := 0, cells := 0, slots := 0, locals := 0 } : Room).slots) := by
  refine MetFree.of_bodySF (plainFor_of_name pn_4) hisR ?_
  intro p e s m args below meth c s₁ Bd hml0 hP hK
  obtain ⟨rfl, hZ, hh⟩ := hP
  have hx := Bd.exec
  have hby := Bd.bytes
  have hml : c.maxLocals = 2 := hml0
  have hown : s.vm.findClass "java/util/ArrayList" = some m.cls := findClass_of_methodNamed Bd.named
  have hnm := (name_of_methodNamed Bd.named Bd.method).1
  have X0 : Stand p l e ({ frames := 0, cells := 0, slots := 0, locals := 0 } : Room) s m #[(.ref a1), (.int (1 : Int32))] below meth c s₁ [] 0 0 := Stand.of_body Bd
  have e0 : s₁.heap = h0 := by rw [← hh, Bd.state]; rfl
  have N0 := Fr.nil n0
  have ef : entryFrame m #[(.ref a1), (.int (1 : Int32))] 2 = (mkF m 0 #[.val (.ref a1), .val (.int (1 : Int32))] []) := by first | (simp [entryFrame, mkF, argsToLocals, Value.category, maxLocals]; done) | rfl
  show Go p e below (End (fun v h L => v = some (.ref x2) ∧ Fr n0 L ∧ h = h0) s 0 0) (s₁.setTop (entryFrame m #[(.ref a1), (.int (1 : Int32))] 2))
  rw [ef]
  show Go p e below _ (s₁.setTop (mkF m 0 #[.val (.ref a1), .val (.int (1 : Int32))] []))
  show Go p e below _ (s₁.setTop (mkF m 0 #[.val (.ref a1), .val (.int (1 : Int32))] []))
  refine Go.by (fun t => XS.aloadN X0.here hx rfl (hb hby d36_0) rfl rfl) ?_
  show Go p e below _ (s₁.setTop (mkF m 1 #[.val (.ref a1), .val (.int (1 : Int32))] [(.ref a1)]))
  obtain ⟨T210, X210, e210, st210⟩ := getF X0 hx hZ hown (host := "") (Or.inl (hw _ (List.mem_of_getElem? (i := 106) rfl))) Via.refl e0 F_elementData_a1 (g := (mkF m 1 #[.val (.ref a1), .val (.int (1 : Int32))] [(.ref a1)])) rfl rfl (hb hby d36_1)
  refine Go.by (fun t => st210 t) ?_
  show Go p e below _ (T210.setTop (mkF m 4 #[.val (.ref a1), .val (.int (1 : Int32))] [(.ref ar)]))
  show Go p e below _ (T210.setTop (mkF m 4 #[.val (.ref a1), .val (.int (1 : Int32))] [(.ref ar)]))
  refine Go.by (fun t => XS.iloadN X210.here hx rfl (hb hby d36_4) rfl ) ?_
  show Go p e below _ (T210.setTop (mkF m 5 #[.val (.ref a1), .val (.int (1 : Int32))] [(.int (1 : Int32)), (.ref ar)]))
  obtain ⟨cl_211, Ar_211, q_211, S_211, M_211, H_211, G_211⟩ := id V_ar
  have in_211 := inb_of S_211 (j := (1 : Int32)) ⟨by decide, by decide⟩
  refine Go.by (fun t => X210.aaload hx (j := (1 : Int32)) (v := (.ref x2)) (by rw [e210]; exact Ar_211.1) (State.isArrayOf_alike hZ.alike Ar_211.2.1) rfl Ar_211.2.2 in_211 (H_211.at in_211 rfl) (g := (mkF m 5 #[.val (.ref a1), .val (.int (1 : Int32))] [(.int (1 : Int32)), (.ref ar)])) rfl rfl (hb hby d36_5) t) ?_
  show Go p e below _ (T210.setTop (mkF m 6 #[.val (.ref a1), .val (.int (1 : Int32))] [(.ref x2)]))
  show Go p e below _ (T210.setTop (mkF m 6 #[.val (.ref a1), .val (.int (1 : Int32))] [(.ref x2)]))
  exact Go.ret1 X210 hx Bd.returns Bd.notSynchronized rfl (Or.inr (Or.inr (Or.inr (Or.inr ⟨rfl, rfl, rfl⟩)))) (hb hby d36_6) (by decide) (by decide) (by first | (rw [e210]; exact ⟨rfl, N0, rfl⟩) | exact ⟨rfl, N0, rfl⟩)
def Q_rmGT1 (Z : State) (a1 ar x1 x2 : Addr) (kc : ClassId) (h0 : Heap) (n0 : Nat) : Option Value → Heap → List Loc → Prop := fun v h L => v = some (.ref x2) ∧ Fr n0 L ∧ h = h0
set_option maxRecDepth 65536 in
set_option maxHeartbeats 40000000 in
theorem rmGT1 (l : Launch) (Z : State) (a0 : Array Value) (hw : ∀ d ∈ tables_1, d.before a0 Z = true) (ws : List Jvm.Cond) (a1 ar x1 x2 : Addr) (kc : ClassId) (h0 : Heap) (n0 : Nat) (E_a1 : Exa Z h0 a1 "java/util/ArrayList") (F_size_a1 : Fld Z h0 a1 "java/util/ArrayList" "size" "I" (.int 2)) (F_elementData_a1 : Fld Z h0 a1 "java/util/ArrayList" "elementData" "[Ljava/lang/Object;" (.ref ar)) (V_ar : Arv Z h0 ar kc (.object "java/lang/Object") (10 : Int32) [(.ref x1), (.ref x2), .null, .null, .null, .null, .null, .null, .null, .null] .null) :
    MetFree l (⟨"java/util/ArrayList", "get", "(I)Ljava/lang/Object;"⟩ : MethodName) (head1 (Jvm.Cond.code (⟨"java/util/ArrayList", "get", "(I)Ljava/lang/Object;"⟩ : MethodName) jdk_38_method_20_code 2 (some (.object "java/lang/Object")) :: ws) ({ frames := 2, cells := 0, slots := 0, locals := 30 } : Room)) (fun a U => a = #[(.ref a1), (.int (1 : Int32))] ∧ Z.Warmed39 U.vm ∧ U.heap = h0) (fun _ _ _ _ _ => True) (fun _ U o U' => ∃ v L, o = .returned v ∧ Q_rmGT1 Z a1 ar x1 x2 kc h0 n0 v U'.heap L ∧ FrameEnd U o U' L ({ frames := 2, cells := 0, slots := 0, locals := 30 } : Room).cells ({ frames := 2, cells := 0, slots := 0, locals := 30 } : Room).slots) := by
  refine MetFree.of_bodySF (plainFor_of_name pn_4) hisR ?_
  intro p e s m args below meth c s₁ Bd hml0 hP hK
  obtain ⟨rfl, hZ, hh⟩ := hP
  have hx := Bd.exec
  have hby := Bd.bytes
  have hml : c.maxLocals = 2 := hml0
  have hown : s.vm.findClass "java/util/ArrayList" = some m.cls := findClass_of_methodNamed Bd.named
  have hnm := (name_of_methodNamed Bd.named Bd.method).1
  have X0 : Stand p l e ({ frames := 2, cells := 0, slots := 0, locals := 30 } : Room) s m #[(.ref a1), (.int (1 : Int32))] below meth c s₁ [] 0 0 := Stand.of_body Bd
  have e0 : s₁.heap = h0 := by rw [← hh, Bd.state]; rfl
  have N0 := Fr.nil n0
  have ef : entryFrame m #[(.ref a1), (.int (1 : Int32))] 2 = (mkF m 0 #[.val (.ref a1), .val (.int (1 : Int32))] []) := by first | (simp [entryFrame, mkF, argsToLocals, Value.category, maxLocals]; done) | rfl
  show Go p e below (End (fun v h L => v = some (.ref x2) ∧ Fr n0 L ∧ h = h0) s 0 0) (s₁.setTop (entryFrame m #[(.ref a1), (.int (1 : Int32))] 2))
  rw [ef]
  show Go p e below _ (s₁.setTop (mkF m 0 #[.val (.ref a1), .val (.int (1 : Int32))] []))
  show Go p e below _ (s₁.setTop (mkF m 0 #[.val (.ref a1), .val (.int (1 : Int32))] []))
  refine Go.by (fun t => XS.iloadN X0.here hx rfl (hb hby d33_0) rfl ) ?_
  show Go p e below _ (s₁.setTop (mkF m 1 #[.val (.ref a1), .val (.int (1 : Int32))] [(.int (1 : Int32))]))
  refine Go.by (fun t => XS.aloadN X0.here hx rfl (hb hby d33_1) rfl rfl) ?_
  show Go p e below _ (s₁.setTop (mkF m 2 #[.val (.ref a1), .val (.int (1 : Int32))] [(.ref a1), (.int (1 : Int32))]))
  obtain ⟨T212, X212, e212, st212⟩ := getF X0 hx hZ hown (host := "") (Or.inl (hw _ (List.mem_of_getElem? (i := 126) rfl))) Via.refl e0 F_size_a1 (g := (mkF m 2 #[.val (.ref a1), .val (.int (1 : Int32))] [(.ref a1), (.int (1 : Int32))])) rfl rfl (hb hby d33_2)
  refine Go.by (fun t => st212 t) ?_
  show Go p e below _ (T212.setTop (mkF m 5 #[.val (.ref a1), .val (.int (1 : Int32))] [(.int (2 : Int32)), (.int (1 : Int32))]))
  obtain ⟨_, _, ⟨T213, L213, k213, n213⟩, -, X213, ⟨Lc213, hQ213, l213, y213, z213⟩, st213⟩ := Jvm.LawKit.callS X212 hx (y := (⟨"java/util/Objects", "checkIndex", "(II)I"⟩ : MethodName)) hown (mvT hZ (hw _ (List.mem_of_getElem? (i := 271) rfl))) (mvT hZ (hw _ (List.mem_of_getElem? (i := 272) rfl))) (mvT hZ (hw _ (List.mem_of_getElem? (i := 139) rfl))) (mvT hZ (hw _ (List.mem_of_getElem? (i := 273) rfl))) (by decide) (backOf (W := 0) (rm34 l Z a0 hw [] 1 2 h0 n0 (by decide) (by decide)) hZ (hw _ (List.mem_of_getElem? (i := 273) rfl)) (hw _ (List.mem_of_getElem? (i := 139) rfl)) (by decide) (by decide)) (g := (mkF m 5 #[.val (.ref a1), .val (.int (1 : Int32))] [(.int (2 : Int32)), (.int (1 : Int32))])) rfl (by rw [hml]; rfl) (argsL := [(.int (1 : Int32)), (.int (2 : Int32))]) (rest := []) (lenOf pd_23 rfl) rfl (by show 2 * 0 + _ ≤ _; exact Nat.le_of_eq rfl) (hb hby d33_5) (fun _ _ => ⟨rfl, e212, (by decide : 0 + 0 ≤ _), (by decide : 0 + 0 ≤ _)⟩)
  dsimp only [Pt.U, Pt.locs, Pt.cells, Pt.slots] at X213 l213 y213 z213 st213 hQ213
  subst y213 z213
  obtain ⟨rfl, Nq213, e213⟩ := hQ213
  have N213 : Fr n0 L213 := by rw [l213]; exact Fr.app N0 Nq213
  clear l213
  refine Go.by (fun t => st213 t) ?_
  replace X213 := Stand.num (C := 0) (S := 0) X213 rfl rfl
  show Go p e below _ (T213.setTop (mkF m 8 #[.val (.ref a1), .val (.int (1 : Int32))] [(.int (1 : Int32))]))
  show Go p e below _ (T213.setTop (mkF m 8 #[.val (.ref a1), .val (.int (1 : Int32))] [(.int (1 : Int32))]))
  refine Go.by (fun t => XS.pop X213.here hx rfl (hb hby d33_8) rfl rfl) ?_
  show Go p e below _ (T213.setTop (mkF m 9 #[.val (.ref a1), .val (.int (1 : Int32))] []))
  refine Go.by (fun t => XS.aloadN X213.here hx rfl (hb hby d33_9) rfl rfl) ?_
  show Go p e below _ (T213.setTop (mkF m 10 #[.val (.ref a1), .val (.int (1 : Int32))] [(.ref a1)]))
  refine Go.by (fun t => XS.iloadN X213.here hx rfl (hb hby d33_10) rfl ) ?_
  show Go p e below _ (T213.setTop (mkF m 11 #[.val (.ref a1), .val (.int (1 : Int32))] [(.int (1 : Int32)), (.ref a1)]))
  obtain ⟨cq214, kq214, q214a, q214b, q214c⟩ := isOf hZ e213 E_a1
  obtain ⟨_, _, ⟨T214, L214, k214, n214⟩, -, X214, ⟨Lc214, hQ214, l214, y214, z214⟩, st214⟩ := X213.virtualBack hx (y := (⟨"java/util/ArrayList", "elementData", "(I)Ljava/lang/Object;"⟩ : MethodName)) (z := (⟨"java/util/ArrayList", "elementData", "(I)Ljava/lang/Object;"⟩ : MethodName)) hown (mvT hZ (hw _ (List.mem_of_getElem? (i := 278) rfl))) (mvT hZ (hw _ (List.mem_of_getElem? (i := 279) rfl))) (notFace_of_selects (args := #[]) (mvT hZ (hw _ (List.mem_of_getElem? (i := 281) rfl)))) (mvT hZ (hw _ (List.mem_of_getElem? (i := 281) rfl))) (mvT hZ (hw _ (List.mem_of_getElem? (i := 280) rfl))) (by decide) (backOf (W := 0) (rmED1 l Z a0 hw [] a1 ar x1 x2 kc h0 n0 F_elementData_a1 V_ar) hZ (hw _ (List.mem_of_getElem? (i := 282) rfl)) (hw _ (List.mem_of_getElem? (i := 86) rfl)) (by decide) (by decide)) q214a q214c (g := (mkF m 11 #[.val (.ref a1), .val (.int (1 : Int32))] [(.int (1 : Int32)), (.ref a1)])) rfl (by rw [hml]; rfl) (Steps.refl _) (argsL := [(.int (1 : Int32))]) (rest := []) (lenOf pd_7 rfl) rfl (by show 2 * 0 + _ ≤ _; exact Nat.le_of_eq rfl) (hb hby d33_11) (fun _ _ => ⟨rfl, e213, (by decide : 0 + 0 ≤ _), (by decide : 0 + 0 ≤ _)⟩)
  dsimp only [Pt.U, Pt.locs, Pt.cells, Pt.slots] at X214 l214 y214 z214 st214 hQ214
  subst y214 z214
  obtain ⟨rfl, Nq214, e214⟩ := hQ214
  have N214 : Fr n0 L214 := by rw [l214]; exact Fr.app N213 Nq214
  clear l214
  refine Go.by (fun t => st214.trans) ?_
  replace X214 := Stand.num (C := 0) (S := 0) X214 rfl rfl
  show Go p e below _ (T214.setTop (mkF m 14 #[.val (.ref a1), .val (.int (1 : Int32))] [(.ref x2)]))
  show Go p e below _ (T214.setTop (mkF m 14 #[.val (.ref a1), .val (.int (1 : Int32))] [(.ref x2)]))
  exact Go.ret1 X214 hx Bd.returns Bd.notSynchronized rfl (Or.inr (Or.inr (Or.inr (Or.inr ⟨rfl, rfl, rfl⟩)))) (hb hby d33_14) (by decide) (by decide) (by first | (rw [e214]; exact ⟨rfl, N214, rfl⟩) | exact ⟨rfl, N214, rfl⟩)
def Q_rmUG1 (Z : State) (u1 a1 ar x1 x2 : Addr) (kc : ClassId) (h0 : Heap) (n0 : Nat) : Option Value → Heap → List Loc → Prop := fun v h L => v = some (.ref x2) ∧ Fr n0 L ∧ h = h0
set_option maxRecDepth 65536 in
set_option maxHeartbeats 40000000 in
theorem rmUG1 (l : Launch) (Z : State) (a0 : Array Value) (hw : ∀ d ∈ tables_1, d.before a0 Z = true) (ws : List Jvm.Cond) (u1 a1 ar x1 x2 : Addr) (kc : ClassId) (h0 : Heap) (n0 : Nat) (F_list_u1 : Fld Z h0 u1 "java/util/Collections$UnmodifiableList" "list" "Ljava/util/List;" (.ref a1)) (E_a1 : Exa Z h0 a1 "java/util/ArrayList") (F_size_a1 : Fld Z h0 a1 "java/util/ArrayList" "size" "I" (.int 2)) (F_elementData_a1 : Fld Z h0 a1 "java/util/ArrayList" "elementData" "[Ljava/lang/Object;" (.ref ar)) (V_ar : Arv Z h0 ar kc (.object "java/lang/Object") (10 : Int32) [(.ref x1), (.ref x2), .null, .null, .null, .null, .null, .null, .null, .null] .null) :
    MetFree l (⟨"java/util/Collections$UnmodifiableList", "get", "(I)Ljava/lang/Object;"⟩ : MethodName) (head1 (Jvm.Cond.code (⟨"java/util/Collections$UnmodifiableList", "get", "(I)Ljava/lang/Object;"⟩ : MethodName) jdk_120_method_4_code 2 (some (.object "java/lang/Object")) :: ws) ({ frames := 3, cells := 0, slots := 0, locals := 45 } : Room)) (fun a U => a = #[(.ref u1), (.int (1 : Int32))] ∧ Z.Warmed39 U.vm ∧ U.heap = h0) (fun _ _ _ _ _ => True) (fun _ U o U' => ∃ v L, o = .returned v ∧ Q_rmUG1 Z u1 a1 ar x1 x2 kc h0 n0 v U'.heap L ∧ FrameEnd U o U' L ({ frames := 3, cells := 0, slots := 0, locals := 45 } : Room).cells ({ frames := 3, cells := 0, slots := 0, locals := 45 } : Room).slots) := by
  refine MetFree.of_bodySF (plainFor_of_name pn_12) hisR ?_
  intro p e s m args below meth c s₁ Bd hml0 hP hK
  obtain ⟨rfl, hZ, hh⟩ := hP
  have hx := Bd.exec
  have hby := Bd.bytes
  have hml : c.maxLocals = 2 := hml0
  have hown : s.vm.findClass "java/util/Collections$UnmodifiableList" = some m.cls := findClass_of_methodNamed Bd.named
  have hnm := (name_of_methodNamed Bd.named Bd.method).1
  have X0 : Stand p l e ({ frames := 3, cells := 0, slots := 0, locals := 45 } : Room) s m #[(.ref u1), (.int (1 : Int32))] below meth c s₁ [] 0 0 := Stand.of_body Bd
  have e0 : s₁.heap = h0 := by rw [← hh, Bd.state]; rfl
  have N0 := Fr.nil n0
  have ef : entryFrame m #[(.ref u1), (.int (1 : Int32))] 2 = (mkF m 0 #[.val (.ref u1), .val (.int (1 : Int32))] []) := by first | (simp [entryFrame, mkF, argsToLocals, Value.category, maxLocals]; done) | rfl
  show Go p e below (End (fun v h L => v = some (.ref x2) ∧ Fr n0 L ∧ h = h0) s 0 0) (s₁.setTop (entryFrame m #[(.ref u1), (.int (1 : Int32))] 2))
  rw [ef]
  show Go p e below _ (s₁.setTop (mkF m 0 #[.val (.ref u1), .val (.int (1 : Int32))] []))
  show Go p e below _ (s₁.setTop (mkF m 0 #[.val (.ref u1), .val (.int (1 : Int32))] []))
  refine Go.by (fun t => XS.aloadN X0.here hx rfl (hb hby d32_0) rfl rfl) ?_
  show Go p e below _ (s₁.setTop (mkF m 1 #[.val (.ref u1), .val (.int (1 : Int32))] [(.ref u1)]))
  obtain ⟨T215, X215, e215, st215⟩ := getF X0 hx hZ hown (host := "") (Or.inl (hw _ (List.mem_of_getElem? (i := 237) rfl))) Via.refl e0 F_list_u1 (g := (mkF m 1 #[.val (.ref u1), .val (.int (1 : Int32))] [(.ref u1)])) rfl rfl (hb hby d32_1)
  refine Go.by (fun t => st215 t) ?_
  show Go p e below _ (T215.setTop (mkF m 4 #[.val (.ref u1), .val (.int (1 : Int32))] [(.ref a1)]))
  show Go p e below _ (T215.setTop (mkF m 4 #[.val (.ref u1), .val (.int (1 : Int32))] [(.ref a1)]))
  refine Go.by (fun t => XS.iloadN X215.here hx rfl (hb hby d32_4) rfl ) ?_
  show Go p e below _ (T215.setTop (mkF m 5 #[.val (.ref u1), .val (.int (1 : Int32))] [(.int (1 : Int32)), (.ref a1)]))
  obtain ⟨cq216, kq216, q216a, q216b, q216c⟩ := isOf hZ e215 E_a1
  obtain ⟨_, _, ⟨T216, L216, k216, n216⟩, -, X216, ⟨Lc216, hQ216, l216, y216, z216⟩, st216⟩ := X215.interfaceBack hx (xi := (⟨"java/util/List", "get", "(I)Ljava/lang/Object;"⟩ : MethodName)) (y := (⟨"java/util/ArrayList", "get", "(I)Ljava/lang/Object;"⟩ : MethodName)) hown (mvT hZ (hw _ (List.mem_of_getElem? (i := 265) rfl))) (mvT hZ (hw _ (List.mem_of_getElem? (i := 258) rfl))) (mvT hZ (hw _ (List.mem_of_getElem? (i := 259) rfl))) (mvT hZ (hw _ (List.mem_of_getElem? (i := 266) rfl))) (mvT hZ (hw _ (List.mem_of_getElem? (i := 267) rfl))) (mvT hZ (hw _ (List.mem_of_getElem? (i := 268) rfl))) (mvT hZ (hw _ (List.mem_of_getElem? (i := 269) rfl))) (mvT hZ (hw _ (List.mem_of_getElem? (i := 124) rfl))) (by decide) (backOf (W := 0) (rmGT1 l Z a0 hw [] a1 ar x1 x2 kc h0 n0 E_a1 F_size_a1 F_elementData_a1 V_ar) hZ (hw _ (List.mem_of_getElem? (i := 270) rfl)) (hw _ (List.mem_of_getElem? (i := 86) rfl)) (by decide) (by decide)) q216a q216b q216c (g := (mkF m 5 #[.val (.ref u1), .val (.int (1 : Int32))] [(.int (1 : Int32)), (.ref a1)])) rfl (by rw [hml]; rfl) (Steps.refl _) (argsL := [(.int (1 : Int32))]) (rest := []) (lenOf pd_7 rfl) rfl (by show 2 * 0 + _ ≤ _; exact Nat.le_of_eq rfl) (hb hby d32_5) (fun _ _ => ⟨rfl, e215, (by decide : 0 + 0 ≤ _), (by decide : 0 + 0 ≤ _)⟩)
  dsimp only [Pt.U, Pt.locs, Pt.cells, Pt.slots] at X216 l216 y216 z216 st216 hQ216
  subst y216 z216
  obtain ⟨rfl, Nq216, e216⟩ := hQ216
  have N216 : Fr n0 L216 := by rw [l216]; exact Fr.app N0 Nq216
  clear l216
  refine Go.by (fun t => st216.trans) ?_
  replace X216 := Stand.num (C := 0) (S := 0) X216 rfl rfl
  show Go p e below _ (T216.setTop (mkF m 10 #[.val (.ref u1), .val (.int (1 : Int32))] [(.ref x2)]))
  show Go p e below _ (T216.setTop (mkF m 10 #[.val (.ref u1), .val (.int (1 : Int32))] [(.ref x2)]))
  exact Go.ret1 X216 hx Bd.returns Bd.notSynchronized rfl (Or.inr (Or.inr (Or.inr (Or.inr ⟨rfl, rfl, rfl⟩)))) (hb hby d32_10) (by decide) (by decide) (by first | (rw [e216]; exact ⟨rfl, N216, rfl⟩) | exact ⟨rfl, N216, rfl⟩)
def Q_rm37 (Z : State) (a1 : Addr) (w2 : Addr) (h0 : Heap) (n0 : Nat) : Option Value → Heap → List Loc → Prop := fun v h L => v = some (.ref w2) ∧ Fr n0 L ∧ h = h0
set_option maxRecDepth 65536 in
set_option maxHeartbeats 40000000 in
theorem rm37 (l : Launch) (Z : State) (a0 : Array Value) (hw : ∀ d ∈ tables_1, d.before a0 Z = true) (ws : List Jvm.Cond) (a1 : Addr) (w2 : Addr) (h0 : Heap) (n0 : Nat) (F_f_a1 : Fld Z h0 a1 "com/example/slicewright/slicewright/report/Report$Finding" "kind" "Lcom/example/slicewright/slicewright/report/ErrorKind;" (.ref w2)) :
    MetFree l (⟨"com/example/slicewright/slicewright/report/Report$Finding", "kind", "()Lcom/example/slicewright/slicewright/report/ErrorKind;"⟩ : MethodName) (head1 (Jvm.Cond.code (⟨"com/example/slicewright/slicewright/report/Report$Finding", "kind", "()Lcom/example/slicewright/slicewright/report/ErrorKind;"⟩ : MethodName) prog_25_method_5_code 1 (some (.object "com/example/slicewright/slicewright/report/ErrorKind")) :: ws) ({ frames := 0, cells := 0, slots := 0, locals := 0 } : Room)) (fun a U => a = #[(.ref a1)] ∧ Z.Warmed39 U.vm ∧ U.heap = h0) (fun _ _ _ _ _ => True) (fun _ U o U' => ∃ v L, o = .returned v ∧ Q_rm37 Z a1 w2 h0 n0 v U'.heap L ∧ FrameEnd U o U' L ({ frames := 0, cells := 0, slots := 0, locals := 0 } : Room).cells ({ frames := 0, cells := 0, slots := 0, locals := 0 } : Room).slots) := by
  refine MetFree.of_bodySF (plainFor_of_name pn_8) hisR ?_
  intro p e s m args below meth c s₁ Bd hml0 hP hK
  obtain ⟨rfl, hZ, hh⟩ := hP
  have hx := Bd.exec
  have hby := Bd.bytes
  have hml : c.maxLocals = 1 := hml0
  have hown : s.vm.findClass "com/example/slicewright/slicewright/report/Report$Finding" = some m.cls := findClass_of_methodNamed Bd.named
  have hnm := (name_of_methodNamed Bd.named Bd.method).1
  have X0 : Stand p l e ({ frames := 0, cells := 0, slots := 0, locals := 0 } : Room) s m #[(.ref a1)] below meth c s₁ [] 0 0 := Stand.of_body Bd
  have e0 : s₁.heap = h0 := by rw [← hh, Bd.state]; rfl
  have N0 := Fr.nil n0
  have ef : entryFrame m #[(.ref a1)] 1 = (mkF m 0 #[.val (.ref a1)] []) := by first | (simp [entryFrame, mkF, argsToLocals, Value.category, maxLocals]; done) | rfl
  show Go p e below (End (fun v h L => v = some (.ref w2) ∧ Fr n0 L ∧ h = h0) s 0 0) (s₁.setTop (entryFrame m #[(.ref a1)] 1))
  rw [ef]
  show Go p e below _ (s₁.setTop (mkF m 0 #[.val (.ref a1)] []))
  show Go p e below _ (s₁.setTop (mkF m 0 #[.val (.ref a1)] []))
  refine Go.by (fun t => XS.aloadN X0.here hx rfl (hb hby d37_0) rfl rfl) ?_
  show Go p e below _ (s₁.setTop (mkF m 1 #[.val (.ref a1)] [(.ref a1)]))
  obtain ⟨T217, X217, e217, st217⟩ := getF X0 hx hZ hown (host := "") (Or.inl (hw _ (List.mem_of_getElem? (i := 154) rfl))) Via.refl e0 F_f_a1 (g := (mkF m 1 #[.val (.ref a1)] [(.ref a1)])) rfl rfl (hb hby d37_1)
  refine Go.by (fun t => st217 t) ?_
  show Go p e below _ (T217.setTop (mkF m 4 #[.val (.ref a1)] [(.ref w2)]))
  show Go p e below _ (T217.setTop (mkF m 4 #[.val (.ref a1)] [(.ref w2)]))
  exact Go.ret1 X217 hx Bd.returns Bd.notSynchronized rfl (Or.inr (Or.inr (Or.inr (Or.inr ⟨rfl, rfl, rfl⟩)))) (hb hby d37_4) (by decide) (by decide) (by first | (rw [e217]; exact ⟨rfl, N0, rfl⟩) | exact ⟨rfl, N0, rfl⟩)
def Q_rm38 (Z : State) (a1 : Addr) (w2 : Addr) (h0 : Heap) (n0 : Nat) : Option Value → Heap → List Loc → Prop := fun v h L => v = some (.ref w2) ∧ Fr n0 L ∧ h = h0
set_option maxRecDepth 65536 in
set_option maxHeartbeats 40000000 in
theorem rm38 (l : Launch) (Z : State) (a0 : Array Value) (hw : ∀ d ∈ tables_1, d.before a0 Z = true) (ws : List Jvm.Cond) (a1 : Addr) (w2 : Addr) (h0 : Heap) (n0 : Nat) (F_f_a1 : Fld Z h0 a1 "com/example/slicewright/slicewright/report/Report$Finding" "location" "Ljava/lang/String;" (.ref w2)) :
    MetFree l (⟨"com/example/slicewright/slicewright/report/Report$Finding", "location", "()Ljava/lang/String;"⟩ : MethodName) (head1 (Jvm.Cond.code (⟨"com/example/slicewright/slicewright/report/Report$Finding", "location", "()Ljava/lang/String;"⟩ : MethodName) prog_25_method_6_code 1 (some (.object "java/lang/String")) :: ws) ({ frames := 0, cells := 0, slots := 0, locals := 0 } : Room)) (fun a U => a = #[(.ref a1)] ∧ Z.Warmed39 U.vm ∧ U.heap = h0) (fun _ _ _ _ _ => True) (fun _ U o U' => ∃ v L, o = .returned v ∧ Q_rm38 Z a1 w2 h0 n0 v U'.heap L ∧ FrameEnd U o U' L ({ frames := 0, cells := 0, slots := 0, locals := 0 } : Room).cells ({ frames := 0, cells := 0, slots := 0, locals := 0 } : Room).slots) := by
  refine MetFree.of_bodySF (plainFor_of_name pn_8) hisR ?_
  intro p e s m args below meth c s₁ Bd hml0 hP hK
  obtain ⟨rfl, hZ, hh⟩ := hP
  have hx := Bd.exec
  have hby := Bd.bytes
  have hml : c.maxLocals = 1 := hml0
  have hown : s.vm.findClass "com/example/slicewright/slicewright/report/Report$Finding" = some m.cls := findClass_of_methodNamed Bd.named
  have hnm := (name_of_methodNamed Bd.named Bd.method).1
  have X0 : Stand p l e ({ frames := 0, cells := 0, slots := 0, locals := 0 } : Room) s m #[(.ref a1)] below meth c s₁ [] 0 0 := Stand.of_body Bd
  have e0 : s₁.heap = h0 := by rw [← hh, Bd.state]; rfl
  have N0 := Fr.nil n0
  have ef : entryFrame m #[(.ref a1)] 1 = (mkF m 0 #[.val (.ref a1)] []) := by first | (simp [entryFrame, mkF, argsToLocals, Value.category, maxLocals]; done) | rfl
  show Go p e below (End (fun v h L => v = some (.ref w2) ∧ Fr n0 L ∧ h = h0) s 0 0) (s₁.setTop (entryFrame m #[(.ref a1)] 1))
  rw [ef]
  show Go p e below _ (s₁.setTop (mkF m 0 #[.val (.ref a1)] []))
  show Go p e below _ (s₁.setTop (mkF m 0 #[.val (.ref a1)] []))
  refine Go.by (fun t => XS.aloadN X0.here hx rfl (hb hby d38_0) rfl rfl) ?_
  show Go p e below _ (s₁.setTop (mkF m 1 #[.val (.ref a1)] [(.ref a1)]))
  obtain ⟨T218, X218, e218, st218⟩ := getF X0 hx hZ hown (host := "") (Or.inl (hw _ (List.mem_of_getElem? (i := 156) rfl))) Via.refl e0 F_f_a1 (g := (mkF m 1 #[.val (.ref a1)] [(.ref a1)])) rfl rfl (hb hby d38_1)
  refine Go.by (fun t => st218 t) ?_
  show Go p e below _ (T218.setTop (mkF m 4 #[.val (.ref a1)] [(.ref w2)]))
  show Go p e below _ (T218.setTop (mkF m 4 #[.val (.ref a1)] [(.ref w2)]))
  exact Go.ret1 X218 hx Bd.returns Bd.notSynchronized rfl (Or.inr (Or.inr (Or.inr (Or.inr ⟨rfl, rfl, rfl⟩)))) (hb hby d38_4) (by decide) (by decide) (by first | (rw [e218]; exact ⟨rfl, N0, rfl⟩) | exact ⟨rfl, N0, rfl⟩)
def Q_rm40 (Z : State) (a1 : Addr) (w2 : Addr) (h0 : Heap) (n0 : Nat) : Option Value → Heap → List Loc → Prop := fun v h L => v = some (.ref w2) ∧ Fr n0 L ∧ h = h0
set_option maxRecDepth 65536 in
set_option maxHeartbeats 40000000 in
theorem rm40 (l : Launch) (Z : State) (a0 : Array Value) (hw : ∀ d ∈ tables_1, d.before a0 Z = true) (ws : List Jvm.Cond) (a1 : Addr) (w2 : Addr) (h0 : Heap) (n0 : Nat) (F_f_a1 : Fld Z h0 a1 "com/example/slicewright/slicewright/report/Report$Finding" "message" "Ljava/lang/String;" (.ref w2)) :
    MetFree l (⟨"com/example/slicewright/slicewright/report/Report$Finding", "message", "()Ljava/lang/String;"⟩ : MethodName) (head1 (Jvm.Cond.code (⟨"com/example/slicewright/slicewright/report/Report$Finding", "message", "()Ljava/lang/String;"⟩ : MethodName) prog_25_method_7_code 1 (some (.object "java/lang/String")) :: ws) ({ frames := 0, cells := 0, slots := 0, locals := 0 } : Room)) (fun a U => a = #[(.ref a1)] ∧ Z.Warmed39 U.vm ∧ U.heap = h0) (fun _ _ _ _ _ => True) (fun _ U o U' => ∃ v L, o = .returned v ∧ Q_rm40 Z a1 w2 h0 n0 v U'.heap L ∧ FrameEnd U o U' L ({ frames := 0, cells := 0, slots := 0, locals := 0 } : Room).cells ({ frames := 0, cells := 0, slots := 0, locals := 0 } : Room).slots) := by
  refine MetFree.of_bodySF (plainFor_of_name pn_8) hisR ?_
  intro p e s m args below meth c s₁ Bd hml0 hP hK
  obtain ⟨rfl, hZ, hh⟩ := hP
  have hx := Bd.exec
  have hby := Bd.bytes
  have hml : c.maxLocals = 1 := hml0
  have hown : s.vm.findClass "com/example/slicewright/slicewright/report/Report$Finding" = some m.cls := findClass_of_methodNamed Bd.named
  have hnm := (name_of_methodNamed Bd.named Bd.method).1
  have X0 : Stand p l e ({ frames := 0, cells := 0, slots := 0, locals := 0 } : Room) s m #[(.ref a1)] below meth c s₁ [] 0 0 := Stand.of_body Bd
  have e0 : s₁.heap = h0 := by rw [← hh, Bd.state]; rfl
  have N0 := Fr.nil n0
  have ef : entryFrame m #[(.ref a1)] 1 = (mkF m 0 #[.val (.ref a1)] []) := by first | (simp [entryFrame, mkF, argsToLocals, Value.category, maxLocals]; done) | rfl
  show Go p e below (End (fun v h L => v = some (.ref w2) ∧ Fr n0 L ∧ h = h0) s 0 0) (s₁.setTop (entryFrame m #[(.ref a1)] 1))
  rw [ef]
  show Go p e below _ (s₁.setTop (mkF m 0 #[.val (.ref a1)] []))
  show Go p e below _ (s₁.setTop (mkF m 0 #[.val (.ref a1)] []))
  refine Go.by (fun t => XS.aloadN X0.here hx rfl (hb hby d40_0) rfl rfl) ?_
  show Go p e below _ (s₁.setTop (mkF m 1 #[.val (.ref a1)] [(.ref a1)]))
  obtain ⟨T219, X219, e219, st219⟩ := getF X0 hx hZ hown (host := "") (Or.inl (hw _ (List.mem_of_getElem? (i := 158) rfl))) Via.refl e0 F_f_a1 (g := (mkF m 1 #[.val (.ref a1)] [(.ref a1)])) rfl rfl (hb hby d40_1)
  refine Go.by (fun t => st219 t) ?_
  show Go p e below _ (T219.setTop (mkF m 4 #[.val (.ref a1)] [(.ref w2)]))
  show Go p e below _ (T219.setTop (mkF m 4 #[.val (.ref a1)] [(.ref w2)]))
  exact Go.ret1 X219 hx Bd.returns Bd.notSynchronized rfl (Or.inr (Or.inr (Or.inr (Or.inr ⟨rfl, rfl, rfl⟩)))) (hb hby d40_4) (by decide) (by decide) (by first | (rw [e219]; exact ⟨rfl, N0, rfl⟩) | exact ⟨rfl, N0, rfl⟩)
def Q_rm39 (Z : State) (a1 : Addr) (h0 : Heap) (n0 : Nat) : Option Value → Heap → List Loc → Prop := fun v h L => v = some (.int 1) ∧ Fr n0 L ∧ h = h0
set_option maxRecDepth 65536 in
set_option maxHeartbeats 40000000 in
theorem rm39 (l : Launch) (Z : State) (a0 : Array Value) (hw : ∀ d ∈ tables_1, d.before a0 Z = true) (ws : List Jvm.Cond) (a1 : Addr) (h0 : Heap) (n0 : Nat)  :
    MetFree l (⟨"java/lang/String", "equals", "(Ljava/lang/Object;)Z"⟩ : MethodName) (head1 (Jvm.Cond.code (⟨"java/lang/String", "equals", "(Ljava/lang/Object;)Z"⟩ : MethodName) jdk_42_method_66_code 3 (some .boolean) :: ws) ({ frames := 0, cells := 0, slots := 0, locals := 0 } : Room)) (fun a U => a = #[(.ref a1), (.ref a1)] ∧ Z.Warmed39 U.vm ∧ U.heap = h0) (fun _ _ _ _ _ => True) (fun _ U o U' => ∃ v L, o = .returned v ∧ Q_rm39 Z a1 h0 n0 v U'.heap L ∧ FrameEnd U o U' L ({ frames := 0, cells := 0, slots := 0, locals := 0 } : Room).cells ({ frames := 0, cells := 0, slots := 0, locals := 0 } : Room).slots) := by
  refine MetFree.of_bodySF (plainFor_of_name pn_1) hisR ?_
  intro p e s m args below meth c s₁ Bd hml0 hP hK
  obtain ⟨rfl, hZ, hh⟩ := hP
  have hx := Bd.exec
  have hby := Bd.bytes
  have hml : c.maxLocals = 3 := hml0
  have hown : s.vm.findClass "java/lang/String" = some m.cls := findClass_of_methodNamed Bd.named
  have hnm := (name_of_methodNamed Bd.named Bd.method).1
  have X0 : Stand p l e ({ frames := 0, cells := 0, slots := 0, locals := 0 } : Room) s m #[(.ref a1), (.ref a1)] below meth c s₁ [] 0 0 := Stand.of_body Bd
  have e0 : s₁.heap = h0 := by rw [← hh, Bd.state]; rfl
  have N0 := Fr.nil n0
  have ef : entryFrame m #[(.ref a1), (.ref a1)] 3 = (mkF m 0 #[.val (.ref a1), .val (.ref a1), .unset] []) := by first | (simp [entryFrame, mkF, argsToLocals, Value.category, maxLocals]; done) | rfl
  show Go p e below (End (fun v h L => v = some (.int 1) ∧ Fr n0 L ∧ h = h0) s 0 0) (s₁.setTop (entryFrame m #[(.ref a1), (.ref a1)] 3))
  rw [ef]
  show Go p e below _ (s₁.setTop (mkF m 0 #[.val (.ref a1), .val (.ref a1), .unset] []))
  show Go p e below _ (s₁.setTop (mkF m 0 #[.val (.ref a1), .val (.ref a1), .unset] []))
  refine Go.by (fun t => XS.aloadN X0.here hx rfl (hb hby d39_0) rfl rfl) ?_
  show Go p e below _ (s₁.setTop (mkF m 1 #[.val (.ref a1), .val (.ref a1), .unset] [(.ref a1)]))
  refine Go.by (fun t => XS.aloadN X0.here hx rfl (hb hby d39_1) rfl rfl) ?_
  show Go p e below _ (s₁.setTop (mkF m 2 #[.val (.ref a1), .val (.ref a1), .unset] [(.ref a1), (.ref a1)]))
  refine Go.by (fun t => Jvm.RoadKit.acmp (g := (mkF m 2 #[.val (.ref a1), .val (.ref a1), .unset] [(.ref a1), (.ref a1)])) X0 hx rfl rfl rfl (pc0 := 2) (pc' := 5) (same := true) rfl (hb hby d39_2) rfl (decide_eq_true rfl) (by decide) (by decide)) ?_
  show Go p e below _ (s₁.setTop (mkF m 5 #[.val (.ref a1), .val (.ref a1), .unset] []))
  show Go p e below _ (s₁.setTop (mkF m 5 #[.val (.ref a1), .val (.ref a1), .unset] []))
  refine Go.by (fun t => XS.iconst X0.here hx rfl (hb hby d39_5)) ?_
  show Go p e below _ (s₁.setTop (mkF m 6 #[.val (.ref a1), .val (.ref a1), .unset] [(.int (1 : Int32))]))
  exact Go.ret1 X0 hx Bd.returns Bd.notSynchronized (by first | rfl | decide) (Or.inl ⟨rfl, by simp, _, rfl⟩) (hb hby d39_6) (by decide) (by decide) (by first | (rw [e0]; exact ⟨rfl, N0, rfl⟩) | exact ⟨rfl, N0, rfl⟩)
theorem and255_id (x : Int32) : (¬ ((x &&& (255 : Int32)).toUInt32.toUInt16.toUInt32.toInt32) < 0 ∧ ¬ (255 : Int32) < ((x &&& (255 : Int32)).toUInt32.toUInt16.toUInt32.toInt32)) := by
  rw [i2c_mask]
  have t : ∀ k : Fin 256, ¬ (Int32.ofNat k.val) < 0 ∧ ¬ (255 : Int32) < (Int32.ofNat k.val) := by decide +kernel
  have h : (x &&& 255).toBitVec.toNat < 256 := by
    simp only [Int32.toBitVec_and, BitVec.toNat_and]
    exact Nat.lt_succ_of_le Nat.and_le_right
  have e : (x &&& 255) = Int32.ofNat (x &&& 255).toBitVec.toNat := by
    apply Int32.toBitVec_inj.mp
    show _ = BitVec.ofNat 32 _
    rw [BitVec.ofNat_toNat]; simp
  rw [e]
  exact t ⟨_, h⟩
theorem nar_b {x : Int32} (h : ¬ x < 0 ∧ ¬ (255 : Int32) < x) : nar .char x = x := by
  have h1 := h.1; have h2 := h.2
  rw [Int32.lt_iff_toInt_lt] at h1 h2
  have e0 : (0 : Int32).toInt = 0 := rfl
  have e1 : (255 : Int32).toInt = 255 := rfl
  have e : x = Int32.ofNat x.toInt.toNat := by
    apply Int32.toInt_inj.mp
    rw [Int32.toInt_ofNat_of_lt (by omega)]; omega
  rw [e]
  exact (by decide +kernel : ∀ k : Fin 256, nar .char (Int32.ofNat k.val) = Int32.ofNat k.val) ⟨x.toInt.toNat, by omega⟩
theorem rem14 (x : Int32) : ∃ j : Nat, j < 14 ∧ (x &&& (65535 : Int32)) % (14 : Int32) = Int32.ofNat j := by
  have h : (x &&& 65535).toBitVec.toNat < 65536 := by
    simp only [Int32.toBitVec_and, BitVec.toNat_and]
    exact Nat.lt_succ_of_le Nat.and_le_right
  have e : (x &&& 65535) = Int32.ofNat (x &&& 65535).toBitVec.toNat := by
    apply Int32.toBitVec_inj.mp
    show _ = BitVec.ofNat 32 _
    rw [BitVec.ofNat_toNat]; simp
  generalize (x &&& 65535).toBitVec.toNat = k at h e
  refine ⟨k % 14, Nat.mod_lt _ (by decide), ?_⟩
  rw [e]
  apply Int32.toInt_inj.mp
  rw [Int32.toInt_mod, Int32.toInt_ofNat_of_lt (by omega), Int32.toInt_ofNat_of_lt (by omega)]
  have e14 : (14 : Int32).toInt = ((14 : Nat) : Int) := rfl
  rw [e14]
  exact (Int.ofNat_tmod k 14).symm
def Q_rm4 (Z : State) (p1 : Int32) (h0 : Heap) (n0 : Nat) : Option Value → Heap → List Loc → Prop := fun v h L => v = some (.int 1) ∧ Fr n0 L ∧ h = h0
set_option maxRecDepth 65536 in
set_option maxHeartbeats 40000000 in
theorem rm4 (l : Launch) (Z : State) (a0 : Array Value) (hw : ∀ d ∈ tables_1, d.before a0 Z = true) (ws : List Jvm.Cond) (p1 : Int32) (h0 : Heap) (n0 : Nat) (hp : ¬ (255 : Int32) < p1) :
    MetFree l (⟨"java/lang/StringLatin1", "canEncode", "(C)Z"⟩ : MethodName) (head1 (Jvm.Cond.code (⟨"java/lang/StringLatin1", "canEncode", "(C)Z"⟩ : MethodName) jdk_43_method_3_code 1 (some .boolean) :: ws) ({ frames := 0, cells := 0, slots := 0, locals := 0 } : Room)) (fun a U => a = #[(.int p1)] ∧ Z.Warmed39 U.vm ∧ U.heap = h0) (fun _ _ _ _ _ => True) (fun _ U o U' => ∃ v L, o = .returned v ∧ Q_rm4 Z p1 h0 n0 v U'.heap L ∧ FrameEnd U o U' L ({ frames := 0, cells := 0, slots := 0, locals := 0 } : Room).cells ({ frames := 0, cells := 0, slots := 0, locals := 0 } : Room).slots) := by
  refine MetFree.of_bodySF (plainFor_of_name pn_2) hisR ?_
  intro p e s m args below meth c s₁ Bd hml0 hP hK
  obtain ⟨rfl, hZ, hh⟩ := hP
  have hx := Bd.exec
  have hby := Bd.bytes
  have hml : c.maxLocals = 1 := hml0
  have hown : s.vm.findClass "java/lang/StringLatin1" = some m.cls := findClass_of_methodNamed Bd.named
  have hnm := (name_of_methodNamed Bd.named Bd.method).1
  have X0 : Stand p l e ({ frames := 0, cells := 0, slots := 0, locals := 0 } : Room) s m #[(.int p1)] below meth c s₁ [] 0 0 := Stand.of_body Bd
  have e0 : s₁.heap = h0 := by rw [← hh, Bd.state]; rfl
  have N0 := Fr.nil n0
  have ef : entryFrame m #[(.int p1)] 1 = (mkF m 0 #[.val (.int p1)] []) := by first | (simp [entryFrame, mkF, argsToLocals, Value.category, maxLocals]; done) | rfl
  show Go p e below (End (fun v h L => v = some (.int 1) ∧ Fr n0 L ∧ h = h0) s 0 0) (s₁.setTop (entryFrame m #[(.int p1)] 1))
  rw [ef]
  show Go p e below _ (s₁.setTop (mkF m 0 #[.val (.int p1)] []))
  show Go p e below _ (s₁.setTop (mkF m 0 #[.val (.int p1)] []))
  refine Go.by (fun t => XS.iloadN X0.here hx rfl (hb hby d4_0) rfl ) ?_
  show Go p e below _ (s₁.setTop (mkF m 1 #[.val (.int p1)] [(.int p1)]))
  refine Go.by (fun t => XS.sipush X0.here hx rfl (hb hby d4_1)) ?_
  show Go p e below _ (s₁.setTop (mkF m 4 #[.val (.int p1)] [(.int (255 : Int32)), (.int p1)]))
  refine Go.by (fun t => XS.icmpNo X0.here hx rfl (hb hby d4_4) rfl (flt (hp : ¬ ((255 : Int32) < p1))).2.2.1) ?_
  show Go p e below _ (s₁.setTop (mkF m 7 #[.val (.int p1)] []))
  show Go p e below _ (s₁.setTop (mkF m 7 #[.val (.int p1)] []))
  refine Go.by (fun t => XS.iconst X0.here hx rfl (hb hby d4_7)) ?_
  show Go p e below _ (s₁.setTop (mkF m 8 #[.val (.int p1)] [(.int (1 : Int32))]))
  refine Go.by (fun t => XS.goto X0.here hx rfl (pc0 := 8) (pc' := 12) rfl (hb hby d4_8) (by decide) (by decide)) ?_
  show Go p e below _ (s₁.setTop (mkF m 12 #[.val (.int p1)] [(.int (1 : Int32))]))
  exact Go.ret1 X0 hx Bd.returns Bd.notSynchronized (by first | rfl | decide) (Or.inl ⟨rfl, by simp, _, rfl⟩) (hb hby d4_12) (by decide) (by decide) (by first | (rw [e0]; exact ⟨rfl, N0, rfl⟩) | exact ⟨rfl, N0, rfl⟩)
def Q_rm5 (Z : State) (p1 : Int32) (h0 : Heap) (n0 : Nat) : Option Value → Heap → List Loc → Prop := fun v h L => ∃ b : Addr, v = some (.ref b) ∧ h0.size ≤ b ∧ Fr n0 L ∧ Keep h0 h []
set_option maxRecDepth 65536 in
set_option maxHeartbeats 40000000 in
theorem rm5 (l : Launch) (Z : State) (a0 : Array Value) (hw : ∀ d ∈ tables_1, d.before a0 Z = true) (ws : List Jvm.Cond) (p1 : Int32) (h0 : Heap) (n0 : Nat) (Z0 : n0 ≤ h0.size) :
    MetFree l (⟨"java/lang/StringLatin1", "toBytes", "(C)[B"⟩ : MethodName) (head1 (Jvm.Cond.code (⟨"java/lang/StringLatin1", "toBytes", "(C)[B"⟩ : MethodName) jdk_43_method_46_code 1 (some (.array .byte)) :: ws) ({ frames := 0, cells := 1, slots := 1, locals := 0 } : Room)) (fun a U => a = #[(.int p1)] ∧ Z.Warmed39 U.vm ∧ U.heap = h0) (fun _ _ _ _ _ => True) (fun _ U o U' => ∃ v L, o = .returned v ∧ Q_rm5 Z p1 h0 n0 v U'.heap L ∧ FrameEnd U o U' L ({ frames := 0, cells := 1, slots := 1, locals := 0 } : Room).cells ({ frames := 0, cells := 1, slots := 1, locals := 0 } : Room).slots) := by
  refine MetFree.of_bodySF (plainFor_of_name pn_2) hisR ?_
  intro p e s m args below meth c s₁ Bd hml0 hP hK
  obtain ⟨rfl, hZ, hh⟩ := hP
  have hx := Bd.exec
  have hby := Bd.bytes
  have hml : c.maxLocals = 1 := hml0
  have hown : s.vm.findClass "java/lang/StringLatin1" = some m.cls := findClass_of_methodNamed Bd.named
  have hnm := (name_of_methodNamed Bd.named Bd.method).1
  have X0 : Stand p l e ({ frames := 0, cells := 1, slots := 1, locals := 0 } : Room) s m #[(.int p1)] below meth c s₁ [] 0 0 := Stand.of_body Bd
  have e0 : s₁.heap = h0 := by rw [← hh, Bd.state]; rfl
  have N0 := Fr.nil n0
  have ef : entryFrame m #[(.int p1)] 1 = (mkF m 0 #[.val (.int p1)] []) := by first | (simp [entryFrame, mkF, argsToLocals, Value.category, maxLocals]; done) | rfl
  show Go p e below (End (fun v h L => ∃ b : Addr, v = some (.ref b) ∧ h0.size ≤ b ∧ Fr n0 L ∧ Keep h0 h []) s 1 1) (s₁.setTop (entryFrame m #[(.int p1)] 1))
  rw [ef]
  show Go p e below _ (s₁.setTop (mkF m 0 #[.val (.int p1)] []))
  have K0 : Keep h0 h0 [] := Keep.refl _ _
  show Go p e below _ (s₁.setTop (mkF m 0 #[.val (.int p1)] []))
  refine Go.by (fun t => XS.iconst X0.here hx rfl (hb hby d5_0)) ?_
  show Go p e below _ (s₁.setTop (mkF m 1 #[.val (.int p1)] [(.int (1 : Int32))]))
  obtain ⟨T220, h220, k220, X220, e220, E220, A220, st220⟩ := newP X0 hx hZ (hw _ (List.mem_of_getElem? (i := 54) rfl)) e0 (g := (mkF m 1 #[.val (.int p1)] [(.int (1 : Int32))])) rfl (hb hby d5_1) rfl (by decide) (cap := 1) (by decide) (by decide) (by decide) (by decide)
  obtain ⟨b, g220⟩ : ∃ z, z = h0.size := ⟨_, rfl⟩
  rw [← g220] at A220 st220
  refine Go.by (fun t => st220 t) ?_
  have g_b : n0 ≤ b := Nat.le_trans Z0 (Nat.le_of_eq g220.symm)
  have sz_b : h0.size ≤ b := Nat.le_trans K0.1 (Nat.le_of_eq g220.symm)
  replace Z0 := Nat.le_trans Z0 E220.1
  replace K0 := K0.ext E220
  have V_b : Arv Z h220 b k220 .byte (1 : Int32) [(.int (0 : Int32))] (.int (0 : Int32)) := (Arv.new A220 (by decide)).pad (pad_rep [] (.int (0 : Int32)) 1)
  replace X220 := Stand.num (C := 1) (S := 1) X220 rfl rfl
  show Go p e below _ (T220.setTop (mkF m 3 #[.val (.int p1)] [(.ref b)]))
  show Go p e below _ (T220.setTop (mkF m 3 #[.val (.int p1)] [(.ref b)]))
  refine Go.by (fun t => XS.dup X220.here hx rfl (hb hby d5_3) rfl rfl) ?_
  show Go p e below _ (T220.setTop (mkF m 4 #[.val (.int p1)] [(.ref b), (.ref b)]))
  refine Go.by (fun t => XS.iconst X220.here hx rfl (hb hby d5_4)) ?_
  show Go p e below _ (T220.setTop (mkF m 5 #[.val (.int p1)] [(.int (0 : Int32)), (.ref b), (.ref b)]))
  refine Go.by (fun t => XS.iloadN X220.here hx rfl (hb hby d5_5) rfl ) ?_
  show Go p e below _ (T220.setTop (mkF m 6 #[.val (.int p1)] [(.int p1), (.int (0 : Int32)), (.ref b), (.ref b)]))
  refine Go.by (fun t => XS.i2b X220.here hx rfl (hb hby d5_6) rfl) ?_
  show Go p e below _ (T220.setTop (mkF m 7 #[.val (.int p1)] [(.int (p1.toInt8.toInt32)), (.int (0 : Int32)), (.ref b), (.ref b)]))
  obtain ⟨cl_221, Ar_221, q_221, S_221, M_221, H_221, G_221⟩ := id V_b
  obtain ⟨T221, h221, X221, e221, W221, st221⟩ := stB X220 hx hZ e220 Ar_221 (j := (0 : Int32)) (inb_of S_221 ⟨by decide, by decide⟩) (g := (mkF m 7 #[.val (.int p1)] [(.int (p1.toInt8.toInt32)), (.int (0 : Int32)), (.ref b), (.ref b)])) rfl rfl (hb hby d5_7)
  refine Go.by (fun t => st221 t) ?_
  replace V_b := Arv.set Ar_221 q_221 S_221 M_221 H_221 G_221 (fits_nar_byte _) W221 0 rfl (Nat.le_of_ble_eq_true rfl)
  replace V_b : Arv Z h221 b k220 .byte (1 : Int32) [(.int (nar .byte (p1.toInt8.toInt32)))] (.int (0 : Int32)) := V_b
  replace Z0 := Nat.le_trans Z0 (Keep.of_wr W221).1
  replace K0 := K0.wr W221 (Or.inr sz_b)
  have N221 := Fr.snoc X221 N0 g_b
  show Go p e below _ (T221.setTop (mkF m 8 #[.val (.int p1)] [(.ref b)]))
  show Go p e below _ (T221.setTop (mkF m 8 #[.val (.int p1)] [(.ref b)]))
  exact Go.ret1 X221 hx Bd.returns Bd.notSynchronized rfl (Or.inr (Or.inr (Or.inr (Or.inr ⟨rfl, rfl, rfl⟩)))) (hb hby d5_8) (by decide) (by decide) (by first | (rw [e221]; exact ⟨b, rfl, sz_b, N221, K0⟩) | exact ⟨b, rfl, sz_b, N221, K0⟩)
def Q_rm6 (Z : State) (a1 b2 : Addr) (h0 : Heap) (n0 : Nat) : Option Value → Heap → List Loc → Prop := fun v h L => v = none ∧ Fr n0 L ∧ Keep h0 h [a1] ∧ Exa Z h a1 "java/lang/String"
set_option maxRecDepth 65536 in
set_option maxHeartbeats 40000000 in
theorem rm6 (l : Launch) (Z : State) (a0 : Array Value) (hw : ∀ d ∈ tables_1, d.before a0 Z = true) (ws : List Jvm.Cond) (a1 b2 : Addr) (h0 : Heap) (n0 : Nat) (E_a1 : Exa Z h0 a1 "java/lang/String") (F_value_a1 : Fld Z h0 a1 "java/lang/String" "value" "[B" .null) (F_coder_a1 : Fld Z h0 a1 "java/lang/String" "coder" "B" (.int 0)) (g_a1 : n0 ≤ a1) :
    MetFree l (⟨"java/lang/String", "<init>", "([BB)V"⟩ : MethodName) (head1 (Jvm.Cond.code (⟨"java/lang/String", "<init>", "([BB)V"⟩ : MethodName) jdk_42_method_151_code 3 none :: ws) ({ frames := 1, cells := 0, slots := 0, locals := 12 } : Room)) (fun a U => a = #[(.ref a1), (.ref b2), (.int (0 : Int32))] ∧ Z.Warmed39 U.vm ∧ U.heap = h0) (fun _ _ _ _ _ => True) (fun _ U o U' => ∃ v L, o = .returned v ∧ Q_rm6 Z a1 b2 h0 n0 v U'.heap L ∧ FrameEnd U o U' L ({ frames := 1, cells := 0, slots := 0, locals := 12 } : Room).cells ({ frames := 1, cells := 0, slots := 0, locals := 12 } : Room).slots) := by
  refine MetFree.of_bodySF (plainFor_of_name pn_1) hisR ?_
  intro p e s m args below meth c s₁ Bd hml0 hP hK
  obtain ⟨rfl, hZ, hh⟩ := hP
  have hx := Bd.exec
  have hby := Bd.bytes
  have hml : c.maxLocals = 3 := hml0
  have hown : s.vm.findClass "java/lang/String" = some m.cls := findClass_of_methodNamed Bd.named
  have hnm := (name_of_methodNamed Bd.named Bd.method).1
  have X0 : Stand p l e ({ frames := 1, cells := 0, slots := 0, locals := 12 } : Room) s m #[(.ref a1), (.ref b2), (.int (0 : Int32))] below meth c s₁ [] 0 0 := Stand.of_body Bd
  have e0 : s₁.heap = h0 := by rw [← hh, Bd.state]; rfl
  have N0 := Fr.nil n0
  have ef : entryFrame m #[(.ref a1), (.ref b2), (.int (0 : Int32))] 3 = (mkF m 0 #[.val (.ref a1), .val (.ref b2), .val (.int (0 : Int32))] []) := by first | (simp [entryFrame, mkF, argsToLocals, Value.category, maxLocals]; done) | rfl
  show Go p e below (End (fun v h L => v = none ∧ Fr n0 L ∧ Keep h0 h [a1] ∧ Exa Z h a1 "java/lang/String") s 0 0) (s₁.setTop (entryFrame m #[(.ref a1), (.ref b2), (.int (0 : Int32))] 3))
  rw [ef]
  show Go p e below _ (s₁.setTop (mkF m 0 #[.val (.ref a1), .val (.ref b2), .val (.int (0 : Int32))] []))
  have K0 : Keep h0 h0 [a1] := Keep.refl _ _
  show Go p e below _ (s₁.setTop (mkF m 0 #[.val (.ref a1), .val (.ref b2), .val (.int (0 : Int32))] []))
  refine Go.by (fun t => XS.aloadN X0.here hx rfl (hb hby d6_0) rfl rfl) ?_
  show Go p e below _ (s₁.setTop (mkF m 1 #[.val (.ref a1), .val (.ref b2), .val (.int (0 : Int32))] [(.ref a1)]))
  obtain ⟨T222, X222, e222, st222⟩ := initO X0 hx hZ hown (hw _ (List.mem_of_getElem? (i := 59) rfl)) (hw _ (List.mem_of_getElem? (i := 60) rfl)) (hw _ (List.mem_of_getElem? (i := 61) rfl)) e0 (g := (mkF m 1 #[.val (.ref a1), .val (.ref b2), .val (.int (0 : Int32))] [(.ref a1)])) rfl (by rw [hml]; rfl) rfl (hb hby d6_1) (by decide) (W := 0) (by show 2 * 0 + _ ≤ _; exact Nat.le_of_eq rfl) (by decide)
  refine Go.by (fun t => st222 t) ?_
  show Go p e below _ (T222.setTop (mkF m 4 #[.val (.ref a1), .val (.ref b2), .val (.int (0 : Int32))] []))
  show Go p e below _ (T222.setTop (mkF m 4 #[.val (.ref a1), .val (.ref b2), .val (.int (0 : Int32))] []))
  refine Go.by (fun t => XS.aloadN X222.here hx rfl (hb hby d6_4) rfl rfl) ?_
  show Go p e below _ (T222.setTop (mkF m 5 #[.val (.ref a1), .val (.ref b2), .val (.int (0 : Int32))] [(.ref a1)]))
  refine Go.by (fun t => XS.aloadN X222.here hx rfl (hb hby d6_5) rfl rfl) ?_
  show Go p e below _ (T222.setTop (mkF m 6 #[.val (.ref a1), .val (.ref b2), .val (.int (0 : Int32))] [(.ref b2), (.ref a1)]))
  obtain ⟨T223, h223, X223, e223, W223, st223⟩ := putF X222 hx hZ hown (host := "") (Or.inl (hw _ (List.mem_of_getElem? (i := 62) rfl))) Via.refl e222 F_value_a1 E_a1 (Or.inr ⟨(hw _ (List.mem_of_getElem? (i := 63) rfl)), rfl, hnm⟩) (hw _ (List.mem_of_getElem? (i := 50) rfl)) (ty := (.array .byte)) (by decide) rfl rfl (g := (mkF m 6 #[.val (.ref a1), .val (.ref b2), .val (.int (0 : Int32))] [(.ref b2), (.ref a1)])) rfl rfl (hb hby d6_6)
  refine Go.by (fun t => st223 t) ?_
  replace F_value_a1 := F_value_a1.same W223
  replace E_a1 := E_a1.wr W223
  replace F_coder_a1 := F_coder_a1.other W223 (Or.inr (slot_ne (Or.inr (hw _ (List.mem_of_getElem? (i := 65) rfl))) (Or.inr (hw _ (List.mem_of_getElem? (i := 63) rfl))) (by decide) (t := .byte) (t' := (.array .byte)) (by decide) (by decide)))
  replace K0 := K0.wr W223 (Or.inl (List.mem_of_getElem? (i := 0) rfl))
  have N223 := Fr.snoc X223 N0 g_a1
  show Go p e below _ (T223.setTop (mkF m 9 #[.val (.ref a1), .val (.ref b2), .val (.int (0 : Int32))] []))
  show Go p e below _ (T223.setTop (mkF m 9 #[.val (.ref a1), .val (.ref b2), .val (.int (0 : Int32))] []))
  refine Go.by (fun t => XS.aloadN X223.here hx rfl (hb hby d6_9) rfl rfl) ?_
  show Go p e below _ (T223.setTop (mkF m 10 #[.val (.ref a1), .val (.ref b2), .val (.int (0 : Int32))] [(.ref a1)]))
  refine Go.by (fun t => XS.iloadN X223.here hx rfl (hb hby d6_10) rfl ) ?_
  show Go p e below _ (T223.setTop (mkF m 11 #[.val (.ref a1), .val (.ref b2), .val (.int (0 : Int32))] [(.int (0 : Int32)), (.ref a1)]))
  obtain ⟨T224, h224, X224, e224, W224, st224⟩ := putFN X223 hx hZ hown (hw _ (List.mem_of_getElem? (i := 64) rfl)) Via.refl e223 F_coder_a1 E_a1 (Or.inr ⟨(hw _ (List.mem_of_getElem? (i := 65) rfl)), rfl, hnm⟩) (hw _ (List.mem_of_getElem? (i := 50) rfl)) (ty := .byte) (v' := (.int (0 : Int32))) (by decide) (by first | rfl | decide) (by first | rfl | decide | exact fits_nar_byte _) (g := (mkF m 11 #[.val (.ref a1), .val (.ref b2), .val (.int (0 : Int32))] [(.int (0 : Int32)), (.ref a1)])) rfl rfl (hb hby d6_11)
  refine Go.by (fun t => st224 t) ?_
  replace F_coder_a1 := F_coder_a1.same W224
  replace E_a1 := E_a1.wr W224
  replace F_value_a1 := F_value_a1.other W224 (Or.inr (slot_ne (Or.inr (hw _ (List.mem_of_getElem? (i := 63) rfl))) (Or.inr (hw _ (List.mem_of_getElem? (i := 65) rfl))) (by decide) (t := (.array .byte)) (t' := .byte) (by decide) (by decide)))
  replace K0 := K0.wr W224 (Or.inl (List.mem_of_getElem? (i := 0) rfl))
  have N224 := Fr.snoc X224 N223 g_a1
  show Go p e below _ (T224.setTop (mkF m 14 #[.val (.ref a1), .val (.ref b2), .val (.int (0 : Int32))] []))
  show Go p e below _ (T224.setTop (mkF m 14 #[.val (.ref a1), .val (.ref b2), .val (.int (0 : Int32))] []))
  exact Go.ret0 X224 hx Bd.returns Bd.notSynchronized (hb hby d6_14) (by decide) (by decide) (by first | (rw [e224]; exact ⟨rfl, N224, K0, E_a1⟩) | exact ⟨rfl, N224, K0, E_a1⟩)
def Q_rm3 (Z : State) (p1 G1 : Int32) (h0 : Heap) (n0 : Nat) : Option Value → Heap → List Loc → Prop := fun v h L => ∃ r : Addr, v = some (.ref r) ∧ Fr n0 L ∧ Keep h0 h [] ∧ Exa Z h r "java/lang/String"
set_option maxRecDepth 65536 in
set_option maxHeartbeats 40000000 in
theorem rm3 (l : Launch) (Z : State) (a0 : Array Value) (hw : ∀ d ∈ tables_1, d.before a0 Z = true) (ws : List Jvm.Cond) (p1 G1 : Int32) (h0 : Heap) (n0 : Nat) (Z0 : n0 ≤ h0.size) (Od : Old Z n0 h0) (O2 : Sta Z Z.heap "java/lang/String" "COMPACT_STRINGS" "Z" (.int G1)) (P5 : ¬ (G1 = (0 : Int32))) (hp : ¬ (255 : Int32) < p1) :
    MetFree l (⟨"java/lang/String", "valueOf", "(C)Ljava/lang/String;"⟩ : MethodName) (head1 (Jvm.Cond.code (⟨"java/lang/String", "valueOf", "(C)Ljava/lang/String;"⟩ : MethodName) jdk_42_method_139_code 1 (some (.object "java/lang/String")) :: ws) ({ frames := 2, cells := 2, slots := 5, locals := 40 } : Room)) (fun a U => a = #[(.int p1)] ∧ Z.Warmed39 U.vm ∧ U.heap = h0) (fun _ _ _ _ _ => True) (fun _ U o U' => ∃ v L, o = .returned v ∧ Q_rm3 Z p1 G1 h0 n0 v U'.heap L ∧ FrameEnd U o U' L ({ frames := 2, cells := 2, slots := 5, locals := 40 } : Room).cells ({ frames := 2, cells := 2, slots := 5, locals := 40 } : Room).slots) := by
  refine MetFree.of_bodySF (plainFor_of_name pn_1) hisR ?_
  intro p e s m args below meth c s₁ Bd hml0 hP hK
  obtain ⟨rfl, hZ, hh⟩ := hP
  have hx := Bd.exec
  have hby := Bd.bytes
  have hml : c.maxLocals = 1 := hml0
  have hown : s.vm.findClass "java/lang/String" = some m.cls := findClass_of_methodNamed Bd.named
  have hnm := (name_of_methodNamed Bd.named Bd.method).1
  have X0 : Stand p l e ({ frames := 2, cells := 2, slots := 5, locals := 40 } : Room) s m #[(.int p1)] below meth c s₁ [] 0 0 := Stand.of_body Bd
  have e0 : s₁.heap = h0 := by rw [← hh, Bd.state]; rfl
  have N0 := Fr.nil n0
  have ef : entryFrame m #[(.int p1)] 1 = (mkF m 0 #[.val (.int p1)] []) := by first | (simp [entryFrame, mkF, argsToLocals, Value.category, maxLocals]; done) | rfl
  show Go p e below (End (fun v h L => ∃ r : Addr, v = some (.ref r) ∧ Fr n0 L ∧ Keep h0 h [] ∧ Exa Z h r "java/lang/String") s 2 5) (s₁.setTop (entryFrame m #[(.int p1)] 1))
  rw [ef]
  show Go p e below _ (s₁.setTop (mkF m 0 #[.val (.int p1)] []))
  have K0 : Keep h0 h0 [] := Keep.refl _ _
  show Go p e below _ (s₁.setTop (mkF m 0 #[.val (.int p1)] []))
  obtain ⟨T225, X225, e225, st225⟩ := getS2 X0 hx hZ hown (host := "") (Or.inl (hw _ (List.mem_of_getElem? (i := 44) rfl))) Via.refl e0 (O2.ext Od.2) (g := (mkF m 0 #[.val (.int p1)] [])) rfl (hb hby d3_0)
  refine Go.by (fun t => st225 t) ?_
  show Go p e below _ (T225.setTop (mkF m 3 #[.val (.int p1)] [(.int G1)]))
  refine Go.by (fun t => XS.ifNo X225.here hx rfl (hb hby d3_3) rfl ((if0 _ _).trans (feq (P5 : ¬ (G1 = (0 : Int32)))).1)) ?_
  show Go p e below _ (T225.setTop (mkF m 6 #[.val (.int p1)] []))
  show Go p e below _ (T225.setTop (mkF m 6 #[.val (.int p1)] []))
  refine Go.by (fun t => XS.iloadN X225.here hx rfl (hb hby d3_6) rfl ) ?_
  show Go p e below _ (T225.setTop (mkF m 7 #[.val (.int p1)] [(.int p1)]))
  obtain ⟨_, _, ⟨T226, L226, k226, n226⟩, -, X226, ⟨Lc226, hQ226, l226, y226, z226⟩, st226⟩ := Jvm.LawKit.callS X225 hx (y := (⟨"java/lang/StringLatin1", "canEncode", "(C)Z"⟩ : MethodName)) hown (mvT hZ (hw _ (List.mem_of_getElem? (i := 45) rfl))) (mvT hZ (hw _ (List.mem_of_getElem? (i := 46) rfl))) (mvT hZ (hw _ (List.mem_of_getElem? (i := 47) rfl))) (mvT hZ (hw _ (List.mem_of_getElem? (i := 48) rfl))) (by decide) (backOf (W := 0) (rm4 l Z a0 hw [] p1 h0 n0 hp) hZ (hw _ (List.mem_of_getElem? (i := 48) rfl)) (hw _ (List.mem_of_getElem? (i := 47) rfl)) (by decide) (by decide)) (g := (mkF m 7 #[.val (.int p1)] [(.int p1)])) rfl (by rw [hml]; rfl) (argsL := [(.int p1)]) (rest := []) (lenOf pd_13 rfl) rfl (by show 2 * 0 + _ ≤ _; exact Nat.le_of_eq rfl) (hb hby d3_7) (fun _ _ => ⟨rfl, e225, (by decide : 0 + 0 ≤ _), (by decide : 0 + 0 ≤ _)⟩)
  dsimp only [Pt.U, Pt.locs, Pt.cells, Pt.slots] at X226 l226 y226 z226 st226 hQ226
  subst y226 z226
  obtain ⟨rfl, Nq226, e226⟩ := hQ226
  have N226 : Fr n0 L226 := by rw [l226]; exact Fr.app N0 Nq226
  clear l226
  refine Go.by (fun t => st226 t) ?_
  replace X226 := Stand.num (C := 0) (S := 0) X226 rfl rfl
  show Go p e below _ (T226.setTop (mkF m 10 #[.val (.int p1)] [(.int (1 : Int32))]))
  refine Go.by (fun t => XS.ifNo X226.here hx rfl (hb hby d3_10) rfl ((if0 _ _).trans (feq (by decide : ¬ ((1 : Int32) = (0 : Int32)))).1)) ?_
  show Go p e below _ (T226.setTop (mkF m 13 #[.val (.int p1)] []))
  show Go p e below _ (T226.setTop (mkF m 13 #[.val (.int p1)] []))
  obtain ⟨T227, h227, X227, e227, E227, A227, D227, -, st227⟩ := newO X226 hx hZ hown (hw _ (List.mem_of_getElem? (i := 49) rfl)) (hw _ (List.mem_of_getElem? (i := 50) rfl)) (hw _ (List.mem_of_getElem? (i := 42) rfl)) e226 (g := (mkF m 13 #[.val (.int p1)] [])) rfl (hb hby d3_13) (by decide) (by decide)
  obtain ⟨r, g227⟩ : ∃ z, z = h0.size := ⟨_, rfl⟩
  rw [← g227] at A227 D227 st227
  refine Go.by (fun t => st227 t) ?_
  have g_r : n0 ≤ r := Nat.le_trans Z0 (Nat.le_of_eq g227.symm)
  have sz_r : h0.size ≤ r := Nat.le_trans K0.1 (Nat.le_of_eq g227.symm)
  replace Od := Od.ext E227
  replace Z0 := Nat.le_trans Z0 E227.1
  replace K0 := K0.ext E227
  have E_r := A227
  have F_value_r : Fld Z h227 r "java/lang/String" "value" "[B" .null := D227 (Or.inr (hw _ (List.mem_of_getElem? (i := 63) rfl))) (ty := (.array .byte)) (by decide)
  have F_coder_r : Fld Z h227 r "java/lang/String" "coder" "B" (.int (0 : Int32)) := D227 (Or.inr (hw _ (List.mem_of_getElem? (i := 65) rfl))) (ty := .byte) (by decide)
  replace X227 := Stand.num (C := 1) (S := 4) X227 rfl rfl
  show Go p e below _ (T227.setTop (mkF m 16 #[.val (.int p1)] [(.ref r)]))
  show Go p e below _ (T227.setTop (mkF m 16 #[.val (.int p1)] [(.ref r)]))
  refine Go.by (fun t => XS.dup X227.here hx rfl (hb hby d3_16) rfl rfl) ?_
  show Go p e below _ (T227.setTop (mkF m 17 #[.val (.int p1)] [(.ref r), (.ref r)]))
  refine Go.by (fun t => XS.iloadN X227.here hx rfl (hb hby d3_17) rfl ) ?_
  show Go p e below _ (T227.setTop (mkF m 18 #[.val (.int p1)] [(.int p1), (.ref r), (.ref r)]))
  obtain ⟨_, _, ⟨T228, L228, k228, n228⟩, -, X228, ⟨Lc228, hQ228, l228, y228, z228⟩, st228⟩ := Jvm.LawKit.callS X227 hx (y := (⟨"java/lang/StringLatin1", "toBytes", "(C)[B"⟩ : MethodName)) hown (mvT hZ (hw _ (List.mem_of_getElem? (i := 51) rfl))) (mvT hZ (hw _ (List.mem_of_getElem? (i := 52) rfl))) (mvT hZ (hw _ (List.mem_of_getElem? (i := 47) rfl))) (mvT hZ (hw _ (List.mem_of_getElem? (i := 53) rfl))) (by decide) (backOf (W := 2) (rm5 l Z a0 hw [] p1 h227 n0 Z0) hZ (hw _ (List.mem_of_getElem? (i := 53) rfl)) (hw _ (List.mem_of_getElem? (i := 47) rfl)) (by decide) (by decide)) (g := (mkF m 18 #[.val (.int p1)] [(.int p1), (.ref r), (.ref r)])) rfl (by rw [hml]; rfl) (argsL := [(.int p1)]) (rest := [(.ref r), (.ref r)]) (lenOf pd_14 rfl) rfl (by show 2 * 0 + _ ≤ _; exact Nat.le_of_eq rfl) (hb hby d3_18) (fun _ _ => ⟨rfl, e227, (by decide : 1 + 1 ≤ _), (by decide : 4 + 1 ≤ _)⟩)
  dsimp only [Pt.U, Pt.locs, Pt.cells, Pt.slots] at X228 l228 y228 z228 st228 hQ228
  subst y228 z228
  obtain ⟨b, rfl, hbs, Nq228, K228⟩ := hQ228
  have N228 : Fr n0 L228 := by rw [l228]; exact Fr.app N226 Nq228
  clear l228
  refine Go.by (fun t => st228 t) ?_
  replace X228 := Stand.num (C := 2) (S := 5) X228 rfl rfl
  replace Od := Od.keep K228 all0
  replace E_r := E_r.keep K228
  replace F_value_r := F_value_r.keep K228 nin0
  replace F_coder_r := F_coder_r.keep K228 nin0
  replace Z0 := Nat.le_trans Z0 K228.1
  replace K0 := K0.trans K228 all0
  show Go p e below _ (T228.setTop (mkF m 21 #[.val (.int p1)] [(.ref b), (.ref r), (.ref r)]))
  show Go p e below _ (T228.setTop (mkF m 21 #[.val (.int p1)] [(.ref b), (.ref r), (.ref r)]))
  refine Go.by (fun t => XS.iconst X228.here hx rfl (hb hby d3_21)) ?_
  show Go p e below _ (T228.setTop (mkF m 22 #[.val (.int p1)] [(.int (0 : Int32)), (.ref b), (.ref r), (.ref r)]))
  obtain ⟨_, _, ⟨T229, L229, k229, n229⟩, -, X229, ⟨Lc229, hQ229, l229, y229, z229⟩, st229⟩ := X228.specialBack hx (y := (⟨"java/lang/String", "<init>", "([BB)V"⟩ : MethodName)) rfl hown (mvT hZ (hw _ (List.mem_of_getElem? (i := 55) rfl))) (mvT hZ (hw _ (List.mem_of_getElem? (i := 56) rfl))) (mvT hZ (hw _ (List.mem_of_getElem? (i := 58) rfl))) (by decide) (backOf (W := 1) (rm6 l Z a0 hw [] r b T228.heap n0 E_r F_value_r F_coder_r g_r) hZ (hw _ (List.mem_of_getElem? (i := 58) rfl)) (hw _ (List.mem_of_getElem? (i := 42) rfl)) (by decide) (by decide)) (g := (mkF m 22 #[.val (.int p1)] [(.int (0 : Int32)), (.ref b), (.ref r), (.ref r)])) rfl (by rw [hml]; rfl) (Steps.refl _) (a := r) (argsL := [(.ref b), (.int (0 : Int32))]) (rest := [(.ref r)]) (lenOf pd_15 rfl) rfl (by show 2 * 0 + _ ≤ _; exact Nat.le_of_eq rfl) (hb hby d3_22) (fun _ _ => ⟨rfl, rfl, (by decide : 2 + 0 ≤ _), (by decide : 5 + 0 ≤ _)⟩)
  dsimp only [Pt.U, Pt.locs, Pt.cells, Pt.slots] at X229 l229 y229 z229 st229 hQ229
  subst y229 z229
  obtain ⟨rfl, Nq229, K229, E_r'⟩ := hQ229
  have N229 : Fr n0 L229 := by rw [l229]; exact Fr.app N228 Nq229
  clear l229
  refine Go.by (fun t => st229.trans) ?_
  replace X229 := Stand.num (C := 2) (S := 5) X229 rfl rfl
  replace Od := Od.keep K229 (allS g_r all0)
  replace E_r := E_r.keep K229
  replace Z0 := Nat.le_trans Z0 K229.1
  replace K0 := K0.trans K229 (allS (P := fun x => x ∈ _ ∨ _ ≤ x) (Or.inr sz_r) all0)
  show Go p e below _ (T229.setTop (mkF m 25 #[.val (.int p1)] [(.ref r)]))
  show Go p e below _ (T229.setTop (mkF m 25 #[.val (.int p1)] [(.ref r)]))
  exact Go.ret1 X229 hx Bd.returns Bd.notSynchronized rfl (Or.inr (Or.inr (Or.inr (Or.inr ⟨rfl, rfl, rfl⟩)))) (hb hby d3_25) (by decide) (by decide) ⟨r, rfl, N229, K0, E_r'⟩
def Q_rm2 (Z : State) (p1 p2 G1 : Int32) (h0 : Heap) (n0 : Nat) : Option Value → Heap → List Loc → Prop := fun v h L => ∃ r : Addr, v = some (.ref r) ∧ Fr n0 L ∧ Keep h0 h [] ∧ Exa Z h r "java/lang/String"
set_option maxRecDepth 65536 in
set_option maxHeartbeats 40000000 in
theorem rm2 (l : Launch) (Z : State) (a0 : Array Value) (hw : ∀ d ∈ tables_1, d.before a0 Z = true) (ws : List Jvm.Cond) (p1 p2 G1 : Int32) (h0 : Heap) (n0 : Nat) (Z0 : n0 ≤ h0.size) (Od : Old Z n0 h0) (O2 : Sta Z Z.heap "java/lang/String" "COMPACT_STRINGS" "Z" (.int G1)) (P5 : ¬ (G1 = (0 : Int32))) :
    MetFree l (⟨"com/example/slicewright/slicewright/report/ReportAddErrorPinLaw", "draw", "(II)Ljava/lang/String;"⟩ : MethodName) (head1 (Jvm.Cond.code (⟨"com/example/slicewright/slicewright/report/ReportAddErrorPinLaw", "draw", "(II)Ljava/lang/String;"⟩ : MethodName) method_3_code 4 (some (.object "java/lang/String")) :: ws) ({ frames := 4, cells := 6, slots := 12, locals := 70 } : Room)) (fun a U => a = #[(.int p1), (.int p2)] ∧ Z.Warmed39 U.vm ∧ U.heap = h0 ∧ CHv Z EL U.vm h0) (fun _ _ _ _ _ => True) (fun _ U o U' => ∃ v L, o = .returned v ∧ Q_rm2 Z p1 p2 G1 h0 n0 v U'.heap L ∧ CHr Z EL U.vm U.heap U'.vm U'.heap ∧ ReturnedEndW U o U' L ({ frames := 4, cells := 6, slots := 12, locals := 70 } : Room).cells ({ frames := 4, cells := 6, slots := 12, locals := 70 } : Room).slots) := by
  refine MetFree.of_bodySF (plainFor_of_name pn_0) hisR ?_
  intro p e s m args below meth c s₁ Bd hml0 hP hK
  obtain ⟨rfl, hZ, hh, CH0⟩ := hP
  have hx := Bd.exec
  have hby := Bd.bytes
  have hml : c.maxLocals = 4 := hml0
  have hown : s.vm.findClass "com/example/slicewright/slicewright/report/ReportAddErrorPinLaw" = some m.cls := findClass_of_methodNamed Bd.named
  have hnm := (name_of_methodNamed Bd.named Bd.method).1
  have X0 : Stand p l e ({ frames := 4, cells := 6, slots := 12, locals := 70 } : Room) (s.setVm s.vm) m #[(.int p1), (.int p2)] below meth c s₁ [] 0 0 := Stand.of_body Bd
  have e0 : s₁.heap = h0 := by rw [← hh, Bd.state]; rfl
  have N0 := Fr.nil n0
  have hS : s.Since s.vm 0 := (State.WarmedH.refl s).since 0
  have hk : 0 ≤ h0.size := Nat.zero_le _
  have CR : CHr Z EL s.vm s.heap s.vm h0 := by rw [hh]; exact CHr.refl CH0
  have hEL := ew_of hw
  have hwS := ws_of hw
  have hws : ∀ d ∈ StrChars.Road.words, d.before a0 Z = true := fun d hd => hw d ((by decide +kernel : ∀ d ∈ StrChars.Road.words, d ∈ tables_1) d hd)
  have ef : entryFrame m #[(.int p1), (.int p2)] 4 = (mkF m 0 #[.val (.int p1), .val (.int p2), .unset, .unset] []) := by first | (simp [entryFrame, mkF, argsToLocals, Value.category, maxLocals]; done) | rfl
  show Go p e below (EndW EL Z (fun v h L => ∃ r : Addr, v = some (.ref r) ∧ Fr n0 L ∧ Keep h0 h [] ∧ Exa Z h r "java/lang/String") s 6 12) (s₁.setTop (entryFrame m #[(.int p1), (.int p2)] 4))
  rw [ef]
  show Go p e below _ (s₁.setTop (mkF m 0 #[.val (.int p1), .val (.int p2), .unset, .unset] []))
  have K0 : Keep h0 h0 [] := Keep.refl _ _
  show Go p e below _ (s₁.setTop (mkF m 0 #[.val (.int p1), .val (.int p2), .unset, .unset] []))
  refine Go.by (fun t => XS.iloadN X0.here hx rfl (hb hby d2_0) rfl ) ?_
  show Go p e below _ (s₁.setTop (mkF m 1 #[.val (.int p1), .val (.int p2), .unset, .unset] [(.int p1)]))
  refine Go.by (fun t => XS.sipush X0.here hx rfl (hb hby d2_1)) ?_
  show Go p e below _ (s₁.setTop (mkF m 4 #[.val (.int p1), .val (.int p2), .unset, .unset] [(.int (255 : Int32)), (.int p1)]))
  refine Go.by (fun t => XS.iand X0.here hx rfl (hb hby d2_4) rfl) ?_
  show Go p e below _ (s₁.setTop (mkF m 5 #[.val (.int p1), .val (.int p2), .unset, .unset] [(.int (p1 &&& (255 : Int32)))]))
  refine Go.by (fun t => XS.i2c X0.here hx rfl (hb hby d2_5) rfl) ?_
  show Go p e below _ (s₁.setTop (mkF m 6 #[.val (.int p1), .val (.int p2), .unset, .unset] [(.int ((p1 &&& (255 : Int32)).toUInt32.toUInt16.toUInt32.toInt32))]))
  refine Go.by (fun t => XS.istoreN X0.here hx rfl (hb hby d2_6) rfl (l' := #[.val (.int p1), .val (.int p2), .val (.int ((p1 &&& (255 : Int32)).toUInt32.toUInt16.toUInt32.toInt32)), .unset]) rfl) ?_
  show Go p e below _ (s₁.setTop (mkF m 7 #[.val (.int p1), .val (.int p2), .val (.int ((p1 &&& (255 : Int32)).toUInt32.toUInt16.toUInt32.toInt32)), .unset] []))
  refine Go.by (fun t => XS.iloadN X0.here hx rfl (hb hby d2_7) rfl ) ?_
  show Go p e below _ (s₁.setTop (mkF m 8 #[.val (.int p1), .val (.int p2), .val (.int ((p1 &&& (255 : Int32)).toUInt32.toUInt16.toUInt32.toInt32)), .unset] [(.int p1)]))
  refine Go.by (fun t => XS.bipush X0.here hx rfl (hb hby d2_8)) ?_
  show Go p e below _ (s₁.setTop (mkF m 10 #[.val (.int p1), .val (.int p2), .val (.int ((p1 &&& (255 : Int32)).toUInt32.toUInt16.toUInt32.toInt32)), .unset] [(.int (8 : Int32)), (.int p1)]))
  refine Go.by (fun t => XS.iushr X0.here hx rfl (hb hby d2_10) rfl) ?_
  show Go p e below _ (s₁.setTop (mkF m 11 #[.val (.int p1), .val (.int p2), .val (.int ((p1 &&& (255 : Int32)).toUInt32.toUInt16.toUInt32.toInt32)), .unset] [(.int ((p1.toUInt32 >>> ((8 : Int32) &&& 31).toUInt32).toInt32))]))
  refine Go.by (fun t => XS.sipush X0.here hx rfl (hb hby d2_11)) ?_
  show Go p e below _ (s₁.setTop (mkF m 14 #[.val (.int p1), .val (.int p2), .val (.int ((p1 &&& (255 : Int32)).toUInt32.toUInt16.toUInt32.toInt32)), .unset] [(.int (255 : Int32)), (.int ((p1.toUInt32 >>> ((8 : Int32) &&& 31).toUInt32).toInt32))]))
  refine Go.by (fun t => XS.iand X0.here hx rfl (hb hby d2_14) rfl) ?_
  show Go p e below _ (s₁.setTop (mkF m 15 #[.val (.int p1), .val (.int p2), .val (.int ((p1 &&& (255 : Int32)).toUInt32.toUInt16.toUInt32.toInt32)), .unset] [(.int (((p1.toUInt32 >>> ((8 : Int32) &&& 31).toUInt32).toInt32) &&& (255 : Int32)))]))
  refine Go.by (fun t => XS.i2c X0.here hx rfl (hb hby d2_15) rfl) ?_
  show Go p e below _ (s₁.setTop (mkF m 16 #[.val (.int p1), .val (.int p2), .val (.int ((p1 &&& (255 : Int32)).toUInt32.toUInt16.toUInt32.toInt32)), .unset] [(.int ((((p1.toUInt32 >>> ((8 : Int32) &&& 31).toUInt32).toInt32) &&& (255 : Int32)).toUInt32.toUInt16.toUInt32.toInt32))]))
  refine Go.by (fun t => XS.istoreN X0.here hx rfl (hb hby d2_16) rfl (l' := #[.val (.int p1), .val (.int p2), .val (.int ((p1 &&& (255 : Int32)).toUInt32.toUInt16.toUInt32.toInt32)), .val (.int ((((p1.toUInt32 >>> ((8 : Int32) &&& 31).toUInt32).toInt32) &&& (255 : Int32)).toUInt32.toUInt16.toUInt32.toInt32))]) rfl) ?_
  show Go p e below _ (s₁.setTop (mkF m 17 #[.val (.int p1), .val (.int p2), .val (.int ((p1 &&& (255 : Int32)).toUInt32.toUInt16.toUInt32.toInt32)), .val (.int ((((p1.toUInt32 >>> ((8 : Int32) &&& 31).toUInt32).toInt32) &&& (255 : Int32)).toUInt32.toUInt16.toUInt32.toInt32))] []))
  refine Go.by (fun t => XS.iloadN X0.here hx rfl (hb hby d2_17) rfl ) ?_
  show Go p e below _ (s₁.setTop (mkF m 18 #[.val (.int p1), .val (.int p2), .val (.int ((p1 &&& (255 : Int32)).toUInt32.toUInt16.toUInt32.toInt32)), .val (.int ((((p1.toUInt32 >>> ((8 : Int32) &&& 31).toUInt32).toInt32) &&& (255 : Int32)).toUInt32.toUInt16.toUInt32.toInt32))] [(.int p2)]))
  have hA := and255_id p1
  have hB : ¬ ((((p1.toUInt32 >>> ((8 : Int32) &&& 31).toUInt32).toInt32) &&& (255 : Int32)).toUInt32.toUInt16.toUInt32.toInt32) < 0 ∧ ¬ (255 : Int32) < ((((p1.toUInt32 >>> ((8 : Int32) &&& 31).toUInt32).toInt32) &&& (255 : Int32)).toUInt32.toUInt16.toUInt32.toInt32) := and255_id _
  by_cases hc18 : p2 = (0 : Int32)
  · -- hc18 True
    refine Go.by (fun t => XS.ifNo X0.here hx rfl (hb hby d2_18) rfl ((if0 _ _).trans (teq (hc18 : p2 = (0 : Int32))).2)) ?_
    show Go p e below _ (s₁.setTop (mkF m 21 #[.val (.int p1), .val (.int p2), .val (.int ((p1 &&& (255 : Int32)).toUInt32.toUInt16.toUInt32.toInt32)), .val (.int ((((p1.toUInt32 >>> ((8 : Int32) &&& 31).toUInt32).toInt32) &&& (255 : Int32)).toUInt32.toUInt16.toUInt32.toInt32))] []))
    show Go p e below _ (s₁.setTop (mkF m 21 #[.val (.int p1), .val (.int p2), .val (.int ((p1 &&& (255 : Int32)).toUInt32.toUInt16.toUInt32.toInt32)), .val (.int ((((p1.toUInt32 >>> ((8 : Int32) &&& 31).toUInt32).toInt32) &&& (255 : Int32)).toUInt32.toUInt16.toUInt32.toInt32))] []))
    obtain ⟨T230, h230, X230, e230, E230, A230, D230, -, st230⟩ := newO X0 hx hZ hown (hw _ (List.mem_of_getElem? (i := 66) rfl)) (hw _ (List.mem_of_getElem? (i := 50) rfl)) (hw _ (List.mem_of_getElem? (i := 42) rfl)) e0 (g := (mkF m 21 #[.val (.int p1), .val (.int p2), .val (.int ((p1 &&& (255 : Int32)).toUInt32.toUInt16.toUInt32.toInt32)), .val (.int ((((p1.toUInt32 >>> ((8 : Int32) &&& 31).toUInt32).toInt32) &&& (255 : Int32)).toUInt32.toUInt16.toUInt32.toInt32))] [])) rfl (hb hby d2_21) (by decide) (by decide)
    obtain ⟨r, g230⟩ : ∃ z, z = h0.size := ⟨_, rfl⟩
    rw [← g230] at A230 D230 st230
    refine Go.by (fun t => st230 t) ?_
    have g_r : n0 ≤ r := Nat.le_trans Z0 (Nat.le_of_eq g230.symm)
    have sz_r : h0.size ≤ r := Nat.le_trans K0.1 (Nat.le_of_eq g230.symm)
    have Sf_r : Safe Z EL s.vm h0 r := Safe.new (Nat.le_of_eq g230.symm)
    replace Sf_r := Sf_r.ext E230 CR.1
    replace CR := CR.trans (CHr.ext E230 CR.1)
    replace hk := Nat.le_trans hk E230.1
    replace Od := Od.ext E230
    replace Z0 := Nat.le_trans Z0 E230.1
    replace K0 := K0.ext E230
    have E_r := A230
    have F_value_r : Fld Z h230 r "java/lang/String" "value" "[B" .null := D230 (Or.inr (hw _ (List.mem_of_getElem? (i := 63) rfl))) (ty := (.array .byte)) (by decide)
    have F_coder_r : Fld Z h230 r "java/lang/String" "coder" "B" (.int (0 : Int32)) := D230 (Or.inr (hw _ (List.mem_of_getElem? (i := 65) rfl))) (ty := .byte) (by decide)
    replace X230 := Stand.num (C := 1) (S := 4) X230 rfl rfl
    show Go p e below _ (T230.setTop (mkF m 24 #[.val (.int p1), .val (.int p2), .val (.int ((p1 &&& (255 : Int32)).toUInt32.toUInt16.toUInt32.toInt32)), .val (.int ((((p1.toUInt32 >>> ((8 : Int32) &&& 31).toUInt32).toInt32) &&& (255 : Int32)).toUInt32.toUInt16.toUInt32.toInt32))] [(.ref r)]))
    show Go p e below _ (T230.setTop (mkF m 24 #[.val (.int p1), .val (.int p2), .val (.int ((p1 &&& (255 : Int32)).toUInt32.toUInt16.toUInt32.toInt32)), .val (.int ((((p1.toUInt32 >>> ((8 : Int32) &&& 31).toUInt32).toInt32) &&& (255 : Int32)).toUInt32.toUInt16.toUInt32.toInt32))] [(.ref r)]))
    refine Go.by (fun t => XS.dup X230.here hx rfl (hb hby d2_24) rfl rfl) ?_
    show Go p e below _ (T230.setTop (mkF m 25 #[.val (.int p1), .val (.int p2), .val (.int ((p1 &&& (255 : Int32)).toUInt32.toUInt16.toUInt32.toInt32)), .val (.int ((((p1.toUInt32 >>> ((8 : Int32) &&& 31).toUInt32).toInt32) &&& (255 : Int32)).toUInt32.toUInt16.toUInt32.toInt32))] [(.ref r), (.ref r)]))
    refine Go.by (fun t => XS.iconst X230.here hx rfl (hb hby d2_25)) ?_
    show Go p e below _ (T230.setTop (mkF m 26 #[.val (.int p1), .val (.int p2), .val (.int ((p1 &&& (255 : Int32)).toUInt32.toUInt16.toUInt32.toInt32)), .val (.int ((((p1.toUInt32 >>> ((8 : Int32) &&& 31).toUInt32).toInt32) &&& (255 : Int32)).toUInt32.toUInt16.toUInt32.toInt32))] [(.int (0 : Int32)), (.ref r), (.ref r)]))
    obtain ⟨T231, h231, k231, X231, e231, E231, A231, st231⟩ := newP X230 hx hZ (hw _ (List.mem_of_getElem? (i := 67) rfl)) e230 (g := (mkF m 26 #[.val (.int p1), .val (.int p2), .val (.int ((p1 &&& (255 : Int32)).toUInt32.toUInt16.toUInt32.toInt32)), .val (.int ((((p1.toUInt32 >>> ((8 : Int32) &&& 31).toUInt32).toInt32) &&& (255 : Int32)).toUInt32.toUInt16.toUInt32.toInt32))] [(.int (0 : Int32)), (.ref r), (.ref r)])) rfl (hb hby d2_26) rfl (by decide) (cap := 0) (by decide) (by decide) (by decide) (by decide)
    obtain ⟨b, g231⟩ : ∃ z, z = h230.size := ⟨_, rfl⟩
    rw [← g231] at A231 st231
    refine Go.by (fun t => st231 t) ?_
    have g_b : n0 ≤ b := Nat.le_trans Z0 (Nat.le_of_eq g231.symm)
    have sz_b : h0.size ≤ b := Nat.le_trans K0.1 (Nat.le_of_eq g231.symm)
    have ne_r_b : r ≠ b := Nat.ne_of_lt (Nat.lt_of_lt_of_le E_r.lt (Nat.le_of_eq g231.symm))
    replace Sf_r := Sf_r.ext E231 CR.1
    replace CR := CR.trans (CHr.ext E231 CR.1)
    replace hk := Nat.le_trans hk E231.1
    replace Od := Od.ext E231
    replace E_r := E_r.ext E231
    replace F_value_r := F_value_r.ext E231
    replace F_coder_r := F_coder_r.ext E231
    replace Z0 := Nat.le_trans Z0 E231.1
    replace K0 := K0.ext E231
    have V_b : Arv Z h231 b k231 .char (0 : Int32) [] (.int (0 : Int32)) := (Arv.new A231 (by decide)).pad (pad_rep [] (.int (0 : Int32)) 0)
    replace X231 := Stand.num (C := 2) (S := 4) X231 rfl rfl
    show Go p e below _ (T231.setTop (mkF m 28 #[.val (.int p1), .val (.int p2), .val (.int ((p1 &&& (255 : Int32)).toUInt32.toUInt16.toUInt32.toInt32)), .val (.int ((((p1.toUInt32 >>> ((8 : Int32) &&& 31).toUInt32).toInt32) &&& (255 : Int32)).toUInt32.toUInt16.toUInt32.toInt32))] [(.ref b), (.ref r), (.ref r)]))
    obtain ⟨_, _, ⟨T232, L232, k232, n232⟩, -, X232, hSn, hgn, ⟨Lc232, hQ232, l232, y232, z232, CRn⟩, st232⟩ := X231.specialBackS hx (y := (⟨"java/lang/String", "<init>", "([C)V"⟩ : MethodName)) rfl hown (mvT (s := s.setVm s.vm) hZ (hw _ (List.mem_of_getElem? (i := 68) rfl))) (mvT (s := s.setVm s.vm) hZ (hw _ (List.mem_of_getElem? (i := 69) rfl))) (mvT (s := s.setVm s.vm) hZ (hw _ (List.mem_of_getElem? (i := 70) rfl))) (by decide) (backOfSH (W := 1) (rm8 l Z a0 hw [] r b _ _ _ h231 n0 E_r F_value_r F_coder_r g_r V_b) hZ (hw _ (List.mem_of_getElem? (i := 70) rfl)) (hw _ (List.mem_of_getElem? (i := 42) rfl)) (by decide) (by decide) hEL CR.1) (g := (mkF m 28 #[.val (.int p1), .val (.int p2), .val (.int ((p1 &&& (255 : Int32)).toUInt32.toUInt16.toUInt32.toInt32)), .val (.int ((((p1.toUInt32 >>> ((8 : Int32) &&& 31).toUInt32).toInt32) &&& (255 : Int32)).toUInt32.toUInt16.toUInt32.toInt32))] [(.ref b), (.ref r), (.ref r)])) rfl (by rw [hml]; rfl) (Steps.refl _) (a := r) (argsL := [(.ref b)]) (rest := [(.ref r)]) (lenOf pd_11 rfl) rfl (by show 2 * 0 + _ ≤ _; exact Nat.le_of_eq rfl) (hb hby d2_28) (fun _ _ => ⟨rfl, e231, (by decide : 2 + 4 ≤ _), (by decide : 4 + 8 ≤ _)⟩)
    dsimp only [Pt.U, Pt.locs, Pt.cells, Pt.slots] at X232 l232 y232 z232 st232 hQ232 hSn hgn CRn
    subst y232 z232
    rw [e231] at hgn
    obtain ⟨X232', hS232, hZ232, hown232⟩ := rebS hS hk X232 hSn hgn hZ hown
    obtain ⟨rfl, Nq232, K232, S_r⟩ := hQ232
    have N232 : Fr n0 L232 := by rw [l232]; exact Fr.app N0 Nq232
    clear l232
    refine Go.by (fun t => st232.trans) ?_
    replace X232' := Stand.num (C := 6) (S := 12) X232' rfl rfl
    replace CR := CR.trans CRn
    replace Od := Od.keep K232 (allS g_r all0)
    replace E_r := E_r.keep K232
    replace Z0 := Nat.le_trans Z0 K232.1
    replace K0 := K0.trans K232 (allS (P := fun x => x ∈ _ ∨ _ ≤ x) (Or.inr sz_r) all0)
    clear CRn hS hk hSn
    have hS := hS232
    have hk : T232.heap.size ≤ T232.heap.size := Nat.le_refl _
    replace hZ := hZ232
    replace hown := hown232
    show Go p e below _ (T232.setTop (mkF m 31 #[.val (.int p1), .val (.int p2), .val (.int ((p1 &&& (255 : Int32)).toUInt32.toUInt16.toUInt32.toInt32)), .val (.int ((((p1.toUInt32 >>> ((8 : Int32) &&& 31).toUInt32).toInt32) &&& (255 : Int32)).toUInt32.toUInt16.toUInt32.toInt32))] [(.ref r)]))
    show Go p e below _ (T232.setTop (mkF m 31 #[.val (.int p1), .val (.int p2), .val (.int ((p1 &&& (255 : Int32)).toUInt32.toUInt16.toUInt32.toInt32)), .val (.int ((((p1.toUInt32 >>> ((8 : Int32) &&& 31).toUInt32).toInt32) &&& (255 : Int32)).toUInt32.toUInt16.toUInt32.toInt32))] [(.ref r)]))
    exact Go.ret1W X232' hS hk CR hZ hEL hx Bd.returns Bd.notSynchronized rfl (Or.inr (Or.inr (Or.inr (Or.inr ⟨rfl, rfl, rfl⟩)))) (hb hby d2_31) (by decide) (by decide) ⟨r, rfl, N232, K0, S_r.exa⟩
  · -- hc18 False
    refine Go.by (fun t => XS.ifYes X0.here hx rfl (pc0 := 18) (pc' := 32) rfl (hb hby d2_18) rfl ((if0 _ _).trans (feq (hc18 : ¬ (p2 = (0 : Int32)))).2) (by decide) (by decide)) ?_
    show Go p e below _ (s₁.setTop (mkF m 32 #[.val (.int p1), .val (.int p2), .val (.int ((p1 &&& (255 : Int32)).toUInt32.toUInt16.toUInt32.toInt32)), .val (.int ((((p1.toUInt32 >>> ((8 : Int32) &&& 31).toUInt32).toInt32) &&& (255 : Int32)).toUInt32.toUInt16.toUInt32.toInt32))] []))
    show Go p e below _ (s₁.setTop (mkF m 32 #[.val (.int p1), .val (.int p2), .val (.int ((p1 &&& (255 : Int32)).toUInt32.toUInt16.toUInt32.toInt32)), .val (.int ((((p1.toUInt32 >>> ((8 : Int32) &&& 31).toUInt32).toInt32) &&& (255 : Int32)).toUInt32.toUInt16.toUInt32.toInt32))] []))
    refine Go.by (fun t => XS.iloadN X0.here hx rfl (hb hby d2_32) rfl ) ?_
    show Go p e below _ (s₁.setTop (mkF m 33 #[.val (.int p1), .val (.int p2), .val (.int ((p1 &&& (255 : Int32)).toUInt32.toUInt16.toUInt32.toInt32)), .val (.int ((((p1.toUInt32 >>> ((8 : Int32) &&& 31).toUInt32).toInt32) &&& (255 : Int32)).toUInt32.toUInt16.toUInt32.toInt32))] [(.int p2)]))
    refine Go.by (fun t => XS.iconst X0.here hx rfl (hb hby d2_33)) ?_
    show Go p e below _ (s₁.setTop (mkF m 34 #[.val (.int p1), .val (.int p2), .val (.int ((p1 &&& (255 : Int32)).toUInt32.toUInt16.toUInt32.toInt32)), .val (.int ((((p1.toUInt32 >>> ((8 : Int32) &&& 31).toUInt32).toInt32) &&& (255 : Int32)).toUInt32.toUInt16.toUInt32.toInt32))] [(.int (1 : Int32)), (.int p2)]))
    by_cases hc34 : p2 = (1 : Int32)
    · -- hc34 True
      refine Go.by (fun t => XS.icmpNo X0.here hx rfl (hb hby d2_34) rfl (teq (hc34 : p2 = (1 : Int32))).2) ?_
      show Go p e below _ (s₁.setTop (mkF m 37 #[.val (.int p1), .val (.int p2), .val (.int ((p1 &&& (255 : Int32)).toUInt32.toUInt16.toUInt32.toInt32)), .val (.int ((((p1.toUInt32 >>> ((8 : Int32) &&& 31).toUInt32).toInt32) &&& (255 : Int32)).toUInt32.toUInt16.toUInt32.toInt32))] []))
      show Go p e below _ (s₁.setTop (mkF m 37 #[.val (.int p1), .val (.int p2), .val (.int ((p1 &&& (255 : Int32)).toUInt32.toUInt16.toUInt32.toInt32)), .val (.int ((((p1.toUInt32 >>> ((8 : Int32) &&& 31).toUInt32).toInt32) &&& (255 : Int32)).toUInt32.toUInt16.toUInt32.toInt32))] []))
      refine Go.by (fun t => XS.iloadN X0.here hx rfl (hb hby d2_37) rfl ) ?_
      show Go p e below _ (s₁.setTop (mkF m 38 #[.val (.int p1), .val (.int p2), .val (.int ((p1 &&& (255 : Int32)).toUInt32.toUInt16.toUInt32.toInt32)), .val (.int ((((p1.toUInt32 >>> ((8 : Int32) &&& 31).toUInt32).toInt32) &&& (255 : Int32)).toUInt32.toUInt16.toUInt32.toInt32))] [(.int ((p1 &&& (255 : Int32)).toUInt32.toUInt16.toUInt32.toInt32))]))
      obtain ⟨_, _, ⟨T233, L233, k233, n233⟩, -, X233, ⟨Lc233, hQ233, l233, y233, z233⟩, st233⟩ := Jvm.LawKit.callS X0 hx (y := (⟨"java/lang/String", "valueOf", "(C)Ljava/lang/String;"⟩ : MethodName)) hown (mvT hZ (hw _ (List.mem_of_getElem? (i := 40) rfl))) (mvT hZ (hw _ (List.mem_of_getElem? (i := 41) rfl))) (mvT hZ (hw _ (List.mem_of_getElem? (i := 42) rfl))) (mvT hZ (hw _ (List.mem_of_getElem? (i := 43) rfl))) (by decide) (backOf (W := 0) (rm3 l Z a0 hw [] ((p1 &&& (255 : Int32)).toUInt32.toUInt16.toUInt32.toInt32) G1 h0 n0 Z0 Od O2 P5 hA.2) hZ (hw _ (List.mem_of_getElem? (i := 43) rfl)) (hw _ (List.mem_of_getElem? (i := 42) rfl)) (by decide) (by decide)) (g := (mkF m 38 #[.val (.int p1), .val (.int p2), .val (.int ((p1 &&& (255 : Int32)).toUInt32.toUInt16.toUInt32.toInt32)), .val (.int ((((p1.toUInt32 >>> ((8 : Int32) &&& 31).toUInt32).toInt32) &&& (255 : Int32)).toUInt32.toUInt16.toUInt32.toInt32))] [(.int ((p1 &&& (255 : Int32)).toUInt32.toUInt16.toUInt32.toInt32))])) rfl (by rw [hml]; rfl) (argsL := [(.int ((p1 &&& (255 : Int32)).toUInt32.toUInt16.toUInt32.toInt32))]) (rest := []) (lenOf pd_12 rfl) rfl (by show 2 * 0 + _ ≤ _; exact Nat.le_of_eq rfl) (hb hby d2_38) (fun _ _ => ⟨rfl, e0, (by decide : 0 + 2 ≤ _), (by decide : 0 + 5 ≤ _)⟩)
      dsimp only [Pt.U, Pt.locs, Pt.cells, Pt.slots] at X233 l233 y233 z233 st233 hQ233
      subst y233 z233
      obtain ⟨r, rfl, Nq233, K233, E_r⟩ := hQ233
      have N233 : Fr n0 L233 := by rw [l233]; exact Fr.app N0 Nq233
      clear l233
      refine Go.by (fun t => st233 t) ?_
      replace X233 := Stand.num (C := 2) (S := 5) X233 rfl rfl
      have Sfw := (sf0 : ∀ x ∈ [], Safe Z EL s.vm h0 x)
      replace CR := CR.trans (CHr.keep K233 Sfw CR.1)
      clear Sfw
      replace hk := Nat.le_trans hk K233.1
      replace Od := Od.keep K233 all0
      replace Z0 := Nat.le_trans Z0 K233.1
      replace K0 := K0.trans K233 all0
      show Go p e below _ (T233.setTop (mkF m 41 #[.val (.int p1), .val (.int p2), .val (.int ((p1 &&& (255 : Int32)).toUInt32.toUInt16.toUInt32.toInt32)), .val (.int ((((p1.toUInt32 >>> ((8 : Int32) &&& 31).toUInt32).toInt32) &&& (255 : Int32)).toUInt32.toUInt16.toUInt32.toInt32))] [(.ref r)]))
      show Go p e below _ (T233.setTop (mkF m 41 #[.val (.int p1), .val (.int p2), .val (.int ((p1 &&& (255 : Int32)).toUInt32.toUInt16.toUInt32.toInt32)), .val (.int ((((p1.toUInt32 >>> ((8 : Int32) &&& 31).toUInt32).toInt32) &&& (255 : Int32)).toUInt32.toUInt16.toUInt32.toInt32))] [(.ref r)]))
      exact Go.ret1W X233 hS hk CR hZ hEL hx Bd.returns Bd.notSynchronized rfl (Or.inr (Or.inr (Or.inr (Or.inr ⟨rfl, rfl, rfl⟩)))) (hb hby d2_41) (by decide) (by decide) ⟨r, rfl, N233, K0, E_r⟩
    · -- hc34 False
      refine Go.by (fun t => XS.icmpYes X0.here hx rfl (pc0 := 34) (pc' := 42) rfl (hb hby d2_34) rfl (feq (hc34 : ¬ (p2 = (1 : Int32)))).2 (by decide) (by decide)) ?_
      show Go p e below _ (s₁.setTop (mkF m 42 #[.val (.int p1), .val (.int p2), .val (.int ((p1 &&& (255 : Int32)).toUInt32.toUInt16.toUInt32.toInt32)), .val (.int ((((p1.toUInt32 >>> ((8 : Int32) &&& 31).toUInt32).toInt32) &&& (255 : Int32)).toUInt32.toUInt16.toUInt32.toInt32))] []))
      show Go p e below _ (s₁.setTop (mkF m 42 #[.val (.int p1), .val (.int p2), .val (.int ((p1 &&& (255 : Int32)).toUInt32.toUInt16.toUInt32.toInt32)), .val (.int ((((p1.toUInt32 >>> ((8 : Int32) &&& 31).toUInt32).toInt32) &&& (255 : Int32)).toUInt32.toUInt16.toUInt32.toInt32))] []))
      obtain ⟨T234, h234, X234, e234, E234, A234, D234, -, st234⟩ := newO X0 hx hZ hown (hw _ (List.mem_of_getElem? (i := 66) rfl)) (hw _ (List.mem_of_getElem? (i := 50) rfl)) (hw _ (List.mem_of_getElem? (i := 42) rfl)) e0 (g := (mkF m 42 #[.val (.int p1), .val (.int p2), .val (.int ((p1 &&& (255 : Int32)).toUInt32.toUInt16.toUInt32.toInt32)), .val (.int ((((p1.toUInt32 >>> ((8 : Int32) &&& 31).toUInt32).toInt32) &&& (255 : Int32)).toUInt32.toUInt16.toUInt32.toInt32))] [])) rfl (hb hby d2_42) (by decide) (by decide)
      obtain ⟨r, g234⟩ : ∃ z, z = h0.size := ⟨_, rfl⟩
      rw [← g234] at A234 D234 st234
      refine Go.by (fun t => st234 t) ?_
      have g_r : n0 ≤ r := Nat.le_trans Z0 (Nat.le_of_eq g234.symm)
      have sz_r : h0.size ≤ r := Nat.le_trans K0.1 (Nat.le_of_eq g234.symm)
      have Sf_r : Safe Z EL s.vm h0 r := Safe.new (Nat.le_of_eq g234.symm)
      replace Sf_r := Sf_r.ext E234 CR.1
      replace CR := CR.trans (CHr.ext E234 CR.1)
      replace hk := Nat.le_trans hk E234.1
      replace Od := Od.ext E234
      replace Z0 := Nat.le_trans Z0 E234.1
      replace K0 := K0.ext E234
      have E_r := A234
      have F_value_r : Fld Z h234 r "java/lang/String" "value" "[B" .null := D234 (Or.inr (hw _ (List.mem_of_getElem? (i := 63) rfl))) (ty := (.array .byte)) (by decide)
      have F_coder_r : Fld Z h234 r "java/lang/String" "coder" "B" (.int (0 : Int32)) := D234 (Or.inr (hw _ (List.mem_of_getElem? (i := 65) rfl))) (ty := .byte) (by decide)
      replace X234 := Stand.num (C := 1) (S := 4) X234 rfl rfl
      show Go p e below _ (T234.setTop (mkF m 45 #[.val (.int p1), .val (.int p2), .val (.int ((p1 &&& (255 : Int32)).toUInt32.toUInt16.toUInt32.toInt32)), .val (.int ((((p1.toUInt32 >>> ((8 : Int32) &&& 31).toUInt32).toInt32) &&& (255 : Int32)).toUInt32.toUInt16.toUInt32.toInt32))] [(.ref r)]))
      show Go p e below _ (T234.setTop (mkF m 45 #[.val (.int p1), .val (.int p2), .val (.int ((p1 &&& (255 : Int32)).toUInt32.toUInt16.toUInt32.toInt32)), .val (.int ((((p1.toUInt32 >>> ((8 : Int32) &&& 31).toUInt32).toInt32) &&& (255 : Int32)).toUInt32.toUInt16.toUInt32.toInt32))] [(.ref r)]))
      refine Go.by (fun t => XS.dup X234.here hx rfl (hb hby d2_45) rfl rfl) ?_
      show Go p e below _ (T234.setTop (mkF m 46 #[.val (.int p1), .val (.int p2), .val (.int ((p1 &&& (255 : Int32)).toUInt32.toUInt16.toUInt32.toInt32)), .val (.int ((((p1.toUInt32 >>> ((8 : Int32) &&& 31).toUInt32).toInt32) &&& (255 : Int32)).toUInt32.toUInt16.toUInt32.toInt32))] [(.ref r), (.ref r)]))
      refine Go.by (fun t => XS.iconst X234.here hx rfl (hb hby d2_46)) ?_
      show Go p e below _ (T234.setTop (mkF m 47 #[.val (.int p1), .val (.int p2), .val (.int ((p1 &&& (255 : Int32)).toUInt32.toUInt16.toUInt32.toInt32)), .val (.int ((((p1.toUInt32 >>> ((8 : Int32) &&& 31).toUInt32).toInt32) &&& (255 : Int32)).toUInt32.toUInt16.toUInt32.toInt32))] [(.int (2 : Int32)), (.ref r), (.ref r)]))
      obtain ⟨T235, h235, k235, X235, e235, E235, A235, st235⟩ := newP X234 hx hZ (hw _ (List.mem_of_getElem? (i := 67) rfl)) e234 (g := (mkF m 47 #[.val (.int p1), .val (.int p2), .val (.int ((p1 &&& (255 : Int32)).toUInt32.toUInt16.toUInt32.toInt32)), .val (.int ((((p1.toUInt32 >>> ((8 : Int32) &&& 31).toUInt32).toInt32) &&& (255 : Int32)).toUInt32.toUInt16.toUInt32.toInt32))] [(.int (2 : Int32)), (.ref r), (.ref r)])) rfl (hb hby d2_47) rfl (by decide) (cap := 2) (by decide) (by decide) (by decide) (by decide)
      obtain ⟨b, g235⟩ : ∃ z, z = h234.size := ⟨_, rfl⟩
      rw [← g235] at A235 st235
      refine Go.by (fun t => st235 t) ?_
      have g_b : n0 ≤ b := Nat.le_trans Z0 (Nat.le_of_eq g235.symm)
      have sz_b : h0.size ≤ b := Nat.le_trans K0.1 (Nat.le_of_eq g235.symm)
      have ne_r_b : r ≠ b := Nat.ne_of_lt (Nat.lt_of_lt_of_le E_r.lt (Nat.le_of_eq g235.symm))
      replace Sf_r := Sf_r.ext E235 CR.1
      replace CR := CR.trans (CHr.ext E235 CR.1)
      replace hk := Nat.le_trans hk E235.1
      replace Od := Od.ext E235
      replace E_r := E_r.ext E235
      replace F_value_r := F_value_r.ext E235
      replace F_coder_r := F_coder_r.ext E235
      replace Z0 := Nat.le_trans Z0 E235.1
      replace K0 := K0.ext E235
      have V_b : Arv Z h235 b k235 .char (2 : Int32) [(.int (0 : Int32)), (.int (0 : Int32))] (.int (0 : Int32)) := (Arv.new A235 (by decide)).pad (pad_rep [] (.int (0 : Int32)) 2)
      replace X235 := Stand.num (C := 2) (S := 6) X235 rfl rfl
      show Go p e below _ (T235.setTop (mkF m 49 #[.val (.int p1), .val (.int p2), .val (.int ((p1 &&& (255 : Int32)).toUInt32.toUInt16.toUInt32.toInt32)), .val (.int ((((p1.toUInt32 >>> ((8 : Int32) &&& 31).toUInt32).toInt32) &&& (255 : Int32)).toUInt32.toUInt16.toUInt32.toInt32))] [(.ref b), (.ref r), (.ref r)]))
      show Go p e below _ (T235.setTop (mkF m 49 #[.val (.int p1), .val (.int p2), .val (.int ((p1 &&& (255 : Int32)).toUInt32.toUInt16.toUInt32.toInt32)), .val (.int ((((p1.toUInt32 >>> ((8 : Int32) &&& 31).toUInt32).toInt32) &&& (255 : Int32)).toUInt32.toUInt16.toUInt32.toInt32))] [(.ref b), (.ref r), (.ref r)]))
      refine Go.by (fun t => XS.dup X235.here hx rfl (hb hby d2_49) rfl rfl) ?_
      show Go p e below _ (T235.setTop (mkF m 50 #[.val (.int p1), .val (.int p2), .val (.int ((p1 &&& (255 : Int32)).toUInt32.toUInt16.toUInt32.toInt32)), .val (.int ((((p1.toUInt32 >>> ((8 : Int32) &&& 31).toUInt32).toInt32) &&& (255 : Int32)).toUInt32.toUInt16.toUInt32.toInt32))] [(.ref b), (.ref b), (.ref r), (.ref r)]))
      refine Go.by (fun t => XS.iconst X235.here hx rfl (hb hby d2_50)) ?_
      show Go p e below _ (T235.setTop (mkF m 51 #[.val (.int p1), .val (.int p2), .val (.int ((p1 &&& (255 : Int32)).toUInt32.toUInt16.toUInt32.toInt32)), .val (.int ((((p1.toUInt32 >>> ((8 : Int32) &&& 31).toUInt32).toInt32) &&& (255 : Int32)).toUInt32.toUInt16.toUInt32.toInt32))] [(.int (0 : Int32)), (.ref b), (.ref b), (.ref r), (.ref r)]))
      refine Go.by (fun t => XS.iloadN X235.here hx rfl (hb hby d2_51) rfl ) ?_
      show Go p e below _ (T235.setTop (mkF m 52 #[.val (.int p1), .val (.int p2), .val (.int ((p1 &&& (255 : Int32)).toUInt32.toUInt16.toUInt32.toInt32)), .val (.int ((((p1.toUInt32 >>> ((8 : Int32) &&& 31).toUInt32).toInt32) &&& (255 : Int32)).toUInt32.toUInt16.toUInt32.toInt32))] [(.int ((p1 &&& (255 : Int32)).toUInt32.toUInt16.toUInt32.toInt32)), (.int (0 : Int32)), (.ref b), (.ref b), (.ref r), (.ref r)]))
      obtain ⟨cl_236, Ar_236, q_236, S_236, M_236, H_236, G_236⟩ := id V_b
      obtain ⟨T236, h236, X236, e236, W236, st236⟩ := stC X235 hx hZ e235 Ar_236 (j := (0 : Int32)) (inb_of S_236 ⟨by decide, by decide⟩) (g := (mkF m 52 #[.val (.int p1), .val (.int p2), .val (.int ((p1 &&& (255 : Int32)).toUInt32.toUInt16.toUInt32.toInt32)), .val (.int ((((p1.toUInt32 >>> ((8 : Int32) &&& 31).toUInt32).toInt32) &&& (255 : Int32)).toUInt32.toUInt16.toUInt32.toInt32))] [(.int ((p1 &&& (255 : Int32)).toUInt32.toUInt16.toUInt32.toInt32)), (.int (0 : Int32)), (.ref b), (.ref b), (.ref r), (.ref r)])) rfl rfl (hb hby d2_52)
      refine Go.by (fun t => st236 t) ?_
      have Sfw : Safe Z EL s.vm h235 b := (Safe.arv hZ.alike V_b (by decide))
      replace Sf_r := Safe.wr W236 Sfw CR.1 Sf_r
      replace CR := CR.trans (CHr.wr W236 Sfw CR.1)
      clear Sfw
      replace hk := Nat.le_trans hk (Keep.of_wr W236).1
      replace V_b := Arv.set Ar_236 q_236 S_236 M_236 H_236 G_236 (fits_nar_char _) W236 0 rfl (Nat.le_of_ble_eq_true rfl)
      rw [nar_b hA] at V_b
      replace V_b : Arv Z h236 b k235 .char (2 : Int32) [(.int ((p1 &&& (255 : Int32)).toUInt32.toUInt16.toUInt32.toInt32)), (.int (0 : Int32))] (.int (0 : Int32)) := V_b
      replace Od := Od.wr W236 g_b
      replace E_r := E_r.wr W236
      replace F_value_r := F_value_r.other W236 (Or.inl ne_r_b)
      replace F_coder_r := F_coder_r.other W236 (Or.inl ne_r_b)
      replace Z0 := Nat.le_trans Z0 (Keep.of_wr W236).1
      replace K0 := K0.wr W236 (Or.inr sz_b)
      have N236 := Fr.snoc X236 N0 g_b
      show Go p e below _ (T236.setTop (mkF m 53 #[.val (.int p1), .val (.int p2), .val (.int ((p1 &&& (255 : Int32)).toUInt32.toUInt16.toUInt32.toInt32)), .val (.int ((((p1.toUInt32 >>> ((8 : Int32) &&& 31).toUInt32).toInt32) &&& (255 : Int32)).toUInt32.toUInt16.toUInt32.toInt32))] [(.ref b), (.ref r), (.ref r)]))
      show Go p e below _ (T236.setTop (mkF m 53 #[.val (.int p1), .val (.int p2), .val (.int ((p1 &&& (255 : Int32)).toUInt32.toUInt16.toUInt32.toInt32)), .val (.int ((((p1.toUInt32 >>> ((8 : Int32) &&& 31).toUInt32).toInt32) &&& (255 : Int32)).toUInt32.toUInt16.toUInt32.toInt32))] [(.ref b), (.ref r), (.ref r)]))
      refine Go.by (fun t => XS.dup X236.here hx rfl (hb hby d2_53) rfl rfl) ?_
      show Go p e below _ (T236.setTop (mkF m 54 #[.val (.int p1), .val (.int p2), .val (.int ((p1 &&& (255 : Int32)).toUInt32.toUInt16.toUInt32.toInt32)), .val (.int ((((p1.toUInt32 >>> ((8 : Int32) &&& 31).toUInt32).toInt32) &&& (255 : Int32)).toUInt32.toUInt16.toUInt32.toInt32))] [(.ref b), (.ref b), (.ref r), (.ref r)]))
      refine Go.by (fun t => XS.iconst X236.here hx rfl (hb hby d2_54)) ?_
      show Go p e below _ (T236.setTop (mkF m 55 #[.val (.int p1), .val (.int p2), .val (.int ((p1 &&& (255 : Int32)).toUInt32.toUInt16.toUInt32.toInt32)), .val (.int ((((p1.toUInt32 >>> ((8 : Int32) &&& 31).toUInt32).toInt32) &&& (255 : Int32)).toUInt32.toUInt16.toUInt32.toInt32))] [(.int (1 : Int32)), (.ref b), (.ref b), (.ref r), (.ref r)]))
      refine Go.by (fun t => XS.iloadN X236.here hx rfl (hb hby d2_55) rfl ) ?_
      show Go p e below _ (T236.setTop (mkF m 56 #[.val (.int p1), .val (.int p2), .val (.int ((p1 &&& (255 : Int32)).toUInt32.toUInt16.toUInt32.toInt32)), .val (.int ((((p1.toUInt32 >>> ((8 : Int32) &&& 31).toUInt32).toInt32) &&& (255 : Int32)).toUInt32.toUInt16.toUInt32.toInt32))] [(.int ((((p1.toUInt32 >>> ((8 : Int32) &&& 31).toUInt32).toInt32) &&& (255 : Int32)).toUInt32.toUInt16.toUInt32.toInt32)), (.int (1 : Int32)), (.ref b), (.ref b), (.ref r), (.ref r)]))
      obtain ⟨cl_237, Ar_237, q_237, S_237, M_237, H_237, G_237⟩ := id V_b
      obtain ⟨T237, h237, X237, e237, W237, st237⟩ := stC X236 hx hZ e236 Ar_237 (j := (1 : Int32)) (inb_of S_237 ⟨by decide, by decide⟩) (g := (mkF m 56 #[.val (.int p1), .val (.int p2), .val (.int ((p1 &&& (255 : Int32)).toUInt32.toUInt16.toUInt32.toInt32)), .val (.int ((((p1.toUInt32 >>> ((8 : Int32) &&& 31).toUInt32).toInt32) &&& (255 : Int32)).toUInt32.toUInt16.toUInt32.toInt32))] [(.int ((((p1.toUInt32 >>> ((8 : Int32) &&& 31).toUInt32).toInt32) &&& (255 : Int32)).toUInt32.toUInt16.toUInt32.toInt32)), (.int (1 : Int32)), (.ref b), (.ref b), (.ref r), (.ref r)])) rfl rfl (hb hby d2_56)
      refine Go.by (fun t => st237 t) ?_
      have Sfw : Safe Z EL s.vm h236 b := (Safe.arv hZ.alike V_b (by decide))
      replace Sf_r := Safe.wr W237 Sfw CR.1 Sf_r
      replace CR := CR.trans (CHr.wr W237 Sfw CR.1)
      clear Sfw
      replace hk := Nat.le_trans hk (Keep.of_wr W237).1
      replace V_b := Arv.set Ar_237 q_237 S_237 M_237 H_237 G_237 (fits_nar_char _) W237 1 rfl (Nat.le_of_ble_eq_true rfl)
      rw [nar_b hB] at V_b
      replace V_b : Arv Z h237 b k235 .char (2 : Int32) [(.int ((p1 &&& (255 : Int32)).toUInt32.toUInt16.toUInt32.toInt32)), (.int ((((p1.toUInt32 >>> ((8 : Int32) &&& 31).toUInt32).toInt32) &&& (255 : Int32)).toUInt32.toUInt16.toUInt32.toInt32))] (.int (0 : Int32)) := V_b
      replace Od := Od.wr W237 g_b
      replace E_r := E_r.wr W237
      replace F_value_r := F_value_r.other W237 (Or.inl ne_r_b)
      replace F_coder_r := F_coder_r.other W237 (Or.inl ne_r_b)
      replace Z0 := Nat.le_trans Z0 (Keep.of_wr W237).1
      replace K0 := K0.wr W237 (Or.inr sz_b)
      have N237 := Fr.snoc X237 N236 g_b
      show Go p e below _ (T237.setTop (mkF m 57 #[.val (.int p1), .val (.int p2), .val (.int ((p1 &&& (255 : Int32)).toUInt32.toUInt16.toUInt32.toInt32)), .val (.int ((((p1.toUInt32 >>> ((8 : Int32) &&& 31).toUInt32).toInt32) &&& (255 : Int32)).toUInt32.toUInt16.toUInt32.toInt32))] [(.ref b), (.ref r), (.ref r)]))
      show Go p e below _ (T237.setTop (mkF m 57 #[.val (.int p1), .val (.int p2), .val (.int ((p1 &&& (255 : Int32)).toUInt32.toUInt16.toUInt32.toInt32)), .val (.int ((((p1.toUInt32 >>> ((8 : Int32) &&& 31).toUInt32).toInt32) &&& (255 : Int32)).toUInt32.toUInt16.toUInt32.toInt32))] [(.ref b), (.ref r), (.ref r)]))
      obtain ⟨_, _, ⟨T238, L238, k238, n238⟩, -, X238, ⟨Lc238, hQ238, l238, y238, z238⟩, st238⟩ := X237.specialBack hx (y := (⟨"java/lang/String", "<init>", "([C)V"⟩ : MethodName)) rfl hown (mvT hZ (hw _ (List.mem_of_getElem? (i := 68) rfl))) (mvT hZ (hw _ (List.mem_of_getElem? (i := 69) rfl))) (mvT hZ (hw _ (List.mem_of_getElem? (i := 70) rfl))) (by decide) (StrChars.Road.backV (W := 1) hZ hws (kI := 4) (hw _ (List.mem_of_getElem? (i := 50) rfl)) (cs := [((p1 &&& (255 : Int32)).toUInt32.toUInt16.toUInt32.toInt32), ((((p1.toUInt32 >>> ((8 : Int32) &&& 31).toUInt32).toInt32) &&& (255 : Int32)).toUInt32.toUInt16.toUInt32.toInt32)]) (bs := ([((p1 &&& (255 : Int32)).toUInt32.toUInt16.toUInt32.toInt32), ((((p1.toUInt32 >>> ((8 : Int32) &&& 31).toUInt32).toInt32) &&& (255 : Int32)).toUInt32.toUInt16.toUInt32.toInt32)]).map (fun c => c.toInt8.toInt32)) (n := 2) g_r Z0 E_r F_value_r F_coder_r V_b (O2.ext Od.2) P5 rfl rfl (by decide) (by decide) (allC hA (all1 hB)) rfl (by decide) (by decide)) (g := (mkF m 57 #[.val (.int p1), .val (.int p2), .val (.int ((p1 &&& (255 : Int32)).toUInt32.toUInt16.toUInt32.toInt32)), .val (.int ((((p1.toUInt32 >>> ((8 : Int32) &&& 31).toUInt32).toInt32) &&& (255 : Int32)).toUInt32.toUInt16.toUInt32.toInt32))] [(.ref b), (.ref r), (.ref r)])) rfl (by rw [hml]; rfl) (Steps.refl _) (a := r) (argsL := [(.ref b)]) (rest := [(.ref r)]) (lenOf pd_11 rfl) rfl (by show 2 * 0 + _ ≤ _; exact Nat.le_of_eq rfl) (hb hby d2_57) (fun _ _ => ⟨rfl, e237, (by decide : 2 + 1 ≤ _), (by decide : 6 + 2 ≤ _)⟩)
      dsimp only [Pt.U, Pt.locs, Pt.cells, Pt.slots] at X238 l238 y238 z238 st238 hQ238
      subst y238 z238
      obtain ⟨rfl, N238q, K238, E238n, F_coder_r, t_r, kb_r, g_t_r, sz_t_r, ne_t_r_r, F_value_r, V_t_r⟩ := hQ238
      have ne_b_t_r : b ≠ t_r := Nat.ne_of_lt (Nat.lt_of_lt_of_le V_b.lt sz_t_r)
      replace sz_t_r : h0.size ≤ t_r := Nat.le_trans K0.1 sz_t_r
      have N238 : Fr n0 L238 := by rw [l238]; exact Fr.app N237 N238q
      clear l238
      refine Go.by (fun t => st238.trans) ?_
      replace X238 := Stand.num (C := 3) (S := 8) X238 rfl rfl
      have Sfw := ((sfS Sf_r sf0) : ∀ x ∈ [r], Safe Z EL s.vm h237 x)
      replace Sf_r := Safe.keep K238 Sfw CR.1 Sf_r
      replace CR := CR.trans (CHr.keep K238 Sfw CR.1)
      clear Sfw
      replace hk := Nat.le_trans hk K238.1
      replace Od := Od.keep K238 (allS g_r all0)
      replace E_r := E_r.keep K238
      replace V_b := V_b.keep K238 (ninS (Ne.symm ne_r_b) nin0)
      replace Z0 := Nat.le_trans Z0 K238.1
      replace K0 := K0.trans K238 (allS (P := fun x => x ∈ _ ∨ _ ≤ x) (Or.inr sz_r) all0)
      show Go p e below _ (T238.setTop (mkF m 60 #[.val (.int p1), .val (.int p2), .val (.int ((p1 &&& (255 : Int32)).toUInt32.toUInt16.toUInt32.toInt32)), .val (.int ((((p1.toUInt32 >>> ((8 : Int32) &&& 31).toUInt32).toInt32) &&& (255 : Int32)).toUInt32.toUInt16.toUInt32.toInt32))] [(.ref r)]))
      show Go p e below _ (T238.setTop (mkF m 60 #[.val (.int p1), .val (.int p2), .val (.int ((p1 &&& (255 : Int32)).toUInt32.toUInt16.toUInt32.toInt32)), .val (.int ((((p1.toUInt32 >>> ((8 : Int32) &&& 31).toUInt32).toInt32) &&& (255 : Int32)).toUInt32.toUInt16.toUInt32.toInt32))] [(.ref r)]))
      exact Go.ret1W X238 hS hk CR hZ hEL hx Bd.returns Bd.notSynchronized rfl (Or.inr (Or.inr (Or.inr (Or.inr ⟨rfl, rfl, rfl⟩)))) (hb hby d2_60) (by decide) (by decide) ⟨r, rfl, N238, K0, E_r⟩
def Q_rm1 (Z : State) (p1 : Int32) (k0 k1 k2 k3 k4 k5 k6 k7 k8 k9 k10 k11 k12 k13 : Addr) (h0 : Heap) (n0 : Nat) : Option Value → Heap → List Loc → Prop := fun v h L => ∃ r : Addr, v = some (.ref r) ∧ Fr n0 L ∧ Keep h0 h [] ∧ Exa Z h r "com/example/slicewright/slicewright/report/ErrorKind"
set_option maxRecDepth 65536 in
set_option maxHeartbeats 40000000 in
theorem rm1 (l : Launch) (Z : State) (a0 : Array Value) (hw : ∀ d ∈ tables_1, d.before a0 Z = true) (ws : List Jvm.Cond) (p1 : Int32) (k0 k1 k2 k3 k4 k5 k6 k7 k8 k9 k10 k11 k12 k13 : Addr) (h0 : Heap) (n0 : Nat) (Z0 : n0 ≤ h0.size) (Od : Old Z n0 h0) (SK0 : Sta Z Z.heap "com/example/slicewright/slicewright/report/ErrorKind" "LIST_MIN" "Lcom/example/slicewright/slicewright/report/ErrorKind;" (.ref k0)) (SK1 : Sta Z Z.heap "com/example/slicewright/slicewright/report/ErrorKind" "LIST_MAX" "Lcom/example/slicewright/slicewright/report/ErrorKind;" (.ref k1)) (SK2 : Sta Z Z.heap "com/example/slicewright/slicewright/report/ErrorKind" "SLICE_MIN" "Lcom/example/slicewright/slicewright/report/ErrorKind;" (.ref k2)) (SK3 : Sta Z Z.heap "com/example/slicewright/slicewright/report/ErrorKind" "SLICE_MAX" "Lcom/example/slicewright/slicewright/report/ErrorKind;" (.ref k3)) (SK4 : Sta Z Z.heap "com/example/slicewright/slicewright/report/ErrorKind" "CLOSED" "Lcom/example/slicewright/slicewright/report/ErrorKind;" (.ref k4)) (SK5 : Sta Z Z.heap "com/example/slicewright/slicewright/report/ErrorKind" "ORDER" "Lcom/example/slicewright/slicewright/report/ErrorKind;" (.ref k5)) (SK6 : Sta Z Z.heap "com/example/slicewright/slicewright/report/ErrorKind" "OPEN_AT_END" "Lcom/example/slicewright/slicewright/report/ErrorKind;" (.ref k6)) (SK7 : Sta Z Z.heap "com/example/slicewright/slicewright/report/ErrorKind" "MIN" "Lcom/example/slicewright/slicewright/report/ErrorKind;" (.ref k7)) (SK8 : Sta Z Z.heap "com/example/slicewright/slicewright/report/ErrorKind" "MAX" "Lcom/example/slicewright/slicewright/report/ErrorKind;" (.ref k8)) (SK9 : Sta Z Z.heap "com/example/slicewright/slicewright/report/ErrorKind" "FIXED" "Lcom/example/slicewright/slicewright/report/ErrorKind;" (.ref k9)) (SK10 : Sta Z Z.heap "com/example/slicewright/slicewright/report/ErrorKind" "PATTERN" "Lcom/example/slicewright/slicewright/report/ErrorKind;" (.ref k10)) (SK11 : Sta Z Z.heap "com/example/slicewright/slicewright/report/ErrorKind" "BINDING" "Lcom/example/slicewright/slicewright/report/ErrorKind;" (.ref k11)) (SK12 : Sta Z Z.heap "com/example/slicewright/slicewright/report/ErrorKind" "TYPE" "Lcom/example/slicewright/slicewright/report/ErrorKind;" (.ref k12)) (SK13 : Sta Z Z.heap "com/example/slicewright/slicewright/report/ErrorKind" "UNKNOWN" "Lcom/example/slicewright/slicewright/report/ErrorKind;" (.ref k13)) (EK0 : Exa Z Z.heap k0 "com/example/slicewright/slicewright/report/ErrorKind") (EK1 : Exa Z Z.heap k1 "com/example/slicewright/slicewright/report/ErrorKind") (EK2 : Exa Z Z.heap k2 "com/example/slicewright/slicewright/report/ErrorKind") (EK3 : Exa Z Z.heap k3 "com/example/slicewright/slicewright/report/ErrorKind") (EK4 : Exa Z Z.heap k4 "com/example/slicewright/slicewright/report/ErrorKind") (EK5 : Exa Z Z.heap k5 "com/example/slicewright/slicewright/report/ErrorKind") (EK6 : Exa Z Z.heap k6 "com/example/slicewright/slicewright/report/ErrorKind") (EK7 : Exa Z Z.heap k7 "com/example/slicewright/slicewright/report/ErrorKind") (EK8 : Exa Z Z.heap k8 "com/example/slicewright/slicewright/report/ErrorKind") (EK9 : Exa Z Z.heap k9 "com/example/slicewright/slicewright/report/ErrorKind") (EK10 : Exa Z Z.heap k10 "com/example/slicewright/slicewright/report/ErrorKind") (EK11 : Exa Z Z.heap k11 "com/example/slicewright/slicewright/report/ErrorKind") (EK12 : Exa Z Z.heap k12 "com/example/slicewright/slicewright/report/ErrorKind") (EK13 : Exa Z Z.heap k13 "com/example/slicewright/slicewright/report/ErrorKind") :
    MetFree l (⟨"com/example/slicewright/slicewright/report/ReportAddErrorPinLaw", "kindOf", "(I)Lcom/example/slicewright/slicewright/report/ErrorKind;"⟩ : MethodName) (head1 (Jvm.Cond.code (⟨"com/example/slicewright/slicewright/report/ReportAddErrorPinLaw", "kindOf", "(I)Lcom/example/slicewright/slicewright/report/ErrorKind;"⟩ : MethodName) method_2_code 2 (some (.object "com/example/slicewright/slicewright/report/ErrorKind")) :: ws) ({ frames := 0, cells := 1, slots := 14, locals := 0 } : Room)) (fun a U => a = #[(.int p1)] ∧ Z.Warmed39 U.vm ∧ U.heap = h0) (fun _ _ _ _ _ => True) (fun _ U o U' => ∃ v L, o = .returned v ∧ Q_rm1 Z p1 k0 k1 k2 k3 k4 k5 k6 k7 k8 k9 k10 k11 k12 k13 h0 n0 v U'.heap L ∧ FrameEnd U o U' L ({ frames := 0, cells := 1, slots := 14, locals := 0 } : Room).cells ({ frames := 0, cells := 1, slots := 14, locals := 0 } : Room).slots) := by
  refine MetFree.of_bodySF (plainFor_of_name pn_0) hisR ?_
  intro p e s m args below meth c s₁ Bd hml0 hP hK
  obtain ⟨rfl, hZ, hh⟩ := hP
  have hx := Bd.exec
  have hby := Bd.bytes
  have hml : c.maxLocals = 2 := hml0
  have hown : s.vm.findClass "com/example/slicewright/slicewright/report/ReportAddErrorPinLaw" = some m.cls := findClass_of_methodNamed Bd.named
  have hnm := (name_of_methodNamed Bd.named Bd.method).1
  have X0 : Stand p l e ({ frames := 0, cells := 1, slots := 14, locals := 0 } : Room) s m #[(.int p1)] below meth c s₁ [] 0 0 := Stand.of_body Bd
  have e0 : s₁.heap = h0 := by rw [← hh, Bd.state]; rfl
  have N0 := Fr.nil n0
  have ef : entryFrame m #[(.int p1)] 2 = (mkF m 0 #[.val (.int p1), .unset] []) := by first | (simp [entryFrame, mkF, argsToLocals, Value.category, maxLocals]; done) | rfl
  show Go p e below (End (fun v h L => ∃ r : Addr, v = some (.ref r) ∧ Fr n0 L ∧ Keep h0 h [] ∧ Exa Z h r "com/example/slicewright/slicewright/report/ErrorKind") s 1 14) (s₁.setTop (entryFrame m #[(.int p1)] 2))
  rw [ef]
  show Go p e below _ (s₁.setTop (mkF m 0 #[.val (.int p1), .unset] []))
  have K0 : Keep h0 h0 [] := Keep.refl _ _
  show Go p e below _ (s₁.setTop (mkF m 0 #[.val (.int p1), .unset] []))
  refine Go.by (fun t => XS.bipush X0.here hx rfl (hb hby d1_0)) ?_
  show Go p e below _ (s₁.setTop (mkF m 2 #[.val (.int p1), .unset] [(.int (14 : Int32))]))
  obtain ⟨T239, h239, k239, X239, e239, E239, A239, O239, st239⟩ := newR X0 hx hZ hown (hw _ (List.mem_of_getElem? (i := 4) rfl)) (hw _ (List.mem_of_getElem? (i := 5) rfl)) e0 (g := (mkF m 2 #[.val (.int p1), .unset] [(.int (14 : Int32))])) rfl (hb hby d1_2) rfl (by decide) (cap := 14) (by decide) (by decide) (by decide) (by decide)
  obtain ⟨b, g239⟩ : ∃ z, z = h0.size := ⟨_, rfl⟩
  rw [← g239] at A239 st239
  refine Go.by (fun t => st239 t) ?_
  have g_b : n0 ≤ b := Nat.le_trans Z0 (Nat.le_of_eq g239.symm)
  have sz_b : h0.size ≤ b := Nat.le_trans K0.1 (Nat.le_of_eq g239.symm)
  replace Od := Od.ext E239
  replace Z0 := Nat.le_trans Z0 E239.1
  replace K0 := K0.ext E239
  have V_b : Arv Z h239 b k239 (.object "com/example/slicewright/slicewright/report/ErrorKind") (14 : Int32) [.null, .null, .null, .null, .null, .null, .null, .null, .null, .null, .null, .null, .null, .null] .null := (Arv.new A239 (by decide)).pad (pad_rep [] .null 14)
  replace X239 := Stand.num (C := 1) (S := 14) X239 rfl rfl
  show Go p e below _ (T239.setTop (mkF m 5 #[.val (.int p1), .unset] [(.ref b)]))
  show Go p e below _ (T239.setTop (mkF m 5 #[.val (.int p1), .unset] [(.ref b)]))
  refine Go.by (fun t => XS.dup X239.here hx rfl (hb hby d1_5) rfl rfl) ?_
  show Go p e below _ (T239.setTop (mkF m 6 #[.val (.int p1), .unset] [(.ref b), (.ref b)]))
  refine Go.by (fun t => XS.iconst X239.here hx rfl (hb hby d1_6)) ?_
  show Go p e below _ (T239.setTop (mkF m 7 #[.val (.int p1), .unset] [(.int (0 : Int32)), (.ref b), (.ref b)]))
  obtain ⟨T240, X240, e240, st240⟩ := getS2 X239 hx hZ hown (host := "") (Or.inl (hw _ (List.mem_of_getElem? (i := 6) rfl))) Via.refl e239 (SK0.ext Od.2) (g := (mkF m 7 #[.val (.int p1), .unset] [(.int (0 : Int32)), (.ref b), (.ref b)])) rfl (hb hby d1_7)
  refine Go.by (fun t => st240 t) ?_
  show Go p e below _ (T240.setTop (mkF m 10 #[.val (.int p1), .unset] [(.ref k0), (.int (0 : Int32)), (.ref b), (.ref b)]))
  obtain ⟨cl_241, Ar_241, q_241, S_241, M_241, H_241, G_241⟩ := id V_b
  obtain ⟨T241, h241, X241, e241, W241, st241⟩ := stR X240 hx hZ e240 Ar_241 (j := (0 : Int32)) (inb_of S_241 ⟨by decide, by decide⟩) rfl (Sto.ofV Ar_241 q_241 O239 (Ins.self (EK0.ext Od.2))) (g := (mkF m 10 #[.val (.int p1), .unset] [(.ref k0), (.int (0 : Int32)), (.ref b), (.ref b)])) rfl rfl (hb hby d1_10)
  refine Go.by (fun t => st241 t) ?_
  replace V_b := Arv.set Ar_241 q_241 S_241 M_241 H_241 G_241 rfl W241 0 rfl (Nat.le_of_ble_eq_true rfl)
  replace V_b : Arv Z h241 b k239 (.object "com/example/slicewright/slicewright/report/ErrorKind") (14 : Int32) [(.ref k0), .null, .null, .null, .null, .null, .null, .null, .null, .null, .null, .null, .null, .null] .null := V_b
  replace Od := Od.wr W241 g_b
  replace Z0 := Nat.le_trans Z0 (Keep.of_wr W241).1
  replace K0 := K0.wr W241 (Or.inr sz_b)
  have N241 := Fr.snoc X241 N0 g_b
  show Go p e below _ (T241.setTop (mkF m 11 #[.val (.int p1), .unset] [(.ref b)]))
  show Go p e below _ (T241.setTop (mkF m 11 #[.val (.int p1), .unset] [(.ref b)]))
  refine Go.by (fun t => XS.dup X241.here hx rfl (hb hby d1_11) rfl rfl) ?_
  show Go p e below _ (T241.setTop (mkF m 12 #[.val (.int p1), .unset] [(.ref b), (.ref b)]))
  refine Go.by (fun t => XS.iconst X241.here hx rfl (hb hby d1_12)) ?_
  show Go p e below _ (T241.setTop (mkF m 13 #[.val (.int p1), .unset] [(.int (1 : Int32)), (.ref b), (.ref b)]))
  obtain ⟨T242, X242, e242, st242⟩ := getS2 X241 hx hZ hown (host := "") (Or.inl (hw _ (List.mem_of_getElem? (i := 10) rfl))) Via.refl e241 (SK1.ext Od.2) (g := (mkF m 13 #[.val (.int p1), .unset] [(.int (1 : Int32)), (.ref b), (.ref b)])) rfl (hb hby d1_13)
  refine Go.by (fun t => st242 t) ?_
  show Go p e below _ (T242.setTop (mkF m 16 #[.val (.int p1), .unset] [(.ref k1), (.int (1 : Int32)), (.ref b), (.ref b)]))
  obtain ⟨cl_243, Ar_243, q_243, S_243, M_243, H_243, G_243⟩ := id V_b
  obtain ⟨T243, h243, X243, e243, W243, st243⟩ := stR X242 hx hZ e242 Ar_243 (j := (1 : Int32)) (inb_of S_243 ⟨by decide, by decide⟩) rfl (Sto.ofV Ar_243 q_243 O239 (Ins.self (EK1.ext Od.2))) (g := (mkF m 16 #[.val (.int p1), .unset] [(.ref k1), (.int (1 : Int32)), (.ref b), (.ref b)])) rfl rfl (hb hby d1_16)
  refine Go.by (fun t => st243 t) ?_
  replace V_b := Arv.set Ar_243 q_243 S_243 M_243 H_243 G_243 rfl W243 1 rfl (Nat.le_of_ble_eq_true rfl)
  replace V_b : Arv Z h243 b k239 (.object "com/example/slicewright/slicewright/report/ErrorKind") (14 : Int32) [(.ref k0), (.ref k1), .null, .null, .null, .null, .null, .null, .null, .null, .null, .null, .null, .null] .null := V_b
  replace Od := Od.wr W243 g_b
  replace Z0 := Nat.le_trans Z0 (Keep.of_wr W243).1
  replace K0 := K0.wr W243 (Or.inr sz_b)
  have N243 := Fr.snoc X243 N241 g_b
  show Go p e below _ (T243.setTop (mkF m 17 #[.val (.int p1), .unset] [(.ref b)]))
  show Go p e below _ (T243.setTop (mkF m 17 #[.val (.int p1), .unset] [(.ref b)]))
  refine Go.by (fun t => XS.dup X243.here hx rfl (hb hby d1_17) rfl rfl) ?_
  show Go p e below _ (T243.setTop (mkF m 18 #[.val (.int p1), .unset] [(.ref b), (.ref b)]))
  refine Go.by (fun t => XS.iconst X243.here hx rfl (hb hby d1_18)) ?_
  show Go p e below _ (T243.setTop (mkF m 19 #[.val (.int p1), .unset] [(.int (2 : Int32)), (.ref b), (.ref b)]))
  obtain ⟨T244, X244, e244, st244⟩ := getS2 X243 hx hZ hown (host := "") (Or.inl (hw _ (List.mem_of_getElem? (i := 12) rfl))) Via.refl e243 (SK2.ext Od.2) (g := (mkF m 19 #[.val (.int p1), .unset] [(.int (2 : Int32)), (.ref b), (.ref b)])) rfl (hb hby d1_19)
  refine Go.by (fun t => st244 t) ?_
  show Go p e below _ (T244.setTop (mkF m 22 #[.val (.int p1), .unset] [(.ref k2), (.int (2 : Int32)), (.ref b), (.ref b)]))
  obtain ⟨cl_245, Ar_245, q_245, S_245, M_245, H_245, G_245⟩ := id V_b
  obtain ⟨T245, h245, X245, e245, W245, st245⟩ := stR X244 hx hZ e244 Ar_245 (j := (2 : Int32)) (inb_of S_245 ⟨by decide, by decide⟩) rfl (Sto.ofV Ar_245 q_245 O239 (Ins.self (EK2.ext Od.2))) (g := (mkF m 22 #[.val (.int p1), .unset] [(.ref k2), (.int (2 : Int32)), (.ref b), (.ref b)])) rfl rfl (hb hby d1_22)
  refine Go.by (fun t => st245 t) ?_
  replace V_b := Arv.set Ar_245 q_245 S_245 M_245 H_245 G_245 rfl W245 2 rfl (Nat.le_of_ble_eq_true rfl)
  replace V_b : Arv Z h245 b k239 (.object "com/example/slicewright/slicewright/report/ErrorKind") (14 : Int32) [(.ref k0), (.ref k1), (.ref k2), .null, .null, .null, .null, .null, .null, .null, .null, .null, .null, .null] .null := V_b
  replace Od := Od.wr W245 g_b
  replace Z0 := Nat.le_trans Z0 (Keep.of_wr W245).1
  replace K0 := K0.wr W245 (Or.inr sz_b)
  have N245 := Fr.snoc X245 N243 g_b
  show Go p e below _ (T245.setTop (mkF m 23 #[.val (.int p1), .unset] [(.ref b)]))
  show Go p e below _ (T245.setTop (mkF m 23 #[.val (.int p1), .unset] [(.ref b)]))
  refine Go.by (fun t => XS.dup X245.here hx rfl (hb hby d1_23) rfl rfl) ?_
  show Go p e below _ (T245.setTop (mkF m 24 #[.val (.int p1), .unset] [(.ref b), (.ref b)]))
  refine Go.by (fun t => XS.iconst X245.here hx rfl (hb hby d1_24)) ?_
  show Go p e below _ (T245.setTop (mkF m 25 #[.val (.int p1), .unset] [(.int (3 : Int32)), (.ref b), (.ref b)]))
  obtain ⟨T246, X246, e246, st246⟩ := getS2 X245 hx hZ hown (host := "") (Or.inl (hw _ (List.mem_of_getElem? (i := 14) rfl))) Via.refl e245 (SK3.ext Od.2) (g := (mkF m 25 #[.val (.int p1), .unset] [(.int (3 : Int32)), (.ref b), (.ref b)])) rfl (hb hby d1_25)
  refine Go.by (fun t => st246 t) ?_
  show Go p e below _ (T246.setTop (mkF m 28 #[.val (.int p1), .unset] [(.ref k3), (.int (3 : Int32)), (.ref b), (.ref b)]))
  obtain ⟨cl_247, Ar_247, q_247, S_247, M_247, H_247, G_247⟩ := id V_b
  obtain ⟨T247, h247, X247, e247, W247, st247⟩ := stR X246 hx hZ e246 Ar_247 (j := (3 : Int32)) (inb_of S_247 ⟨by decide, by decide⟩) rfl (Sto.ofV Ar_247 q_247 O239 (Ins.self (EK3.ext Od.2))) (g := (mkF m 28 #[.val (.int p1), .unset] [(.ref k3), (.int (3 : Int32)), (.ref b), (.ref b)])) rfl rfl (hb hby d1_28)
  refine Go.by (fun t => st247 t) ?_
  replace V_b := Arv.set Ar_247 q_247 S_247 M_247 H_247 G_247 rfl W247 3 rfl (Nat.le_of_ble_eq_true rfl)
  replace V_b : Arv Z h247 b k239 (.object "com/example/slicewright/slicewright/report/ErrorKind") (14 : Int32) [(.ref k0), (.ref k1), (.ref k2), (.ref k3), .null, .null, .null, .null, .null, .null, .null, .null, .null, .null] .null := V_b
  replace Od := Od.wr W247 g_b
  replace Z0 := Nat.le_trans Z0 (Keep.of_wr W247).1
  replace K0 := K0.wr W247 (Or.inr sz_b)
  have N247 := Fr.snoc X247 N245 g_b
  show Go p e below _ (T247.setTop (mkF m 29 #[.val (.int p1), .unset] [(.ref b)]))
  show Go p e below _ (T247.setTop (mkF m 29 #[.val (.int p1), .unset] [(.ref b)]))
  refine Go.by (fun t => XS.dup X247.here hx rfl (hb hby d1_29) rfl rfl) ?_
  show Go p e below _ (T247.setTop (mkF m 30 #[.val (.int p1), .unset] [(.ref b), (.ref b)]))
  refine Go.by (fun t => XS.iconst X247.here hx rfl (hb hby d1_30)) ?_
  show Go p e below _ (T247.setTop (mkF m 31 #[.val (.int p1), .unset] [(.int (4 : Int32)), (.ref b), (.ref b)]))
  obtain ⟨T248, X248, e248, st248⟩ := getS2 X247 hx hZ hown (host := "") (Or.inl (hw _ (List.mem_of_getElem? (i := 16) rfl))) Via.refl e247 (SK4.ext Od.2) (g := (mkF m 31 #[.val (.int p1), .unset] [(.int (4 : Int32)), (.ref b), (.ref b)])) rfl (hb hby d1_31)
  refine Go.by (fun t => st248 t) ?_
  show Go p e below _ (T248.setTop (mkF m 34 #[.val (.int p1), .unset] [(.ref k4), (.int (4 : Int32)), (.ref b), (.ref b)]))
  obtain ⟨cl_249, Ar_249, q_249, S_249, M_249, H_249, G_249⟩ := id V_b
  obtain ⟨T249, h249, X249, e249, W249, st249⟩ := stR X248 hx hZ e248 Ar_249 (j := (4 : Int32)) (inb_of S_249 ⟨by decide, by decide⟩) rfl (Sto.ofV Ar_249 q_249 O239 (Ins.self (EK4.ext Od.2))) (g := (mkF m 34 #[.val (.int p1), .unset] [(.ref k4), (.int (4 : Int32)), (.ref b), (.ref b)])) rfl rfl (hb hby d1_34)
  refine Go.by (fun t => st249 t) ?_
  replace V_b := Arv.set Ar_249 q_249 S_249 M_249 H_249 G_249 rfl W249 4 rfl (Nat.le_of_ble_eq_true rfl)
  replace V_b : Arv Z h249 b k239 (.object "com/example/slicewright/slicewright/report/ErrorKind") (14 : Int32) [(.ref k0), (.ref k1), (.ref k2), (.ref k3), (.ref k4), .null, .null, .null, .null, .null, .null, .null, .null, .null] .null := V_b
  replace Od := Od.wr W249 g_b
  replace Z0 := Nat.le_trans Z0 (Keep.of_wr W249).1
  replace K0 := K0.wr W249 (Or.inr sz_b)
  have N249 := Fr.snoc X249 N247 g_b
  show Go p e below _ (T249.setTop (mkF m 35 #[.val (.int p1), .unset] [(.ref b)]))
  show Go p e below _ (T249.setTop (mkF m 35 #[.val (.int p1), .unset] [(.ref b)]))
  refine Go.by (fun t => XS.dup X249.here hx rfl (hb hby d1_35) rfl rfl) ?_
  show Go p e below _ (T249.setTop (mkF m 36 #[.val (.int p1), .unset] [(.ref b), (.ref b)]))
  refine Go.by (fun t => XS.iconst X249.here hx rfl (hb hby d1_36)) ?_
  show Go p e below _ (T249.setTop (mkF m 37 #[.val (.int p1), .unset] [(.int (5 : Int32)), (.ref b), (.ref b)]))
  obtain ⟨T250, X250, e250, st250⟩ := getS2 X249 hx hZ hown (host := "") (Or.inl (hw _ (List.mem_of_getElem? (i := 18) rfl))) Via.refl e249 (SK5.ext Od.2) (g := (mkF m 37 #[.val (.int p1), .unset] [(.int (5 : Int32)), (.ref b), (.ref b)])) rfl (hb hby d1_37)
  refine Go.by (fun t => st250 t) ?_
  show Go p e below _ (T250.setTop (mkF m 40 #[.val (.int p1), .unset] [(.ref k5), (.int (5 : Int32)), (.ref b), (.ref b)]))
  obtain ⟨cl_251, Ar_251, q_251, S_251, M_251, H_251, G_251⟩ := id V_b
  obtain ⟨T251, h251, X251, e251, W251, st251⟩ := stR X250 hx hZ e250 Ar_251 (j := (5 : Int32)) (inb_of S_251 ⟨by decide, by decide⟩) rfl (Sto.ofV Ar_251 q_251 O239 (Ins.self (EK5.ext Od.2))) (g := (mkF m 40 #[.val (.int p1), .unset] [(.ref k5), (.int (5 : Int32)), (.ref b), (.ref b)])) rfl rfl (hb hby d1_40)
  refine Go.by (fun t => st251 t) ?_
  replace V_b := Arv.set Ar_251 q_251 S_251 M_251 H_251 G_251 rfl W251 5 rfl (Nat.le_of_ble_eq_true rfl)
  replace V_b : Arv Z h251 b k239 (.object "com/example/slicewright/slicewright/report/ErrorKind") (14 : Int32) [(.ref k0), (.ref k1), (.ref k2), (.ref k3), (.ref k4), (.ref k5), .null, .null, .null, .null, .null, .null, .null, .null] .null := V_b
  replace Od := Od.wr W251 g_b
  replace Z0 := Nat.le_trans Z0 (Keep.of_wr W251).1
  replace K0 := K0.wr W251 (Or.inr sz_b)
  have N251 := Fr.snoc X251 N249 g_b
  show Go p e below _ (T251.setTop (mkF m 41 #[.val (.int p1), .unset] [(.ref b)]))
  show Go p e below _ (T251.setTop (mkF m 41 #[.val (.int p1), .unset] [(.ref b)]))
  refine Go.by (fun t => XS.dup X251.here hx rfl (hb hby d1_41) rfl rfl) ?_
  show Go p e below _ (T251.setTop (mkF m 42 #[.val (.int p1), .unset] [(.ref b), (.ref b)]))
  refine Go.by (fun t => XS.bipush X251.here hx rfl (hb hby d1_42)) ?_
  show Go p e below _ (T251.setTop (mkF m 44 #[.val (.int p1), .unset] [(.int (6 : Int32)), (.ref b), (.ref b)]))
  obtain ⟨T252, X252, e252, st252⟩ := getS2 X251 hx hZ hown (host := "") (Or.inl (hw _ (List.mem_of_getElem? (i := 20) rfl))) Via.refl e251 (SK6.ext Od.2) (g := (mkF m 44 #[.val (.int p1), .unset] [(.int (6 : Int32)), (.ref b), (.ref b)])) rfl (hb hby d1_44)
  refine Go.by (fun t => st252 t) ?_
  show Go p e below _ (T252.setTop (mkF m 47 #[.val (.int p1), .unset] [(.ref k6), (.int (6 : Int32)), (.ref b), (.ref b)]))
  obtain ⟨cl_253, Ar_253, q_253, S_253, M_253, H_253, G_253⟩ := id V_b
  obtain ⟨T253, h253, X253, e253, W253, st253⟩ := stR X252 hx hZ e252 Ar_253 (j := (6 : Int32)) (inb_of S_253 ⟨by decide, by decide⟩) rfl (Sto.ofV Ar_253 q_253 O239 (Ins.self (EK6.ext Od.2))) (g := (mkF m 47 #[.val (.int p1), .unset] [(.ref k6), (.int (6 : Int32)), (.ref b), (.ref b)])) rfl rfl (hb hby d1_47)
  refine Go.by (fun t => st253 t) ?_
  replace V_b := Arv.set Ar_253 q_253 S_253 M_253 H_253 G_253 rfl W253 6 rfl (Nat.le_of_ble_eq_true rfl)
  replace V_b : Arv Z h253 b k239 (.object "com/example/slicewright/slicewright/report/ErrorKind") (14 : Int32) [(.ref k0), (.ref k1), (.ref k2), (.ref k3), (.ref k4), (.ref k5), (.ref k6), .null, .null, .null, .null, .null, .null, .null] .null := V_b
  replace Od := Od.wr W253 g_b
  replace Z0 := Nat.le_trans Z0 (Keep.of_wr W253).1
  replace K0 := K0.wr W253 (Or.inr sz_b)
  have N253 := Fr.snoc X253 N251 g_b
  show Go p e below _ (T253.setTop (mkF m 48 #[.val (.int p1), .unset] [(.ref b)]))
  show Go p e below _ (T253.setTop (mkF m 48 #[.val (.int p1), .unset] [(.ref b)]))
  refine Go.by (fun t => XS.dup X253.here hx rfl (hb hby d1_48) rfl rfl) ?_
  show Go p e below _ (T253.setTop (mkF m 49 #[.val (.int p1), .unset] [(.ref b), (.ref b)]))
  refine Go.by (fun t => XS.bipush X253.here hx rfl (hb hby d1_49)) ?_
  show Go p e below _ (T253.setTop (mkF m 51 #[.val (.int p1), .unset] [(.int (7 : Int32)), (.ref b), (.ref b)]))
  obtain ⟨T254, X254, e254, st254⟩ := getS2 X253 hx hZ hown (host := "") (Or.inl (hw _ (List.mem_of_getElem? (i := 22) rfl))) Via.refl e253 (SK7.ext Od.2) (g := (mkF m 51 #[.val (.int p1), .unset] [(.int (7 : Int32)), (.ref b), (.ref b)])) rfl (hb hby d1_51)
  refine Go.by (fun t => st254 t) ?_
  show Go p e below _ (T254.setTop (mkF m 54 #[.val (.int p1), .unset] [(.ref k7), (.int (7 : Int32)), (.ref b), (.ref b)]))
  obtain ⟨cl_255, Ar_255, q_255, S_255, M_255, H_255, G_255⟩ := id V_b
  obtain ⟨T255, h255, X255, e255, W255, st255⟩ := stR X254 hx hZ e254 Ar_255 (j := (7 : Int32)) (inb_of S_255 ⟨by decide, by decide⟩) rfl (Sto.ofV Ar_255 q_255 O239 (Ins.self (EK7.ext Od.2))) (g := (mkF m 54 #[.val (.int p1), .unset] [(.ref k7), (.int (7 : Int32)), (.ref b), (.ref b)])) rfl rfl (hb hby d1_54)
  refine Go.by (fun t => st255 t) ?_
  replace V_b := Arv.set Ar_255 q_255 S_255 M_255 H_255 G_255 rfl W255 7 rfl (Nat.le_of_ble_eq_true rfl)
  replace V_b : Arv Z h255 b k239 (.object "com/example/slicewright/slicewright/report/ErrorKind") (14 : Int32) [(.ref k0), (.ref k1), (.ref k2), (.ref k3), (.ref k4), (.ref k5), (.ref k6), (.ref k7), .null, .null, .null, .null, .null, .null] .null := V_b
  replace Od := Od.wr W255 g_b
  replace Z0 := Nat.le_trans Z0 (Keep.of_wr W255).1
  replace K0 := K0.wr W255 (Or.inr sz_b)
  have N255 := Fr.snoc X255 N253 g_b
  show Go p e below _ (T255.setTop (mkF m 55 #[.val (.int p1), .unset] [(.ref b)]))
  show Go p e below _ (T255.setTop (mkF m 55 #[.val (.int p1), .unset] [(.ref b)]))
  refine Go.by (fun t => XS.dup X255.here hx rfl (hb hby d1_55) rfl rfl) ?_
  show Go p e below _ (T255.setTop (mkF m 56 #[.val (.int p1), .unset] [(.ref b), (.ref b)]))
  refine Go.by (fun t => XS.bipush X255.here hx rfl (hb hby d1_56)) ?_
  show Go p e below _ (T255.setTop (mkF m 58 #[.val (.int p1), .unset] [(.int (8 : Int32)), (.ref b), (.ref b)]))
  obtain ⟨T256, X256, e256, st256⟩ := getS2 X255 hx hZ hown (host := "") (Or.inl (hw _ (List.mem_of_getElem? (i := 24) rfl))) Via.refl e255 (SK8.ext Od.2) (g := (mkF m 58 #[.val (.int p1), .unset] [(.int (8 : Int32)), (.ref b), (.ref b)])) rfl (hb hby d1_58)
  refine Go.by (fun t => st256 t) ?_
  show Go p e below _ (T256.setTop (mkF m 61 #[.val (.int p1), .unset] [(.ref k8), (.int (8 : Int32)), (.ref b), (.ref b)]))
  obtain ⟨cl_257, Ar_257, q_257, S_257, M_257, H_257, G_257⟩ := id V_b
  obtain ⟨T257, h257, X257, e257, W257, st257⟩ := stR X256 hx hZ e256 Ar_257 (j := (8 : Int32)) (inb_of S_257 ⟨by decide, by decide⟩) rfl (Sto.ofV Ar_257 q_257 O239 (Ins.self (EK8.ext Od.2))) (g := (mkF m 61 #[.val (.int p1), .unset] [(.ref k8), (.int (8 : Int32)), (.ref b), (.ref b)])) rfl rfl (hb hby d1_61)
  refine Go.by (fun t => st257 t) ?_
  replace V_b := Arv.set Ar_257 q_257 S_257 M_257 H_257 G_257 rfl W257 8 rfl (Nat.le_of_ble_eq_true rfl)
  replace V_b : Arv Z h257 b k239 (.object "com/example/slicewright/slicewright/report/ErrorKind") (14 : Int32) [(.ref k0), (.ref k1), (.ref k2), (.ref k3), (.ref k4), (.ref k5), (.ref k6), (.ref k7), (.ref k8), .null, .null, .null, .null, .null] .null := V_b
  replace Od := Od.wr W257 g_b
  replace Z0 := Nat.le_trans Z0 (Keep.of_wr W257).1
  replace K0 := K0.wr W257 (Or.inr sz_b)
  have N257 := Fr.snoc X257 N255 g_b
  show Go p e below _ (T257.setTop (mkF m 62 #[.val (.int p1), .unset] [(.ref b)]))
  show Go p e below _ (T257.setTop (mkF m 62 #[.val (.int p1), .unset] [(.ref b)]))
  refine Go.by (fun t => XS.dup X257.here hx rfl (hb hby d1_62) rfl rfl) ?_
  show Go p e below _ (T257.setTop (mkF m 63 #[.val (.int p1), .unset] [(.ref b), (.ref b)]))
  refine Go.by (fun t => XS.bipush X257.here hx rfl (hb hby d1_63)) ?_
  show Go p e below _ (T257.setTop (mkF m 65 #[.val (.int p1), .unset] [(.int (9 : Int32)), (.ref b), (.ref b)]))
  obtain ⟨T258, X258, e258, st258⟩ := getS2 X257 hx hZ hown (host := "") (Or.inl (hw _ (List.mem_of_getElem? (i := 26) rfl))) Via.refl e257 (SK9.ext Od.2) (g := (mkF m 65 #[.val (.int p1), .unset] [(.int (9 : Int32)), (.ref b), (.ref b)])) rfl (hb hby d1_65)
  refine Go.by (fun t => st258 t) ?_
  show Go p e below _ (T258.setTop (mkF m 68 #[.val (.int p1), .unset] [(.ref k9), (.int (9 : Int32)), (.ref b), (.ref b)]))
  obtain ⟨cl_259, Ar_259, q_259, S_259, M_259, H_259, G_259⟩ := id V_b
  obtain ⟨T259, h259, X259, e259, W259, st259⟩ := stR X258 hx hZ e258 Ar_259 (j := (9 : Int32)) (inb_of S_259 ⟨by decide, by decide⟩) rfl (Sto.ofV Ar_259 q_259 O239 (Ins.self (EK9.ext Od.2))) (g := (mkF m 68 #[.val (.int p1), .unset] [(.ref k9), (.int (9 : Int32)), (.ref b), (.ref b)])) rfl rfl (hb hby d1_68)
  refine Go.by (fun t => st259 t) ?_
  replace V_b := Arv.set Ar_259 q_259 S_259 M_259 H_259 G_259 rfl W259 9 rfl (Nat.le_of_ble_eq_true rfl)
  replace V_b : Arv Z h259 b k239 (.object "com/example/slicewright/slicewright/report/ErrorKind") (14 : Int32) [(.ref k0), (.ref k1), (.ref k2), (.ref k3), (.ref k4), (.ref k5), (.ref k6), (.ref k7), (.ref k8), (.ref k9), .null, .null, .null, .null] .null := V_b
  replace Od := Od.wr W259 g_b
  replace Z0 := Nat.le_trans Z0 (Keep.of_wr W259).1
  replace K0 := K0.wr W259 (Or.inr sz_b)
  have N259 := Fr.snoc X259 N257 g_b
  show Go p e below _ (T259.setTop (mkF m 69 #[.val (.int p1), .unset] [(.ref b)]))
  show Go p e below _ (T259.setTop (mkF m 69 #[.val (.int p1), .unset] [(.ref b)]))
  refine Go.by (fun t => XS.dup X259.here hx rfl (hb hby d1_69) rfl rfl) ?_
  show Go p e below _ (T259.setTop (mkF m 70 #[.val (.int p1), .unset] [(.ref b), (.ref b)]))
  refine Go.by (fun t => XS.bipush X259.here hx rfl (hb hby d1_70)) ?_
  show Go p e below _ (T259.setTop (mkF m 72 #[.val (.int p1), .unset] [(.int (10 : Int32)), (.ref b), (.ref b)]))
  obtain ⟨T260, X260, e260, st260⟩ := getS2 X259 hx hZ hown (host := "") (Or.inl (hw _ (List.mem_of_getElem? (i := 28) rfl))) Via.refl e259 (SK10.ext Od.2) (g := (mkF m 72 #[.val (.int p1), .unset] [(.int (10 : Int32)), (.ref b), (.ref b)])) rfl (hb hby d1_72)
  refine Go.by (fun t => st260 t) ?_
  show Go p e below _ (T260.setTop (mkF m 75 #[.val (.int p1), .unset] [(.ref k10), (.int (10 : Int32)), (.ref b), (.ref b)]))
  obtain ⟨cl_261, Ar_261, q_261, S_261, M_261, H_261, G_261⟩ := id V_b
  obtain ⟨T261, h261, X261, e261, W261, st261⟩ := stR X260 hx hZ e260 Ar_261 (j := (10 : Int32)) (inb_of S_261 ⟨by decide, by decide⟩) rfl (Sto.ofV Ar_261 q_261 O239 (Ins.self (EK10.ext Od.2))) (g := (mkF m 75 #[.val (.int p1), .unset] [(.ref k10), (.int (10 : Int32)), (.ref b), (.ref b)])) rfl rfl (hb hby d1_75)
  refine Go.by (fun t => st261 t) ?_
  replace V_b := Arv.set Ar_261 q_261 S_261 M_261 H_261 G_261 rfl W261 10 rfl (Nat.le_of_ble_eq_true rfl)
  replace V_b : Arv Z h261 b k239 (.object "com/example/slicewright/slicewright/report/ErrorKind") (14 : Int32) [(.ref k0), (.ref k1), (.ref k2), (.ref k3), (.ref k4), (.ref k5), (.ref k6), (.ref k7), (.ref k8), (.ref k9), (.ref k10), .null, .null, .null] .null := V_b
  replace Od := Od.wr W261 g_b
  replace Z0 := Nat.le_trans Z0 (Keep.of_wr W261).1
  replace K0 := K0.wr W261 (Or.inr sz_b)
  have N261 := Fr.snoc X261 N259 g_b
  show Go p e below _ (T261.setTop (mkF m 76 #[.val (.int p1), .unset] [(.ref b)]))
  show Go p e below _ (T261.setTop (mkF m 76 #[.val (.int p1), .unset] [(.ref b)]))
  refine Go.by (fun t => XS.dup X261.here hx rfl (hb hby d1_76) rfl rfl) ?_
  show Go p e below _ (T261.setTop (mkF m 77 #[.val (.int p1), .unset] [(.ref b), (.ref b)]))
  refine Go.by (fun t => XS.bipush X261.here hx rfl (hb hby d1_77)) ?_
  show Go p e below _ (T261.setTop (mkF m 79 #[.val (.int p1), .unset] [(.int (11 : Int32)), (.ref b), (.ref b)]))
  obtain ⟨T262, X262, e262, st262⟩ := getS2 X261 hx hZ hown (host := "") (Or.inl (hw _ (List.mem_of_getElem? (i := 30) rfl))) Via.refl e261 (SK11.ext Od.2) (g := (mkF m 79 #[.val (.int p1), .unset] [(.int (11 : Int32)), (.ref b), (.ref b)])) rfl (hb hby d1_79)
  refine Go.by (fun t => st262 t) ?_
  show Go p e below _ (T262.setTop (mkF m 82 #[.val (.int p1), .unset] [(.ref k11), (.int (11 : Int32)), (.ref b), (.ref b)]))
  obtain ⟨cl_263, Ar_263, q_263, S_263, M_263, H_263, G_263⟩ := id V_b
  obtain ⟨T263, h263, X263, e263, W263, st263⟩ := stR X262 hx hZ e262 Ar_263 (j := (11 : Int32)) (inb_of S_263 ⟨by decide, by decide⟩) rfl (Sto.ofV Ar_263 q_263 O239 (Ins.self (EK11.ext Od.2))) (g := (mkF m 82 #[.val (.int p1), .unset] [(.ref k11), (.int (11 : Int32)), (.ref b), (.ref b)])) rfl rfl (hb hby d1_82)
  refine Go.by (fun t => st263 t) ?_
  replace V_b := Arv.set Ar_263 q_263 S_263 M_263 H_263 G_263 rfl W263 11 rfl (Nat.le_of_ble_eq_true rfl)
  replace V_b : Arv Z h263 b k239 (.object "com/example/slicewright/slicewright/report/ErrorKind") (14 : Int32) [(.ref k0), (.ref k1), (.ref k2), (.ref k3), (.ref k4), (.ref k5), (.ref k6), (.ref k7), (.ref k8), (.ref k9), (.ref k10), (.ref k11), .null, .null] .null := V_b
  replace Od := Od.wr W263 g_b
  replace Z0 := Nat.le_trans Z0 (Keep.of_wr W263).1
  replace K0 := K0.wr W263 (Or.inr sz_b)
  have N263 := Fr.snoc X263 N261 g_b
  show Go p e below _ (T263.setTop (mkF m 83 #[.val (.int p1), .unset] [(.ref b)]))
  show Go p e below _ (T263.setTop (mkF m 83 #[.val (.int p1), .unset] [(.ref b)]))
  refine Go.by (fun t => XS.dup X263.here hx rfl (hb hby d1_83) rfl rfl) ?_
  show Go p e below _ (T263.setTop (mkF m 84 #[.val (.int p1), .unset] [(.ref b), (.ref b)]))
  refine Go.by (fun t => XS.bipush X263.here hx rfl (hb hby d1_84)) ?_
  show Go p e below _ (T263.setTop (mkF m 86 #[.val (.int p1), .unset] [(.int (12 : Int32)), (.ref b), (.ref b)]))
  obtain ⟨T264, X264, e264, st264⟩ := getS2 X263 hx hZ hown (host := "") (Or.inl (hw _ (List.mem_of_getElem? (i := 32) rfl))) Via.refl e263 (SK12.ext Od.2) (g := (mkF m 86 #[.val (.int p1), .unset] [(.int (12 : Int32)), (.ref b), (.ref b)])) rfl (hb hby d1_86)
  refine Go.by (fun t => st264 t) ?_
  show Go p e below _ (T264.setTop (mkF m 89 #[.val (.int p1), .unset] [(.ref k12), (.int (12 : Int32)), (.ref b), (.ref b)]))
  obtain ⟨cl_265, Ar_265, q_265, S_265, M_265, H_265, G_265⟩ := id V_b
  obtain ⟨T265, h265, X265, e265, W265, st265⟩ := stR X264 hx hZ e264 Ar_265 (j := (12 : Int32)) (inb_of S_265 ⟨by decide, by decide⟩) rfl (Sto.ofV Ar_265 q_265 O239 (Ins.self (EK12.ext Od.2))) (g := (mkF m 89 #[.val (.int p1), .unset] [(.ref k12), (.int (12 : Int32)), (.ref b), (.ref b)])) rfl rfl (hb hby d1_89)
  refine Go.by (fun t => st265 t) ?_
  replace V_b := Arv.set Ar_265 q_265 S_265 M_265 H_265 G_265 rfl W265 12 rfl (Nat.le_of_ble_eq_true rfl)
  replace V_b : Arv Z h265 b k239 (.object "com/example/slicewright/slicewright/report/ErrorKind") (14 : Int32) [(.ref k0), (.ref k1), (.ref k2), (.ref k3), (.ref k4), (.ref k5), (.ref k6), (.ref k7), (.ref k8), (.ref k9), (.ref k10), (.ref k11), (.ref k12), .null] .null := V_b
  replace Od := Od.wr W265 g_b
  replace Z0 := Nat.le_trans Z0 (Keep.of_wr W265).1
  replace K0 := K0.wr W265 (Or.inr sz_b)
  have N265 := Fr.snoc X265 N263 g_b
  show Go p e below _ (T265.setTop (mkF m 90 #[.val (.int p1), .unset] [(.ref b)]))
  show Go p e below _ (T265.setTop (mkF m 90 #[.val (.int p1), .unset] [(.ref b)]))
  refine Go.by (fun t => XS.dup X265.here hx rfl (hb hby d1_90) rfl rfl) ?_
  show Go p e below _ (T265.setTop (mkF m 91 #[.val (.int p1), .unset] [(.ref b), (.ref b)]))
  refine Go.by (fun t => XS.bipush X265.here hx rfl (hb hby d1_91)) ?_
  show Go p e below _ (T265.setTop (mkF m 93 #[.val (.int p1), .unset] [(.int (13 : Int32)), (.ref b), (.ref b)]))
  obtain ⟨T266, X266, e266, st266⟩ := getS2 X265 hx hZ hown (host := "") (Or.inl (hw _ (List.mem_of_getElem? (i := 34) rfl))) Via.refl e265 (SK13.ext Od.2) (g := (mkF m 93 #[.val (.int p1), .unset] [(.int (13 : Int32)), (.ref b), (.ref b)])) rfl (hb hby d1_93)
  refine Go.by (fun t => st266 t) ?_
  show Go p e below _ (T266.setTop (mkF m 96 #[.val (.int p1), .unset] [(.ref k13), (.int (13 : Int32)), (.ref b), (.ref b)]))
  obtain ⟨cl_267, Ar_267, q_267, S_267, M_267, H_267, G_267⟩ := id V_b
  obtain ⟨T267, h267, X267, e267, W267, st267⟩ := stR X266 hx hZ e266 Ar_267 (j := (13 : Int32)) (inb_of S_267 ⟨by decide, by decide⟩) rfl (Sto.ofV Ar_267 q_267 O239 (Ins.self (EK13.ext Od.2))) (g := (mkF m 96 #[.val (.int p1), .unset] [(.ref k13), (.int (13 : Int32)), (.ref b), (.ref b)])) rfl rfl (hb hby d1_96)
  refine Go.by (fun t => st267 t) ?_
  replace V_b := Arv.set Ar_267 q_267 S_267 M_267 H_267 G_267 rfl W267 13 rfl (Nat.le_of_ble_eq_true rfl)
  replace V_b : Arv Z h267 b k239 (.object "com/example/slicewright/slicewright/report/ErrorKind") (14 : Int32) [(.ref k0), (.ref k1), (.ref k2), (.ref k3), (.ref k4), (.ref k5), (.ref k6), (.ref k7), (.ref k8), (.ref k9), (.ref k10), (.ref k11), (.ref k12), (.ref k13)] .null := V_b
  replace Od := Od.wr W267 g_b
  replace Z0 := Nat.le_trans Z0 (Keep.of_wr W267).1
  replace K0 := K0.wr W267 (Or.inr sz_b)
  have N267 := Fr.snoc X267 N265 g_b
  show Go p e below _ (T267.setTop (mkF m 97 #[.val (.int p1), .unset] [(.ref b)]))
  show Go p e below _ (T267.setTop (mkF m 97 #[.val (.int p1), .unset] [(.ref b)]))
  refine Go.by (fun t => XS.astoreN X267.here hx rfl (hb hby d1_97) rfl rfl (l' := #[.val (.int p1), .val (.ref b)]) rfl) ?_
  show Go p e below _ (T267.setTop (mkF m 98 #[.val (.int p1), .val (.ref b)] []))
  refine Go.by (fun t => XS.aloadN X267.here hx rfl (hb hby d1_98) rfl rfl) ?_
  show Go p e below _ (T267.setTop (mkF m 99 #[.val (.int p1), .val (.ref b)] [(.ref b)]))
  refine Go.by (fun t => XS.iloadN X267.here hx rfl (hb hby d1_99) rfl ) ?_
  show Go p e below _ (T267.setTop (mkF m 100 #[.val (.int p1), .val (.ref b)] [(.int p1), (.ref b)]))
  refine Go.by (fun t => X267.ldcInt hx hown (mvT hZ (hw _ (List.mem_of_getElem? (i := 36) rfl))) (g := (mkF m 100 #[.val (.int p1), .val (.ref b)] [(.int p1), (.ref b)])) rfl (hb hby d1_100) t) ?_
  show Go p e below _ (T267.setTop (mkF m 102 #[.val (.int p1), .val (.ref b)] [(.int (65535 : Int32)), (.int p1), (.ref b)]))
  show Go p e below _ (T267.setTop (mkF m 102 #[.val (.int p1), .val (.ref b)] [(.int (65535 : Int32)), (.int p1), (.ref b)]))
  refine Go.by (fun t => XS.iand X267.here hx rfl (hb hby d1_102) rfl) ?_
  show Go p e below _ (T267.setTop (mkF m 103 #[.val (.int p1), .val (.ref b)] [(.int (p1 &&& (65535 : Int32))), (.ref b)]))
  refine Go.by (fun t => XS.bipush X267.here hx rfl (hb hby d1_103)) ?_
  show Go p e below _ (T267.setTop (mkF m 105 #[.val (.int p1), .val (.ref b)] [(.int (14 : Int32)), (.int (p1 &&& (65535 : Int32))), (.ref b)]))
  refine Go.by (fun t => iremM X267 hx rfl (hb hby d1_105) rfl (by first | assumption | decide)) ?_
  show Go p e below _ (T267.setTop (mkF m 106 #[.val (.int p1), .val (.ref b)] [(.int ((p1 &&& (65535 : Int32)) % (14 : Int32))), (.ref b)]))
  obtain ⟨j, hj, ej⟩ := rem14 p1
  rw [ej]
  show Go p e below _ (T267.setTop (mkF m 106 #[.val (.int p1), .val (.ref b)] [(.int (Int32.ofNat j)), (.ref b)]))
  obtain ⟨r, hr, E_r⟩ : ∃ r : Addr, ([(.ref k0), (.ref k1), (.ref k2), (.ref k3), (.ref k4), (.ref k5), (.ref k6), (.ref k7), (.ref k8), (.ref k9), (.ref k10), (.ref k11), (.ref k12), (.ref k13)] : List Value).getD (Int32.ofNat j).toNatClampNeg .null = .ref r ∧ Exa Z h267 r "com/example/slicewright/slicewright/report/ErrorKind" := by
    obtain rfl | rfl | rfl | rfl | rfl | rfl | rfl | rfl | rfl | rfl | rfl | rfl | rfl | rfl := (by omega : j = 0 ∨ j = 1 ∨ j = 2 ∨ j = 3 ∨ j = 4 ∨ j = 5 ∨ j = 6 ∨ j = 7 ∨ j = 8 ∨ j = 9 ∨ j = 10 ∨ j = 11 ∨ j = 12 ∨ j = 13)
    · exact ⟨k0, rfl, EK0.ext Od.2⟩
    · exact ⟨k1, rfl, EK1.ext Od.2⟩
    · exact ⟨k2, rfl, EK2.ext Od.2⟩
    · exact ⟨k3, rfl, EK3.ext Od.2⟩
    · exact ⟨k4, rfl, EK4.ext Od.2⟩
    · exact ⟨k5, rfl, EK5.ext Od.2⟩
    · exact ⟨k6, rfl, EK6.ext Od.2⟩
    · exact ⟨k7, rfl, EK7.ext Od.2⟩
    · exact ⟨k8, rfl, EK8.ext Od.2⟩
    · exact ⟨k9, rfl, EK9.ext Od.2⟩
    · exact ⟨k10, rfl, EK10.ext Od.2⟩
    · exact ⟨k11, rfl, EK11.ext Od.2⟩
    · exact ⟨k12, rfl, EK12.ext Od.2⟩
    · exact ⟨k13, rfl, EK13.ext Od.2⟩
  obtain ⟨cl_268, Ar_268, q_268, S_268, M_268, H_268, G_268⟩ := id V_b
  have in_268 := inb_of S_268 (j := (Int32.ofNat j)) ⟨Jvm.Free.XT.nlt32 (b := 0) (by omega) (by omega), Jvm.Free.XT.lt32 (b := 14) (by decide) (by omega)⟩
  refine Go.by (fun t => X267.aaload hx (j := (Int32.ofNat j)) (v := (.ref r)) (by rw [e267]; exact Ar_268.1) (State.isArrayOf_alike hZ.alike Ar_268.2.1) rfl Ar_268.2.2 in_268 (H_268.at in_268 hr) (g := (mkF m 106 #[.val (.int p1), .val (.ref b)] [(.int (Int32.ofNat j)), (.ref b)])) rfl rfl (hb hby d1_106) t) ?_
  show Go p e below _ (T267.setTop (mkF m 107 #[.val (.int p1), .val (.ref b)] [(.ref r)]))
  show Go p e below _ (T267.setTop (mkF m 107 #[.val (.int p1), .val (.ref b)] [(.ref r)]))
  exact Go.ret1 X267 hx Bd.returns Bd.notSynchronized rfl (Or.inr (Or.inr (Or.inr (Or.inr ⟨rfl, rfl, rfl⟩)))) (hb hby d1_107) (by decide) (by decide) (by first | (rw [e267]; exact ⟨r, rfl, N267, K0, E_r⟩) | exact ⟨r, rfl, N267, K0, E_r⟩)
def Q_rm0 (Z : State) (p0 p1 p2 p3 G1 : Int32) (m1 m2 m3 de : Addr) (kd : ClassId) (k0 k1 k2 k3 k4 k5 k6 k7 k8 k9 k10 k11 k12 k13 : Addr) (h0 : Heap) (n0 : Nat) : Option Value → Heap → List Loc → Prop := fun v _ L => v = some (.int 1) ∧ Fr n0 L
set_option maxRecDepth 65536 in
set_option maxHeartbeats 40000000 in
theorem rm0 (l : Launch) (Z : State) (a0 : Array Value) (hw : ∀ d ∈ tables_1, d.before a0 Z = true) (ws : List Jvm.Cond) (p0 p1 p2 p3 G1 : Int32) (m1 m2 m3 de : Addr) (kd : ClassId) (k0 k1 k2 k3 k4 k5 k6 k7 k8 k9 k10 k11 k12 k13 : Addr) (h0 : Heap) (n0 : Nat) (Z0 : n0 ≤ h0.size) (Od : Old Z n0 h0) (O2 : Sta Z Z.heap "java/lang/String" "COMPACT_STRINGS" "Z" (.int G1)) (P5 : ¬ (G1 = (0 : Int32))) (S_DE : Sta Z Z.heap "java/util/ArrayList" "DEFAULTCAPACITY_EMPTY_ELEMENTDATA" "[Ljava/lang/Object;" (.ref de)) (V_de : Arv Z Z.heap de kd (.object "java/lang/Object") (0 : Int32) [] .null) (Mi1 : Mir Z "java/util/ArrayList" m1) (Mi2 : Mir Z "java/util/Collections$UnmodifiableList" m2) (Mi3 : Mir Z "java/util/Collections$UnmodifiableRandomAccessList" m3) (SK0 : Sta Z Z.heap "com/example/slicewright/slicewright/report/ErrorKind" "LIST_MIN" "Lcom/example/slicewright/slicewright/report/ErrorKind;" (.ref k0)) (SK1 : Sta Z Z.heap "com/example/slicewright/slicewright/report/ErrorKind" "LIST_MAX" "Lcom/example/slicewright/slicewright/report/ErrorKind;" (.ref k1)) (SK2 : Sta Z Z.heap "com/example/slicewright/slicewright/report/ErrorKind" "SLICE_MIN" "Lcom/example/slicewright/slicewright/report/ErrorKind;" (.ref k2)) (SK3 : Sta Z Z.heap "com/example/slicewright/slicewright/report/ErrorKind" "SLICE_MAX" "Lcom/example/slicewright/slicewright/report/ErrorKind;" (.ref k3)) (SK4 : Sta Z Z.heap "com/example/slicewright/slicewright/report/ErrorKind" "CLOSED" "Lcom/example/slicewright/slicewright/report/ErrorKind;" (.ref k4)) (SK5 : Sta Z Z.heap "com/example/slicewright/slicewright/report/ErrorKind" "ORDER" "Lcom/example/slicewright/slicewright/report/ErrorKind;" (.ref k5)) (SK6 : Sta Z Z.heap "com/example/slicewright/slicewright/report/ErrorKind" "OPEN_AT_END" "Lcom/example/slicewright/slicewright/report/ErrorKind;" (.ref k6)) (SK7 : Sta Z Z.heap "com/example/slicewright/slicewright/report/ErrorKind" "MIN" "Lcom/example/slicewright/slicewright/report/ErrorKind;" (.ref k7)) (SK8 : Sta Z Z.heap "com/example/slicewright/slicewright/report/ErrorKind" "MAX" "Lcom/example/slicewright/slicewright/report/ErrorKind;" (.ref k8)) (SK9 : Sta Z Z.heap "com/example/slicewright/slicewright/report/ErrorKind" "FIXED" "Lcom/example/slicewright/slicewright/report/ErrorKind;" (.ref k9)) (SK10 : Sta Z Z.heap "com/example/slicewright/slicewright/report/ErrorKind" "PATTERN" "Lcom/example/slicewright/slicewright/report/ErrorKind;" (.ref k10)) (SK11 : Sta Z Z.heap "com/example/slicewright/slicewright/report/ErrorKind" "BINDING" "Lcom/example/slicewright/slicewright/report/ErrorKind;" (.ref k11)) (SK12 : Sta Z Z.heap "com/example/slicewright/slicewright/report/ErrorKind" "TYPE" "Lcom/example/slicewright/slicewright/report/ErrorKind;" (.ref k12)) (SK13 : Sta Z Z.heap "com/example/slicewright/slicewright/report/ErrorKind" "UNKNOWN" "Lcom/example/slicewright/slicewright/report/ErrorKind;" (.ref k13)) (EK0 : Exa Z Z.heap k0 "com/example/slicewright/slicewright/report/ErrorKind") (EK1 : Exa Z Z.heap k1 "com/example/slicewright/slicewright/report/ErrorKind") (EK2 : Exa Z Z.heap k2 "com/example/slicewright/slicewright/report/ErrorKind") (EK3 : Exa Z Z.heap k3 "com/example/slicewright/slicewright/report/ErrorKind") (EK4 : Exa Z Z.heap k4 "com/example/slicewright/slicewright/report/ErrorKind") (EK5 : Exa Z Z.heap k5 "com/example/slicewright/slicewright/report/ErrorKind") (EK6 : Exa Z Z.heap k6 "com/example/slicewright/slicewright/report/ErrorKind") (EK7 : Exa Z Z.heap k7 "com/example/slicewright/slicewright/report/ErrorKind") (EK8 : Exa Z Z.heap k8 "com/example/slicewright/slicewright/report/ErrorKind") (EK9 : Exa Z Z.heap k9 "com/example/slicewright/slicewright/report/ErrorKind") (EK10 : Exa Z Z.heap k10 "com/example/slicewright/slicewright/report/ErrorKind") (EK11 : Exa Z Z.heap k11 "com/example/slicewright/slicewright/report/ErrorKind") (EK12 : Exa Z Z.heap k12 "com/example/slicewright/slicewright/report/ErrorKind") (EK13 : Exa Z Z.heap k13 "com/example/slicewright/slicewright/report/ErrorKind") :
    MetFree l x (head1 (Jvm.Cond.code x code maxLocals ret :: ws) room_1) (fun a U => a = #[(.int p0), (.int p1), (.int p2), (.int p3)] ∧ Z.Warmed39 U.vm ∧ U.heap = h0 ∧ CHv Z EL U.vm h0) (fun _ _ _ _ _ => True) (fun _ U o U' => ∃ v L, o = .returned v ∧ Q_rm0 Z p0 p1 p2 p3 G1 m1 m2 m3 de kd k0 k1 k2 k3 k4 k5 k6 k7 k8 k9 k10 k11 k12 k13 h0 n0 v U'.heap L ∧ CHr Z EL U.vm U.heap U'.vm U'.heap ∧ ReturnedEndW U o U' L room_1.cells room_1.slots) := by
  refine MetFree.of_bodySF (plainFor_of_name pn_0) hisR ?_
  intro p e s m args below meth c s₁ Bd hml0 hP hK
  obtain ⟨rfl, hZ, hh, CH0⟩ := hP
  have hx := Bd.exec
  have hby := Bd.bytes
  have hml : c.maxLocals = 16 := hml0
  have hown : s.vm.findClass "com/example/slicewright/slicewright/report/ReportAddErrorPinLaw" = some m.cls := findClass_of_methodNamed Bd.named
  have hnm := (name_of_methodNamed Bd.named Bd.method).1
  have X0 : Stand p l e room_1 (s.setVm s.vm) m #[(.int p0), (.int p1), (.int p2), (.int p3)] below meth c s₁ [] 0 0 := Stand.of_body Bd
  have e0 : s₁.heap = h0 := by rw [← hh, Bd.state]; rfl
  have N0 := Fr.nil n0
  have hS : s.Since s.vm 0 := (State.WarmedH.refl s).since 0
  have hk : 0 ≤ h0.size := Nat.zero_le _
  have CR : CHr Z EL s.vm s.heap s.vm h0 := by rw [hh]; exact CHr.refl CH0
  have hEL := ew_of hw
  have hwS := ws_of hw
  have ef : entryFrame m #[(.int p0), (.int p1), (.int p2), (.int p3)] maxLocals = (mkF m 0 #[.val (.int p0), .val (.int p1), .val (.int p2), .val (.int p3), .unset, .unset, .unset, .unset, .unset, .unset, .unset, .unset, .unset, .unset, .unset, .unset] []) := by first | (simp [entryFrame, mkF, argsToLocals, Value.category, maxLocals]; done) | rfl
  show Go p e below (EndW EL Z (fun v _ L => v = some (.int 1) ∧ Fr n0 L) s 64 4352) (s₁.setTop (entryFrame m #[(.int p0), (.int p1), (.int p2), (.int p3)] maxLocals))
  rw [ef]
  show Go p e below _ (s₁.setTop (mkF m 0 #[.val (.int p0), .val (.int p1), .val (.int p2), .val (.int p3), .unset, .unset, .unset, .unset, .unset, .unset, .unset, .unset, .unset, .unset, .unset, .unset] []))
  show Go p e below _ (s₁.setTop (mkF m 0 #[.val (.int p0), .val (.int p1), .val (.int p2), .val (.int p3), .unset, .unset, .unset, .unset, .unset, .unset, .unset, .unset, .unset, .unset, .unset, .unset] []))
  refine Go.by (fun t => XS.iloadN X0.here hx rfl (hb hby at_0) rfl ) ?_
  show Go p e below _ (s₁.setTop (mkF m 1 #[.val (.int p0), .val (.int p1), .val (.int p2), .val (.int p3), .unset, .unset, .unset, .unset, .unset, .unset, .unset, .unset, .unset, .unset, .unset, .unset] [(.int p0)]))
  obtain ⟨_, _, ⟨T269, L269, k269, n269⟩, -, X269, ⟨Lc269, hQ269, l269, y269, z269⟩, st269⟩ := Jvm.LawKit.callS X0 hx (y := (⟨"com/example/slicewright/slicewright/report/ReportAddErrorPinLaw", "kindOf", "(I)Lcom/example/slicewright/slicewright/report/ErrorKind;"⟩ : MethodName)) hown (mvT hZ (hw _ (List.mem_of_getElem? (i := 0) rfl))) (mvT hZ (hw _ (List.mem_of_getElem? (i := 1) rfl))) (mvT hZ (hw _ (List.mem_of_getElem? (i := 2) rfl))) (mvT hZ (hw _ (List.mem_of_getElem? (i := 3) rfl))) (by decide) (backOf (W := 0) (rm1 l Z a0 hw [] p0 k0 k1 k2 k3 k4 k5 k6 k7 k8 k9 k10 k11 k12 k13 h0 n0 Z0 Od SK0 SK1 SK2 SK3 SK4 SK5 SK6 SK7 SK8 SK9 SK10 SK11 SK12 SK13 EK0 EK1 EK2 EK3 EK4 EK5 EK6 EK7 EK8 EK9 EK10 EK11 EK12 EK13) hZ (hw _ (List.mem_of_getElem? (i := 3) rfl)) (hw _ (List.mem_of_getElem? (i := 2) rfl)) (by decide) (by decide)) (g := (mkF m 1 #[.val (.int p0), .val (.int p1), .val (.int p2), .val (.int p3), .unset, .unset, .unset, .unset, .unset, .unset, .unset, .unset, .unset, .unset, .unset, .unset] [(.int p0)])) rfl (by rw [hml]; rfl) (argsL := [(.int p0)]) (rest := []) (lenOf pd_0 rfl) rfl (by show 2 * 0 + _ ≤ _; exact Nat.le_of_eq rfl) (hb hby at_1) (fun _ _ => ⟨rfl, e0, (by decide : 0 + 1 ≤ _), (by decide : 0 + 14 ≤ _)⟩)
  dsimp only [Pt.U, Pt.locs, Pt.cells, Pt.slots] at X269 l269 y269 z269 st269 hQ269
  subst y269 z269
  obtain ⟨ka, rfl, Nq269, K269, E_ka⟩ := hQ269
  have N269 : Fr n0 L269 := by rw [l269]; exact Fr.app N0 Nq269
  clear l269
  refine Go.by (fun t => st269 t) ?_
  replace X269 := Stand.num (C := 1) (S := 14) X269 rfl rfl
  have Sfw := (sf0 : ∀ x ∈ [], Safe Z EL s.vm h0 x)
  replace CR := CR.trans (CHr.keep K269 Sfw CR.1)
  clear Sfw
  replace hk := Nat.le_trans hk K269.1
  replace Od := Od.keep K269 all0
  replace Z0 := Nat.le_trans Z0 K269.1
  show Go p e below _ (T269.setTop (mkF m 4 #[.val (.int p0), .val (.int p1), .val (.int p2), .val (.int p3), .unset, .unset, .unset, .unset, .unset, .unset, .unset, .unset, .unset, .unset, .unset, .unset] [(.ref ka)]))
  show Go p e below _ (T269.setTop (mkF m 4 #[.val (.int p0), .val (.int p1), .val (.int p2), .val (.int p3), .unset, .unset, .unset, .unset, .unset, .unset, .unset, .unset, .unset, .unset, .unset, .unset] [(.ref ka)]))
  refine Go.by (fun t => XS.astore X269.here hx rfl (hb hby at_4) rfl rfl (l' := #[.val (.int p0), .val (.int p1), .val (.int p2), .val (.int p3), .val (.ref ka), .unset, .unset, .unset, .unset, .unset, .unset, .unset, .unset, .unset, .unset, .unset]) rfl) ?_
  show Go p e below _ (T269.setTop (mkF m 6 #[.val (.int p0), .val (.int p1), .val (.int p2), .val (.int p3), .val (.ref ka), .unset, .unset, .unset, .unset, .unset, .unset, .unset, .unset, .unset, .unset, .unset] []))
  refine Go.by (fun t => XS.iloadN X269.here hx rfl (hb hby at_6) rfl ) ?_
  show Go p e below _ (T269.setTop (mkF m 7 #[.val (.int p0), .val (.int p1), .val (.int p2), .val (.int p3), .val (.ref ka), .unset, .unset, .unset, .unset, .unset, .unset, .unset, .unset, .unset, .unset, .unset] [(.int p0)]))
  refine Go.by (fun t => XS.bipush X269.here hx rfl (hb hby at_7)) ?_
  show Go p e below _ (T269.setTop (mkF m 9 #[.val (.int p0), .val (.int p1), .val (.int p2), .val (.int p3), .val (.ref ka), .unset, .unset, .unset, .unset, .unset, .unset, .unset, .unset, .unset, .unset, .unset] [(.int (16 : Int32)), (.int p0)]))
  refine Go.by (fun t => XS.iushr X269.here hx rfl (hb hby at_9) rfl) ?_
  show Go p e below _ (T269.setTop (mkF m 10 #[.val (.int p0), .val (.int p1), .val (.int p2), .val (.int p3), .val (.ref ka), .unset, .unset, .unset, .unset, .unset, .unset, .unset, .unset, .unset, .unset, .unset] [(.int ((p0.toUInt32 >>> ((16 : Int32) &&& 31).toUInt32).toInt32))]))
  show Go p e below _ (T269.setTop (mkF m 10 #[.val (.int p0), .val (.int p1), .val (.int p2), .val (.int p3), .val (.ref ka), .unset, .unset, .unset, .unset, .unset, .unset, .unset, .unset, .unset, .unset, .unset] [(.int ((p0.toUInt32 >>> ((16 : Int32) &&& 31).toUInt32).toInt32))]))
  obtain ⟨_, _, ⟨T270, L270, k270, n270⟩, -, X270, ⟨Lc270, hQ270, l270, y270, z270⟩, st270⟩ := Jvm.LawKit.callS X269 hx (y := (⟨"com/example/slicewright/slicewright/report/ReportAddErrorPinLaw", "kindOf", "(I)Lcom/example/slicewright/slicewright/report/ErrorKind;"⟩ : MethodName)) hown (mvT hZ (hw _ (List.mem_of_getElem? (i := 0) rfl))) (mvT hZ (hw _ (List.mem_of_getElem? (i := 1) rfl))) (mvT hZ (hw _ (List.mem_of_getElem? (i := 2) rfl))) (mvT hZ (hw _ (List.mem_of_getElem? (i := 3) rfl))) (by decide) (backOf (W := 0) (rm1 l Z a0 hw [] ((p0.toUInt32 >>> ((16 : Int32) &&& 31).toUInt32).toInt32) k0 k1 k2 k3 k4 k5 k6 k7 k8 k9 k10 k11 k12 k13 T269.heap n0 Z0 Od SK0 SK1 SK2 SK3 SK4 SK5 SK6 SK7 SK8 SK9 SK10 SK11 SK12 SK13 EK0 EK1 EK2 EK3 EK4 EK5 EK6 EK7 EK8 EK9 EK10 EK11 EK12 EK13) hZ (hw _ (List.mem_of_getElem? (i := 3) rfl)) (hw _ (List.mem_of_getElem? (i := 2) rfl)) (by decide) (by decide)) (g := (mkF m 10 #[.val (.int p0), .val (.int p1), .val (.int p2), .val (.int p3), .val (.ref ka), .unset, .unset, .unset, .unset, .unset, .unset, .unset, .unset, .unset, .unset, .unset] [(.int ((p0.toUInt32 >>> ((16 : Int32) &&& 31).toUInt32).toInt32))])) rfl (by rw [hml]; rfl) (argsL := [(.int ((p0.toUInt32 >>> ((16 : Int32) &&& 31).toUInt32).toInt32))]) (rest := []) (lenOf pd_0 rfl) rfl (by show 2 * 0 + _ ≤ _; exact Nat.le_of_eq rfl) (hb hby at_10) (fun _ _ => ⟨rfl, rfl, (by decide : 1 + 1 ≤ _), (by decide : 14 + 14 ≤ _)⟩)
  dsimp only [Pt.U, Pt.locs, Pt.cells, Pt.slots] at X270 l270 y270 z270 st270 hQ270
  subst y270 z270
  obtain ⟨kb, rfl, Nq270, K270, E_kb⟩ := hQ270
  have N270 : Fr n0 L270 := by rw [l270]; exact Fr.app N269 Nq270
  clear l270
  refine Go.by (fun t => st270 t) ?_
  replace X270 := Stand.num (C := 2) (S := 28) X270 rfl rfl
  have Sfw := (sf0 : ∀ x ∈ [], Safe Z EL s.vm T269.heap x)
  replace CR := CR.trans (CHr.keep K270 Sfw CR.1)
  clear Sfw
  replace hk := Nat.le_trans hk K270.1
  replace Od := Od.keep K270 all0
  replace E_ka := E_ka.keep K270
  replace Z0 := Nat.le_trans Z0 K270.1
  show Go p e below _ (T270.setTop (mkF m 13 #[.val (.int p0), .val (.int p1), .val (.int p2), .val (.int p3), .val (.ref ka), .unset, .unset, .unset, .unset, .unset, .unset, .unset, .unset, .unset, .unset, .unset] [(.ref kb)]))
  show Go p e below _ (T270.setTop (mkF m 13 #[.val (.int p0), .val (.int p1), .val (.int p2), .val (.int p3), .val (.ref ka), .unset, .unset, .unset, .unset, .unset, .unset, .unset, .unset, .unset, .unset, .unset] [(.ref kb)]))
  refine Go.by (fun t => XS.astore X270.here hx rfl (hb hby at_13) rfl rfl (l' := #[.val (.int p0), .val (.int p1), .val (.int p2), .val (.int p3), .val (.ref ka), .val (.ref kb), .unset, .unset, .unset, .unset, .unset, .unset, .unset, .unset, .unset, .unset]) rfl) ?_
  show Go p e below _ (T270.setTop (mkF m 15 #[.val (.int p0), .val (.int p1), .val (.int p2), .val (.int p3), .val (.ref ka), .val (.ref kb), .unset, .unset, .unset, .unset, .unset, .unset, .unset, .unset, .unset, .unset] []))
  refine Go.by (fun t => XS.iloadN X270.here hx rfl (hb hby at_15) rfl ) ?_
  show Go p e below _ (T270.setTop (mkF m 16 #[.val (.int p0), .val (.int p1), .val (.int p2), .val (.int p3), .val (.ref ka), .val (.ref kb), .unset, .unset, .unset, .unset, .unset, .unset, .unset, .unset, .unset, .unset] [(.int p1)]))
  refine Go.by (fun t => XS.iloadN X270.here hx rfl (hb hby at_16) rfl ) ?_
  show Go p e below _ (T270.setTop (mkF m 17 #[.val (.int p0), .val (.int p1), .val (.int p2), .val (.int p3), .val (.ref ka), .val (.ref kb), .unset, .unset, .unset, .unset, .unset, .unset, .unset, .unset, .unset, .unset] [(.int p3), (.int p1)]))
  refine Go.by (fun t => XS.iconst X270.here hx rfl (hb hby at_17)) ?_
  show Go p e below _ (T270.setTop (mkF m 18 #[.val (.int p0), .val (.int p1), .val (.int p2), .val (.int p3), .val (.ref ka), .val (.ref kb), .unset, .unset, .unset, .unset, .unset, .unset, .unset, .unset, .unset, .unset] [(.int (3 : Int32)), (.int p3), (.int p1)]))
  refine Go.by (fun t => XS.iand X270.here hx rfl (hb hby at_18) rfl) ?_
  show Go p e below _ (T270.setTop (mkF m 19 #[.val (.int p0), .val (.int p1), .val (.int p2), .val (.int p3), .val (.ref ka), .val (.ref kb), .unset, .unset, .unset, .unset, .unset, .unset, .unset, .unset, .unset, .unset] [(.int (p3 &&& (3 : Int32))), (.int p1)]))
  refine Go.by (fun t => XS.iconst X270.here hx rfl (hb hby at_19)) ?_
  show Go p e below _ (T270.setTop (mkF m 20 #[.val (.int p0), .val (.int p1), .val (.int p2), .val (.int p3), .val (.ref ka), .val (.ref kb), .unset, .unset, .unset, .unset, .unset, .unset, .unset, .unset, .unset, .unset] [(.int (3 : Int32)), (.int (p3 &&& (3 : Int32))), (.int p1)]))
  refine Go.by (fun t => iremM X270 hx rfl (hb hby at_20) rfl (by first | assumption | decide)) ?_
  show Go p e below _ (T270.setTop (mkF m 21 #[.val (.int p0), .val (.int p1), .val (.int p2), .val (.int p3), .val (.ref ka), .val (.ref kb), .unset, .unset, .unset, .unset, .unset, .unset, .unset, .unset, .unset, .unset] [(.int ((p3 &&& (3 : Int32)) % (3 : Int32))), (.int p1)]))
  show Go p e below _ (T270.setTop (mkF m 21 #[.val (.int p0), .val (.int p1), .val (.int p2), .val (.int p3), .val (.ref ka), .val (.ref kb), .unset, .unset, .unset, .unset, .unset, .unset, .unset, .unset, .unset, .unset] [(.int ((p3 &&& (3 : Int32)) % (3 : Int32))), (.int p1)]))
  obtain ⟨_, _, ⟨T271, L271, k271, n271⟩, -, X271, hSn, hgn, ⟨Lc271, hQ271, l271, y271, z271, CRn⟩, st271⟩ := callSS X270 hx (y := (⟨"com/example/slicewright/slicewright/report/ReportAddErrorPinLaw", "draw", "(II)Ljava/lang/String;"⟩ : MethodName)) hown (mvT (s := s.setVm s.vm) hZ (hw _ (List.mem_of_getElem? (i := 37) rfl))) (mvT (s := s.setVm s.vm) hZ (hw _ (List.mem_of_getElem? (i := 38) rfl))) (mvT (s := s.setVm s.vm) hZ (hw _ (List.mem_of_getElem? (i := 2) rfl))) (mvT (s := s.setVm s.vm) hZ (hw _ (List.mem_of_getElem? (i := 39) rfl))) (by decide) (backOfSH (W := 0) (rm2 l Z a0 hw [] p1 ((p3 &&& (3 : Int32)) % (3 : Int32)) G1 T270.heap n0 Z0 Od O2 P5) hZ (hw _ (List.mem_of_getElem? (i := 39) rfl)) (hw _ (List.mem_of_getElem? (i := 2) rfl)) (by decide) (by decide) hEL CR.1) (g := (mkF m 21 #[.val (.int p0), .val (.int p1), .val (.int p2), .val (.int p3), .val (.ref ka), .val (.ref kb), .unset, .unset, .unset, .unset, .unset, .unset, .unset, .unset, .unset, .unset] [(.int ((p3 &&& (3 : Int32)) % (3 : Int32))), (.int p1)])) rfl (by rw [hml]; rfl) (argsL := [(.int p1), (.int ((p3 &&& (3 : Int32)) % (3 : Int32)))]) (rest := []) (lenOf pd_1 rfl) rfl (by show 2 * 0 + _ ≤ _; exact Nat.le_of_eq rfl) (hb hby at_21) (fun _ _ => ⟨rfl, rfl, (by decide : 2 + 6 ≤ _), (by decide : 28 + 12 ≤ _)⟩)
  dsimp only [Pt.U, Pt.locs, Pt.cells, Pt.slots] at X271 l271 y271 z271 st271 hQ271 hSn hgn CRn
  subst y271 z271
  skip
  obtain ⟨X271', hS271, hZ271, hown271⟩ := rebS hS hk X271 hSn hgn hZ hown
  obtain ⟨sa, rfl, Nq271, K271, E_sa⟩ := hQ271
  have N271 : Fr n0 L271 := by rw [l271]; exact Fr.app N270 Nq271
  clear l271
  refine Go.by (fun t => st271.trans) ?_
  replace X271' := Stand.num (C := 8) (S := 40) X271' rfl rfl
  replace CR := CR.trans CRn
  replace Od := Od.keep K271 all0
  replace E_ka := E_ka.keep K271
  replace E_kb := E_kb.keep K271
  replace Z0 := Nat.le_trans Z0 K271.1
  clear CRn hS hk hSn
  have hS := hS271
  have hk : T271.heap.size ≤ T271.heap.size := Nat.le_refl _
  replace hZ := hZ271
  replace hown := hown271
  show Go p e below _ (T271.setTop (mkF m 24 #[.val (.int p0), .val (.int p1), .val (.int p2), .val (.int p3), .val (.ref ka), .val (.ref kb), .unset, .unset, .unset, .unset, .unset, .unset, .unset, .unset, .unset, .unset] [(.ref sa)]))
  show Go p e below _ (T271.setTop (mkF m 24 #[.val (.int p0), .val (.int p1), .val (.int p2), .val (.int p3), .val (.ref ka), .val (.ref kb), .unset, .unset, .unset, .unset, .unset, .unset, .unset, .unset, .unset, .unset] [(.ref sa)]))
  refine Go.by (fun t => XS.astore X271'.here hx rfl (hb hby at_24) rfl rfl (l' := #[.val (.int p0), .val (.int p1), .val (.int p2), .val (.int p3), .val (.ref ka), .val (.ref kb), .val (.ref sa), .unset, .unset, .unset, .unset, .unset, .unset, .unset, .unset, .unset]) rfl) ?_
  show Go p e below _ (T271.setTop (mkF m 26 #[.val (.int p0), .val (.int p1), .val (.int p2), .val (.int p3), .val (.ref ka), .val (.ref kb), .val (.ref sa), .unset, .unset, .unset, .unset, .unset, .unset, .unset, .unset, .unset] []))
  refine Go.by (fun t => XS.iloadN X271'.here hx rfl (hb hby at_26) rfl ) ?_
  show Go p e below _ (T271.setTop (mkF m 27 #[.val (.int p0), .val (.int p1), .val (.int p2), .val (.int p3), .val (.ref ka), .val (.ref kb), .val (.ref sa), .unset, .unset, .unset, .unset, .unset, .unset, .unset, .unset, .unset] [(.int p1)]))
  refine Go.by (fun t => XS.bipush X271'.here hx rfl (hb hby at_27)) ?_
  show Go p e below _ (T271.setTop (mkF m 29 #[.val (.int p0), .val (.int p1), .val (.int p2), .val (.int p3), .val (.ref ka), .val (.ref kb), .val (.ref sa), .unset, .unset, .unset, .unset, .unset, .unset, .unset, .unset, .unset] [(.int (16 : Int32)), (.int p1)]))
  refine Go.by (fun t => XS.iushr X271'.here hx rfl (hb hby at_29) rfl) ?_
  show Go p e below _ (T271.setTop (mkF m 30 #[.val (.int p0), .val (.int p1), .val (.int p2), .val (.int p3), .val (.ref ka), .val (.ref kb), .val (.ref sa), .unset, .unset, .unset, .unset, .unset, .unset, .unset, .unset, .unset] [(.int ((p1.toUInt32 >>> ((16 : Int32) &&& 31).toUInt32).toInt32))]))
  refine Go.by (fun t => XS.iloadN X271'.here hx rfl (hb hby at_30) rfl ) ?_
  show Go p e below _ (T271.setTop (mkF m 31 #[.val (.int p0), .val (.int p1), .val (.int p2), .val (.int p3), .val (.ref ka), .val (.ref kb), .val (.ref sa), .unset, .unset, .unset, .unset, .unset, .unset, .unset, .unset, .unset] [(.int p3), (.int ((p1.toUInt32 >>> ((16 : Int32) &&& 31).toUInt32).toInt32))]))
  refine Go.by (fun t => XS.iconst X271'.here hx rfl (hb hby at_31)) ?_
  show Go p e below _ (T271.setTop (mkF m 32 #[.val (.int p0), .val (.int p1), .val (.int p2), .val (.int p3), .val (.ref ka), .val (.ref kb), .val (.ref sa), .unset, .unset, .unset, .unset, .unset, .unset, .unset, .unset, .unset] [(.int (2 : Int32)), (.int p3), (.int ((p1.toUInt32 >>> ((16 : Int32) &&& 31).toUInt32).toInt32))]))
  refine Go.by (fun t => XS.iushr X271'.here hx rfl (hb hby at_32) rfl) ?_
  show Go p e below _ (T271.setTop (mkF m 33 #[.val (.int p0), .val (.int p1), .val (.int p2), .val (.int p3), .val (.ref ka), .val (.ref kb), .val (.ref sa), .unset, .unset, .unset, .unset, .unset, .unset, .unset, .unset, .unset] [(.int ((p3.toUInt32 >>> ((2 : Int32) &&& 31).toUInt32).toInt32)), (.int ((p1.toUInt32 >>> ((16 : Int32) &&& 31).toUInt32).toInt32))]))
  refine Go.by (fun t => XS.iconst X271'.here hx rfl (hb hby at_33)) ?_
  show Go p e below _ (T271.setTop (mkF m 34 #[.val (.int p0), .val (.int p1), .val (.int p2), .val (.int p3), .val (.ref ka), .val (.ref kb), .val (.ref sa), .unset, .unset, .unset, .unset, .unset, .unset, .unset, .unset, .unset] [(.int (3 : Int32)), (.int ((p3.toUInt32 >>> ((2 : Int32) &&& 31).toUInt32).toInt32)), (.int ((p1.toUInt32 >>> ((16 : Int32) &&& 31).toUInt32).toInt32))]))
  refine Go.by (fun t => XS.iand X271'.here hx rfl (hb hby at_34) rfl) ?_
  show Go p e below _ (T271.setTop (mkF m 35 #[.val (.int p0), .val (.int p1), .val (.int p2), .val (.int p3), .val (.ref ka), .val (.ref kb), .val (.ref sa), .unset, .unset, .unset, .unset, .unset, .unset, .unset, .unset, .unset] [(.int (((p3.toUInt32 >>> ((2 : Int32) &&& 31).toUInt32).toInt32) &&& (3 : Int32))), (.int ((p1.toUInt32 >>> ((16 : Int32) &&& 31).toUInt32).toInt32))]))
  refine Go.by (fun t => XS.iconst X271'.here hx rfl (hb hby at_35)) ?_
  show Go p e below _ (T271.setTop (mkF m 36 #[.val (.int p0), .val (.int p1), .val (.int p2), .val (.int p3), .val (.ref ka), .val (.ref kb), .val (.ref sa), .unset, .unset, .unset, .unset, .unset, .unset, .unset, .unset, .unset] [(.int (3 : Int32)), (.int (((p3.toUInt32 >>> ((2 : Int32) &&& 31).toUInt32).toInt32) &&& (3 : Int32))), (.int ((p1.toUInt32 >>> ((16 : Int32) &&& 31).toUInt32).toInt32))]))
  refine Go.by (fun t => iremM X271' hx rfl (hb hby at_36) rfl (by first | assumption | decide)) ?_
  show Go p e below _ (T271.setTop (mkF m 37 #[.val (.int p0), .val (.int p1), .val (.int p2), .val (.int p3), .val (.ref ka), .val (.ref kb), .val (.ref sa), .unset, .unset, .unset, .unset, .unset, .unset, .unset, .unset, .unset] [(.int ((((p3.toUInt32 >>> ((2 : Int32) &&& 31).toUInt32).toInt32) &&& (3 : Int32)) % (3 : Int32))), (.int ((p1.toUInt32 >>> ((16 : Int32) &&& 31).toUInt32).toInt32))]))
  show Go p e below _ (T271.setTop (mkF m 37 #[.val (.int p0), .val (.int p1), .val (.int p2), .val (.int p3), .val (.ref ka), .val (.ref kb), .val (.ref sa), .unset, .unset, .unset, .unset, .unset, .unset, .unset, .unset, .unset] [(.int ((((p3.toUInt32 >>> ((2 : Int32) &&& 31).toUInt32).toInt32) &&& (3 : Int32)) % (3 : Int32))), (.int ((p1.toUInt32 >>> ((16 : Int32) &&& 31).toUInt32).toInt32))]))
  obtain ⟨_, _, ⟨T272, L272, k272, n272⟩, -, X272, hSn, hgn, ⟨Lc272, hQ272, l272, y272, z272, CRn⟩, st272⟩ := callSS X271' hx (y := (⟨"com/example/slicewright/slicewright/report/ReportAddErrorPinLaw", "draw", "(II)Ljava/lang/String;"⟩ : MethodName)) hown (mvT (s := s.setVm T271.vm) hZ (hw _ (List.mem_of_getElem? (i := 37) rfl))) (mvT (s := s.setVm T271.vm) hZ (hw _ (List.mem_of_getElem? (i := 38) rfl))) (mvT (s := s.setVm T271.vm) hZ (hw _ (List.mem_of_getElem? (i := 2) rfl))) (mvT (s := s.setVm T271.vm) hZ (hw _ (List.mem_of_getElem? (i := 39) rfl))) (by decide) (backOfSH (W := 0) (rm2 l Z a0 hw [] ((p1.toUInt32 >>> ((16 : Int32) &&& 31).toUInt32).toInt32) ((((p3.toUInt32 >>> ((2 : Int32) &&& 31).toUInt32).toInt32) &&& (3 : Int32)) % (3 : Int32)) G1 T271.heap n0 Z0 Od O2 P5) hZ (hw _ (List.mem_of_getElem? (i := 39) rfl)) (hw _ (List.mem_of_getElem? (i := 2) rfl)) (by decide) (by decide) hEL CR.1) (g := (mkF m 37 #[.val (.int p0), .val (.int p1), .val (.int p2), .val (.int p3), .val (.ref ka), .val (.ref kb), .val (.ref sa), .unset, .unset, .unset, .unset, .unset, .unset, .unset, .unset, .unset] [(.int ((((p3.toUInt32 >>> ((2 : Int32) &&& 31).toUInt32).toInt32) &&& (3 : Int32)) % (3 : Int32))), (.int ((p1.toUInt32 >>> ((16 : Int32) &&& 31).toUInt32).toInt32))])) rfl (by rw [hml]; rfl) (argsL := [(.int ((p1.toUInt32 >>> ((16 : Int32) &&& 31).toUInt32).toInt32)), (.int ((((p3.toUInt32 >>> ((2 : Int32) &&& 31).toUInt32).toInt32) &&& (3 : Int32)) % (3 : Int32)))]) (rest := []) (lenOf pd_1 rfl) rfl (by show 2 * 0 + _ ≤ _; exact Nat.le_of_eq rfl) (hb hby at_37) (fun _ _ => ⟨rfl, rfl, (by decide : 8 + 6 ≤ _), (by decide : 40 + 12 ≤ _)⟩)
  dsimp only [Pt.U, Pt.locs, Pt.cells, Pt.slots] at X272 l272 y272 z272 st272 hQ272 hSn hgn CRn
  subst y272 z272
  skip
  obtain ⟨X272', hS272, hZ272, hown272⟩ := rebS hS hk X272 hSn hgn hZ hown
  obtain ⟨sb, rfl, Nq272, K272, E_sb⟩ := hQ272
  have N272 : Fr n0 L272 := by rw [l272]; exact Fr.app N271 Nq272
  clear l272
  refine Go.by (fun t => st272.trans) ?_
  replace X272' := Stand.num (C := 14) (S := 52) X272' rfl rfl
  replace CR := CR.trans CRn
  replace Od := Od.keep K272 all0
  replace E_ka := E_ka.keep K272
  replace E_kb := E_kb.keep K272
  replace E_sa := E_sa.keep K272
  replace Z0 := Nat.le_trans Z0 K272.1
  clear CRn hS hk hSn
  have hS := hS272
  have hk : T272.heap.size ≤ T272.heap.size := Nat.le_refl _
  replace hZ := hZ272
  replace hown := hown272
  show Go p e below _ (T272.setTop (mkF m 40 #[.val (.int p0), .val (.int p1), .val (.int p2), .val (.int p3), .val (.ref ka), .val (.ref kb), .val (.ref sa), .unset, .unset, .unset, .unset, .unset, .unset, .unset, .unset, .unset] [(.ref sb)]))
  show Go p e below _ (T272.setTop (mkF m 40 #[.val (.int p0), .val (.int p1), .val (.int p2), .val (.int p3), .val (.ref ka), .val (.ref kb), .val (.ref sa), .unset, .unset, .unset, .unset, .unset, .unset, .unset, .unset, .unset] [(.ref sb)]))
  refine Go.by (fun t => XS.astore X272'.here hx rfl (hb hby at_40) rfl rfl (l' := #[.val (.int p0), .val (.int p1), .val (.int p2), .val (.int p3), .val (.ref ka), .val (.ref kb), .val (.ref sa), .val (.ref sb), .unset, .unset, .unset, .unset, .unset, .unset, .unset, .unset]) rfl) ?_
  show Go p e below _ (T272.setTop (mkF m 42 #[.val (.int p0), .val (.int p1), .val (.int p2), .val (.int p3), .val (.ref ka), .val (.ref kb), .val (.ref sa), .val (.ref sb), .unset, .unset, .unset, .unset, .unset, .unset, .unset, .unset] []))
  refine Go.by (fun t => XS.iloadN X272'.here hx rfl (hb hby at_42) rfl ) ?_
  show Go p e below _ (T272.setTop (mkF m 43 #[.val (.int p0), .val (.int p1), .val (.int p2), .val (.int p3), .val (.ref ka), .val (.ref kb), .val (.ref sa), .val (.ref sb), .unset, .unset, .unset, .unset, .unset, .unset, .unset, .unset] [(.int p2)]))
  refine Go.by (fun t => XS.iloadN X272'.here hx rfl (hb hby at_43) rfl ) ?_
  show Go p e below _ (T272.setTop (mkF m 44 #[.val (.int p0), .val (.int p1), .val (.int p2), .val (.int p3), .val (.ref ka), .val (.ref kb), .val (.ref sa), .val (.ref sb), .unset, .unset, .unset, .unset, .unset, .unset, .unset, .unset] [(.int p3), (.int p2)]))
  refine Go.by (fun t => XS.iconst X272'.here hx rfl (hb hby at_44)) ?_
  show Go p e below _ (T272.setTop (mkF m 45 #[.val (.int p0), .val (.int p1), .val (.int p2), .val (.int p3), .val (.ref ka), .val (.ref kb), .val (.ref sa), .val (.ref sb), .unset, .unset, .unset, .unset, .unset, .unset, .unset, .unset] [(.int (4 : Int32)), (.int p3), (.int p2)]))
  refine Go.by (fun t => XS.iushr X272'.here hx rfl (hb hby at_45) rfl) ?_
  show Go p e below _ (T272.setTop (mkF m 46 #[.val (.int p0), .val (.int p1), .val (.int p2), .val (.int p3), .val (.ref ka), .val (.ref kb), .val (.ref sa), .val (.ref sb), .unset, .unset, .unset, .unset, .unset, .unset, .unset, .unset] [(.int ((p3.toUInt32 >>> ((4 : Int32) &&& 31).toUInt32).toInt32)), (.int p2)]))
  refine Go.by (fun t => XS.iconst X272'.here hx rfl (hb hby at_46)) ?_
  show Go p e below _ (T272.setTop (mkF m 47 #[.val (.int p0), .val (.int p1), .val (.int p2), .val (.int p3), .val (.ref ka), .val (.ref kb), .val (.ref sa), .val (.ref sb), .unset, .unset, .unset, .unset, .unset, .unset, .unset, .unset] [(.int (3 : Int32)), (.int ((p3.toUInt32 >>> ((4 : Int32) &&& 31).toUInt32).toInt32)), (.int p2)]))
  refine Go.by (fun t => XS.iand X272'.here hx rfl (hb hby at_47) rfl) ?_
  show Go p e below _ (T272.setTop (mkF m 48 #[.val (.int p0), .val (.int p1), .val (.int p2), .val (.int p3), .val (.ref ka), .val (.ref kb), .val (.ref sa), .val (.ref sb), .unset, .unset, .unset, .unset, .unset, .unset, .unset, .unset] [(.int (((p3.toUInt32 >>> ((4 : Int32) &&& 31).toUInt32).toInt32) &&& (3 : Int32))), (.int p2)]))
  refine Go.by (fun t => XS.iconst X272'.here hx rfl (hb hby at_48)) ?_
  show Go p e below _ (T272.setTop (mkF m 49 #[.val (.int p0), .val (.int p1), .val (.int p2), .val (.int p3), .val (.ref ka), .val (.ref kb), .val (.ref sa), .val (.ref sb), .unset, .unset, .unset, .unset, .unset, .unset, .unset, .unset] [(.int (3 : Int32)), (.int (((p3.toUInt32 >>> ((4 : Int32) &&& 31).toUInt32).toInt32) &&& (3 : Int32))), (.int p2)]))
  refine Go.by (fun t => iremM X272' hx rfl (hb hby at_49) rfl (by first | assumption | decide)) ?_
  show Go p e below _ (T272.setTop (mkF m 50 #[.val (.int p0), .val (.int p1), .val (.int p2), .val (.int p3), .val (.ref ka), .val (.ref kb), .val (.ref sa), .val (.ref sb), .unset, .unset, .unset, .unset, .unset, .unset, .unset, .unset] [(.int ((((p3.toUInt32 >>> ((4 : Int32) &&& 31).toUInt32).toInt32) &&& (3 : Int32)) % (3 : Int32))), (.int p2)]))
  show Go p e below _ (T272.setTop (mkF m 50 #[.val (.int p0), .val (.int p1), .val (.int p2), .val (.int p3), .val (.ref ka), .val (.ref kb), .val (.ref sa), .val (.ref sb), .unset, .unset, .unset, .unset, .unset, .unset, .unset, .unset] [(.int ((((p3.toUInt32 >>> ((4 : Int32) &&& 31).toUInt32).toInt32) &&& (3 : Int32)) % (3 : Int32))), (.int p2)]))
  obtain ⟨_, _, ⟨T273, L273, k273, n273⟩, -, X273, hSn, hgn, ⟨Lc273, hQ273, l273, y273, z273, CRn⟩, st273⟩ := callSS X272' hx (y := (⟨"com/example/slicewright/slicewright/report/ReportAddErrorPinLaw", "draw", "(II)Ljava/lang/String;"⟩ : MethodName)) hown (mvT (s := s.setVm T272.vm) hZ (hw _ (List.mem_of_getElem? (i := 37) rfl))) (mvT (s := s.setVm T272.vm) hZ (hw _ (List.mem_of_getElem? (i := 38) rfl))) (mvT (s := s.setVm T272.vm) hZ (hw _ (List.mem_of_getElem? (i := 2) rfl))) (mvT (s := s.setVm T272.vm) hZ (hw _ (List.mem_of_getElem? (i := 39) rfl))) (by decide) (backOfSH (W := 0) (rm2 l Z a0 hw [] p2 ((((p3.toUInt32 >>> ((4 : Int32) &&& 31).toUInt32).toInt32) &&& (3 : Int32)) % (3 : Int32)) G1 T272.heap n0 Z0 Od O2 P5) hZ (hw _ (List.mem_of_getElem? (i := 39) rfl)) (hw _ (List.mem_of_getElem? (i := 2) rfl)) (by decide) (by decide) hEL CR.1) (g := (mkF m 50 #[.val (.int p0), .val (.int p1), .val (.int p2), .val (.int p3), .val (.ref ka), .val (.ref kb), .val (.ref sa), .val (.ref sb), .unset, .unset, .unset, .unset, .unset, .unset, .unset, .unset] [(.int ((((p3.toUInt32 >>> ((4 : Int32) &&& 31).toUInt32).toInt32) &&& (3 : Int32)) % (3 : Int32))), (.int p2)])) rfl (by rw [hml]; rfl) (argsL := [(.int p2), (.int ((((p3.toUInt32 >>> ((4 : Int32) &&& 31).toUInt32).toInt32) &&& (3 : Int32)) % (3 : Int32)))]) (rest := []) (lenOf pd_1 rfl) rfl (by show 2 * 0 + _ ≤ _; exact Nat.le_of_eq rfl) (hb hby at_50) (fun _ _ => ⟨rfl, rfl, (by decide : 14 + 6 ≤ _), (by decide : 52 + 12 ≤ _)⟩)
  dsimp only [Pt.U, Pt.locs, Pt.cells, Pt.slots] at X273 l273 y273 z273 st273 hQ273 hSn hgn CRn
  subst y273 z273
  skip
  obtain ⟨X273', hS273, hZ273, hown273⟩ := rebS hS hk X273 hSn hgn hZ hown
  obtain ⟨ma, rfl, Nq273, K273, E_ma⟩ := hQ273
  have N273 : Fr n0 L273 := by rw [l273]; exact Fr.app N272 Nq273
  clear l273
  refine Go.by (fun t => st273.trans) ?_
  replace X273' := Stand.num (C := 20) (S := 64) X273' rfl rfl
  replace CR := CR.trans CRn
  replace Od := Od.keep K273 all0
  replace E_ka := E_ka.keep K273
  replace E_kb := E_kb.keep K273
  replace E_sa := E_sa.keep K273
  replace E_sb := E_sb.keep K273
  replace Z0 := Nat.le_trans Z0 K273.1
  clear CRn hS hk hSn
  have hS := hS273
  have hk : T273.heap.size ≤ T273.heap.size := Nat.le_refl _
  replace hZ := hZ273
  replace hown := hown273
  show Go p e below _ (T273.setTop (mkF m 53 #[.val (.int p0), .val (.int p1), .val (.int p2), .val (.int p3), .val (.ref ka), .val (.ref kb), .val (.ref sa), .val (.ref sb), .unset, .unset, .unset, .unset, .unset, .unset, .unset, .unset] [(.ref ma)]))
  show Go p e below _ (T273.setTop (mkF m 53 #[.val (.int p0), .val (.int p1), .val (.int p2), .val (.int p3), .val (.ref ka), .val (.ref kb), .val (.ref sa), .val (.ref sb), .unset, .unset, .unset, .unset, .unset, .unset, .unset, .unset] [(.ref ma)]))
  refine Go.by (fun t => XS.astore X273'.here hx rfl (hb hby at_53) rfl rfl (l' := #[.val (.int p0), .val (.int p1), .val (.int p2), .val (.int p3), .val (.ref ka), .val (.ref kb), .val (.ref sa), .val (.ref sb), .val (.ref ma), .unset, .unset, .unset, .unset, .unset, .unset, .unset]) rfl) ?_
  show Go p e below _ (T273.setTop (mkF m 55 #[.val (.int p0), .val (.int p1), .val (.int p2), .val (.int p3), .val (.ref ka), .val (.ref kb), .val (.ref sa), .val (.ref sb), .val (.ref ma), .unset, .unset, .unset, .unset, .unset, .unset, .unset] []))
  refine Go.by (fun t => XS.iloadN X273'.here hx rfl (hb hby at_55) rfl ) ?_
  show Go p e below _ (T273.setTop (mkF m 56 #[.val (.int p0), .val (.int p1), .val (.int p2), .val (.int p3), .val (.ref ka), .val (.ref kb), .val (.ref sa), .val (.ref sb), .val (.ref ma), .unset, .unset, .unset, .unset, .unset, .unset, .unset] [(.int p2)]))
  refine Go.by (fun t => XS.bipush X273'.here hx rfl (hb hby at_56)) ?_
  show Go p e below _ (T273.setTop (mkF m 58 #[.val (.int p0), .val (.int p1), .val (.int p2), .val (.int p3), .val (.ref ka), .val (.ref kb), .val (.ref sa), .val (.ref sb), .val (.ref ma), .unset, .unset, .unset, .unset, .unset, .unset, .unset] [(.int (16 : Int32)), (.int p2)]))
  refine Go.by (fun t => XS.iushr X273'.here hx rfl (hb hby at_58) rfl) ?_
  show Go p e below _ (T273.setTop (mkF m 59 #[.val (.int p0), .val (.int p1), .val (.int p2), .val (.int p3), .val (.ref ka), .val (.ref kb), .val (.ref sa), .val (.ref sb), .val (.ref ma), .unset, .unset, .unset, .unset, .unset, .unset, .unset] [(.int ((p2.toUInt32 >>> ((16 : Int32) &&& 31).toUInt32).toInt32))]))
  refine Go.by (fun t => XS.iloadN X273'.here hx rfl (hb hby at_59) rfl ) ?_
  show Go p e below _ (T273.setTop (mkF m 60 #[.val (.int p0), .val (.int p1), .val (.int p2), .val (.int p3), .val (.ref ka), .val (.ref kb), .val (.ref sa), .val (.ref sb), .val (.ref ma), .unset, .unset, .unset, .unset, .unset, .unset, .unset] [(.int p3), (.int ((p2.toUInt32 >>> ((16 : Int32) &&& 31).toUInt32).toInt32))]))
  refine Go.by (fun t => XS.bipush X273'.here hx rfl (hb hby at_60)) ?_
  show Go p e below _ (T273.setTop (mkF m 62 #[.val (.int p0), .val (.int p1), .val (.int p2), .val (.int p3), .val (.ref ka), .val (.ref kb), .val (.ref sa), .val (.ref sb), .val (.ref ma), .unset, .unset, .unset, .unset, .unset, .unset, .unset] [(.int (6 : Int32)), (.int p3), (.int ((p2.toUInt32 >>> ((16 : Int32) &&& 31).toUInt32).toInt32))]))
  refine Go.by (fun t => XS.iushr X273'.here hx rfl (hb hby at_62) rfl) ?_
  show Go p e below _ (T273.setTop (mkF m 63 #[.val (.int p0), .val (.int p1), .val (.int p2), .val (.int p3), .val (.ref ka), .val (.ref kb), .val (.ref sa), .val (.ref sb), .val (.ref ma), .unset, .unset, .unset, .unset, .unset, .unset, .unset] [(.int ((p3.toUInt32 >>> ((6 : Int32) &&& 31).toUInt32).toInt32)), (.int ((p2.toUInt32 >>> ((16 : Int32) &&& 31).toUInt32).toInt32))]))
  refine Go.by (fun t => XS.iconst X273'.here hx rfl (hb hby at_63)) ?_
  show Go p e below _ (T273.setTop (mkF m 64 #[.val (.int p0), .val (.int p1), .val (.int p2), .val (.int p3), .val (.ref ka), .val (.ref kb), .val (.ref sa), .val (.ref sb), .val (.ref ma), .unset, .unset, .unset, .unset, .unset, .unset, .unset] [(.int (3 : Int32)), (.int ((p3.toUInt32 >>> ((6 : Int32) &&& 31).toUInt32).toInt32)), (.int ((p2.toUInt32 >>> ((16 : Int32) &&& 31).toUInt32).toInt32))]))
  refine Go.by (fun t => XS.iand X273'.here hx rfl (hb hby at_64) rfl) ?_
  show Go p e below _ (T273.setTop (mkF m 65 #[.val (.int p0), .val (.int p1), .val (.int p2), .val (.int p3), .val (.ref ka), .val (.ref kb), .val (.ref sa), .val (.ref sb), .val (.ref ma), .unset, .unset, .unset, .unset, .unset, .unset, .unset] [(.int (((p3.toUInt32 >>> ((6 : Int32) &&& 31).toUInt32).toInt32) &&& (3 : Int32))), (.int ((p2.toUInt32 >>> ((16 : Int32) &&& 31).toUInt32).toInt32))]))
  refine Go.by (fun t => XS.iconst X273'.here hx rfl (hb hby at_65)) ?_
  show Go p e below _ (T273.setTop (mkF m 66 #[.val (.int p0), .val (.int p1), .val (.int p2), .val (.int p3), .val (.ref ka), .val (.ref kb), .val (.ref sa), .val (.ref sb), .val (.ref ma), .unset, .unset, .unset, .unset, .unset, .unset, .unset] [(.int (3 : Int32)), (.int (((p3.toUInt32 >>> ((6 : Int32) &&& 31).toUInt32).toInt32) &&& (3 : Int32))), (.int ((p2.toUInt32 >>> ((16 : Int32) &&& 31).toUInt32).toInt32))]))
  refine Go.by (fun t => iremM X273' hx rfl (hb hby at_66) rfl (by first | assumption | decide)) ?_
  show Go p e below _ (T273.setTop (mkF m 67 #[.val (.int p0), .val (.int p1), .val (.int p2), .val (.int p3), .val (.ref ka), .val (.ref kb), .val (.ref sa), .val (.ref sb), .val (.ref ma), .unset, .unset, .unset, .unset, .unset, .unset, .unset] [(.int ((((p3.toUInt32 >>> ((6 : Int32) &&& 31).toUInt32).toInt32) &&& (3 : Int32)) % (3 : Int32))), (.int ((p2.toUInt32 >>> ((16 : Int32) &&& 31).toUInt32).toInt32))]))
  show Go p e below _ (T273.setTop (mkF m 67 #[.val (.int p0), .val (.int p1), .val (.int p2), .val (.int p3), .val (.ref ka), .val (.ref kb), .val (.ref sa), .val (.ref sb), .val (.ref ma), .unset, .unset, .unset, .unset, .unset, .unset, .unset] [(.int ((((p3.toUInt32 >>> ((6 : Int32) &&& 31).toUInt32).toInt32) &&& (3 : Int32)) % (3 : Int32))), (.int ((p2.toUInt32 >>> ((16 : Int32) &&& 31).toUInt32).toInt32))]))
  obtain ⟨_, _, ⟨T274, L274, k274, n274⟩, -, X274, hSn, hgn, ⟨Lc274, hQ274, l274, y274, z274, CRn⟩, st274⟩ := callSS X273' hx (y := (⟨"com/example/slicewright/slicewright/report/ReportAddErrorPinLaw", "draw", "(II)Ljava/lang/String;"⟩ : MethodName)) hown (mvT (s := s.setVm T273.vm) hZ (hw _ (List.mem_of_getElem? (i := 37) rfl))) (mvT (s := s.setVm T273.vm) hZ (hw _ (List.mem_of_getElem? (i := 38) rfl))) (mvT (s := s.setVm T273.vm) hZ (hw _ (List.mem_of_getElem? (i := 2) rfl))) (mvT (s := s.setVm T273.vm) hZ (hw _ (List.mem_of_getElem? (i := 39) rfl))) (by decide) (backOfSH (W := 0) (rm2 l Z a0 hw [] ((p2.toUInt32 >>> ((16 : Int32) &&& 31).toUInt32).toInt32) ((((p3.toUInt32 >>> ((6 : Int32) &&& 31).toUInt32).toInt32) &&& (3 : Int32)) % (3 : Int32)) G1 T273.heap n0 Z0 Od O2 P5) hZ (hw _ (List.mem_of_getElem? (i := 39) rfl)) (hw _ (List.mem_of_getElem? (i := 2) rfl)) (by decide) (by decide) hEL CR.1) (g := (mkF m 67 #[.val (.int p0), .val (.int p1), .val (.int p2), .val (.int p3), .val (.ref ka), .val (.ref kb), .val (.ref sa), .val (.ref sb), .val (.ref ma), .unset, .unset, .unset, .unset, .unset, .unset, .unset] [(.int ((((p3.toUInt32 >>> ((6 : Int32) &&& 31).toUInt32).toInt32) &&& (3 : Int32)) % (3 : Int32))), (.int ((p2.toUInt32 >>> ((16 : Int32) &&& 31).toUInt32).toInt32))])) rfl (by rw [hml]; rfl) (argsL := [(.int ((p2.toUInt32 >>> ((16 : Int32) &&& 31).toUInt32).toInt32)), (.int ((((p3.toUInt32 >>> ((6 : Int32) &&& 31).toUInt32).toInt32) &&& (3 : Int32)) % (3 : Int32)))]) (rest := []) (lenOf pd_1 rfl) rfl (by show 2 * 0 + _ ≤ _; exact Nat.le_of_eq rfl) (hb hby at_67) (fun _ _ => ⟨rfl, rfl, (by decide : 20 + 6 ≤ _), (by decide : 64 + 12 ≤ _)⟩)
  dsimp only [Pt.U, Pt.locs, Pt.cells, Pt.slots] at X274 l274 y274 z274 st274 hQ274 hSn hgn CRn
  subst y274 z274
  skip
  obtain ⟨X274', hS274, hZ274, hown274⟩ := rebS hS hk X274 hSn hgn hZ hown
  obtain ⟨mb, rfl, Nq274, K274, E_mb⟩ := hQ274
  have N274 : Fr n0 L274 := by rw [l274]; exact Fr.app N273 Nq274
  clear l274
  refine Go.by (fun t => st274.trans) ?_
  replace X274' := Stand.num (C := 26) (S := 76) X274' rfl rfl
  replace CR := CR.trans CRn
  replace Od := Od.keep K274 all0
  replace E_ka := E_ka.keep K274
  replace E_kb := E_kb.keep K274
  replace E_sa := E_sa.keep K274
  replace E_sb := E_sb.keep K274
  replace E_ma := E_ma.keep K274
  replace Z0 := Nat.le_trans Z0 K274.1
  clear CRn hS hk hSn
  have hS := hS274
  have hk : T274.heap.size ≤ T274.heap.size := Nat.le_refl _
  replace hZ := hZ274
  replace hown := hown274
  show Go p e below _ (T274.setTop (mkF m 70 #[.val (.int p0), .val (.int p1), .val (.int p2), .val (.int p3), .val (.ref ka), .val (.ref kb), .val (.ref sa), .val (.ref sb), .val (.ref ma), .unset, .unset, .unset, .unset, .unset, .unset, .unset] [(.ref mb)]))
  show Go p e below _ (T274.setTop (mkF m 70 #[.val (.int p0), .val (.int p1), .val (.int p2), .val (.int p3), .val (.ref ka), .val (.ref kb), .val (.ref sa), .val (.ref sb), .val (.ref ma), .unset, .unset, .unset, .unset, .unset, .unset, .unset] [(.ref mb)]))
  refine Go.by (fun t => XS.astore X274'.here hx rfl (hb hby at_70) rfl rfl (l' := #[.val (.int p0), .val (.int p1), .val (.int p2), .val (.int p3), .val (.ref ka), .val (.ref kb), .val (.ref sa), .val (.ref sb), .val (.ref ma), .val (.ref mb), .unset, .unset, .unset, .unset, .unset, .unset]) rfl) ?_
  show Go p e below _ (T274.setTop (mkF m 72 #[.val (.int p0), .val (.int p1), .val (.int p2), .val (.int p3), .val (.ref ka), .val (.ref kb), .val (.ref sa), .val (.ref sb), .val (.ref ma), .val (.ref mb), .unset, .unset, .unset, .unset, .unset, .unset] []))
  obtain ⟨T275, h275, X275, e275, E275, A275, D275, -, st275⟩ := newO X274' hx hZ hown (hw _ (List.mem_of_getElem? (i := 77) rfl)) (hw _ (List.mem_of_getElem? (i := 78) rfl)) (hw _ (List.mem_of_getElem? (i := 79) rfl)) rfl (g := (mkF m 72 #[.val (.int p0), .val (.int p1), .val (.int p2), .val (.int p3), .val (.ref ka), .val (.ref kb), .val (.ref sa), .val (.ref sb), .val (.ref ma), .val (.ref mb), .unset, .unset, .unset, .unset, .unset, .unset] [])) rfl (hb hby at_72) (by decide) (by decide)
  obtain ⟨rp, g275⟩ : ∃ z, z = T274.heap.size := ⟨_, rfl⟩
  rw [← g275] at A275 D275 st275
  refine Go.by (fun t => st275 t) ?_
  have g_rp : n0 ≤ rp := Nat.le_trans Z0 (Nat.le_of_eq g275.symm)
  have ne_ka_rp : ka ≠ rp := Nat.ne_of_lt (Nat.lt_of_lt_of_le E_ka.lt (Nat.le_of_eq g275.symm))
  have ne_kb_rp : kb ≠ rp := Nat.ne_of_lt (Nat.lt_of_lt_of_le E_kb.lt (Nat.le_of_eq g275.symm))
  have ne_ma_rp : ma ≠ rp := Nat.ne_of_lt (Nat.lt_of_lt_of_le E_ma.lt (Nat.le_of_eq g275.symm))
  have ne_mb_rp : mb ≠ rp := Nat.ne_of_lt (Nat.lt_of_lt_of_le E_mb.lt (Nat.le_of_eq g275.symm))
  have ne_sa_rp : sa ≠ rp := Nat.ne_of_lt (Nat.lt_of_lt_of_le E_sa.lt (Nat.le_of_eq g275.symm))
  have ne_sb_rp : sb ≠ rp := Nat.ne_of_lt (Nat.lt_of_lt_of_le E_sb.lt (Nat.le_of_eq g275.symm))
  replace CR := CR.trans (CHr.ext E275 CR.1)
  replace hk := Nat.le_trans hk E275.1
  replace Od := Od.ext E275
  replace E_ka := E_ka.ext E275
  replace E_kb := E_kb.ext E275
  replace E_sa := E_sa.ext E275
  replace E_sb := E_sb.ext E275
  replace E_ma := E_ma.ext E275
  replace E_mb := E_mb.ext E275
  replace Z0 := Nat.le_trans Z0 E275.1
  have E_rp := A275
  have F_slices_rp : Fld Z h275 rp "com/example/slicewright/slicewright/report/Report" "slices" "Ljava/util/List;" .null := D275 (Or.inr (hw _ (List.mem_of_getElem? (i := 109) rfl))) (ty := (.object "java/util/List")) (by decide)
  have F_errors_rp : Fld Z h275 rp "com/example/slicewright/slicewright/report/Report" "errors" "Ljava/util/List;" .null := D275 (Or.inr (hw _ (List.mem_of_getElem? (i := 111) rfl))) (ty := (.object "java/util/List")) (by decide)
  replace X275 := Stand.num (C := 27) (S := 78) X275 rfl rfl
  show Go p e below _ (T275.setTop (mkF m 75 #[.val (.int p0), .val (.int p1), .val (.int p2), .val (.int p3), .val (.ref ka), .val (.ref kb), .val (.ref sa), .val (.ref sb), .val (.ref ma), .val (.ref mb), .unset, .unset, .unset, .unset, .unset, .unset] [(.ref rp)]))
  show Go p e below _ (T275.setTop (mkF m 75 #[.val (.int p0), .val (.int p1), .val (.int p2), .val (.int p3), .val (.ref ka), .val (.ref kb), .val (.ref sa), .val (.ref sb), .val (.ref ma), .val (.ref mb), .unset, .unset, .unset, .unset, .unset, .unset] [(.ref rp)]))
  refine Go.by (fun t => XS.dup X275.here hx rfl (hb hby at_75) rfl rfl) ?_
  show Go p e below _ (T275.setTop (mkF m 76 #[.val (.int p0), .val (.int p1), .val (.int p2), .val (.int p3), .val (.ref ka), .val (.ref kb), .val (.ref sa), .val (.ref sb), .val (.ref ma), .val (.ref mb), .unset, .unset, .unset, .unset, .unset, .unset] [(.ref rp), (.ref rp)]))
  obtain ⟨_, _, ⟨T276, L276, k276, n276⟩, -, X276, ⟨Lc276, hQ276, l276, y276, z276⟩, st276⟩ := X275.specialBack hx (y := (⟨"com/example/slicewright/slicewright/report/Report", "<init>", "()V"⟩ : MethodName)) rfl hown (mvT hZ (hw _ (List.mem_of_getElem? (i := 80) rfl))) (mvT hZ (hw _ (List.mem_of_getElem? (i := 81) rfl))) (mvT hZ (hw _ (List.mem_of_getElem? (i := 82) rfl))) (by decide) (backOf (W := 1) (rm10 l Z a0 hw [] rp de h275 n0 Z0 Od S_DE E_rp F_slices_rp F_errors_rp g_rp) hZ (hw _ (List.mem_of_getElem? (i := 82) rfl)) (hw _ (List.mem_of_getElem? (i := 79) rfl)) (by decide) (by decide)) (g := (mkF m 76 #[.val (.int p0), .val (.int p1), .val (.int p2), .val (.int p3), .val (.ref ka), .val (.ref kb), .val (.ref sa), .val (.ref sb), .val (.ref ma), .val (.ref mb), .unset, .unset, .unset, .unset, .unset, .unset] [(.ref rp), (.ref rp)])) rfl (by rw [hml]; rfl) (Steps.refl _) (a := rp) (argsL := []) (rest := [(.ref rp)]) (lenOf pd_2 rfl) rfl (by show 2 * 0 + _ ≤ _; exact Nat.le_of_eq rfl) (hb hby at_76) (fun _ _ => ⟨rfl, e275, (by decide : 27 + 2 ≤ _), (by decide : 78 + 6 ≤ _)⟩)
  dsimp only [Pt.U, Pt.locs, Pt.cells, Pt.slots] at X276 l276 y276 z276 st276 hQ276
  subst y276 z276
  obtain ⟨l1, l2, rfl, sz_l1, sz_l2, ne_l1_l2, Nq276, K276, F_sl, F_er, E_l1, F_size_l1, F_elementData_l1, F_modCount_l1, E_l2, F_size_l2, F_elementData_l2, F_modCount_l2⟩ := hQ276
  have g_l2 : n0 ≤ l2 := Nat.le_trans Z0 sz_l2
  have N276 : Fr n0 L276 := by rw [l276]; exact Fr.app N274 Nq276
  clear l276
  refine Go.by (fun t => st276.trans) ?_
  replace X276 := Stand.num (C := 29) (S := 84) X276 rfl rfl
  have Sfw := ((sfS (Safe.exa hZ.alike E_rp (by decide) (by decide)) sf0) : ∀ x ∈ [rp], Safe Z EL T274.vm h275 x)
  replace CR := CR.trans (CHr.keep K276 Sfw CR.1)
  clear Sfw
  replace hk := Nat.le_trans hk K276.1
  replace Od := Od.keep K276 (allS g_rp all0)
  replace E_ka := E_ka.keep K276
  replace E_kb := E_kb.keep K276
  replace E_sa := E_sa.keep K276
  replace E_sb := E_sb.keep K276
  replace E_ma := E_ma.keep K276
  replace E_mb := E_mb.keep K276
  replace E_rp := E_rp.keep K276
  replace Z0 := Nat.le_trans Z0 K276.1
  show Go p e below _ (T276.setTop (mkF m 79 #[.val (.int p0), .val (.int p1), .val (.int p2), .val (.int p3), .val (.ref ka), .val (.ref kb), .val (.ref sa), .val (.ref sb), .val (.ref ma), .val (.ref mb), .unset, .unset, .unset, .unset, .unset, .unset] [(.ref rp)]))
  show Go p e below _ (T276.setTop (mkF m 79 #[.val (.int p0), .val (.int p1), .val (.int p2), .val (.int p3), .val (.ref ka), .val (.ref kb), .val (.ref sa), .val (.ref sb), .val (.ref ma), .val (.ref mb), .unset, .unset, .unset, .unset, .unset, .unset] [(.ref rp)]))
  refine Go.by (fun t => XS.astore X276.here hx rfl (hb hby at_79) rfl rfl (l' := #[.val (.int p0), .val (.int p1), .val (.int p2), .val (.int p3), .val (.ref ka), .val (.ref kb), .val (.ref sa), .val (.ref sb), .val (.ref ma), .val (.ref mb), .val (.ref rp), .unset, .unset, .unset, .unset, .unset]) rfl) ?_
  show Go p e below _ (T276.setTop (mkF m 81 #[.val (.int p0), .val (.int p1), .val (.int p2), .val (.int p3), .val (.ref ka), .val (.ref kb), .val (.ref sa), .val (.ref sb), .val (.ref ma), .val (.ref mb), .val (.ref rp), .unset, .unset, .unset, .unset, .unset] []))
  refine Go.by (fun t => XS.aload X276.here hx rfl (hb hby at_81) rfl rfl) ?_
  show Go p e below _ (T276.setTop (mkF m 83 #[.val (.int p0), .val (.int p1), .val (.int p2), .val (.int p3), .val (.ref ka), .val (.ref kb), .val (.ref sa), .val (.ref sb), .val (.ref ma), .val (.ref mb), .val (.ref rp), .unset, .unset, .unset, .unset, .unset] [(.ref rp)]))
  obtain ⟨cq277, kq277, q277a, q277b, q277c⟩ := isOf hZ rfl E_rp
  obtain ⟨_, _, ⟨T277, L277, k277, n277⟩, -, X277, ⟨Lc277, hQ277, l277, y277, z277⟩, st277⟩ := X276.virtualBack hx (y := (⟨"com/example/slicewright/slicewright/report/Report", "isValid", "()Z"⟩ : MethodName)) (z := (⟨"com/example/slicewright/slicewright/report/Report", "isValid", "()Z"⟩ : MethodName)) hown (mvT hZ (hw _ (List.mem_of_getElem? (i := 112) rfl))) (mvT hZ (hw _ (List.mem_of_getElem? (i := 113) rfl))) (notFace_of_selects (args := #[]) (mvT hZ (hw _ (List.mem_of_getElem? (i := 115) rfl)))) (mvT hZ (hw _ (List.mem_of_getElem? (i := 115) rfl))) (mvT hZ (hw _ (List.mem_of_getElem? (i := 114) rfl))) (by decide) (backOf (W := 0) (rm14 l Z a0 hw [] rp l2 0 T276.heap n0 F_er E_l2 F_size_l2) hZ (hw _ (List.mem_of_getElem? (i := 116) rfl)) (hw _ (List.mem_of_getElem? (i := 79) rfl)) (by decide) (by decide)) q277a q277c (g := (mkF m 83 #[.val (.int p0), .val (.int p1), .val (.int p2), .val (.int p3), .val (.ref ka), .val (.ref kb), .val (.ref sa), .val (.ref sb), .val (.ref ma), .val (.ref mb), .val (.ref rp), .unset, .unset, .unset, .unset, .unset] [(.ref rp)])) rfl (by rw [hml]; rfl) (Steps.refl _) (argsL := []) (rest := []) (lenOf pd_3 rfl) rfl (by show 2 * 0 + _ ≤ _; exact Nat.le_of_eq rfl) (hb hby at_83) (fun _ _ => ⟨rfl, rfl, (by decide : 29 + 0 ≤ _), (by decide : 84 + 0 ≤ _)⟩)
  dsimp only [Pt.U, Pt.locs, Pt.cells, Pt.slots] at X277 l277 y277 z277 st277 hQ277
  subst y277 z277
  obtain ⟨hv277, Nq277, e277⟩ := hQ277
  rw [if_pos rfl] at hv277
  subst hv277
  have N277 : Fr n0 L277 := by rw [l277]; exact Fr.app N276 Nq277
  clear l277
  refine Go.by (fun t => st277.trans) ?_
  replace X277 := Stand.num (C := 29) (S := 84) X277 rfl rfl
  show Go p e below _ (T277.setTop (mkF m 86 #[.val (.int p0), .val (.int p1), .val (.int p2), .val (.int p3), .val (.ref ka), .val (.ref kb), .val (.ref sa), .val (.ref sb), .val (.ref ma), .val (.ref mb), .val (.ref rp), .unset, .unset, .unset, .unset, .unset] [(.int (1 : Int32))]))
  show Go p e below _ (T277.setTop (mkF m 86 #[.val (.int p0), .val (.int p1), .val (.int p2), .val (.int p3), .val (.ref ka), .val (.ref kb), .val (.ref sa), .val (.ref sb), .val (.ref ma), .val (.ref mb), .val (.ref rp), .unset, .unset, .unset, .unset, .unset] [(.int (1 : Int32))]))
  refine Go.by (fun t => XS.istore X277.here hx rfl (hb hby at_86) rfl (l' := #[.val (.int p0), .val (.int p1), .val (.int p2), .val (.int p3), .val (.ref ka), .val (.ref kb), .val (.ref sa), .val (.ref sb), .val (.ref ma), .val (.ref mb), .val (.ref rp), .val (.int (1 : Int32)), .unset, .unset, .unset, .unset]) rfl) ?_
  show Go p e below _ (T277.setTop (mkF m 88 #[.val (.int p0), .val (.int p1), .val (.int p2), .val (.int p3), .val (.ref ka), .val (.ref kb), .val (.ref sa), .val (.ref sb), .val (.ref ma), .val (.ref mb), .val (.ref rp), .val (.int (1 : Int32)), .unset, .unset, .unset, .unset] []))
  refine Go.by (fun t => XS.aload X277.here hx rfl (hb hby at_88) rfl rfl) ?_
  show Go p e below _ (T277.setTop (mkF m 90 #[.val (.int p0), .val (.int p1), .val (.int p2), .val (.int p3), .val (.ref ka), .val (.ref kb), .val (.ref sa), .val (.ref sb), .val (.ref ma), .val (.ref mb), .val (.ref rp), .val (.int (1 : Int32)), .unset, .unset, .unset, .unset] [(.ref rp)]))
  refine Go.by (fun t => XS.aload X277.here hx rfl (hb hby at_90) rfl rfl) ?_
  show Go p e below _ (T277.setTop (mkF m 92 #[.val (.int p0), .val (.int p1), .val (.int p2), .val (.int p3), .val (.ref ka), .val (.ref kb), .val (.ref sa), .val (.ref sb), .val (.ref ma), .val (.ref mb), .val (.ref rp), .val (.int (1 : Int32)), .unset, .unset, .unset, .unset] [(.ref ka), (.ref rp)]))
  refine Go.by (fun t => XS.aload X277.here hx rfl (hb hby at_92) rfl rfl) ?_
  show Go p e below _ (T277.setTop (mkF m 94 #[.val (.int p0), .val (.int p1), .val (.int p2), .val (.int p3), .val (.ref ka), .val (.ref kb), .val (.ref sa), .val (.ref sb), .val (.ref ma), .val (.ref mb), .val (.ref rp), .val (.int (1 : Int32)), .unset, .unset, .unset, .unset] [(.ref sa), (.ref ka), (.ref rp)]))
  refine Go.by (fun t => XS.aload X277.here hx rfl (hb hby at_94) rfl rfl) ?_
  show Go p e below _ (T277.setTop (mkF m 96 #[.val (.int p0), .val (.int p1), .val (.int p2), .val (.int p3), .val (.ref ka), .val (.ref kb), .val (.ref sa), .val (.ref sb), .val (.ref ma), .val (.ref mb), .val (.ref rp), .val (.int (1 : Int32)), .unset, .unset, .unset, .unset] [(.ref ma), (.ref sa), (.ref ka), (.ref rp)]))
  obtain ⟨cq278, kq278, q278a, q278b, q278c⟩ := isOf (s := s.setVm T274.vm) hZ e277 E_rp
  obtain ⟨_, _, ⟨T278, L278, k278, n278⟩, -, X278, hSn, hgn, ⟨Lc278, hQ278, l278, y278, z278, CRn⟩, st278⟩ := X277.virtualBackS hx (y := (⟨"com/example/slicewright/slicewright/report/Report", "addError", "(Lcom/example/slicewright/slicewright/report/ErrorKind;Ljava/lang/String;Ljava/lang/String;)V"⟩ : MethodName)) (z := (⟨"com/example/slicewright/slicewright/report/Report", "addError", "(Lcom/example/slicewright/slicewright/report/ErrorKind;Ljava/lang/String;Ljava/lang/String;)V"⟩ : MethodName)) hown (mvT (s := s.setVm T274.vm) hZ (hw _ (List.mem_of_getElem? (i := 128) rfl))) (mvT (s := s.setVm T274.vm) hZ (hw _ (List.mem_of_getElem? (i := 129) rfl))) (notFace_of_selects (args := #[]) (mvT (s := s.setVm T274.vm) hZ (hw _ (List.mem_of_getElem? (i := 131) rfl)))) (mvT (s := s.setVm T274.vm) hZ (hw _ (List.mem_of_getElem? (i := 131) rfl))) (mvT (s := s.setVm T274.vm) hZ (hw _ (List.mem_of_getElem? (i := 130) rfl))) (by decide) (backOfSH (W := 0) (rmAE1 l Z a0 hw [] rp ka sa ma l2 de kd 0 T276.heap n0 Z0 Od S_DE V_de F_er E_l2 F_size_l2 F_elementData_l2 F_modCount_l2 g_l2 E_ka E_sa E_ma) hZ (hw _ (List.mem_of_getElem? (i := 132) rfl)) (hw _ (List.mem_of_getElem? (i := 79) rfl)) (by decide) (by decide) hEL CR.1) q278a q278c (g := (mkF m 96 #[.val (.int p0), .val (.int p1), .val (.int p2), .val (.int p3), .val (.ref ka), .val (.ref kb), .val (.ref sa), .val (.ref sb), .val (.ref ma), .val (.ref mb), .val (.ref rp), .val (.int (1 : Int32)), .unset, .unset, .unset, .unset] [(.ref ma), (.ref sa), (.ref ka), (.ref rp)])) rfl (by rw [hml]; rfl) (Steps.refl _) (argsL := [(.ref ka), (.ref sa), (.ref ma)]) (rest := []) (lenOf pd_4 rfl) rfl (by show 2 * 0 + _ ≤ _; exact Nat.le_of_eq rfl) (hb hby at_96) (fun _ _ => ⟨rfl, e277, (by decide : 29 + 8 ≤ _), (by decide : 84 + 101 ≤ _)⟩)
  dsimp only [Pt.U, Pt.locs, Pt.cells, Pt.slots] at X278 l278 y278 z278 st278 hQ278 hSn hgn CRn
  subst y278 z278
  rw [e277] at hgn
  obtain ⟨X278', hS278, hZ278, hown278⟩ := rebS hS hk X278 hSn hgn hZ hown
  obtain ⟨f0, ar, kc, rfl, sz_f0, sz_ar, Nq278, K278, E_f0, Fk0, Fl0, Fm0, Ov, V_ar, Fz, Fe, Fc⟩ := hQ278
  have g_ar : n0 ≤ ar := Nat.le_trans Z0 sz_ar
  have ne_rp_ar : rp ≠ ar := Nat.ne_of_lt (Nat.lt_of_lt_of_le E_rp.lt sz_ar)
  have ne_rp_f0 : rp ≠ f0 := Nat.ne_of_lt (Nat.lt_of_lt_of_le E_rp.lt sz_f0)
  have ne_l1_ar : l1 ≠ ar := Nat.ne_of_lt (Nat.lt_of_lt_of_le E_l1.lt sz_ar)
  have ne_l1_f0 : l1 ≠ f0 := Nat.ne_of_lt (Nat.lt_of_lt_of_le E_l1.lt sz_f0)
  have ne_l2_ar : l2 ≠ ar := Nat.ne_of_lt (Nat.lt_of_lt_of_le E_l2.lt sz_ar)
  have ne_l2_f0 : l2 ≠ f0 := Nat.ne_of_lt (Nat.lt_of_lt_of_le E_l2.lt sz_f0)
  have N278 : Fr n0 L278 := by rw [l278]; exact Fr.app N277 Nq278
  clear l278
  refine Go.by (fun t => st278.trans) ?_
  replace X278' := Stand.num (C := 37) (S := 185) X278' rfl rfl
  have ne_rp_l2 : rp ≠ l2 := Exa.ne E_rp E_l2 (by decide)
  replace CR := CR.trans CRn
  replace Od := Od.keep K278 (allS g_l2 all0)
  replace E_ka := E_ka.keep K278
  replace E_kb := E_kb.keep K278
  replace E_sa := E_sa.keep K278
  replace E_sb := E_sb.keep K278
  replace E_ma := E_ma.keep K278
  replace E_mb := E_mb.keep K278
  replace E_rp := E_rp.keep K278
  replace F_sl := F_sl.keep K278 (ninS ne_rp_l2 nin0)
  replace F_er := F_er.keep K278 (ninS ne_rp_l2 nin0)
  replace E_l1 := E_l1.keep K278
  replace F_size_l1 := F_size_l1.keep K278 (ninS ne_l1_l2 nin0)
  replace E_l2 := E_l2.keep K278
  replace Z0 := Nat.le_trans Z0 K278.1
  clear CRn hS hk hSn
  have hS := hS278
  have hk : T278.heap.size ≤ T278.heap.size := Nat.le_refl _
  replace hZ := hZ278
  replace hown := hown278
  show Go p e below _ (T278.setTop (mkF m 99 #[.val (.int p0), .val (.int p1), .val (.int p2), .val (.int p3), .val (.ref ka), .val (.ref kb), .val (.ref sa), .val (.ref sb), .val (.ref ma), .val (.ref mb), .val (.ref rp), .val (.int (1 : Int32)), .unset, .unset, .unset, .unset] []))
  have F_size_l2 := Fz
  have F_elementData_l2 := Fe
  have F_modCount_l2 := Fc
  clear Fz Fe Fc
  show Go p e below _ (T278.setTop (mkF m 99 #[.val (.int p0), .val (.int p1), .val (.int p2), .val (.int p3), .val (.ref ka), .val (.ref kb), .val (.ref sa), .val (.ref sb), .val (.ref ma), .val (.ref mb), .val (.ref rp), .val (.int (1 : Int32)), .unset, .unset, .unset, .unset] []))
  refine Go.by (fun t => XS.aload X278'.here hx rfl (hb hby at_99) rfl rfl) ?_
  show Go p e below _ (T278.setTop (mkF m 101 #[.val (.int p0), .val (.int p1), .val (.int p2), .val (.int p3), .val (.ref ka), .val (.ref kb), .val (.ref sa), .val (.ref sb), .val (.ref ma), .val (.ref mb), .val (.ref rp), .val (.int (1 : Int32)), .unset, .unset, .unset, .unset] [(.ref rp)]))
  obtain ⟨cq279, kq279, q279a, q279b, q279c⟩ := isOf hZ rfl E_rp
  obtain ⟨_, _, ⟨T279, L279, k279, n279⟩, -, X279, ⟨Lc279, hQ279, l279, y279, z279⟩, st279⟩ := X278'.virtualBack hx (y := (⟨"com/example/slicewright/slicewright/report/Report", "isValid", "()Z"⟩ : MethodName)) (z := (⟨"com/example/slicewright/slicewright/report/Report", "isValid", "()Z"⟩ : MethodName)) hown (mvT hZ (hw _ (List.mem_of_getElem? (i := 112) rfl))) (mvT hZ (hw _ (List.mem_of_getElem? (i := 113) rfl))) (notFace_of_selects (args := #[]) (mvT hZ (hw _ (List.mem_of_getElem? (i := 115) rfl)))) (mvT hZ (hw _ (List.mem_of_getElem? (i := 115) rfl))) (mvT hZ (hw _ (List.mem_of_getElem? (i := 114) rfl))) (by decide) (backOf (W := 0) (rm14 l Z a0 hw [] rp l2 1 T278.heap n0 F_er E_l2 F_size_l2) hZ (hw _ (List.mem_of_getElem? (i := 116) rfl)) (hw _ (List.mem_of_getElem? (i := 79) rfl)) (by decide) (by decide)) q279a q279c (g := (mkF m 101 #[.val (.int p0), .val (.int p1), .val (.int p2), .val (.int p3), .val (.ref ka), .val (.ref kb), .val (.ref sa), .val (.ref sb), .val (.ref ma), .val (.ref mb), .val (.ref rp), .val (.int (1 : Int32)), .unset, .unset, .unset, .unset] [(.ref rp)])) rfl (by rw [hml]; rfl) (Steps.refl _) (argsL := []) (rest := []) (lenOf pd_3 rfl) rfl (by show 2 * 0 + _ ≤ _; exact Nat.le_of_eq rfl) (hb hby at_101) (fun _ _ => ⟨rfl, rfl, (by decide : 37 + 0 ≤ _), (by decide : 185 + 0 ≤ _)⟩)
  dsimp only [Pt.U, Pt.locs, Pt.cells, Pt.slots] at X279 l279 y279 z279 st279 hQ279
  subst y279 z279
  obtain ⟨hv279, Nq279, e279⟩ := hQ279
  rw [if_neg (by decide)] at hv279
  subst hv279
  have N279 : Fr n0 L279 := by rw [l279]; exact Fr.app N278 Nq279
  clear l279
  refine Go.by (fun t => st279.trans) ?_
  replace X279 := Stand.num (C := 37) (S := 185) X279 rfl rfl
  show Go p e below _ (T279.setTop (mkF m 104 #[.val (.int p0), .val (.int p1), .val (.int p2), .val (.int p3), .val (.ref ka), .val (.ref kb), .val (.ref sa), .val (.ref sb), .val (.ref ma), .val (.ref mb), .val (.ref rp), .val (.int (1 : Int32)), .unset, .unset, .unset, .unset] [(.int (0 : Int32))]))
  refine Go.by (fun t => XS.ifNo X279.here hx rfl (hb hby at_104) rfl ((if0 _ _).trans (teq (rfl : (0 : Int32) = (0 : Int32))).2)) ?_
  show Go p e below _ (T279.setTop (mkF m 107 #[.val (.int p0), .val (.int p1), .val (.int p2), .val (.int p3), .val (.ref ka), .val (.ref kb), .val (.ref sa), .val (.ref sb), .val (.ref ma), .val (.ref mb), .val (.ref rp), .val (.int (1 : Int32)), .unset, .unset, .unset, .unset] []))
  show Go p e below _ (T279.setTop (mkF m 107 #[.val (.int p0), .val (.int p1), .val (.int p2), .val (.int p3), .val (.ref ka), .val (.ref kb), .val (.ref sa), .val (.ref sb), .val (.ref ma), .val (.ref mb), .val (.ref rp), .val (.int (1 : Int32)), .unset, .unset, .unset, .unset] []))
  refine Go.by (fun t => XS.iconst X279.here hx rfl (hb hby at_107)) ?_
  show Go p e below _ (T279.setTop (mkF m 108 #[.val (.int p0), .val (.int p1), .val (.int p2), .val (.int p3), .val (.ref ka), .val (.ref kb), .val (.ref sa), .val (.ref sb), .val (.ref ma), .val (.ref mb), .val (.ref rp), .val (.int (1 : Int32)), .unset, .unset, .unset, .unset] [(.int (1 : Int32))]))
  refine Go.by (fun t => XS.goto X279.here hx rfl (pc0 := 108) (pc' := 112) rfl (hb hby at_108) (by decide) (by decide)) ?_
  show Go p e below _ (T279.setTop (mkF m 112 #[.val (.int p0), .val (.int p1), .val (.int p2), .val (.int p3), .val (.ref ka), .val (.ref kb), .val (.ref sa), .val (.ref sb), .val (.ref ma), .val (.ref mb), .val (.ref rp), .val (.int (1 : Int32)), .unset, .unset, .unset, .unset] [(.int (1 : Int32))]))
  refine Go.by (fun t => XS.istore X279.here hx rfl (hb hby at_112) rfl (l' := #[.val (.int p0), .val (.int p1), .val (.int p2), .val (.int p3), .val (.ref ka), .val (.ref kb), .val (.ref sa), .val (.ref sb), .val (.ref ma), .val (.ref mb), .val (.ref rp), .val (.int (1 : Int32)), .val (.int (1 : Int32)), .unset, .unset, .unset]) rfl) ?_
  show Go p e below _ (T279.setTop (mkF m 114 #[.val (.int p0), .val (.int p1), .val (.int p2), .val (.int p3), .val (.ref ka), .val (.ref kb), .val (.ref sa), .val (.ref sb), .val (.ref ma), .val (.ref mb), .val (.ref rp), .val (.int (1 : Int32)), .val (.int (1 : Int32)), .unset, .unset, .unset] []))
  refine Go.by (fun t => XS.aload X279.here hx rfl (hb hby at_114) rfl rfl) ?_
  show Go p e below _ (T279.setTop (mkF m 116 #[.val (.int p0), .val (.int p1), .val (.int p2), .val (.int p3), .val (.ref ka), .val (.ref kb), .val (.ref sa), .val (.ref sb), .val (.ref ma), .val (.ref mb), .val (.ref rp), .val (.int (1 : Int32)), .val (.int (1 : Int32)), .unset, .unset, .unset] [(.ref rp)]))
  refine Go.by (fun t => XS.aload X279.here hx rfl (hb hby at_116) rfl rfl) ?_
  show Go p e below _ (T279.setTop (mkF m 118 #[.val (.int p0), .val (.int p1), .val (.int p2), .val (.int p3), .val (.ref ka), .val (.ref kb), .val (.ref sa), .val (.ref sb), .val (.ref ma), .val (.ref mb), .val (.ref rp), .val (.int (1 : Int32)), .val (.int (1 : Int32)), .unset, .unset, .unset] [(.ref kb), (.ref rp)]))
  refine Go.by (fun t => XS.aload X279.here hx rfl (hb hby at_118) rfl rfl) ?_
  show Go p e below _ (T279.setTop (mkF m 120 #[.val (.int p0), .val (.int p1), .val (.int p2), .val (.int p3), .val (.ref ka), .val (.ref kb), .val (.ref sa), .val (.ref sb), .val (.ref ma), .val (.ref mb), .val (.ref rp), .val (.int (1 : Int32)), .val (.int (1 : Int32)), .unset, .unset, .unset] [(.ref sb), (.ref kb), (.ref rp)]))
  refine Go.by (fun t => XS.aload X279.here hx rfl (hb hby at_120) rfl rfl) ?_
  show Go p e below _ (T279.setTop (mkF m 122 #[.val (.int p0), .val (.int p1), .val (.int p2), .val (.int p3), .val (.ref ka), .val (.ref kb), .val (.ref sa), .val (.ref sb), .val (.ref ma), .val (.ref mb), .val (.ref rp), .val (.int (1 : Int32)), .val (.int (1 : Int32)), .unset, .unset, .unset] [(.ref mb), (.ref sb), (.ref kb), (.ref rp)]))
  obtain ⟨cq280, kq280, q280a, q280b, q280c⟩ := isOf (s := s.setVm T278.vm) hZ e279 E_rp
  obtain ⟨_, _, ⟨T280, L280, k280, n280⟩, -, X280, hSn, hgn, ⟨Lc280, hQ280, l280, y280, z280, CRn⟩, st280⟩ := X279.virtualBackS hx (y := (⟨"com/example/slicewright/slicewright/report/Report", "addError", "(Lcom/example/slicewright/slicewright/report/ErrorKind;Ljava/lang/String;Ljava/lang/String;)V"⟩ : MethodName)) (z := (⟨"com/example/slicewright/slicewright/report/Report", "addError", "(Lcom/example/slicewright/slicewright/report/ErrorKind;Ljava/lang/String;Ljava/lang/String;)V"⟩ : MethodName)) hown (mvT (s := s.setVm T278.vm) hZ (hw _ (List.mem_of_getElem? (i := 128) rfl))) (mvT (s := s.setVm T278.vm) hZ (hw _ (List.mem_of_getElem? (i := 129) rfl))) (notFace_of_selects (args := #[]) (mvT (s := s.setVm T278.vm) hZ (hw _ (List.mem_of_getElem? (i := 131) rfl)))) (mvT (s := s.setVm T278.vm) hZ (hw _ (List.mem_of_getElem? (i := 131) rfl))) (mvT (s := s.setVm T278.vm) hZ (hw _ (List.mem_of_getElem? (i := 130) rfl))) (by decide) (backOfSH (W := 0) (rmAE2 l Z a0 hw [] rp kb sb mb l2 f0 ar kc _ T278.heap n0 Z0 F_er E_l2 F_size_l2 F_elementData_l2 F_modCount_l2 g_l2 g_ar Ov V_ar E_kb E_sb E_mb) hZ (hw _ (List.mem_of_getElem? (i := 132) rfl)) (hw _ (List.mem_of_getElem? (i := 79) rfl)) (by decide) (by decide) hEL CR.1) q280a q280c (g := (mkF m 122 #[.val (.int p0), .val (.int p1), .val (.int p2), .val (.int p3), .val (.ref ka), .val (.ref kb), .val (.ref sa), .val (.ref sb), .val (.ref ma), .val (.ref mb), .val (.ref rp), .val (.int (1 : Int32)), .val (.int (1 : Int32)), .unset, .unset, .unset] [(.ref mb), (.ref sb), (.ref kb), (.ref rp)])) rfl (by rw [hml]; rfl) (Steps.refl _) (argsL := [(.ref kb), (.ref sb), (.ref mb)]) (rest := []) (lenOf pd_4 rfl) rfl (by show 2 * 0 + _ ≤ _; exact Nat.le_of_eq rfl) (hb hby at_122) (fun _ _ => ⟨rfl, e279, (by decide : 37 + 7 ≤ _), (by decide : 185 + 91 ≤ _)⟩)
  dsimp only [Pt.U, Pt.locs, Pt.cells, Pt.slots] at X280 l280 y280 z280 st280 hQ280 hSn hgn CRn
  subst y280 z280
  rw [e279] at hgn
  obtain ⟨X280', hS280, hZ280, hown280⟩ := rebS hS hk X280 hSn hgn hZ hown
  obtain ⟨f1, rfl, sz_f1, Nq280, K280, E_f1, Fk1, Fl1, Fm1, V_arn, Fz, Fe, Fc⟩ := hQ280
  have N280 : Fr n0 L280 := by rw [l280]; exact Fr.app N279 Nq280
  clear l280
  refine Go.by (fun t => st280.trans) ?_
  replace X280' := Stand.num (C := 44) (S := 276) X280' rfl rfl
  have ne_f0_ar : f0 ≠ ar := Exa.neArv E_f0 V_ar (hw _ (List.mem_of_getElem? (i := 134) rfl))
  replace CR := CR.trans CRn
  replace Od := Od.keep K280 (allS g_l2 (allS g_ar all0))
  replace E_ka := E_ka.keep K280
  replace E_kb := E_kb.keep K280
  replace E_sa := E_sa.keep K280
  replace E_sb := E_sb.keep K280
  replace E_ma := E_ma.keep K280
  replace E_mb := E_mb.keep K280
  replace E_rp := E_rp.keep K280
  replace F_sl := F_sl.keep K280 (ninS ne_rp_l2 (ninS ne_rp_ar nin0))
  replace F_er := F_er.keep K280 (ninS ne_rp_l2 (ninS ne_rp_ar nin0))
  replace E_l1 := E_l1.keep K280
  replace F_size_l1 := F_size_l1.keep K280 (ninS ne_l1_l2 (ninS ne_l1_ar nin0))
  replace E_l2 := E_l2.keep K280
  replace E_f0 := E_f0.keep K280
  replace Fk0 := Fk0.keep K280 (ninS (Ne.symm ne_l2_f0) (ninS ne_f0_ar nin0))
  replace Fl0 := Fl0.keep K280 (ninS (Ne.symm ne_l2_f0) (ninS ne_f0_ar nin0))
  replace Fm0 := Fm0.keep K280 (ninS (Ne.symm ne_l2_f0) (ninS ne_f0_ar nin0))
  replace Z0 := Nat.le_trans Z0 K280.1
  clear CRn hS hk hSn
  have hS := hS280
  have hk : T280.heap.size ≤ T280.heap.size := Nat.le_refl _
  replace hZ := hZ280
  replace hown := hown280
  show Go p e below _ (T280.setTop (mkF m 125 #[.val (.int p0), .val (.int p1), .val (.int p2), .val (.int p3), .val (.ref ka), .val (.ref kb), .val (.ref sa), .val (.ref sb), .val (.ref ma), .val (.ref mb), .val (.ref rp), .val (.int (1 : Int32)), .val (.int (1 : Int32)), .unset, .unset, .unset] []))
  have F_size_l2 := Fz
  have F_elementData_l2 := Fe
  clear V_ar
  have V_ar := V_arn
  show Go p e below _ (T280.setTop (mkF m 125 #[.val (.int p0), .val (.int p1), .val (.int p2), .val (.int p3), .val (.ref ka), .val (.ref kb), .val (.ref sa), .val (.ref sb), .val (.ref ma), .val (.ref mb), .val (.ref rp), .val (.int (1 : Int32)), .val (.int (1 : Int32)), .unset, .unset, .unset] []))
  refine Go.by (fun t => XS.aload X280'.here hx rfl (hb hby at_125) rfl rfl) ?_
  show Go p e below _ (T280.setTop (mkF m 127 #[.val (.int p0), .val (.int p1), .val (.int p2), .val (.int p3), .val (.ref ka), .val (.ref kb), .val (.ref sa), .val (.ref sb), .val (.ref ma), .val (.ref mb), .val (.ref rp), .val (.int (1 : Int32)), .val (.int (1 : Int32)), .unset, .unset, .unset] [(.ref rp)]))
  obtain ⟨cq281, kq281, q281a, q281b, q281c⟩ := isOf hZ rfl E_rp
  obtain ⟨_, _, ⟨T281, L281, k281, n281⟩, -, X281, ⟨Lc281, hQ281, l281, y281, z281⟩, st281⟩ := X280'.virtualBack hx (y := (⟨"com/example/slicewright/slicewright/report/Report", "errors", "()Ljava/util/List;"⟩ : MethodName)) (z := (⟨"com/example/slicewright/slicewright/report/Report", "errors", "()Ljava/util/List;"⟩ : MethodName)) hown (mvT hZ (hw _ (List.mem_of_getElem? (i := 192) rfl))) (mvT hZ (hw _ (List.mem_of_getElem? (i := 193) rfl))) (notFace_of_selects (args := #[]) (mvT hZ (hw _ (List.mem_of_getElem? (i := 195) rfl)))) (mvT hZ (hw _ (List.mem_of_getElem? (i := 195) rfl))) (mvT hZ (hw _ (List.mem_of_getElem? (i := 194) rfl))) (by decide) (backOf (W := 0) (rm25 l Z a0 hw [] rp l2 m1 m2 m3 T280.heap n0 Z0 F_er E_l2 Mi1 Mi2 Mi3) hZ (hw _ (List.mem_of_getElem? (i := 196) rfl)) (hw _ (List.mem_of_getElem? (i := 79) rfl)) (by decide) (by decide)) q281a q281c (g := (mkF m 127 #[.val (.int p0), .val (.int p1), .val (.int p2), .val (.int p3), .val (.ref ka), .val (.ref kb), .val (.ref sa), .val (.ref sb), .val (.ref ma), .val (.ref mb), .val (.ref rp), .val (.int (1 : Int32)), .val (.int (1 : Int32)), .unset, .unset, .unset] [(.ref rp)])) rfl (by rw [hml]; rfl) (Steps.refl _) (argsL := []) (rest := []) (lenOf pd_5 rfl) rfl (by show 2 * 0 + _ ≤ _; exact Nat.le_of_eq rfl) (hb hby at_127) (fun _ _ => ⟨rfl, rfl, (by decide : 44 + 1 ≤ _), (by decide : 276 + 2 ≤ _)⟩)
  dsimp only [Pt.U, Pt.locs, Pt.cells, Pt.slots] at X281 l281 y281 z281 st281 hQ281
  subst y281 z281
  obtain ⟨u1, rfl, sz_u1, Nq281, K281, E_u1, Fc_u1, Fl_u1⟩ := hQ281
  have N281 : Fr n0 L281 := by rw [l281]; exact Fr.app N280 Nq281
  clear l281
  refine Go.by (fun t => st281.trans) ?_
  replace X281 := Stand.num (C := 45) (S := 278) X281 rfl rfl
  have Sfw := (sf0 : ∀ x ∈ [], Safe Z EL T280.vm T280.heap x)
  replace CR := CR.trans (CHr.keep K281 Sfw CR.1)
  clear Sfw
  replace hk := Nat.le_trans hk K281.1
  replace Od := Od.keep K281 all0
  replace E_ka := E_ka.keep K281
  replace E_kb := E_kb.keep K281
  replace E_sa := E_sa.keep K281
  replace E_sb := E_sb.keep K281
  replace E_ma := E_ma.keep K281
  replace E_mb := E_mb.keep K281
  replace E_rp := E_rp.keep K281
  replace F_sl := F_sl.keep K281 nin0
  replace F_er := F_er.keep K281 nin0
  replace E_l1 := E_l1.keep K281
  replace F_size_l1 := F_size_l1.keep K281 nin0
  replace E_f0 := E_f0.keep K281
  replace Fk0 := Fk0.keep K281 nin0
  replace Fl0 := Fl0.keep K281 nin0
  replace Fm0 := Fm0.keep K281 nin0
  replace E_l2 := E_l2.keep K281
  replace F_size_l2 := F_size_l2.keep K281 nin0
  replace F_elementData_l2 := F_elementData_l2.keep K281 nin0
  replace E_f1 := E_f1.keep K281
  replace Fk1 := Fk1.keep K281 nin0
  replace Fl1 := Fl1.keep K281 nin0
  replace Fm1 := Fm1.keep K281 nin0
  replace V_ar := V_ar.keep K281 nin0
  replace Z0 := Nat.le_trans Z0 K281.1
  show Go p e below _ (T281.setTop (mkF m 130 #[.val (.int p0), .val (.int p1), .val (.int p2), .val (.int p3), .val (.ref ka), .val (.ref kb), .val (.ref sa), .val (.ref sb), .val (.ref ma), .val (.ref mb), .val (.ref rp), .val (.int (1 : Int32)), .val (.int (1 : Int32)), .unset, .unset, .unset] [(.ref u1)]))
  show Go p e below _ (T281.setTop (mkF m 130 #[.val (.int p0), .val (.int p1), .val (.int p2), .val (.int p3), .val (.ref ka), .val (.ref kb), .val (.ref sa), .val (.ref sb), .val (.ref ma), .val (.ref mb), .val (.ref rp), .val (.int (1 : Int32)), .val (.int (1 : Int32)), .unset, .unset, .unset] [(.ref u1)]))
  refine Go.by (fun t => XS.astore X281.here hx rfl (hb hby at_130) rfl rfl (l' := #[.val (.int p0), .val (.int p1), .val (.int p2), .val (.int p3), .val (.ref ka), .val (.ref kb), .val (.ref sa), .val (.ref sb), .val (.ref ma), .val (.ref mb), .val (.ref rp), .val (.int (1 : Int32)), .val (.int (1 : Int32)), .val (.ref u1), .unset, .unset]) rfl) ?_
  show Go p e below _ (T281.setTop (mkF m 132 #[.val (.int p0), .val (.int p1), .val (.int p2), .val (.int p3), .val (.ref ka), .val (.ref kb), .val (.ref sa), .val (.ref sb), .val (.ref ma), .val (.ref mb), .val (.ref rp), .val (.int (1 : Int32)), .val (.int (1 : Int32)), .val (.ref u1), .unset, .unset] []))
  refine Go.by (fun t => XS.aload X281.here hx rfl (hb hby at_132) rfl rfl) ?_
  show Go p e below _ (T281.setTop (mkF m 134 #[.val (.int p0), .val (.int p1), .val (.int p2), .val (.int p3), .val (.ref ka), .val (.ref kb), .val (.ref sa), .val (.ref sb), .val (.ref ma), .val (.ref mb), .val (.ref rp), .val (.int (1 : Int32)), .val (.int (1 : Int32)), .val (.ref u1), .unset, .unset] [(.ref u1)]))
  obtain ⟨cq282, kq282, q282a, q282b, q282c⟩ := isOf hZ rfl E_u1
  obtain ⟨_, _, ⟨T282, L282, k282, n282⟩, -, X282, ⟨Lc282, hQ282, l282, y282, z282⟩, st282⟩ := X281.interfaceBack hx (xi := (⟨"java/util/List", "size", "()I"⟩ : MethodName)) (y := (⟨"java/util/Collections$UnmodifiableCollection", "size", "()I"⟩ : MethodName)) hown (mvT hZ (hw _ (List.mem_of_getElem? (i := 239) rfl))) (mvT hZ (hw _ (List.mem_of_getElem? (i := 240) rfl))) (mvT hZ (hw _ (List.mem_of_getElem? (i := 241) rfl))) (mvT hZ (hw _ (List.mem_of_getElem? (i := 242) rfl))) (mvT hZ (hw _ (List.mem_of_getElem? (i := 243) rfl))) (mvT hZ (hw _ (List.mem_of_getElem? (i := 244) rfl))) (mvT hZ (hw _ (List.mem_of_getElem? (i := 245) rfl))) (mvT hZ (hw _ (List.mem_of_getElem? (i := 246) rfl))) (by decide) (backOf (W := 0) (rm30 l Z a0 hw [] u1 l2 2 T281.heap n0 Fc_u1 E_l2 F_size_l2) hZ (hw _ (List.mem_of_getElem? (i := 247) rfl)) (hw _ (List.mem_of_getElem? (i := 232) rfl)) (by decide) (by decide)) q282a q282b q282c (g := (mkF m 134 #[.val (.int p0), .val (.int p1), .val (.int p2), .val (.int p3), .val (.ref ka), .val (.ref kb), .val (.ref sa), .val (.ref sb), .val (.ref ma), .val (.ref mb), .val (.ref rp), .val (.int (1 : Int32)), .val (.int (1 : Int32)), .val (.ref u1), .unset, .unset] [(.ref u1)])) rfl (by rw [hml]; rfl) (Steps.refl _) (argsL := []) (rest := []) (lenOf pd_6 rfl) rfl (by show 2 * 0 + _ ≤ _; exact Nat.le_of_eq rfl) (hb hby at_134) (fun _ _ => ⟨rfl, rfl, (by decide : 45 + 0 ≤ _), (by decide : 278 + 0 ≤ _)⟩)
  dsimp only [Pt.U, Pt.locs, Pt.cells, Pt.slots] at X282 l282 y282 z282 st282 hQ282
  subst y282 z282
  obtain ⟨rfl, Nq282, e282⟩ := hQ282
  have N282 : Fr n0 L282 := by rw [l282]; exact Fr.app N281 Nq282
  clear l282
  refine Go.by (fun t => st282.trans) ?_
  replace X282 := Stand.num (C := 45) (S := 278) X282 rfl rfl
  show Go p e below _ (T282.setTop (mkF m 139 #[.val (.int p0), .val (.int p1), .val (.int p2), .val (.int p3), .val (.ref ka), .val (.ref kb), .val (.ref sa), .val (.ref sb), .val (.ref ma), .val (.ref mb), .val (.ref rp), .val (.int (1 : Int32)), .val (.int (1 : Int32)), .val (.ref u1), .unset, .unset] [(.int (2 : Int32))]))
  show Go p e below _ (T282.setTop (mkF m 139 #[.val (.int p0), .val (.int p1), .val (.int p2), .val (.int p3), .val (.ref ka), .val (.ref kb), .val (.ref sa), .val (.ref sb), .val (.ref ma), .val (.ref mb), .val (.ref rp), .val (.int (1 : Int32)), .val (.int (1 : Int32)), .val (.ref u1), .unset, .unset] [(.int (2 : Int32))]))
  refine Go.by (fun t => XS.iconst X282.here hx rfl (hb hby at_139)) ?_
  show Go p e below _ (T282.setTop (mkF m 140 #[.val (.int p0), .val (.int p1), .val (.int p2), .val (.int p3), .val (.ref ka), .val (.ref kb), .val (.ref sa), .val (.ref sb), .val (.ref ma), .val (.ref mb), .val (.ref rp), .val (.int (1 : Int32)), .val (.int (1 : Int32)), .val (.ref u1), .unset, .unset] [(.int (2 : Int32)), (.int (2 : Int32))]))
  refine Go.by (fun t => XS.icmpYes X282.here hx rfl (pc0 := 140) (pc' := 145) rfl (hb hby at_140) rfl (teq (rfl : (2 : Int32) = (2 : Int32))).1 (by decide) (by decide)) ?_
  show Go p e below _ (T282.setTop (mkF m 145 #[.val (.int p0), .val (.int p1), .val (.int p2), .val (.int p3), .val (.ref ka), .val (.ref kb), .val (.ref sa), .val (.ref sb), .val (.ref ma), .val (.ref mb), .val (.ref rp), .val (.int (1 : Int32)), .val (.int (1 : Int32)), .val (.ref u1), .unset, .unset] []))
  show Go p e below _ (T282.setTop (mkF m 145 #[.val (.int p0), .val (.int p1), .val (.int p2), .val (.int p3), .val (.ref ka), .val (.ref kb), .val (.ref sa), .val (.ref sb), .val (.ref ma), .val (.ref mb), .val (.ref rp), .val (.int (1 : Int32)), .val (.int (1 : Int32)), .val (.ref u1), .unset, .unset] []))
  refine Go.by (fun t => XS.aload X282.here hx rfl (hb hby at_145) rfl rfl) ?_
  show Go p e below _ (T282.setTop (mkF m 147 #[.val (.int p0), .val (.int p1), .val (.int p2), .val (.int p3), .val (.ref ka), .val (.ref kb), .val (.ref sa), .val (.ref sb), .val (.ref ma), .val (.ref mb), .val (.ref rp), .val (.int (1 : Int32)), .val (.int (1 : Int32)), .val (.ref u1), .unset, .unset] [(.ref u1)]))
  refine Go.by (fun t => XS.iconst X282.here hx rfl (hb hby at_147)) ?_
  show Go p e below _ (T282.setTop (mkF m 148 #[.val (.int p0), .val (.int p1), .val (.int p2), .val (.int p3), .val (.ref ka), .val (.ref kb), .val (.ref sa), .val (.ref sb), .val (.ref ma), .val (.ref mb), .val (.ref rp), .val (.int (1 : Int32)), .val (.int (1 : Int32)), .val (.ref u1), .unset, .unset] [(.int (0 : Int32)), (.ref u1)]))
  obtain ⟨cq283, kq283, q283a, q283b, q283c⟩ := isOf hZ e282 E_u1
  obtain ⟨_, _, ⟨T283, L283, k283, n283⟩, -, X283, ⟨Lc283, hQ283, l283, y283, z283⟩, st283⟩ := X282.interfaceBack hx (xi := (⟨"java/util/List", "get", "(I)Ljava/lang/Object;"⟩ : MethodName)) (y := (⟨"java/util/Collections$UnmodifiableList", "get", "(I)Ljava/lang/Object;"⟩ : MethodName)) hown (mvT hZ (hw _ (List.mem_of_getElem? (i := 257) rfl))) (mvT hZ (hw _ (List.mem_of_getElem? (i := 258) rfl))) (mvT hZ (hw _ (List.mem_of_getElem? (i := 259) rfl))) (mvT hZ (hw _ (List.mem_of_getElem? (i := 260) rfl))) (mvT hZ (hw _ (List.mem_of_getElem? (i := 261) rfl))) (mvT hZ (hw _ (List.mem_of_getElem? (i := 262) rfl))) (mvT hZ (hw _ (List.mem_of_getElem? (i := 263) rfl))) (mvT hZ (hw _ (List.mem_of_getElem? (i := 246) rfl))) (by decide) (backOf (W := 0) (rmUG0 l Z a0 hw [] u1 l2 ar f0 f1 kc T281.heap n0 Fl_u1 E_l2 F_size_l2 F_elementData_l2 V_ar) hZ (hw _ (List.mem_of_getElem? (i := 264) rfl)) (hw _ (List.mem_of_getElem? (i := 226) rfl)) (by decide) (by decide)) q283a q283b q283c (g := (mkF m 148 #[.val (.int p0), .val (.int p1), .val (.int p2), .val (.int p3), .val (.ref ka), .val (.ref kb), .val (.ref sa), .val (.ref sb), .val (.ref ma), .val (.ref mb), .val (.ref rp), .val (.int (1 : Int32)), .val (.int (1 : Int32)), .val (.ref u1), .unset, .unset] [(.int (0 : Int32)), (.ref u1)])) rfl (by rw [hml]; rfl) (Steps.refl _) (argsL := [(.int (0 : Int32))]) (rest := []) (lenOf pd_7 rfl) rfl (by show 2 * 0 + _ ≤ _; exact Nat.le_of_eq rfl) (hb hby at_148) (fun _ _ => ⟨rfl, e282, (by decide : 45 + 0 ≤ _), (by decide : 278 + 0 ≤ _)⟩)
  dsimp only [Pt.U, Pt.locs, Pt.cells, Pt.slots] at X283 l283 y283 z283 st283 hQ283
  subst y283 z283
  obtain ⟨rfl, Nq283, e283⟩ := hQ283
  have N283 : Fr n0 L283 := by rw [l283]; exact Fr.app N282 Nq283
  clear l283
  refine Go.by (fun t => st283.trans) ?_
  replace X283 := Stand.num (C := 45) (S := 278) X283 rfl rfl
  show Go p e below _ (T283.setTop (mkF m 153 #[.val (.int p0), .val (.int p1), .val (.int p2), .val (.int p3), .val (.ref ka), .val (.ref kb), .val (.ref sa), .val (.ref sb), .val (.ref ma), .val (.ref mb), .val (.ref rp), .val (.int (1 : Int32)), .val (.int (1 : Int32)), .val (.ref u1), .unset, .unset] [(.ref f0)]))
  obtain ⟨T284, X284, e284, st284⟩ := castY X283 hx hZ hown (hw _ (List.mem_of_getElem? (i := 283) rfl)) e283 (Ins.self E_f0) (g := (mkF m 153 #[.val (.int p0), .val (.int p1), .val (.int p2), .val (.int p3), .val (.ref ka), .val (.ref kb), .val (.ref sa), .val (.ref sb), .val (.ref ma), .val (.ref mb), .val (.ref rp), .val (.int (1 : Int32)), .val (.int (1 : Int32)), .val (.ref u1), .unset, .unset] [(.ref f0)])) rfl rfl (hb hby at_153)
  refine Go.by (fun t => st284 t) ?_
  show Go p e below _ (T284.setTop (mkF m 156 #[.val (.int p0), .val (.int p1), .val (.int p2), .val (.int p3), .val (.ref ka), .val (.ref kb), .val (.ref sa), .val (.ref sb), .val (.ref ma), .val (.ref mb), .val (.ref rp), .val (.int (1 : Int32)), .val (.int (1 : Int32)), .val (.ref u1), .unset, .unset] [(.ref f0)]))
  show Go p e below _ (T284.setTop (mkF m 156 #[.val (.int p0), .val (.int p1), .val (.int p2), .val (.int p3), .val (.ref ka), .val (.ref kb), .val (.ref sa), .val (.ref sb), .val (.ref ma), .val (.ref mb), .val (.ref rp), .val (.int (1 : Int32)), .val (.int (1 : Int32)), .val (.ref u1), .unset, .unset] [(.ref f0)]))
  refine Go.by (fun t => XS.astore X284.here hx rfl (hb hby at_156) rfl rfl (l' := #[.val (.int p0), .val (.int p1), .val (.int p2), .val (.int p3), .val (.ref ka), .val (.ref kb), .val (.ref sa), .val (.ref sb), .val (.ref ma), .val (.ref mb), .val (.ref rp), .val (.int (1 : Int32)), .val (.int (1 : Int32)), .val (.ref u1), .val (.ref f0), .unset]) rfl) ?_
  show Go p e below _ (T284.setTop (mkF m 158 #[.val (.int p0), .val (.int p1), .val (.int p2), .val (.int p3), .val (.ref ka), .val (.ref kb), .val (.ref sa), .val (.ref sb), .val (.ref ma), .val (.ref mb), .val (.ref rp), .val (.int (1 : Int32)), .val (.int (1 : Int32)), .val (.ref u1), .val (.ref f0), .unset] []))
  refine Go.by (fun t => XS.aload X284.here hx rfl (hb hby at_158) rfl rfl) ?_
  show Go p e below _ (T284.setTop (mkF m 160 #[.val (.int p0), .val (.int p1), .val (.int p2), .val (.int p3), .val (.ref ka), .val (.ref kb), .val (.ref sa), .val (.ref sb), .val (.ref ma), .val (.ref mb), .val (.ref rp), .val (.int (1 : Int32)), .val (.int (1 : Int32)), .val (.ref u1), .val (.ref f0), .unset] [(.ref u1)]))
  refine Go.by (fun t => XS.iconst X284.here hx rfl (hb hby at_160)) ?_
  show Go p e below _ (T284.setTop (mkF m 161 #[.val (.int p0), .val (.int p1), .val (.int p2), .val (.int p3), .val (.ref ka), .val (.ref kb), .val (.ref sa), .val (.ref sb), .val (.ref ma), .val (.ref mb), .val (.ref rp), .val (.int (1 : Int32)), .val (.int (1 : Int32)), .val (.ref u1), .val (.ref f0), .unset] [(.int (1 : Int32)), (.ref u1)]))
  obtain ⟨cq285, kq285, q285a, q285b, q285c⟩ := isOf hZ e284 E_u1
  obtain ⟨_, _, ⟨T285, L285, k285, n285⟩, -, X285, ⟨Lc285, hQ285, l285, y285, z285⟩, st285⟩ := X284.interfaceBack hx (xi := (⟨"java/util/List", "get", "(I)Ljava/lang/Object;"⟩ : MethodName)) (y := (⟨"java/util/Collections$UnmodifiableList", "get", "(I)Ljava/lang/Object;"⟩ : MethodName)) hown (mvT hZ (hw _ (List.mem_of_getElem? (i := 257) rfl))) (mvT hZ (hw _ (List.mem_of_getElem? (i := 258) rfl))) (mvT hZ (hw _ (List.mem_of_getElem? (i := 259) rfl))) (mvT hZ (hw _ (List.mem_of_getElem? (i := 260) rfl))) (mvT hZ (hw _ (List.mem_of_getElem? (i := 261) rfl))) (mvT hZ (hw _ (List.mem_of_getElem? (i := 262) rfl))) (mvT hZ (hw _ (List.mem_of_getElem? (i := 263) rfl))) (mvT hZ (hw _ (List.mem_of_getElem? (i := 246) rfl))) (by decide) (backOf (W := 0) (rmUG1 l Z a0 hw [] u1 l2 ar f0 f1 kc T281.heap n0 Fl_u1 E_l2 F_size_l2 F_elementData_l2 V_ar) hZ (hw _ (List.mem_of_getElem? (i := 264) rfl)) (hw _ (List.mem_of_getElem? (i := 226) rfl)) (by decide) (by decide)) q285a q285b q285c (g := (mkF m 161 #[.val (.int p0), .val (.int p1), .val (.int p2), .val (.int p3), .val (.ref ka), .val (.ref kb), .val (.ref sa), .val (.ref sb), .val (.ref ma), .val (.ref mb), .val (.ref rp), .val (.int (1 : Int32)), .val (.int (1 : Int32)), .val (.ref u1), .val (.ref f0), .unset] [(.int (1 : Int32)), (.ref u1)])) rfl (by rw [hml]; rfl) (Steps.refl _) (argsL := [(.int (1 : Int32))]) (rest := []) (lenOf pd_7 rfl) rfl (by show 2 * 0 + _ ≤ _; exact Nat.le_of_eq rfl) (hb hby at_161) (fun _ _ => ⟨rfl, e284, (by decide : 45 + 0 ≤ _), (by decide : 278 + 0 ≤ _)⟩)
  dsimp only [Pt.U, Pt.locs, Pt.cells, Pt.slots] at X285 l285 y285 z285 st285 hQ285
  subst y285 z285
  obtain ⟨rfl, Nq285, e285⟩ := hQ285
  have N285 : Fr n0 L285 := by rw [l285]; exact Fr.app N283 Nq285
  clear l285
  refine Go.by (fun t => st285.trans) ?_
  replace X285 := Stand.num (C := 45) (S := 278) X285 rfl rfl
  show Go p e below _ (T285.setTop (mkF m 166 #[.val (.int p0), .val (.int p1), .val (.int p2), .val (.int p3), .val (.ref ka), .val (.ref kb), .val (.ref sa), .val (.ref sb), .val (.ref ma), .val (.ref mb), .val (.ref rp), .val (.int (1 : Int32)), .val (.int (1 : Int32)), .val (.ref u1), .val (.ref f0), .unset] [(.ref f1)]))
  obtain ⟨T286, X286, e286, st286⟩ := castY X285 hx hZ hown (hw _ (List.mem_of_getElem? (i := 283) rfl)) e285 (Ins.self E_f1) (g := (mkF m 166 #[.val (.int p0), .val (.int p1), .val (.int p2), .val (.int p3), .val (.ref ka), .val (.ref kb), .val (.ref sa), .val (.ref sb), .val (.ref ma), .val (.ref mb), .val (.ref rp), .val (.int (1 : Int32)), .val (.int (1 : Int32)), .val (.ref u1), .val (.ref f0), .unset] [(.ref f1)])) rfl rfl (hb hby at_166)
  refine Go.by (fun t => st286 t) ?_
  show Go p e below _ (T286.setTop (mkF m 169 #[.val (.int p0), .val (.int p1), .val (.int p2), .val (.int p3), .val (.ref ka), .val (.ref kb), .val (.ref sa), .val (.ref sb), .val (.ref ma), .val (.ref mb), .val (.ref rp), .val (.int (1 : Int32)), .val (.int (1 : Int32)), .val (.ref u1), .val (.ref f0), .unset] [(.ref f1)]))
  show Go p e below _ (T286.setTop (mkF m 169 #[.val (.int p0), .val (.int p1), .val (.int p2), .val (.int p3), .val (.ref ka), .val (.ref kb), .val (.ref sa), .val (.ref sb), .val (.ref ma), .val (.ref mb), .val (.ref rp), .val (.int (1 : Int32)), .val (.int (1 : Int32)), .val (.ref u1), .val (.ref f0), .unset] [(.ref f1)]))
  refine Go.by (fun t => XS.astore X286.here hx rfl (hb hby at_169) rfl rfl (l' := #[.val (.int p0), .val (.int p1), .val (.int p2), .val (.int p3), .val (.ref ka), .val (.ref kb), .val (.ref sa), .val (.ref sb), .val (.ref ma), .val (.ref mb), .val (.ref rp), .val (.int (1 : Int32)), .val (.int (1 : Int32)), .val (.ref u1), .val (.ref f0), .val (.ref f1)]) rfl) ?_
  show Go p e below _ (T286.setTop (mkF m 171 #[.val (.int p0), .val (.int p1), .val (.int p2), .val (.int p3), .val (.ref ka), .val (.ref kb), .val (.ref sa), .val (.ref sb), .val (.ref ma), .val (.ref mb), .val (.ref rp), .val (.int (1 : Int32)), .val (.int (1 : Int32)), .val (.ref u1), .val (.ref f0), .val (.ref f1)] []))
  refine Go.by (fun t => XS.iload X286.here hx rfl (hb hby at_171) rfl ) ?_
  show Go p e below _ (T286.setTop (mkF m 173 #[.val (.int p0), .val (.int p1), .val (.int p2), .val (.int p3), .val (.ref ka), .val (.ref kb), .val (.ref sa), .val (.ref sb), .val (.ref ma), .val (.ref mb), .val (.ref rp), .val (.int (1 : Int32)), .val (.int (1 : Int32)), .val (.ref u1), .val (.ref f0), .val (.ref f1)] [(.int (1 : Int32))]))
  refine Go.by (fun t => XS.ifNo X286.here hx rfl (hb hby at_173) rfl ((if0 _ _).trans (feq (by decide : ¬ ((1 : Int32) = (0 : Int32)))).1)) ?_
  show Go p e below _ (T286.setTop (mkF m 176 #[.val (.int p0), .val (.int p1), .val (.int p2), .val (.int p3), .val (.ref ka), .val (.ref kb), .val (.ref sa), .val (.ref sb), .val (.ref ma), .val (.ref mb), .val (.ref rp), .val (.int (1 : Int32)), .val (.int (1 : Int32)), .val (.ref u1), .val (.ref f0), .val (.ref f1)] []))
  show Go p e below _ (T286.setTop (mkF m 176 #[.val (.int p0), .val (.int p1), .val (.int p2), .val (.int p3), .val (.ref ka), .val (.ref kb), .val (.ref sa), .val (.ref sb), .val (.ref ma), .val (.ref mb), .val (.ref rp), .val (.int (1 : Int32)), .val (.int (1 : Int32)), .val (.ref u1), .val (.ref f0), .val (.ref f1)] []))
  refine Go.by (fun t => XS.iload X286.here hx rfl (hb hby at_176) rfl ) ?_
  show Go p e below _ (T286.setTop (mkF m 178 #[.val (.int p0), .val (.int p1), .val (.int p2), .val (.int p3), .val (.ref ka), .val (.ref kb), .val (.ref sa), .val (.ref sb), .val (.ref ma), .val (.ref mb), .val (.ref rp), .val (.int (1 : Int32)), .val (.int (1 : Int32)), .val (.ref u1), .val (.ref f0), .val (.ref f1)] [(.int (1 : Int32))]))
  refine Go.by (fun t => XS.ifNo X286.here hx rfl (hb hby at_178) rfl ((if0 _ _).trans (feq (by decide : ¬ ((1 : Int32) = (0 : Int32)))).1)) ?_
  show Go p e below _ (T286.setTop (mkF m 181 #[.val (.int p0), .val (.int p1), .val (.int p2), .val (.int p3), .val (.ref ka), .val (.ref kb), .val (.ref sa), .val (.ref sb), .val (.ref ma), .val (.ref mb), .val (.ref rp), .val (.int (1 : Int32)), .val (.int (1 : Int32)), .val (.ref u1), .val (.ref f0), .val (.ref f1)] []))
  show Go p e below _ (T286.setTop (mkF m 181 #[.val (.int p0), .val (.int p1), .val (.int p2), .val (.int p3), .val (.ref ka), .val (.ref kb), .val (.ref sa), .val (.ref sb), .val (.ref ma), .val (.ref mb), .val (.ref rp), .val (.int (1 : Int32)), .val (.int (1 : Int32)), .val (.ref u1), .val (.ref f0), .val (.ref f1)] []))
  refine Go.by (fun t => XS.aload X286.here hx rfl (hb hby at_181) rfl rfl) ?_
  show Go p e below _ (T286.setTop (mkF m 183 #[.val (.int p0), .val (.int p1), .val (.int p2), .val (.int p3), .val (.ref ka), .val (.ref kb), .val (.ref sa), .val (.ref sb), .val (.ref ma), .val (.ref mb), .val (.ref rp), .val (.int (1 : Int32)), .val (.int (1 : Int32)), .val (.ref u1), .val (.ref f0), .val (.ref f1)] [(.ref rp)]))
  obtain ⟨cq287, kq287, q287a, q287b, q287c⟩ := isOf hZ e286 E_rp
  obtain ⟨_, _, ⟨T287, L287, k287, n287⟩, -, X287, ⟨Lc287, hQ287, l287, y287, z287⟩, st287⟩ := X286.virtualBack hx (y := (⟨"com/example/slicewright/slicewright/report/Report", "isValid", "()Z"⟩ : MethodName)) (z := (⟨"com/example/slicewright/slicewright/report/Report", "isValid", "()Z"⟩ : MethodName)) hown (mvT hZ (hw _ (List.mem_of_getElem? (i := 112) rfl))) (mvT hZ (hw _ (List.mem_of_getElem? (i := 113) rfl))) (notFace_of_selects (args := #[]) (mvT hZ (hw _ (List.mem_of_getElem? (i := 115) rfl)))) (mvT hZ (hw _ (List.mem_of_getElem? (i := 115) rfl))) (mvT hZ (hw _ (List.mem_of_getElem? (i := 114) rfl))) (by decide) (backOf (W := 0) (rm14 l Z a0 hw [] rp l2 2 T281.heap n0 F_er E_l2 F_size_l2) hZ (hw _ (List.mem_of_getElem? (i := 116) rfl)) (hw _ (List.mem_of_getElem? (i := 79) rfl)) (by decide) (by decide)) q287a q287c (g := (mkF m 183 #[.val (.int p0), .val (.int p1), .val (.int p2), .val (.int p3), .val (.ref ka), .val (.ref kb), .val (.ref sa), .val (.ref sb), .val (.ref ma), .val (.ref mb), .val (.ref rp), .val (.int (1 : Int32)), .val (.int (1 : Int32)), .val (.ref u1), .val (.ref f0), .val (.ref f1)] [(.ref rp)])) rfl (by rw [hml]; rfl) (Steps.refl _) (argsL := []) (rest := []) (lenOf pd_3 rfl) rfl (by show 2 * 0 + _ ≤ _; exact Nat.le_of_eq rfl) (hb hby at_183) (fun _ _ => ⟨rfl, e286, (by decide : 45 + 0 ≤ _), (by decide : 278 + 0 ≤ _)⟩)
  dsimp only [Pt.U, Pt.locs, Pt.cells, Pt.slots] at X287 l287 y287 z287 st287 hQ287
  subst y287 z287
  obtain ⟨hv287, Nq287, e287⟩ := hQ287
  rw [if_neg (by decide)] at hv287
  subst hv287
  have N287 : Fr n0 L287 := by rw [l287]; exact Fr.app N285 Nq287
  clear l287
  refine Go.by (fun t => st287.trans) ?_
  replace X287 := Stand.num (C := 45) (S := 278) X287 rfl rfl
  show Go p e below _ (T287.setTop (mkF m 186 #[.val (.int p0), .val (.int p1), .val (.int p2), .val (.int p3), .val (.ref ka), .val (.ref kb), .val (.ref sa), .val (.ref sb), .val (.ref ma), .val (.ref mb), .val (.ref rp), .val (.int (1 : Int32)), .val (.int (1 : Int32)), .val (.ref u1), .val (.ref f0), .val (.ref f1)] [(.int (0 : Int32))]))
  refine Go.by (fun t => XS.ifNo X287.here hx rfl (hb hby at_186) rfl ((if0 _ _).trans (teq (rfl : (0 : Int32) = (0 : Int32))).2)) ?_
  show Go p e below _ (T287.setTop (mkF m 189 #[.val (.int p0), .val (.int p1), .val (.int p2), .val (.int p3), .val (.ref ka), .val (.ref kb), .val (.ref sa), .val (.ref sb), .val (.ref ma), .val (.ref mb), .val (.ref rp), .val (.int (1 : Int32)), .val (.int (1 : Int32)), .val (.ref u1), .val (.ref f0), .val (.ref f1)] []))
  show Go p e below _ (T287.setTop (mkF m 189 #[.val (.int p0), .val (.int p1), .val (.int p2), .val (.int p3), .val (.ref ka), .val (.ref kb), .val (.ref sa), .val (.ref sb), .val (.ref ma), .val (.ref mb), .val (.ref rp), .val (.int (1 : Int32)), .val (.int (1 : Int32)), .val (.ref u1), .val (.ref f0), .val (.ref f1)] []))
  refine Go.by (fun t => XS.aload X287.here hx rfl (hb hby at_189) rfl rfl) ?_
  show Go p e below _ (T287.setTop (mkF m 191 #[.val (.int p0), .val (.int p1), .val (.int p2), .val (.int p3), .val (.ref ka), .val (.ref kb), .val (.ref sa), .val (.ref sb), .val (.ref ma), .val (.ref mb), .val (.ref rp), .val (.int (1 : Int32)), .val (.int (1 : Int32)), .val (.ref u1), .val (.ref f0), .val (.ref f1)] [(.ref f0)]))
  obtain ⟨cq288, kq288, q288a, q288b, q288c⟩ := isOf hZ e287 E_f0
  obtain ⟨_, _, ⟨T288, L288, k288, n288⟩, -, X288, ⟨Lc288, hQ288, l288, y288, z288⟩, st288⟩ := X287.virtualBack hx (y := (⟨"com/example/slicewright/slicewright/report/Report$Finding", "kind", "()Lcom/example/slicewright/slicewright/report/ErrorKind;"⟩ : MethodName)) (z := (⟨"com/example/slicewright/slicewright/report/Report$Finding", "kind", "()Lcom/example/slicewright/slicewright/report/ErrorKind;"⟩ : MethodName)) hown (mvT hZ (hw _ (List.mem_of_getElem? (i := 285) rfl))) (mvT hZ (hw _ (List.mem_of_getElem? (i := 286) rfl))) (notFace_of_selects (args := #[]) (mvT hZ (hw _ (List.mem_of_getElem? (i := 288) rfl)))) (mvT hZ (hw _ (List.mem_of_getElem? (i := 288) rfl))) (mvT hZ (hw _ (List.mem_of_getElem? (i := 287) rfl))) (by decide) (backOf (W := 0) (rm37 l Z a0 hw [] f0 ka T281.heap n0 Fk0) hZ (hw _ (List.mem_of_getElem? (i := 289) rfl)) (hw _ (List.mem_of_getElem? (i := 135) rfl)) (by decide) (by decide)) q288a q288c (g := (mkF m 191 #[.val (.int p0), .val (.int p1), .val (.int p2), .val (.int p3), .val (.ref ka), .val (.ref kb), .val (.ref sa), .val (.ref sb), .val (.ref ma), .val (.ref mb), .val (.ref rp), .val (.int (1 : Int32)), .val (.int (1 : Int32)), .val (.ref u1), .val (.ref f0), .val (.ref f1)] [(.ref f0)])) rfl (by rw [hml]; rfl) (Steps.refl _) (argsL := []) (rest := []) (lenOf pd_8 rfl) rfl (by show 2 * 0 + _ ≤ _; exact Nat.le_of_eq rfl) (hb hby at_191) (fun _ _ => ⟨rfl, e287, (by decide : 45 + 0 ≤ _), (by decide : 278 + 0 ≤ _)⟩)
  dsimp only [Pt.U, Pt.locs, Pt.cells, Pt.slots] at X288 l288 y288 z288 st288 hQ288
  subst y288 z288
  obtain ⟨rfl, Nq288, e288⟩ := hQ288
  have N288 : Fr n0 L288 := by rw [l288]; exact Fr.app N287 Nq288
  clear l288
  refine Go.by (fun t => st288.trans) ?_
  replace X288 := Stand.num (C := 45) (S := 278) X288 rfl rfl
  show Go p e below _ (T288.setTop (mkF m 194 #[.val (.int p0), .val (.int p1), .val (.int p2), .val (.int p3), .val (.ref ka), .val (.ref kb), .val (.ref sa), .val (.ref sb), .val (.ref ma), .val (.ref mb), .val (.ref rp), .val (.int (1 : Int32)), .val (.int (1 : Int32)), .val (.ref u1), .val (.ref f0), .val (.ref f1)] [(.ref ka)]))
  show Go p e below _ (T288.setTop (mkF m 194 #[.val (.int p0), .val (.int p1), .val (.int p2), .val (.int p3), .val (.ref ka), .val (.ref kb), .val (.ref sa), .val (.ref sb), .val (.ref ma), .val (.ref mb), .val (.ref rp), .val (.int (1 : Int32)), .val (.int (1 : Int32)), .val (.ref u1), .val (.ref f0), .val (.ref f1)] [(.ref ka)]))
  refine Go.by (fun t => XS.aload X288.here hx rfl (hb hby at_194) rfl rfl) ?_
  show Go p e below _ (T288.setTop (mkF m 196 #[.val (.int p0), .val (.int p1), .val (.int p2), .val (.int p3), .val (.ref ka), .val (.ref kb), .val (.ref sa), .val (.ref sb), .val (.ref ma), .val (.ref mb), .val (.ref rp), .val (.int (1 : Int32)), .val (.int (1 : Int32)), .val (.ref u1), .val (.ref f0), .val (.ref f1)] [(.ref ka), (.ref ka)]))
  refine Go.by (fun t => Jvm.RoadKit.acmp (g := (mkF m 196 #[.val (.int p0), .val (.int p1), .val (.int p2), .val (.int p3), .val (.ref ka), .val (.ref kb), .val (.ref sa), .val (.ref sb), .val (.ref ma), .val (.ref mb), .val (.ref rp), .val (.int (1 : Int32)), .val (.int (1 : Int32)), .val (.ref u1), .val (.ref f0), .val (.ref f1)] [(.ref ka), (.ref ka)])) X288 hx rfl rfl rfl (pc0 := 196) (pc' := 199) (same := true) rfl (hb hby at_196) rfl (decide_eq_true rfl) (by decide) (by decide)) ?_
  show Go p e below _ (T288.setTop (mkF m 199 #[.val (.int p0), .val (.int p1), .val (.int p2), .val (.int p3), .val (.ref ka), .val (.ref kb), .val (.ref sa), .val (.ref sb), .val (.ref ma), .val (.ref mb), .val (.ref rp), .val (.int (1 : Int32)), .val (.int (1 : Int32)), .val (.ref u1), .val (.ref f0), .val (.ref f1)] []))
  show Go p e below _ (T288.setTop (mkF m 199 #[.val (.int p0), .val (.int p1), .val (.int p2), .val (.int p3), .val (.ref ka), .val (.ref kb), .val (.ref sa), .val (.ref sb), .val (.ref ma), .val (.ref mb), .val (.ref rp), .val (.int (1 : Int32)), .val (.int (1 : Int32)), .val (.ref u1), .val (.ref f0), .val (.ref f1)] []))
  refine Go.by (fun t => XS.aload X288.here hx rfl (hb hby at_199) rfl rfl) ?_
  show Go p e below _ (T288.setTop (mkF m 201 #[.val (.int p0), .val (.int p1), .val (.int p2), .val (.int p3), .val (.ref ka), .val (.ref kb), .val (.ref sa), .val (.ref sb), .val (.ref ma), .val (.ref mb), .val (.ref rp), .val (.int (1 : Int32)), .val (.int (1 : Int32)), .val (.ref u1), .val (.ref f0), .val (.ref f1)] [(.ref f0)]))
  obtain ⟨cq289, kq289, q289a, q289b, q289c⟩ := isOf hZ e288 E_f0
  obtain ⟨_, _, ⟨T289, L289, k289, n289⟩, -, X289, ⟨Lc289, hQ289, l289, y289, z289⟩, st289⟩ := X288.virtualBack hx (y := (⟨"com/example/slicewright/slicewright/report/Report$Finding", "location", "()Ljava/lang/String;"⟩ : MethodName)) (z := (⟨"com/example/slicewright/slicewright/report/Report$Finding", "location", "()Ljava/lang/String;"⟩ : MethodName)) hown (mvT hZ (hw _ (List.mem_of_getElem? (i := 290) rfl))) (mvT hZ (hw _ (List.mem_of_getElem? (i := 291) rfl))) (notFace_of_selects (args := #[]) (mvT hZ (hw _ (List.mem_of_getElem? (i := 293) rfl)))) (mvT hZ (hw _ (List.mem_of_getElem? (i := 293) rfl))) (mvT hZ (hw _ (List.mem_of_getElem? (i := 292) rfl))) (by decide) (backOf (W := 0) (rm38 l Z a0 hw [] f0 sa T281.heap n0 Fl0) hZ (hw _ (List.mem_of_getElem? (i := 294) rfl)) (hw _ (List.mem_of_getElem? (i := 135) rfl)) (by decide) (by decide)) q289a q289c (g := (mkF m 201 #[.val (.int p0), .val (.int p1), .val (.int p2), .val (.int p3), .val (.ref ka), .val (.ref kb), .val (.ref sa), .val (.ref sb), .val (.ref ma), .val (.ref mb), .val (.ref rp), .val (.int (1 : Int32)), .val (.int (1 : Int32)), .val (.ref u1), .val (.ref f0), .val (.ref f1)] [(.ref f0)])) rfl (by rw [hml]; rfl) (Steps.refl _) (argsL := []) (rest := []) (lenOf pd_9 rfl) rfl (by show 2 * 0 + _ ≤ _; exact Nat.le_of_eq rfl) (hb hby at_201) (fun _ _ => ⟨rfl, e288, (by decide : 45 + 0 ≤ _), (by decide : 278 + 0 ≤ _)⟩)
  dsimp only [Pt.U, Pt.locs, Pt.cells, Pt.slots] at X289 l289 y289 z289 st289 hQ289
  subst y289 z289
  obtain ⟨rfl, Nq289, e289⟩ := hQ289
  have N289 : Fr n0 L289 := by rw [l289]; exact Fr.app N288 Nq289
  clear l289
  refine Go.by (fun t => st289.trans) ?_
  replace X289 := Stand.num (C := 45) (S := 278) X289 rfl rfl
  show Go p e below _ (T289.setTop (mkF m 204 #[.val (.int p0), .val (.int p1), .val (.int p2), .val (.int p3), .val (.ref ka), .val (.ref kb), .val (.ref sa), .val (.ref sb), .val (.ref ma), .val (.ref mb), .val (.ref rp), .val (.int (1 : Int32)), .val (.int (1 : Int32)), .val (.ref u1), .val (.ref f0), .val (.ref f1)] [(.ref sa)]))
  show Go p e below _ (T289.setTop (mkF m 204 #[.val (.int p0), .val (.int p1), .val (.int p2), .val (.int p3), .val (.ref ka), .val (.ref kb), .val (.ref sa), .val (.ref sb), .val (.ref ma), .val (.ref mb), .val (.ref rp), .val (.int (1 : Int32)), .val (.int (1 : Int32)), .val (.ref u1), .val (.ref f0), .val (.ref f1)] [(.ref sa)]))
  refine Go.by (fun t => XS.aload X289.here hx rfl (hb hby at_204) rfl rfl) ?_
  show Go p e below _ (T289.setTop (mkF m 206 #[.val (.int p0), .val (.int p1), .val (.int p2), .val (.int p3), .val (.ref ka), .val (.ref kb), .val (.ref sa), .val (.ref sb), .val (.ref ma), .val (.ref mb), .val (.ref rp), .val (.int (1 : Int32)), .val (.int (1 : Int32)), .val (.ref u1), .val (.ref f0), .val (.ref f1)] [(.ref sa), (.ref sa)]))
  obtain ⟨cq290, kq290, q290a, q290b, q290c⟩ := isOf hZ e289 E_sa
  obtain ⟨_, _, ⟨T290, L290, k290, n290⟩, -, X290, ⟨Lc290, hQ290, l290, y290, z290⟩, st290⟩ := X289.virtualBack hx (y := (⟨"java/lang/String", "equals", "(Ljava/lang/Object;)Z"⟩ : MethodName)) (z := (⟨"java/lang/String", "equals", "(Ljava/lang/Object;)Z"⟩ : MethodName)) hown (mvT hZ (hw _ (List.mem_of_getElem? (i := 295) rfl))) (mvT hZ (hw _ (List.mem_of_getElem? (i := 296) rfl))) (notFace_of_selects (args := #[]) (mvT hZ (hw _ (List.mem_of_getElem? (i := 298) rfl)))) (mvT hZ (hw _ (List.mem_of_getElem? (i := 298) rfl))) (mvT hZ (hw _ (List.mem_of_getElem? (i := 297) rfl))) (by decide) (backOf (W := 0) (rm39 l Z a0 hw [] sa T281.heap n0) hZ (hw _ (List.mem_of_getElem? (i := 299) rfl)) (hw _ (List.mem_of_getElem? (i := 42) rfl)) (by decide) (by decide)) q290a q290c (g := (mkF m 206 #[.val (.int p0), .val (.int p1), .val (.int p2), .val (.int p3), .val (.ref ka), .val (.ref kb), .val (.ref sa), .val (.ref sb), .val (.ref ma), .val (.ref mb), .val (.ref rp), .val (.int (1 : Int32)), .val (.int (1 : Int32)), .val (.ref u1), .val (.ref f0), .val (.ref f1)] [(.ref sa), (.ref sa)])) rfl (by rw [hml]; rfl) (Steps.refl _) (argsL := [(.ref sa)]) (rest := []) (lenOf pd_10 rfl) rfl (by show 2 * 0 + _ ≤ _; exact Nat.le_of_eq rfl) (hb hby at_206) (fun _ _ => ⟨rfl, e289, (by decide : 45 + 0 ≤ _), (by decide : 278 + 0 ≤ _)⟩)
  dsimp only [Pt.U, Pt.locs, Pt.cells, Pt.slots] at X290 l290 y290 z290 st290 hQ290
  subst y290 z290
  obtain ⟨rfl, Nq290, e290⟩ := hQ290
  have N290 : Fr n0 L290 := by rw [l290]; exact Fr.app N289 Nq290
  clear l290
  refine Go.by (fun t => st290.trans) ?_
  replace X290 := Stand.num (C := 45) (S := 278) X290 rfl rfl
  show Go p e below _ (T290.setTop (mkF m 209 #[.val (.int p0), .val (.int p1), .val (.int p2), .val (.int p3), .val (.ref ka), .val (.ref kb), .val (.ref sa), .val (.ref sb), .val (.ref ma), .val (.ref mb), .val (.ref rp), .val (.int (1 : Int32)), .val (.int (1 : Int32)), .val (.ref u1), .val (.ref f0), .val (.ref f1)] [(.int (1 : Int32))]))
  refine Go.by (fun t => XS.ifNo X290.here hx rfl (hb hby at_209) rfl ((if0 _ _).trans (feq (by decide : ¬ ((1 : Int32) = (0 : Int32)))).1)) ?_
  show Go p e below _ (T290.setTop (mkF m 212 #[.val (.int p0), .val (.int p1), .val (.int p2), .val (.int p3), .val (.ref ka), .val (.ref kb), .val (.ref sa), .val (.ref sb), .val (.ref ma), .val (.ref mb), .val (.ref rp), .val (.int (1 : Int32)), .val (.int (1 : Int32)), .val (.ref u1), .val (.ref f0), .val (.ref f1)] []))
  show Go p e below _ (T290.setTop (mkF m 212 #[.val (.int p0), .val (.int p1), .val (.int p2), .val (.int p3), .val (.ref ka), .val (.ref kb), .val (.ref sa), .val (.ref sb), .val (.ref ma), .val (.ref mb), .val (.ref rp), .val (.int (1 : Int32)), .val (.int (1 : Int32)), .val (.ref u1), .val (.ref f0), .val (.ref f1)] []))
  refine Go.by (fun t => XS.aload X290.here hx rfl (hb hby at_212) rfl rfl) ?_
  show Go p e below _ (T290.setTop (mkF m 214 #[.val (.int p0), .val (.int p1), .val (.int p2), .val (.int p3), .val (.ref ka), .val (.ref kb), .val (.ref sa), .val (.ref sb), .val (.ref ma), .val (.ref mb), .val (.ref rp), .val (.int (1 : Int32)), .val (.int (1 : Int32)), .val (.ref u1), .val (.ref f0), .val (.ref f1)] [(.ref f0)]))
  obtain ⟨cq291, kq291, q291a, q291b, q291c⟩ := isOf hZ e290 E_f0
  obtain ⟨_, _, ⟨T291, L291, k291, n291⟩, -, X291, ⟨Lc291, hQ291, l291, y291, z291⟩, st291⟩ := X290.virtualBack hx (y := (⟨"com/example/slicewright/slicewright/report/Report$Finding", "message", "()Ljava/lang/String;"⟩ : MethodName)) (z := (⟨"com/example/slicewright/slicewright/report/Report$Finding", "message", "()Ljava/lang/String;"⟩ : MethodName)) hown (mvT hZ (hw _ (List.mem_of_getElem? (i := 300) rfl))) (mvT hZ (hw _ (List.mem_of_getElem? (i := 301) rfl))) (notFace_of_selects (args := #[]) (mvT hZ (hw _ (List.mem_of_getElem? (i := 303) rfl)))) (mvT hZ (hw _ (List.mem_of_getElem? (i := 303) rfl))) (mvT hZ (hw _ (List.mem_of_getElem? (i := 302) rfl))) (by decide) (backOf (W := 0) (rm40 l Z a0 hw [] f0 ma T281.heap n0 Fm0) hZ (hw _ (List.mem_of_getElem? (i := 304) rfl)) (hw _ (List.mem_of_getElem? (i := 135) rfl)) (by decide) (by decide)) q291a q291c (g := (mkF m 214 #[.val (.int p0), .val (.int p1), .val (.int p2), .val (.int p3), .val (.ref ka), .val (.ref kb), .val (.ref sa), .val (.ref sb), .val (.ref ma), .val (.ref mb), .val (.ref rp), .val (.int (1 : Int32)), .val (.int (1 : Int32)), .val (.ref u1), .val (.ref f0), .val (.ref f1)] [(.ref f0)])) rfl (by rw [hml]; rfl) (Steps.refl _) (argsL := []) (rest := []) (lenOf pd_9 rfl) rfl (by show 2 * 0 + _ ≤ _; exact Nat.le_of_eq rfl) (hb hby at_214) (fun _ _ => ⟨rfl, e290, (by decide : 45 + 0 ≤ _), (by decide : 278 + 0 ≤ _)⟩)
  dsimp only [Pt.U, Pt.locs, Pt.cells, Pt.slots] at X291 l291 y291 z291 st291 hQ291
  subst y291 z291
  obtain ⟨rfl, Nq291, e291⟩ := hQ291
  have N291 : Fr n0 L291 := by rw [l291]; exact Fr.app N290 Nq291
  clear l291
  refine Go.by (fun t => st291.trans) ?_
  replace X291 := Stand.num (C := 45) (S := 278) X291 rfl rfl
  show Go p e below _ (T291.setTop (mkF m 217 #[.val (.int p0), .val (.int p1), .val (.int p2), .val (.int p3), .val (.ref ka), .val (.ref kb), .val (.ref sa), .val (.ref sb), .val (.ref ma), .val (.ref mb), .val (.ref rp), .val (.int (1 : Int32)), .val (.int (1 : Int32)), .val (.ref u1), .val (.ref f0), .val (.ref f1)] [(.ref ma)]))
  show Go p e below _ (T291.setTop (mkF m 217 #[.val (.int p0), .val (.int p1), .val (.int p2), .val (.int p3), .val (.ref ka), .val (.ref kb), .val (.ref sa), .val (.ref sb), .val (.ref ma), .val (.ref mb), .val (.ref rp), .val (.int (1 : Int32)), .val (.int (1 : Int32)), .val (.ref u1), .val (.ref f0), .val (.ref f1)] [(.ref ma)]))
  refine Go.by (fun t => XS.aload X291.here hx rfl (hb hby at_217) rfl rfl) ?_
  show Go p e below _ (T291.setTop (mkF m 219 #[.val (.int p0), .val (.int p1), .val (.int p2), .val (.int p3), .val (.ref ka), .val (.ref kb), .val (.ref sa), .val (.ref sb), .val (.ref ma), .val (.ref mb), .val (.ref rp), .val (.int (1 : Int32)), .val (.int (1 : Int32)), .val (.ref u1), .val (.ref f0), .val (.ref f1)] [(.ref ma), (.ref ma)]))
  obtain ⟨cq292, kq292, q292a, q292b, q292c⟩ := isOf hZ e291 E_ma
  obtain ⟨_, _, ⟨T292, L292, k292, n292⟩, -, X292, ⟨Lc292, hQ292, l292, y292, z292⟩, st292⟩ := X291.virtualBack hx (y := (⟨"java/lang/String", "equals", "(Ljava/lang/Object;)Z"⟩ : MethodName)) (z := (⟨"java/lang/String", "equals", "(Ljava/lang/Object;)Z"⟩ : MethodName)) hown (mvT hZ (hw _ (List.mem_of_getElem? (i := 295) rfl))) (mvT hZ (hw _ (List.mem_of_getElem? (i := 296) rfl))) (notFace_of_selects (args := #[]) (mvT hZ (hw _ (List.mem_of_getElem? (i := 298) rfl)))) (mvT hZ (hw _ (List.mem_of_getElem? (i := 298) rfl))) (mvT hZ (hw _ (List.mem_of_getElem? (i := 297) rfl))) (by decide) (backOf (W := 0) (rm39 l Z a0 hw [] ma T281.heap n0) hZ (hw _ (List.mem_of_getElem? (i := 299) rfl)) (hw _ (List.mem_of_getElem? (i := 42) rfl)) (by decide) (by decide)) q292a q292c (g := (mkF m 219 #[.val (.int p0), .val (.int p1), .val (.int p2), .val (.int p3), .val (.ref ka), .val (.ref kb), .val (.ref sa), .val (.ref sb), .val (.ref ma), .val (.ref mb), .val (.ref rp), .val (.int (1 : Int32)), .val (.int (1 : Int32)), .val (.ref u1), .val (.ref f0), .val (.ref f1)] [(.ref ma), (.ref ma)])) rfl (by rw [hml]; rfl) (Steps.refl _) (argsL := [(.ref ma)]) (rest := []) (lenOf pd_10 rfl) rfl (by show 2 * 0 + _ ≤ _; exact Nat.le_of_eq rfl) (hb hby at_219) (fun _ _ => ⟨rfl, e291, (by decide : 45 + 0 ≤ _), (by decide : 278 + 0 ≤ _)⟩)
  dsimp only [Pt.U, Pt.locs, Pt.cells, Pt.slots] at X292 l292 y292 z292 st292 hQ292
  subst y292 z292
  obtain ⟨rfl, Nq292, e292⟩ := hQ292
  have N292 : Fr n0 L292 := by rw [l292]; exact Fr.app N291 Nq292
  clear l292
  refine Go.by (fun t => st292.trans) ?_
  replace X292 := Stand.num (C := 45) (S := 278) X292 rfl rfl
  show Go p e below _ (T292.setTop (mkF m 222 #[.val (.int p0), .val (.int p1), .val (.int p2), .val (.int p3), .val (.ref ka), .val (.ref kb), .val (.ref sa), .val (.ref sb), .val (.ref ma), .val (.ref mb), .val (.ref rp), .val (.int (1 : Int32)), .val (.int (1 : Int32)), .val (.ref u1), .val (.ref f0), .val (.ref f1)] [(.int (1 : Int32))]))
  refine Go.by (fun t => XS.ifNo X292.here hx rfl (hb hby at_222) rfl ((if0 _ _).trans (feq (by decide : ¬ ((1 : Int32) = (0 : Int32)))).1)) ?_
  show Go p e below _ (T292.setTop (mkF m 225 #[.val (.int p0), .val (.int p1), .val (.int p2), .val (.int p3), .val (.ref ka), .val (.ref kb), .val (.ref sa), .val (.ref sb), .val (.ref ma), .val (.ref mb), .val (.ref rp), .val (.int (1 : Int32)), .val (.int (1 : Int32)), .val (.ref u1), .val (.ref f0), .val (.ref f1)] []))
  show Go p e below _ (T292.setTop (mkF m 225 #[.val (.int p0), .val (.int p1), .val (.int p2), .val (.int p3), .val (.ref ka), .val (.ref kb), .val (.ref sa), .val (.ref sb), .val (.ref ma), .val (.ref mb), .val (.ref rp), .val (.int (1 : Int32)), .val (.int (1 : Int32)), .val (.ref u1), .val (.ref f0), .val (.ref f1)] []))
  refine Go.by (fun t => XS.aload X292.here hx rfl (hb hby at_225) rfl rfl) ?_
  show Go p e below _ (T292.setTop (mkF m 227 #[.val (.int p0), .val (.int p1), .val (.int p2), .val (.int p3), .val (.ref ka), .val (.ref kb), .val (.ref sa), .val (.ref sb), .val (.ref ma), .val (.ref mb), .val (.ref rp), .val (.int (1 : Int32)), .val (.int (1 : Int32)), .val (.ref u1), .val (.ref f0), .val (.ref f1)] [(.ref f1)]))
  obtain ⟨cq293, kq293, q293a, q293b, q293c⟩ := isOf hZ e292 E_f1
  obtain ⟨_, _, ⟨T293, L293, k293, n293⟩, -, X293, ⟨Lc293, hQ293, l293, y293, z293⟩, st293⟩ := X292.virtualBack hx (y := (⟨"com/example/slicewright/slicewright/report/Report$Finding", "kind", "()Lcom/example/slicewright/slicewright/report/ErrorKind;"⟩ : MethodName)) (z := (⟨"com/example/slicewright/slicewright/report/Report$Finding", "kind", "()Lcom/example/slicewright/slicewright/report/ErrorKind;"⟩ : MethodName)) hown (mvT hZ (hw _ (List.mem_of_getElem? (i := 285) rfl))) (mvT hZ (hw _ (List.mem_of_getElem? (i := 286) rfl))) (notFace_of_selects (args := #[]) (mvT hZ (hw _ (List.mem_of_getElem? (i := 288) rfl)))) (mvT hZ (hw _ (List.mem_of_getElem? (i := 288) rfl))) (mvT hZ (hw _ (List.mem_of_getElem? (i := 287) rfl))) (by decide) (backOf (W := 0) (rm37 l Z a0 hw [] f1 kb T281.heap n0 Fk1) hZ (hw _ (List.mem_of_getElem? (i := 289) rfl)) (hw _ (List.mem_of_getElem? (i := 135) rfl)) (by decide) (by decide)) q293a q293c (g := (mkF m 227 #[.val (.int p0), .val (.int p1), .val (.int p2), .val (.int p3), .val (.ref ka), .val (.ref kb), .val (.ref sa), .val (.ref sb), .val (.ref ma), .val (.ref mb), .val (.ref rp), .val (.int (1 : Int32)), .val (.int (1 : Int32)), .val (.ref u1), .val (.ref f0), .val (.ref f1)] [(.ref f1)])) rfl (by rw [hml]; rfl) (Steps.refl _) (argsL := []) (rest := []) (lenOf pd_8 rfl) rfl (by show 2 * 0 + _ ≤ _; exact Nat.le_of_eq rfl) (hb hby at_227) (fun _ _ => ⟨rfl, e292, (by decide : 45 + 0 ≤ _), (by decide : 278 + 0 ≤ _)⟩)
  dsimp only [Pt.U, Pt.locs, Pt.cells, Pt.slots] at X293 l293 y293 z293 st293 hQ293
  subst y293 z293
  obtain ⟨rfl, Nq293, e293⟩ := hQ293
  have N293 : Fr n0 L293 := by rw [l293]; exact Fr.app N292 Nq293
  clear l293
  refine Go.by (fun t => st293.trans) ?_
  replace X293 := Stand.num (C := 45) (S := 278) X293 rfl rfl
  show Go p e below _ (T293.setTop (mkF m 230 #[.val (.int p0), .val (.int p1), .val (.int p2), .val (.int p3), .val (.ref ka), .val (.ref kb), .val (.ref sa), .val (.ref sb), .val (.ref ma), .val (.ref mb), .val (.ref rp), .val (.int (1 : Int32)), .val (.int (1 : Int32)), .val (.ref u1), .val (.ref f0), .val (.ref f1)] [(.ref kb)]))
  show Go p e below _ (T293.setTop (mkF m 230 #[.val (.int p0), .val (.int p1), .val (.int p2), .val (.int p3), .val (.ref ka), .val (.ref kb), .val (.ref sa), .val (.ref sb), .val (.ref ma), .val (.ref mb), .val (.ref rp), .val (.int (1 : Int32)), .val (.int (1 : Int32)), .val (.ref u1), .val (.ref f0), .val (.ref f1)] [(.ref kb)]))
  refine Go.by (fun t => XS.aload X293.here hx rfl (hb hby at_230) rfl rfl) ?_
  show Go p e below _ (T293.setTop (mkF m 232 #[.val (.int p0), .val (.int p1), .val (.int p2), .val (.int p3), .val (.ref ka), .val (.ref kb), .val (.ref sa), .val (.ref sb), .val (.ref ma), .val (.ref mb), .val (.ref rp), .val (.int (1 : Int32)), .val (.int (1 : Int32)), .val (.ref u1), .val (.ref f0), .val (.ref f1)] [(.ref kb), (.ref kb)]))
  refine Go.by (fun t => Jvm.RoadKit.acmp (g := (mkF m 232 #[.val (.int p0), .val (.int p1), .val (.int p2), .val (.int p3), .val (.ref ka), .val (.ref kb), .val (.ref sa), .val (.ref sb), .val (.ref ma), .val (.ref mb), .val (.ref rp), .val (.int (1 : Int32)), .val (.int (1 : Int32)), .val (.ref u1), .val (.ref f0), .val (.ref f1)] [(.ref kb), (.ref kb)])) X293 hx rfl rfl rfl (pc0 := 232) (pc' := 235) (same := true) rfl (hb hby at_232) rfl (decide_eq_true rfl) (by decide) (by decide)) ?_
  show Go p e below _ (T293.setTop (mkF m 235 #[.val (.int p0), .val (.int p1), .val (.int p2), .val (.int p3), .val (.ref ka), .val (.ref kb), .val (.ref sa), .val (.ref sb), .val (.ref ma), .val (.ref mb), .val (.ref rp), .val (.int (1 : Int32)), .val (.int (1 : Int32)), .val (.ref u1), .val (.ref f0), .val (.ref f1)] []))
  show Go p e below _ (T293.setTop (mkF m 235 #[.val (.int p0), .val (.int p1), .val (.int p2), .val (.int p3), .val (.ref ka), .val (.ref kb), .val (.ref sa), .val (.ref sb), .val (.ref ma), .val (.ref mb), .val (.ref rp), .val (.int (1 : Int32)), .val (.int (1 : Int32)), .val (.ref u1), .val (.ref f0), .val (.ref f1)] []))
  refine Go.by (fun t => XS.aload X293.here hx rfl (hb hby at_235) rfl rfl) ?_
  show Go p e below _ (T293.setTop (mkF m 237 #[.val (.int p0), .val (.int p1), .val (.int p2), .val (.int p3), .val (.ref ka), .val (.ref kb), .val (.ref sa), .val (.ref sb), .val (.ref ma), .val (.ref mb), .val (.ref rp), .val (.int (1 : Int32)), .val (.int (1 : Int32)), .val (.ref u1), .val (.ref f0), .val (.ref f1)] [(.ref f1)]))
  obtain ⟨cq294, kq294, q294a, q294b, q294c⟩ := isOf hZ e293 E_f1
  obtain ⟨_, _, ⟨T294, L294, k294, n294⟩, -, X294, ⟨Lc294, hQ294, l294, y294, z294⟩, st294⟩ := X293.virtualBack hx (y := (⟨"com/example/slicewright/slicewright/report/Report$Finding", "location", "()Ljava/lang/String;"⟩ : MethodName)) (z := (⟨"com/example/slicewright/slicewright/report/Report$Finding", "location", "()Ljava/lang/String;"⟩ : MethodName)) hown (mvT hZ (hw _ (List.mem_of_getElem? (i := 290) rfl))) (mvT hZ (hw _ (List.mem_of_getElem? (i := 291) rfl))) (notFace_of_selects (args := #[]) (mvT hZ (hw _ (List.mem_of_getElem? (i := 293) rfl)))) (mvT hZ (hw _ (List.mem_of_getElem? (i := 293) rfl))) (mvT hZ (hw _ (List.mem_of_getElem? (i := 292) rfl))) (by decide) (backOf (W := 0) (rm38 l Z a0 hw [] f1 sb T281.heap n0 Fl1) hZ (hw _ (List.mem_of_getElem? (i := 294) rfl)) (hw _ (List.mem_of_getElem? (i := 135) rfl)) (by decide) (by decide)) q294a q294c (g := (mkF m 237 #[.val (.int p0), .val (.int p1), .val (.int p2), .val (.int p3), .val (.ref ka), .val (.ref kb), .val (.ref sa), .val (.ref sb), .val (.ref ma), .val (.ref mb), .val (.ref rp), .val (.int (1 : Int32)), .val (.int (1 : Int32)), .val (.ref u1), .val (.ref f0), .val (.ref f1)] [(.ref f1)])) rfl (by rw [hml]; rfl) (Steps.refl _) (argsL := []) (rest := []) (lenOf pd_9 rfl) rfl (by show 2 * 0 + _ ≤ _; exact Nat.le_of_eq rfl) (hb hby at_237) (fun _ _ => ⟨rfl, e293, (by decide : 45 + 0 ≤ _), (by decide : 278 + 0 ≤ _)⟩)
  dsimp only [Pt.U, Pt.locs, Pt.cells, Pt.slots] at X294 l294 y294 z294 st294 hQ294
  subst y294 z294
  obtain ⟨rfl, Nq294, e294⟩ := hQ294
  have N294 : Fr n0 L294 := by rw [l294]; exact Fr.app N293 Nq294
  clear l294
  refine Go.by (fun t => st294.trans) ?_
  replace X294 := Stand.num (C := 45) (S := 278) X294 rfl rfl
  show Go p e below _ (T294.setTop (mkF m 240 #[.val (.int p0), .val (.int p1), .val (.int p2), .val (.int p3), .val (.ref ka), .val (.ref kb), .val (.ref sa), .val (.ref sb), .val (.ref ma), .val (.ref mb), .val (.ref rp), .val (.int (1 : Int32)), .val (.int (1 : Int32)), .val (.ref u1), .val (.ref f0), .val (.ref f1)] [(.ref sb)]))
  show Go p e below _ (T294.setTop (mkF m 240 #[.val (.int p0), .val (.int p1), .val (.int p2), .val (.int p3), .val (.ref ka), .val (.ref kb), .val (.ref sa), .val (.ref sb), .val (.ref ma), .val (.ref mb), .val (.ref rp), .val (.int (1 : Int32)), .val (.int (1 : Int32)), .val (.ref u1), .val (.ref f0), .val (.ref f1)] [(.ref sb)]))
  refine Go.by (fun t => XS.aload X294.here hx rfl (hb hby at_240) rfl rfl) ?_
  show Go p e below _ (T294.setTop (mkF m 242 #[.val (.int p0), .val (.int p1), .val (.int p2), .val (.int p3), .val (.ref ka), .val (.ref kb), .val (.ref sa), .val (.ref sb), .val (.ref ma), .val (.ref mb), .val (.ref rp), .val (.int (1 : Int32)), .val (.int (1 : Int32)), .val (.ref u1), .val (.ref f0), .val (.ref f1)] [(.ref sb), (.ref sb)]))
  obtain ⟨cq295, kq295, q295a, q295b, q295c⟩ := isOf hZ e294 E_sb
  obtain ⟨_, _, ⟨T295, L295, k295, n295⟩, -, X295, ⟨Lc295, hQ295, l295, y295, z295⟩, st295⟩ := X294.virtualBack hx (y := (⟨"java/lang/String", "equals", "(Ljava/lang/Object;)Z"⟩ : MethodName)) (z := (⟨"java/lang/String", "equals", "(Ljava/lang/Object;)Z"⟩ : MethodName)) hown (mvT hZ (hw _ (List.mem_of_getElem? (i := 295) rfl))) (mvT hZ (hw _ (List.mem_of_getElem? (i := 296) rfl))) (notFace_of_selects (args := #[]) (mvT hZ (hw _ (List.mem_of_getElem? (i := 298) rfl)))) (mvT hZ (hw _ (List.mem_of_getElem? (i := 298) rfl))) (mvT hZ (hw _ (List.mem_of_getElem? (i := 297) rfl))) (by decide) (backOf (W := 0) (rm39 l Z a0 hw [] sb T281.heap n0) hZ (hw _ (List.mem_of_getElem? (i := 299) rfl)) (hw _ (List.mem_of_getElem? (i := 42) rfl)) (by decide) (by decide)) q295a q295c (g := (mkF m 242 #[.val (.int p0), .val (.int p1), .val (.int p2), .val (.int p3), .val (.ref ka), .val (.ref kb), .val (.ref sa), .val (.ref sb), .val (.ref ma), .val (.ref mb), .val (.ref rp), .val (.int (1 : Int32)), .val (.int (1 : Int32)), .val (.ref u1), .val (.ref f0), .val (.ref f1)] [(.ref sb), (.ref sb)])) rfl (by rw [hml]; rfl) (Steps.refl _) (argsL := [(.ref sb)]) (rest := []) (lenOf pd_10 rfl) rfl (by show 2 * 0 + _ ≤ _; exact Nat.le_of_eq rfl) (hb hby at_242) (fun _ _ => ⟨rfl, e294, (by decide : 45 + 0 ≤ _), (by decide : 278 + 0 ≤ _)⟩)
  dsimp only [Pt.U, Pt.locs, Pt.cells, Pt.slots] at X295 l295 y295 z295 st295 hQ295
  subst y295 z295
  obtain ⟨rfl, Nq295, e295⟩ := hQ295
  have N295 : Fr n0 L295 := by rw [l295]; exact Fr.app N294 Nq295
  clear l295
  refine Go.by (fun t => st295.trans) ?_
  replace X295 := Stand.num (C := 45) (S := 278) X295 rfl rfl
  show Go p e below _ (T295.setTop (mkF m 245 #[.val (.int p0), .val (.int p1), .val (.int p2), .val (.int p3), .val (.ref ka), .val (.ref kb), .val (.ref sa), .val (.ref sb), .val (.ref ma), .val (.ref mb), .val (.ref rp), .val (.int (1 : Int32)), .val (.int (1 : Int32)), .val (.ref u1), .val (.ref f0), .val (.ref f1)] [(.int (1 : Int32))]))
  refine Go.by (fun t => XS.ifNo X295.here hx rfl (hb hby at_245) rfl ((if0 _ _).trans (feq (by decide : ¬ ((1 : Int32) = (0 : Int32)))).1)) ?_
  show Go p e below _ (T295.setTop (mkF m 248 #[.val (.int p0), .val (.int p1), .val (.int p2), .val (.int p3), .val (.ref ka), .val (.ref kb), .val (.ref sa), .val (.ref sb), .val (.ref ma), .val (.ref mb), .val (.ref rp), .val (.int (1 : Int32)), .val (.int (1 : Int32)), .val (.ref u1), .val (.ref f0), .val (.ref f1)] []))
  show Go p e below _ (T295.setTop (mkF m 248 #[.val (.int p0), .val (.int p1), .val (.int p2), .val (.int p3), .val (.ref ka), .val (.ref kb), .val (.ref sa), .val (.ref sb), .val (.ref ma), .val (.ref mb), .val (.ref rp), .val (.int (1 : Int32)), .val (.int (1 : Int32)), .val (.ref u1), .val (.ref f0), .val (.ref f1)] []))
  refine Go.by (fun t => XS.aload X295.here hx rfl (hb hby at_248) rfl rfl) ?_
  show Go p e below _ (T295.setTop (mkF m 250 #[.val (.int p0), .val (.int p1), .val (.int p2), .val (.int p3), .val (.ref ka), .val (.ref kb), .val (.ref sa), .val (.ref sb), .val (.ref ma), .val (.ref mb), .val (.ref rp), .val (.int (1 : Int32)), .val (.int (1 : Int32)), .val (.ref u1), .val (.ref f0), .val (.ref f1)] [(.ref f1)]))
  obtain ⟨cq296, kq296, q296a, q296b, q296c⟩ := isOf hZ e295 E_f1
  obtain ⟨_, _, ⟨T296, L296, k296, n296⟩, -, X296, ⟨Lc296, hQ296, l296, y296, z296⟩, st296⟩ := X295.virtualBack hx (y := (⟨"com/example/slicewright/slicewright/report/Report$Finding", "message", "()Ljava/lang/String;"⟩ : MethodName)) (z := (⟨"com/example/slicewright/slicewright/report/Report$Finding", "message", "()Ljava/lang/String;"⟩ : MethodName)) hown (mvT hZ (hw _ (List.mem_of_getElem? (i := 300) rfl))) (mvT hZ (hw _ (List.mem_of_getElem? (i := 301) rfl))) (notFace_of_selects (args := #[]) (mvT hZ (hw _ (List.mem_of_getElem? (i := 303) rfl)))) (mvT hZ (hw _ (List.mem_of_getElem? (i := 303) rfl))) (mvT hZ (hw _ (List.mem_of_getElem? (i := 302) rfl))) (by decide) (backOf (W := 0) (rm40 l Z a0 hw [] f1 mb T281.heap n0 Fm1) hZ (hw _ (List.mem_of_getElem? (i := 304) rfl)) (hw _ (List.mem_of_getElem? (i := 135) rfl)) (by decide) (by decide)) q296a q296c (g := (mkF m 250 #[.val (.int p0), .val (.int p1), .val (.int p2), .val (.int p3), .val (.ref ka), .val (.ref kb), .val (.ref sa), .val (.ref sb), .val (.ref ma), .val (.ref mb), .val (.ref rp), .val (.int (1 : Int32)), .val (.int (1 : Int32)), .val (.ref u1), .val (.ref f0), .val (.ref f1)] [(.ref f1)])) rfl (by rw [hml]; rfl) (Steps.refl _) (argsL := []) (rest := []) (lenOf pd_9 rfl) rfl (by show 2 * 0 + _ ≤ _; exact Nat.le_of_eq rfl) (hb hby at_250) (fun _ _ => ⟨rfl, e295, (by decide : 45 + 0 ≤ _), (by decide : 278 + 0 ≤ _)⟩)
  dsimp only [Pt.U, Pt.locs, Pt.cells, Pt.slots] at X296 l296 y296 z296 st296 hQ296
  subst y296 z296
  obtain ⟨rfl, Nq296, e296⟩ := hQ296
  have N296 : Fr n0 L296 := by rw [l296]; exact Fr.app N295 Nq296
  clear l296
  refine Go.by (fun t => st296.trans) ?_
  replace X296 := Stand.num (C := 45) (S := 278) X296 rfl rfl
  show Go p e below _ (T296.setTop (mkF m 253 #[.val (.int p0), .val (.int p1), .val (.int p2), .val (.int p3), .val (.ref ka), .val (.ref kb), .val (.ref sa), .val (.ref sb), .val (.ref ma), .val (.ref mb), .val (.ref rp), .val (.int (1 : Int32)), .val (.int (1 : Int32)), .val (.ref u1), .val (.ref f0), .val (.ref f1)] [(.ref mb)]))
  show Go p e below _ (T296.setTop (mkF m 253 #[.val (.int p0), .val (.int p1), .val (.int p2), .val (.int p3), .val (.ref ka), .val (.ref kb), .val (.ref sa), .val (.ref sb), .val (.ref ma), .val (.ref mb), .val (.ref rp), .val (.int (1 : Int32)), .val (.int (1 : Int32)), .val (.ref u1), .val (.ref f0), .val (.ref f1)] [(.ref mb)]))
  refine Go.by (fun t => XS.aload X296.here hx rfl (hb hby at_253) rfl rfl) ?_
  show Go p e below _ (T296.setTop (mkF m 255 #[.val (.int p0), .val (.int p1), .val (.int p2), .val (.int p3), .val (.ref ka), .val (.ref kb), .val (.ref sa), .val (.ref sb), .val (.ref ma), .val (.ref mb), .val (.ref rp), .val (.int (1 : Int32)), .val (.int (1 : Int32)), .val (.ref u1), .val (.ref f0), .val (.ref f1)] [(.ref mb), (.ref mb)]))
  obtain ⟨cq297, kq297, q297a, q297b, q297c⟩ := isOf hZ e296 E_mb
  obtain ⟨_, _, ⟨T297, L297, k297, n297⟩, -, X297, ⟨Lc297, hQ297, l297, y297, z297⟩, st297⟩ := X296.virtualBack hx (y := (⟨"java/lang/String", "equals", "(Ljava/lang/Object;)Z"⟩ : MethodName)) (z := (⟨"java/lang/String", "equals", "(Ljava/lang/Object;)Z"⟩ : MethodName)) hown (mvT hZ (hw _ (List.mem_of_getElem? (i := 295) rfl))) (mvT hZ (hw _ (List.mem_of_getElem? (i := 296) rfl))) (notFace_of_selects (args := #[]) (mvT hZ (hw _ (List.mem_of_getElem? (i := 298) rfl)))) (mvT hZ (hw _ (List.mem_of_getElem? (i := 298) rfl))) (mvT hZ (hw _ (List.mem_of_getElem? (i := 297) rfl))) (by decide) (backOf (W := 0) (rm39 l Z a0 hw [] mb T281.heap n0) hZ (hw _ (List.mem_of_getElem? (i := 299) rfl)) (hw _ (List.mem_of_getElem? (i := 42) rfl)) (by decide) (by decide)) q297a q297c (g := (mkF m 255 #[.val (.int p0), .val (.int p1), .val (.int p2), .val (.int p3), .val (.ref ka), .val (.ref kb), .val (.ref sa), .val (.ref sb), .val (.ref ma), .val (.ref mb), .val (.ref rp), .val (.int (1 : Int32)), .val (.int (1 : Int32)), .val (.ref u1), .val (.ref f0), .val (.ref f1)] [(.ref mb), (.ref mb)])) rfl (by rw [hml]; rfl) (Steps.refl _) (argsL := [(.ref mb)]) (rest := []) (lenOf pd_10 rfl) rfl (by show 2 * 0 + _ ≤ _; exact Nat.le_of_eq rfl) (hb hby at_255) (fun _ _ => ⟨rfl, e296, (by decide : 45 + 0 ≤ _), (by decide : 278 + 0 ≤ _)⟩)
  dsimp only [Pt.U, Pt.locs, Pt.cells, Pt.slots] at X297 l297 y297 z297 st297 hQ297
  subst y297 z297
  obtain ⟨rfl, Nq297, e297⟩ := hQ297
  have N297 : Fr n0 L297 := by rw [l297]; exact Fr.app N296 Nq297
  clear l297
  refine Go.by (fun t => st297.trans) ?_
  replace X297 := Stand.num (C := 45) (S := 278) X297 rfl rfl
  show Go p e below _ (T297.setTop (mkF m 258 #[.val (.int p0), .val (.int p1), .val (.int p2), .val (.int p3), .val (.ref ka), .val (.ref kb), .val (.ref sa), .val (.ref sb), .val (.ref ma), .val (.ref mb), .val (.ref rp), .val (.int (1 : Int32)), .val (.int (1 : Int32)), .val (.ref u1), .val (.ref f0), .val (.ref f1)] [(.int (1 : Int32))]))
  refine Go.by (fun t => XS.ifNo X297.here hx rfl (hb hby at_258) rfl ((if0 _ _).trans (feq (by decide : ¬ ((1 : Int32) = (0 : Int32)))).1)) ?_
  show Go p e below _ (T297.setTop (mkF m 261 #[.val (.int p0), .val (.int p1), .val (.int p2), .val (.int p3), .val (.ref ka), .val (.ref kb), .val (.ref sa), .val (.ref sb), .val (.ref ma), .val (.ref mb), .val (.ref rp), .val (.int (1 : Int32)), .val (.int (1 : Int32)), .val (.ref u1), .val (.ref f0), .val (.ref f1)] []))
  show Go p e below _ (T297.setTop (mkF m 261 #[.val (.int p0), .val (.int p1), .val (.int p2), .val (.int p3), .val (.ref ka), .val (.ref kb), .val (.ref sa), .val (.ref sb), .val (.ref ma), .val (.ref mb), .val (.ref rp), .val (.int (1 : Int32)), .val (.int (1 : Int32)), .val (.ref u1), .val (.ref f0), .val (.ref f1)] []))
  refine Go.by (fun t => XS.aload X297.here hx rfl (hb hby at_261) rfl rfl) ?_
  show Go p e below _ (T297.setTop (mkF m 263 #[.val (.int p0), .val (.int p1), .val (.int p2), .val (.int p3), .val (.ref ka), .val (.ref kb), .val (.ref sa), .val (.ref sb), .val (.ref ma), .val (.ref mb), .val (.ref rp), .val (.int (1 : Int32)), .val (.int (1 : Int32)), .val (.ref u1), .val (.ref f0), .val (.ref f1)] [(.ref rp)]))
  obtain ⟨cq298, kq298, q298a, q298b, q298c⟩ := isOf hZ e297 E_rp
  obtain ⟨_, _, ⟨T298, L298, k298, n298⟩, -, X298, ⟨Lc298, hQ298, l298, y298, z298⟩, st298⟩ := X297.virtualBack hx (y := (⟨"com/example/slicewright/slicewright/report/Report", "slices", "()Ljava/util/List;"⟩ : MethodName)) (z := (⟨"com/example/slicewright/slicewright/report/Report", "slices", "()Ljava/util/List;"⟩ : MethodName)) hown (mvT hZ (hw _ (List.mem_of_getElem? (i := 305) rfl))) (mvT hZ (hw _ (List.mem_of_getElem? (i := 306) rfl))) (notFace_of_selects (args := #[]) (mvT hZ (hw _ (List.mem_of_getElem? (i := 308) rfl)))) (mvT hZ (hw _ (List.mem_of_getElem? (i := 308) rfl))) (mvT hZ (hw _ (List.mem_of_getElem? (i := 307) rfl))) (by decide) (backOf (W := 0) (rm41 l Z a0 hw [] rp l1 m1 m2 m3 T281.heap n0 Z0 F_sl E_l1 Mi1 Mi2 Mi3) hZ (hw _ (List.mem_of_getElem? (i := 309) rfl)) (hw _ (List.mem_of_getElem? (i := 79) rfl)) (by decide) (by decide)) q298a q298c (g := (mkF m 263 #[.val (.int p0), .val (.int p1), .val (.int p2), .val (.int p3), .val (.ref ka), .val (.ref kb), .val (.ref sa), .val (.ref sb), .val (.ref ma), .val (.ref mb), .val (.ref rp), .val (.int (1 : Int32)), .val (.int (1 : Int32)), .val (.ref u1), .val (.ref f0), .val (.ref f1)] [(.ref rp)])) rfl (by rw [hml]; rfl) (Steps.refl _) (argsL := []) (rest := []) (lenOf pd_5 rfl) rfl (by show 2 * 0 + _ ≤ _; exact Nat.le_of_eq rfl) (hb hby at_263) (fun _ _ => ⟨rfl, e297, (by decide : 45 + 1 ≤ _), (by decide : 278 + 2 ≤ _)⟩)
  dsimp only [Pt.U, Pt.locs, Pt.cells, Pt.slots] at X298 l298 y298 z298 st298 hQ298
  subst y298 z298
  obtain ⟨u2, rfl, sz_u2, Nq298, K298, E_u2, Fc_u2, Fl_u2⟩ := hQ298
  have N298 : Fr n0 L298 := by rw [l298]; exact Fr.app N297 Nq298
  clear l298
  refine Go.by (fun t => st298.trans) ?_
  replace X298 := Stand.num (C := 46) (S := 280) X298 rfl rfl
  have Sfw := (sf0 : ∀ x ∈ [], Safe Z EL T280.vm T281.heap x)
  replace CR := CR.trans (CHr.keep K298 Sfw CR.1)
  clear Sfw
  replace hk := Nat.le_trans hk K298.1
  replace Od := Od.keep K298 all0
  replace E_ka := E_ka.keep K298
  replace E_kb := E_kb.keep K298
  replace E_sa := E_sa.keep K298
  replace E_sb := E_sb.keep K298
  replace E_ma := E_ma.keep K298
  replace E_mb := E_mb.keep K298
  replace E_rp := E_rp.keep K298
  replace F_sl := F_sl.keep K298 nin0
  replace F_er := F_er.keep K298 nin0
  replace E_l1 := E_l1.keep K298
  replace F_size_l1 := F_size_l1.keep K298 nin0
  replace E_f0 := E_f0.keep K298
  replace Fk0 := Fk0.keep K298 nin0
  replace Fl0 := Fl0.keep K298 nin0
  replace Fm0 := Fm0.keep K298 nin0
  replace E_l2 := E_l2.keep K298
  replace F_size_l2 := F_size_l2.keep K298 nin0
  replace F_elementData_l2 := F_elementData_l2.keep K298 nin0
  replace E_f1 := E_f1.keep K298
  replace Fk1 := Fk1.keep K298 nin0
  replace Fl1 := Fl1.keep K298 nin0
  replace Fm1 := Fm1.keep K298 nin0
  replace V_ar := V_ar.keep K298 nin0
  replace E_u1 := E_u1.keep K298
  replace Fc_u1 := Fc_u1.keep K298 nin0
  replace Fl_u1 := Fl_u1.keep K298 nin0
  replace Z0 := Nat.le_trans Z0 K298.1
  show Go p e below _ (T298.setTop (mkF m 266 #[.val (.int p0), .val (.int p1), .val (.int p2), .val (.int p3), .val (.ref ka), .val (.ref kb), .val (.ref sa), .val (.ref sb), .val (.ref ma), .val (.ref mb), .val (.ref rp), .val (.int (1 : Int32)), .val (.int (1 : Int32)), .val (.ref u1), .val (.ref f0), .val (.ref f1)] [(.ref u2)]))
  obtain ⟨cq299, kq299, q299a, q299b, q299c⟩ := isOf hZ rfl E_u2
  obtain ⟨_, _, ⟨T299, L299, k299, n299⟩, -, X299, ⟨Lc299, hQ299, l299, y299, z299⟩, st299⟩ := X298.interfaceBack hx (xi := (⟨"java/util/List", "size", "()I"⟩ : MethodName)) (y := (⟨"java/util/Collections$UnmodifiableCollection", "size", "()I"⟩ : MethodName)) hown (mvT hZ (hw _ (List.mem_of_getElem? (i := 239) rfl))) (mvT hZ (hw _ (List.mem_of_getElem? (i := 240) rfl))) (mvT hZ (hw _ (List.mem_of_getElem? (i := 241) rfl))) (mvT hZ (hw _ (List.mem_of_getElem? (i := 242) rfl))) (mvT hZ (hw _ (List.mem_of_getElem? (i := 243) rfl))) (mvT hZ (hw _ (List.mem_of_getElem? (i := 244) rfl))) (mvT hZ (hw _ (List.mem_of_getElem? (i := 245) rfl))) (mvT hZ (hw _ (List.mem_of_getElem? (i := 246) rfl))) (by decide) (backOf (W := 0) (rm30 l Z a0 hw [] u2 l1 0 T298.heap n0 Fc_u2 E_l1 F_size_l1) hZ (hw _ (List.mem_of_getElem? (i := 247) rfl)) (hw _ (List.mem_of_getElem? (i := 232) rfl)) (by decide) (by decide)) q299a q299b q299c (g := (mkF m 266 #[.val (.int p0), .val (.int p1), .val (.int p2), .val (.int p3), .val (.ref ka), .val (.ref kb), .val (.ref sa), .val (.ref sb), .val (.ref ma), .val (.ref mb), .val (.ref rp), .val (.int (1 : Int32)), .val (.int (1 : Int32)), .val (.ref u1), .val (.ref f0), .val (.ref f1)] [(.ref u2)])) rfl (by rw [hml]; rfl) (Steps.refl _) (argsL := []) (rest := []) (lenOf pd_6 rfl) rfl (by show 2 * 0 + _ ≤ _; exact Nat.le_of_eq rfl) (hb hby at_266) (fun _ _ => ⟨rfl, rfl, (by decide : 46 + 0 ≤ _), (by decide : 280 + 0 ≤ _)⟩)
  dsimp only [Pt.U, Pt.locs, Pt.cells, Pt.slots] at X299 l299 y299 z299 st299 hQ299
  subst y299 z299
  obtain ⟨rfl, Nq299, e299⟩ := hQ299
  have N299 : Fr n0 L299 := by rw [l299]; exact Fr.app N298 Nq299
  clear l299
  refine Go.by (fun t => st299.trans) ?_
  replace X299 := Stand.num (C := 46) (S := 280) X299 rfl rfl
  show Go p e below _ (T299.setTop (mkF m 271 #[.val (.int p0), .val (.int p1), .val (.int p2), .val (.int p3), .val (.ref ka), .val (.ref kb), .val (.ref sa), .val (.ref sb), .val (.ref ma), .val (.ref mb), .val (.ref rp), .val (.int (1 : Int32)), .val (.int (1 : Int32)), .val (.ref u1), .val (.ref f0), .val (.ref f1)] [(.int (0 : Int32))]))
  refine Go.by (fun t => XS.ifNo X299.here hx rfl (hb hby at_271) rfl ((if0 _ _).trans (teq (rfl : (0 : Int32) = (0 : Int32))).2)) ?_
  show Go p e below _ (T299.setTop (mkF m 274 #[.val (.int p0), .val (.int p1), .val (.int p2), .val (.int p3), .val (.ref ka), .val (.ref kb), .val (.ref sa), .val (.ref sb), .val (.ref ma), .val (.ref mb), .val (.ref rp), .val (.int (1 : Int32)), .val (.int (1 : Int32)), .val (.ref u1), .val (.ref f0), .val (.ref f1)] []))
  show Go p e below _ (T299.setTop (mkF m 274 #[.val (.int p0), .val (.int p1), .val (.int p2), .val (.int p3), .val (.ref ka), .val (.ref kb), .val (.ref sa), .val (.ref sb), .val (.ref ma), .val (.ref mb), .val (.ref rp), .val (.int (1 : Int32)), .val (.int (1 : Int32)), .val (.ref u1), .val (.ref f0), .val (.ref f1)] []))
  refine Go.by (fun t => XS.iconst X299.here hx rfl (hb hby at_274)) ?_
  show Go p e below _ (T299.setTop (mkF m 275 #[.val (.int p0), .val (.int p1), .val (.int p2), .val (.int p3), .val (.ref ka), .val (.ref kb), .val (.ref sa), .val (.ref sb), .val (.ref ma), .val (.ref mb), .val (.ref rp), .val (.int (1 : Int32)), .val (.int (1 : Int32)), .val (.ref u1), .val (.ref f0), .val (.ref f1)] [(.int (1 : Int32))]))
  refine Go.by (fun t => XS.goto X299.here hx rfl (pc0 := 275) (pc' := 279) rfl (hb hby at_275) (by decide) (by decide)) ?_
  show Go p e below _ (T299.setTop (mkF m 279 #[.val (.int p0), .val (.int p1), .val (.int p2), .val (.int p3), .val (.ref ka), .val (.ref kb), .val (.ref sa), .val (.ref sb), .val (.ref ma), .val (.ref mb), .val (.ref rp), .val (.int (1 : Int32)), .val (.int (1 : Int32)), .val (.ref u1), .val (.ref f0), .val (.ref f1)] [(.int (1 : Int32))]))
  exact Go.ret1W X299 hS (by rw [e299]; exact hk) (by rw [e299]; exact CR) hZ hEL hx Bd.returns Bd.notSynchronized (by first | rfl | decide) (Or.inl ⟨rfl, by simp, _, rfl⟩) (hb hby at_279) (by decide) (by decide) (by first | (rw [e299]; exact ⟨rfl, N299⟩) | exact ⟨rfl, N299⟩)
theorem empty_arv {s : State} {args : Array Value} {t : Term} {a : Addr} {c : Cell} {ty : FieldType} (hf : Fit s) (ev : t.eval args s none [] s = some (.ref a)) (A : Arr s s.heap a c ty) (hl : (Cond.eq (Term.length t) (Term.int 0)).value args s none s [] = some true) : Arv s s.heap a c.cls ty (0 : Int32) [] .null := by
  have har : s.arrayAt? a = some c := Arr.fin (Vm.Alike.refl _) A
  have hz : c.slots.size = 0 := by
    simp only [Cond.value, Term.eval, ev, har, Option.bind_eq_bind, Option.bind_some] at hl
    by_cases hb : c.slots.size < 2 ^ 31
    · simp [hb] at hl
      have q := congrArg Int32.toInt hl
      rw [len_toInt hb] at q
      have e0 : (0 : Int32).toInt = 0 := rfl
      omega
    · simp [hb] at hl
  exact ⟨c, A, rfl, by rw [hz]; rfl, by decide, fun k hk => absurd hk (by omega), fun k hk => absurd hk (by omega)⟩
set_option maxRecDepth 65536 in
set_option maxHeartbeats 40000000 in
theorem comes_1 {Post : Tables → Env → Array Value → State → Outcome → State → Prop} (hpost : ∀ tb e args s v u, (limb_1_1.after args s (.returned v) u = true ∧ limb_1_2.after args s (.returned v) u = true ∧ True) → ReturnedEndW s (.returned v) u (Jvm.fieldLocs frame_1_writes args s ++ Jvm.arrayLocs frame_1_arrays args s ++ Jvm.staticLocs frame_1_statics s) 64 4352 → Post tb e args s (.returned v) u) :
    ArmFor flags0 classFile x code maxLocals ret World_1 tables_1 room_1 Calls_1 rest_1 Pre_1 Post := by
  intro l hfl _ _ p e ha hc hk s m args below hf hA hF happ hP
  obtain ⟨hcalls, hrest, hpre⟩ := hP
  obtain ⟨-, -, -, hnamed, -, -, -, hat⟩ := (Spec.applies_iff hf).mp happ
  obtain ⟨hg, hn⟩ := and_e (Cond.before_iff.mp (show (Jvm.Cond.and given_1 narrow_1).before args s = true from hpre))
  obtain ⟨hcount, hgs⟩ := and_e hg
  obtain ⟨w0, w1, w2, w3, rfl⟩ : ∃ w0 w1 w2 w3 : Value, args = #[w0, w1, w2, w3] := by
    have hs : args.size = 4 := by simpa [Cond.value, given_1] using hcount
    obtain ⟨L⟩ := args
    match L, hs with
    | [w0, w1, w2, w3], _ => exact ⟨w0, w1, w2, w3, rfl⟩
  have hw := fun d (hd : d ∈ tables_1) => atoms_spec (ws := Jvm.Cond.code x code maxLocals ret :: tables_1) hat d (List.mem_cons_of_mem _ hd)
  have hfit : Fit s := fun {y c} hc i hi => by
    obtain ⟨ha, rfl⟩ := Array.getElem?_eq_some_iff.mp hc
    have q := List.all_eq_true.mp ((Array.all_eq_true_iff_forall_mem.mp hF) _ (Array.getElem_mem ha)) i (List.mem_range.mpr hi)
    simpa [Array.getElem?_eq_getElem hi] using q
  obtain ⟨ga0, gb0⟩ := and_e hgs
  obtain ⟨i0, ei0⟩ := is_v ga0
  obtain rfl : w0 = (.int i0) := Option.some.inj ei0
  obtain ⟨ga1, gb1⟩ := and_e gb0
  obtain ⟨i1, ei1⟩ := is_v ga1
  obtain rfl : w1 = (.int i1) := Option.some.inj ei1
  obtain ⟨ga2, gb2⟩ := and_e gb1
  obtain ⟨i2, ei2⟩ := is_v ga2
  obtain rfl : w2 = (.int i2) := Option.some.inj ei2
  obtain ⟨i3, ei3⟩ := is_v gb2
  obtain rfl : w3 = (.int i3) := Option.some.inj ei3
  obtain ⟨hsets, hown0⟩ := atoms_of _ (rest_1_c_eq ▸ (show rest_1_c.before _ s = true from hrest))
  obtain ⟨G_COMPACT_STRINGS, eG_COMPACT_STRINGS⟩ := is_v (Cond.before_iff.mp (hsets _ (List.mem_of_getElem? (i := 1) rfl)))
  have S_COMPACT_STRINGS : Sta s s.heap "java/lang/String" "COMPACT_STRINGS" "Z" (.int G_COMPACT_STRINGS) := Sta.start eG_COMPACT_STRINGS (Or.inl (hsets _ (List.mem_of_getElem? (i := 0) rfl)))
  have n_CS := not_v (Cond.before_iff.mp (hsets _ (List.mem_of_getElem? (i := 2) rfl)))
  have c_CS : ¬ (G_COMPACT_STRINGS = (0 : Int32)) := gotF (Cond.eq_ints eG_COMPACT_STRINGS (Term.int_eval (0))) n_CS
  have hcw : Jvm.Lit.compactW.before _ s = true := hsets _ (List.mem_of_getElem? (i := 2) rfl)
  have hCH : CHv s EL s.vm s.heap := CHv.start (ew_of hw) (fun p hp => hcalls.2.2.2.1 p hp) hcw (hw _ (List.mem_of_getElem? (i := 54) rfl)) (hw _ (List.mem_of_getElem? (i := 50) rfl))
  obtain ⟨cm1, km1, m1, q1⟩ := hcalls.1
  obtain ⟨cm2, km2, m2, q2⟩ := hcalls.2.1
  obtain ⟨cm3, km3, m3, q3⟩ := hcalls.2.2.1
  have Mi1 : Mir s "java/util/ArrayList" m1 := ⟨cm1, km1, q1⟩
  have Mi2 : Mir s "java/util/Collections$UnmodifiableList" m2 := ⟨cm2, km2, q2⟩
  have Mi3 : Mir s "java/util/Collections$UnmodifiableRandomAccessList" m3 := ⟨cm3, km3, q3⟩
  have hde := Cond.before_iff.mp (hsets _ (List.mem_of_getElem? (i := 15) rfl))
  obtain ⟨de, ede⟩ := arr_v hde
  have S_DE : Sta s s.heap "java/util/ArrayList" "DEFAULTCAPACITY_EMPTY_ELEMENTDATA" "[Ljava/lang/Object;" (.ref de) := Sta.start ede (Or.inr ⟨(hw _ (List.mem_of_getElem? (i := 86) rfl)), hsets _ (List.mem_of_getElem? (i := 11) rfl)⟩)
  obtain ⟨cde, Ade⟩ := Arr.start ede hde
  obtain ⟨xl, yl, el, fl, -⟩ := cmp_v (Or.inl (Cond.before_iff.mp (hsets _ (List.mem_of_getElem? (i := 17) rfl))))
  have V_de : Arv s s.heap de cde.cls (.object "java/lang/Object") (0 : Int32) [] .null := empty_arv hfit ede Ade (Cond.before_iff.mp (hsets _ (List.mem_of_getElem? (i := 17) rfl)))
  obtain ⟨na0, nb0⟩ := and_e hn
  obtain ⟨k0, ek0⟩ := exa_v na0
  have SK0 : Sta s s.heap "com/example/slicewright/slicewright/report/ErrorKind" "LIST_MIN" "Lcom/example/slicewright/slicewright/report/ErrorKind;" (.ref k0) := Sta.start ek0 (Or.inr ⟨(hw _ (List.mem_of_getElem? (i := 7) rfl)), (hw _ (List.mem_of_getElem? (i := 8) rfl))⟩)
  have EK0 : Exa s s.heap k0 "com/example/slicewright/slicewright/report/ErrorKind" := Exa.start ek0 na0
  obtain ⟨na1, nb1⟩ := and_e nb0
  obtain ⟨k1, ek1⟩ := exa_v na1
  have SK1 : Sta s s.heap "com/example/slicewright/slicewright/report/ErrorKind" "LIST_MAX" "Lcom/example/slicewright/slicewright/report/ErrorKind;" (.ref k1) := Sta.start ek1 (Or.inr ⟨(hw _ (List.mem_of_getElem? (i := 7) rfl)), (hw _ (List.mem_of_getElem? (i := 11) rfl))⟩)
  have EK1 : Exa s s.heap k1 "com/example/slicewright/slicewright/report/ErrorKind" := Exa.start ek1 na1
  obtain ⟨na2, nb2⟩ := and_e nb1
  obtain ⟨k2, ek2⟩ := exa_v na2
  have SK2 : Sta s s.heap "com/example/slicewright/slicewright/report/ErrorKind" "SLICE_MIN" "Lcom/example/slicewright/slicewright/report/ErrorKind;" (.ref k2) := Sta.start ek2 (Or.inr ⟨(hw _ (List.mem_of_getElem? (i := 7) rfl)), (hw _ (List.mem_of_getElem? (i := 13) rfl))⟩)
  have EK2 : Exa s s.heap k2 "com/example/slicewright/slicewright/report/ErrorKind" := Exa.start ek2 na2
  obtain ⟨na3, nb3⟩ := and_e nb2
  obtain ⟨k3, ek3⟩ := exa_v na3
  have SK3 : Sta s s.heap "com/example/slicewright/slicewright/report/ErrorKind" "SLICE_MAX" "Lcom/example/slicewright/slicewright/report/ErrorKind;" (.ref k3) := Sta.start ek3 (Or.inr ⟨(hw _ (List.mem_of_getElem? (i := 7) rfl)), (hw _ (List.mem_of_getElem? (i := 15) rfl))⟩)
  have EK3 : Exa s s.heap k3 "com/example/slicewright/slicewright/report/ErrorKind" := Exa.start ek3 na3
  obtain ⟨na4, nb4⟩ := and_e nb3
  obtain ⟨k4, ek4⟩ := exa_v na4
  have SK4 : Sta s s.heap "com/example/slicewright/slicewright/report/ErrorKind" "CLOSED" "Lcom/example/slicewright/slicewright/report/ErrorKind;" (.ref k4) := Sta.start ek4 (Or.inr ⟨(hw _ (List.mem_of_getElem? (i := 7) rfl)), (hw _ (List.mem_of_getElem? (i := 17) rfl))⟩)
  have EK4 : Exa s s.heap k4 "com/example/slicewright/slicewright/report/ErrorKind" := Exa.start ek4 na4
  obtain ⟨na5, nb5⟩ := and_e nb4
  obtain ⟨k5, ek5⟩ := exa_v na5
  have SK5 : Sta s s.heap "com/example/slicewright/slicewright/report/ErrorKind" "ORDER" "Lcom/example/slicewright/slicewright/report/ErrorKind;" (.ref k5) := Sta.start ek5 (Or.inr ⟨(hw _ (List.mem_of_getElem? (i := 7) rfl)), (hw _ (List.mem_of_getElem? (i := 19) rfl))⟩)
  have EK5 : Exa s s.heap k5 "com/example/slicewright/slicewright/report/ErrorKind" := Exa.start ek5 na5
  obtain ⟨na6, nb6⟩ := and_e nb5
  obtain ⟨k6, ek6⟩ := exa_v na6
  have SK6 : Sta s s.heap "com/example/slicewright/slicewright/report/ErrorKind" "OPEN_AT_END" "Lcom/example/slicewright/slicewright/report/ErrorKind;" (.ref k6) := Sta.start ek6 (Or.inr ⟨(hw _ (List.mem_of_getElem? (i := 7) rfl)), (hw _ (List.mem_of_getElem? (i := 21) rfl))⟩)
  have EK6 : Exa s s.heap k6 "com/example/slicewright/slicewright/report/ErrorKind" := Exa.start ek6 na6
  obtain ⟨na7, nb7⟩ := and_e nb6
  obtain ⟨k7, ek7⟩ := exa_v na7
  have SK7 : Sta s s.heap "com/example/slicewright/slicewright/report/ErrorKind" "MIN" "Lcom/example/slicewright/slicewright/report/ErrorKind;" (.ref k7) := Sta.start ek7 (Or.inr ⟨(hw _ (List.mem_of_getElem? (i := 7) rfl)), (hw _ (List.mem_of_getElem? (i := 23) rfl))⟩)
  have EK7 : Exa s s.heap k7 "com/example/slicewright/slicewright/report/ErrorKind" := Exa.start ek7 na7
  obtain ⟨na8, nb8⟩ := and_e nb7
  obtain ⟨k8, ek8⟩ := exa_v na8
  have SK8 : Sta s s.heap "com/example/slicewright/slicewright/report/ErrorKind" "MAX" "Lcom/example/slicewright/slicewright/report/ErrorKind;" (.ref k8) := Sta.start ek8 (Or.inr ⟨(hw _ (List.mem_of_getElem? (i := 7) rfl)), (hw _ (List.mem_of_getElem? (i := 25) rfl))⟩)
  have EK8 : Exa s s.heap k8 "com/example/slicewright/slicewright/report/ErrorKind" := Exa.start ek8 na8
  obtain ⟨na9, nb9⟩ := and_e nb8
  obtain ⟨k9, ek9⟩ := exa_v na9
  have SK9 : Sta s s.heap "com/example/slicewright/slicewright/report/ErrorKind" "FIXED" "Lcom/example/slicewright/slicewright/report/ErrorKind;" (.ref k9) := Sta.start ek9 (Or.inr ⟨(hw _ (List.mem_of_getElem? (i := 7) rfl)), (hw _ (List.mem_of_getElem? (i := 27) rfl))⟩)
  have EK9 : Exa s s.heap k9 "com/example/slicewright/slicewright/report/ErrorKind" := Exa.start ek9 na9
  obtain ⟨na10, nb10⟩ := and_e nb9
  obtain ⟨k10, ek10⟩ := exa_v na10
  have SK10 : Sta s s.heap "com/example/slicewright/slicewright/report/ErrorKind" "PATTERN" "Lcom/example/slicewright/slicewright/report/ErrorKind;" (.ref k10) := Sta.start ek10 (Or.inr ⟨(hw _ (List.mem_of_getElem? (i := 7) rfl)), (hw _ (List.mem_of_getElem? (i := 29) rfl))⟩)
  have EK10 : Exa s s.heap k10 "com/example/slicewright/slicewright/report/ErrorKind" := Exa.start ek10 na10
  obtain ⟨na11, nb11⟩ := and_e nb10
  obtain ⟨k11, ek11⟩ := exa_v na11
  have SK11 : Sta s s.heap "com/example/slicewright/slicewright/report/ErrorKind" "BINDING" "Lcom/example/slicewright/slicewright/report/ErrorKind;" (.ref k11) := Sta.start ek11 (Or.inr ⟨(hw _ (List.mem_of_getElem? (i := 7) rfl)), (hw _ (List.mem_of_getElem? (i := 31) rfl))⟩)
  have EK11 : Exa s s.heap k11 "com/example/slicewright/slicewright/report/ErrorKind" := Exa.start ek11 na11
  obtain ⟨na12, nb12⟩ := and_e nb11
  obtain ⟨k12, ek12⟩ := exa_v na12
  have SK12 : Sta s s.heap "com/example/slicewright/slicewright/report/ErrorKind" "TYPE" "Lcom/example/slicewright/slicewright/report/ErrorKind;" (.ref k12) := Sta.start ek12 (Or.inr ⟨(hw _ (List.mem_of_getElem? (i := 7) rfl)), (hw _ (List.mem_of_getElem? (i := 33) rfl))⟩)
  have EK12 : Exa s s.heap k12 "com/example/slicewright/slicewright/report/ErrorKind" := Exa.start ek12 na12
  obtain ⟨k13, ek13⟩ := exa_v nb12
  have SK13 : Sta s s.heap "com/example/slicewright/slicewright/report/ErrorKind" "UNKNOWN" "Lcom/example/slicewright/slicewright/report/ErrorKind;" (.ref k13) := Sta.start ek13 (Or.inr ⟨(hw _ (List.mem_of_getElem? (i := 7) rfl)), (hw _ (List.mem_of_getElem? (i := 35) rfl))⟩)
  have EK13 : Exa s s.heap k13 "com/example/slicewright/slicewright/report/ErrorKind" := Exa.start ek13 nb12
  obtain ⟨n, o, h1, h2, h3, _, L, rfl, ⟨rfl, N⟩, -, hq⟩ := rm0 l s _ hw tables_1 i0 i1 i2 i3 G_COMPACT_STRINGS m1 m2 m3 de cde.cls k0 k1 k2 k3 k4 k5 k6 k7 k8 k9 k10 k11 k12 k13 s.heap s.heap.size (Nat.le_refl _) (Old.start s) S_COMPACT_STRINGS c_CS S_DE V_de Mi1 Mi2 Mi3 SK0 SK1 SK2 SK3 SK4 SK5 SK6 SK7 SK8 SK9 SK10 SK11 SK12 SK13 EK0 EK1 EK2 EK3 EK4 EK5 EK6 EK7 EK8 EK9 EK10 EK11 EK12 EK13 p e ha hc hk s m _ below hf ((Spec.applies_iff_loose hf).mp happ).1 ⟨rfl, State.Warmed39.refl s, rfl, hCH⟩ trivial
  refine ⟨n, _, h1, h2, h3, hpost _ _ _ _ _ _ ⟨Cond.after_iff.mpr rfl, Cond.after_iff.mpr (eq_i res_at (Term.int_eval (1)) rfl), trivial⟩ ⟨hq.1, hq.2.1, hq.2.2.1, (hq.2.2.2.sift fun y hy => Or.inr (N y hy)).mono (by decide) (by decide)⟩⟩
theorem main_1_1 : Claimed_1_1 := comes_1 fun _ _ _ _ _ _ h hF => ⟨h.1, hF⟩
theorem main_1_2 : Claimed_1_2 := comes_1 fun _ _ _ _ _ _ h hF => ⟨h.2.1, hF⟩
end Jvm.Pilot.@@N@@
namespace Jvm.Pilot.@@N@@
open Jvm Jvm.ClassFile Sem Op Lib Jvm.Free Jvm.Stand Jvm.Pilot.@@N@@.Jvm.D
/-! MADE BY PROGRAM (witnessworld.py) out of the Statement's table words and the real class files: 41 classes; the members and pool entries that the words name. The judged class is class 1, her method 3. -/
namespace start1
open Jvm.ClassFile
def u (s : String) : CpInfo := .utf8 (stringToUtf16 s)
/-- a pool by its gaps: so many unusable entries, then the entry; so many at the end -/
def gap : Nat → List CpInfo → List CpInfo
  | 0, r => r
  | n + 1, r => .unusable :: gap n r
def poolList (es : List (Nat × CpInfo)) (last : Nat) : List CpInfo := es.foldr (fun e r => gap e.1 (e.2 :: r)) (gap last [])
def pool (es : List (Nat × CpInfo)) (last : Nat) : Array CpInfo := ⟨poolList es last⟩
def fileOf (pool : Array CpInfo) (this : Nat) (attrs : Array Attribute := #[]) (ms : Array MethodInfo := #[]) (fl : Nat := 33) (sup : Nat := 0) (ifs : Array Nat := #[]) (fds : Array FieldInfo := #[]) : ClassFile where
  minorVersion := 0
  majorVersion := 65
  constantPool := pool
  accessFlags := fl
  thisClass := this
  superClass := sup
  interfaces := ifs
  fields := fds
  methods := ms
  attributes := attrs
def plain (name : String) (sup : Option ClassId) : Class where
  name := name
  kind := .ordinary
  loader := none
  accessFlags := 33
  super := sup
  interfaces := #[]
  cf := none
  fields := #[]
  methods := #[]
  instanceTypes := #[]
  staticTypes := #[]
  resolved := #[]
  callSites := []
  init := .initialized
  statics := none
  mirror := none

def pool0 : Array CpInfo := pool [(5, u "<init>"), (0, u "()V"), (1, .class_ 10), (1, u "java/lang/Object"), (0, u "getClass"), (0, u "()Ljava/lang/Class;")] 111

def k0c0 : Code := { maxStack := 0, maxLocals := 1, code := object_method_1_code, exceptionTable := #[], attributes := #[] }
def k0m0 : Method := { name := "<init>", desc := "()V", sig := { parameters := [], returnType := none }, accessFlags := 1, code := some k0c0 }
def k0m1 : Method := { name := "getClass", desc := "()Ljava/lang/Class;", sig := { parameters := [], returnType := some (.object "java/lang/Class") }, accessFlags := 273, code := none }
/-- java/lang/Object -/
def k0 : Class := { plain "java/lang/Object" none with
  accessFlags := 33
  interfaces := #[]
  cf := some (fileOf pool0 8 #[] #[{ accessFlags := 1, nameIndex := 5, descriptorIndex := 6, attributes := #[] }, { accessFlags := 273, nameIndex := 11, descriptorIndex := 12, attributes := #[] }] 33 0 #[] #[])
  fields := #[]
  methods := #[k0m0, k0m1]
  instanceTypes := #[]
  staticTypes := #[]
  resolved := Array.replicate 124 none
  statics := none }

def pool1 : Array CpInfo := pool [(2, .class_ 4), (0, .nameAndType 5 6), (0, u "java/lang/Object"), (0, u "<init>"), (0, u "()V"), (0, .class_ 8), (0, u "com/example/slicewright/slicewright/report/ErrorKind"), (0, .fieldref 7 10), (0, .nameAndType 11 12), (0, u "LIST_MIN"), (0, u "Lcom/example/slicewright/slicewright/report/ErrorKind;"), (0, .fieldref 7 14), (0, .nameAndType 15 12), (0, u "LIST_MAX"), (0, .fieldref 7 17), (0, .nameAndType 18 12), (0, u "SLICE_MIN"), (0, .fieldref 7 20), (0, .nameAndType 21 12), (0, u "SLICE_MAX"), (0, .fieldref 7 23), (0, .nameAndType 24 12), (0, u "CLOSED"), (0, .fieldref 7 26), (0, .nameAndType 27 12), (0, u "ORDER"), (0, .fieldref 7 29), (0, .nameAndType 30 12), (0, u "OPEN_AT_END"), (0, .fieldref 7 32), (0, .nameAndType 33 12), (0, u "MIN"), (0, .fieldref 7 35), (0, .nameAndType 36 12), (0, u "MAX"), (0, .fieldref 7 38), (0, .nameAndType 39 12), (0, u "FIXED"), (0, .fieldref 7 41), (0, .nameAndType 42 12), (0, u "PATTERN"), (0, .fieldref 7 44), (0, .nameAndType 45 12), (0, u "BINDING"), (0, .fieldref 7 47), (0, .nameAndType 48 12), (0, u "TYPE"), (0, .fieldref 7 50), (0, .nameAndType 51 12), (0, u "UNKNOWN"), (0, .integer 65535), (0, .class_ 54), (0, u "java/lang/String"), (0, .methodref 53 56), (0, .nameAndType 5 57), (0, u "([C)V"), (0, .methodref 53 59), (0, .nameAndType 60 61), (0, u "valueOf"), (0, u "(C)Ljava/lang/String;"), (0, .methodref 63 64), (0, .class_ 65), (0, .nameAndType 66 67), (0, u "com/example/slicewright/slicewright/report/ReportAddErrorPinLaw"), (0, u "kindOf"), (0, u "(I)Lcom/example/slicewright/slicewright/report/ErrorKind;"), (0, .methodref 63 69), (0, .nameAndType 70 71), (0, u "draw"), (0, u "(II)Ljava/lang/String;"), (0, .class_ 73), (0, u "com/example/slicewright/slicewright/report/Report"), (0, .methodref 72 3), (0, .methodref 72 76), (0, .nameAndType 77 78), (0, u "isValid"), (0, u "()Z"), (0, .methodref 72 80), (0, .nameAndType 81 82), (0, u "addError"), (0, u "(Lcom/example/slicewright/slicewright/report/ErrorKind;Ljava/lang/String;Ljava/lang/String;)V"), (0, .methodref 72 84), (0, .nameAndType 85 86), (0, u "errors"), (0, u "()Ljava/util/List;"), (0, .interfaceMethodref 88 89), (0, .class_ 90), (0, .nameAndType 91 92), (0, u "java/util/List"), (0, u "size"), (0, u "()I"), (0, .interfaceMethodref 88 94), (0, .nameAndType 95 96), (0, u "get"), (0, u "(I)Ljava/lang/Object;"), (0, .class_ 98), (0, u "com/example/slicewright/slicewright/report/Report$Finding"), (0, .methodref 97 100), (0, .nameAndType 101 102), (0, u "kind"), (0, u "()Lcom/example/slicewright/slicewright/report/ErrorKind;"), (0, .methodref 97 104), (0, .nameAndType 105 106), (0, u "location"), (0, u "()Ljava/lang/String;"), (0, .methodref 53 108), (0, .nameAndType 109 110), (0, u "equals"), (0, u "(Ljava/lang/Object;)Z"), (0, .methodref 97 112), (0, .nameAndType 113 106), (0, u "message"), (0, .methodref 72 115), (0, .nameAndType 116 86), (0, u "slices"), (3, u "law"), (0, u "(IIII)Z")] 4

def k1m0 : Method := { name := "<init>", desc := "()V", sig := { parameters := [], returnType := none }, accessFlags := 1, code := none }
def k1c1 : Code := { maxStack := 4, maxLocals := 2, code := method_2_code, exceptionTable := #[], attributes := #[] }
def k1m1 : Method := { name := "kindOf", desc := "(I)Lcom/example/slicewright/slicewright/report/ErrorKind;", sig := { parameters := [.int], returnType := some (.object "com/example/slicewright/slicewright/report/ErrorKind") }, accessFlags := 10, code := some k1c1 }
def k1c2 : Code := { maxStack := 6, maxLocals := 4, code := method_3_code, exceptionTable := #[], attributes := #[] }
def k1m2 : Method := { name := "draw", desc := "(II)Ljava/lang/String;", sig := { parameters := [.int, .int], returnType := some (.object "java/lang/String") }, accessFlags := 10, code := some k1c2 }
def k1c3 : Code := { maxStack := 4, maxLocals := 16, code := code, exceptionTable := #[], attributes := #[] }
def k1m3 : Method := { name := "law", desc := "(IIII)Z", sig := { parameters := [.int, .int, .int, .int], returnType := some .boolean }, accessFlags := 9, code := some k1c3 }
/-- com/example/slicewright/slicewright/report/ReportAddErrorPinLaw -/
def k1 : Class := { plain "com/example/slicewright/slicewright/report/ReportAddErrorPinLaw" (some 0) with
  accessFlags := 49
  interfaces := #[]
  cf := some (fileOf pool1 63 #[] #[{ accessFlags := 1, nameIndex := 5, descriptorIndex := 6, attributes := #[] }, { accessFlags := 10, nameIndex := 66, descriptorIndex := 67, attributes := #[] }, { accessFlags := 10, nameIndex := 70, descriptorIndex := 71, attributes := #[] }, { accessFlags := 9, nameIndex := 120, descriptorIndex := 121, attributes := #[] }] 49 2 #[] #[])
  fields := #[]
  methods := #[k1m0, k1m1, k1m2, k1m3]
  instanceTypes := #[]
  staticTypes := #[]
  resolved := Array.replicate 126 none
  statics := none }

def pool2 : Array CpInfo := pool [(1, .class_ 2), (0, u "java/lang/constant/Constable"), (0, .class_ 4), (0, u "java/lang/Object")] 6

/-- java/lang/constant/Constable -/
def k2 : Class := { plain "java/lang/constant/Constable" (some 0) with
  accessFlags := 1537
  interfaces := #[]
  cf := some (fileOf pool2 1 #[] #[] 1537 3 #[] #[])
  fields := #[]
  methods := #[]
  instanceTypes := #[]
  staticTypes := #[]
  resolved := Array.replicate 11 none
  statics := none }

def pool3 : Array CpInfo := pool [(1, .class_ 2), (0, u "java/lang/Comparable"), (0, .class_ 4), (0, u "java/lang/Object")] 7

/-- java/lang/Comparable -/
def k3 : Class := { plain "java/lang/Comparable" (some 0) with
  accessFlags := 1537
  interfaces := #[]
  cf := some (fileOf pool3 1 #[] #[] 1537 3 #[] #[])
  fields := #[]
  methods := #[]
  instanceTypes := #[]
  staticTypes := #[]
  resolved := Array.replicate 12 none
  statics := none }

def pool4 : Array CpInfo := pool [(1, .class_ 2), (0, u "java/io/Serializable"), (0, .class_ 4), (0, u "java/lang/Object")] 2

/-- java/io/Serializable -/
def k4 : Class := { plain "java/io/Serializable" (some 0) with
  accessFlags := 1537
  interfaces := #[]
  cf := some (fileOf pool4 1 #[] #[] 1537 3 #[] #[])
  fields := #[]
  methods := #[]
  instanceTypes := #[]
  staticTypes := #[]
  resolved := Array.replicate 7 none
  statics := none }

def pool5 : Array CpInfo := pool [(2, .class_ 4), (1, u "java/lang/Enum"), (0, u "name"), (0, u "Ljava/lang/String;"), (2, u "ordinal"), (0, u "I"), (1, .class_ 14), (1, u "java/lang/Object"), (4, u "hash"), (86, .class_ 108), (1, u "java/lang/Enum$EnumDesc"), (2, .class_ 112), (0, u "java/lang/constant/Constable"), (0, .class_ 114), (0, u "java/lang/Comparable"), (0, .class_ 116), (0, u "java/io/Serializable")] 87

/-- java/lang/Enum -/
def k5 : Class := { plain "java/lang/Enum" (some 0) with
  accessFlags := 1057
  interfaces := #[2, 3, 4]
  cf := some (fileOf pool5 2 #[.nestMembers #[106]] #[] 1057 12 #[111, 113, 115] #[{ accessFlags := 18, nameIndex := 5, descriptorIndex := 6, attributes := #[] }, { accessFlags := 18, nameIndex := 9, descriptorIndex := 10, attributes := #[] }, { accessFlags := 2, nameIndex := 19, descriptorIndex := 10, attributes := #[] }])
  fields := #[{ name := "name", type := (.object "java/lang/String"), accessFlags := 18, slot := 0, constantValue := 0 }, { name := "ordinal", type := .int, accessFlags := 18, slot := 1, constantValue := 0 }, { name := "hash", type := .int, accessFlags := 2, slot := 2, constantValue := 0 }]
  methods := #[]
  instanceTypes := #[(.object "java/lang/String"), .int, .int]
  staticTypes := #[]
  resolved := Array.replicate 204 none
  statics := none }

def pool6 : Array CpInfo := pool [(1, .class_ 2), (0, u "com/example/slicewright/slicewright/report/ErrorKind"), (2, u "LIST_MIN"), (0, u "Lcom/example/slicewright/slicewright/report/ErrorKind;"), (2, u "LIST_MAX"), (2, u "SLICE_MIN"), (2, u "SLICE_MAX"), (2, u "CLOSED"), (2, u "ORDER"), (2, u "OPEN_AT_END"), (2, u "MIN"), (2, u "MAX"), (2, u "FIXED"), (2, u "PATTERN"), (2, u "BINDING"), (2, u "TYPE"), (2, u "UNKNOWN"), (2, u "$VALUES"), (0, u "[Lcom/example/slicewright/slicewright/report/ErrorKind;"), (6, .class_ 58), (1, u "java/lang/Enum"), (8, u "code"), (0, u "Ljava/lang/String;")] 62

/-- com/example/slicewright/slicewright/report/ErrorKind -/
def k6 : Class := { plain "com/example/slicewright/slicewright/report/ErrorKind" (some 5) with
  accessFlags := 16433
  interfaces := #[]
  cf := some (fileOf pool6 1 #[] #[] 16433 56 #[] #[{ accessFlags := 16409, nameIndex := 5, descriptorIndex := 6, attributes := #[] }, { accessFlags := 16409, nameIndex := 9, descriptorIndex := 6, attributes := #[] }, { accessFlags := 16409, nameIndex := 12, descriptorIndex := 6, attributes := #[] }, { accessFlags := 16409, nameIndex := 15, descriptorIndex := 6, attributes := #[] }, { accessFlags := 16409, nameIndex := 18, descriptorIndex := 6, attributes := #[] }, { accessFlags := 16409, nameIndex := 21, descriptorIndex := 6, attributes := #[] }, { accessFlags := 16409, nameIndex := 24, descriptorIndex := 6, attributes := #[] }, { accessFlags := 16409, nameIndex := 27, descriptorIndex := 6, attributes := #[] }, { accessFlags := 16409, nameIndex := 30, descriptorIndex := 6, attributes := #[] }, { accessFlags := 16409, nameIndex := 33, descriptorIndex := 6, attributes := #[] }, { accessFlags := 16409, nameIndex := 36, descriptorIndex := 6, attributes := #[] }, { accessFlags := 16409, nameIndex := 39, descriptorIndex := 6, attributes := #[] }, { accessFlags := 16409, nameIndex := 42, descriptorIndex := 6, attributes := #[] }, { accessFlags := 16409, nameIndex := 45, descriptorIndex := 6, attributes := #[] }, { accessFlags := 18, nameIndex := 67, descriptorIndex := 68, attributes := #[] }, { accessFlags := 4122, nameIndex := 48, descriptorIndex := 49, attributes := #[] }])
  fields := #[{ name := "LIST_MIN", type := (.object "com/example/slicewright/slicewright/report/ErrorKind"), accessFlags := 16409, slot := 0, constantValue := 0 }, { name := "LIST_MAX", type := (.object "com/example/slicewright/slicewright/report/ErrorKind"), accessFlags := 16409, slot := 1, constantValue := 0 }, { name := "SLICE_MIN", type := (.object "com/example/slicewright/slicewright/report/ErrorKind"), accessFlags := 16409, slot := 2, constantValue := 0 }, { name := "SLICE_MAX", type := (.object "com/example/slicewright/slicewright/report/ErrorKind"), accessFlags := 16409, slot := 3, constantValue := 0 }, { name := "CLOSED", type := (.object "com/example/slicewright/slicewright/report/ErrorKind"), accessFlags := 16409, slot := 4, constantValue := 0 }, { name := "ORDER", type := (.object "com/example/slicewright/slicewright/report/ErrorKind"), accessFlags := 16409, slot := 5, constantValue := 0 }, { name := "OPEN_AT_END", type := (.object "com/example/slicewright/slicewright/report/ErrorKind"), accessFlags := 16409, slot := 6, constantValue := 0 }, { name := "MIN", type := (.object "com/example/slicewright/slicewright/report/ErrorKind"), accessFlags := 16409, slot := 7, constantValue := 0 }, { name := "MAX", type := (.object "com/example/slicewright/slicewright/report/ErrorKind"), accessFlags := 16409, slot := 8, constantValue := 0 }, { name := "FIXED", type := (.object "com/example/slicewright/slicewright/report/ErrorKind"), accessFlags := 16409, slot := 9, constantValue := 0 }, { name := "PATTERN", type := (.object "com/example/slicewright/slicewright/report/ErrorKind"), accessFlags := 16409, slot := 10, constantValue := 0 }, { name := "BINDING", type := (.object "com/example/slicewright/slicewright/report/ErrorKind"), accessFlags := 16409, slot := 11, constantValue := 0 }, { name := "TYPE", type := (.object "com/example/slicewright/slicewright/report/ErrorKind"), accessFlags := 16409, slot := 12, constantValue := 0 }, { name := "UNKNOWN", type := (.object "com/example/slicewright/slicewright/report/ErrorKind"), accessFlags := 16409, slot := 13, constantValue := 0 }, { name := "code", type := (.object "java/lang/String"), accessFlags := 18, slot := 3, constantValue := 0 }, { name := "$VALUES", type := (.array (.object "com/example/slicewright/slicewright/report/ErrorKind")), accessFlags := 4122, slot := 14, constantValue := 0 }]
  methods := #[]
  instanceTypes := #[(.object "java/lang/String"), .int, .int, (.object "java/lang/String")]
  staticTypes := #[(.object "com/example/slicewright/slicewright/report/ErrorKind"), (.object "com/example/slicewright/slicewright/report/ErrorKind"), (.object "com/example/slicewright/slicewright/report/ErrorKind"), (.object "com/example/slicewright/slicewright/report/ErrorKind"), (.object "com/example/slicewright/slicewright/report/ErrorKind"), (.object "com/example/slicewright/slicewright/report/ErrorKind"), (.object "com/example/slicewright/slicewright/report/ErrorKind"), (.object "com/example/slicewright/slicewright/report/ErrorKind"), (.object "com/example/slicewright/slicewright/report/ErrorKind"), (.object "com/example/slicewright/slicewright/report/ErrorKind"), (.object "com/example/slicewright/slicewright/report/ErrorKind"), (.object "com/example/slicewright/slicewright/report/ErrorKind"), (.object "com/example/slicewright/slicewright/report/ErrorKind"), (.object "com/example/slicewright/slicewright/report/ErrorKind"), (.array (.object "com/example/slicewright/slicewright/report/ErrorKind"))]
  resolved := Array.replicate 131 none
  statics := some 0 }

def pool7 : Array CpInfo := pool [(2, .class_ 4), (1, u "java/lang/CharSequence"), (42, .class_ 48), (0, u "java/lang/CharSequence$1CodePointIterator"), (10, .class_ 60), (0, u "java/lang/CharSequence$1CharIterator"), (5, .class_ 67), (0, u "java/lang/Object")] 63

/-- java/lang/CharSequence -/
def k7 : Class := { plain "java/lang/CharSequence" (some 0) with
  accessFlags := 1537
  interfaces := #[]
  cf := some (fileOf pool7 2 #[.nestMembers #[47, 59]] #[] 1537 66 #[] #[])
  fields := #[]
  methods := #[]
  instanceTypes := #[]
  staticTypes := #[]
  resolved := Array.replicate 131 none
  statics := none }

def pool8 : Array CpInfo := pool [(1, .class_ 2), (0, u "java/lang/constant/ConstantDesc"), (0, .class_ 4), (0, u "java/lang/Object")] 32

/-- java/lang/constant/ConstantDesc -/
def k8 : Class := { plain "java/lang/constant/ConstantDesc" (some 0) with
  accessFlags := 1537
  interfaces := #[]
  cf := some (fileOf pool8 1 #[] #[] 1537 3 #[] #[])
  fields := #[]
  methods := #[]
  instanceTypes := #[]
  staticTypes := #[]
  resolved := Array.replicate 37 none
  statics := none }

def pool9 : Array CpInfo := pool [(1, .methodref 2 3), (0, .class_ 4), (0, .nameAndType 5 6), (0, u "java/lang/Object"), (0, u "<init>"), (0, u "()V"), (0, .string 8), (0, u ""), (0, .fieldref 10 11), (0, .class_ 12), (0, .nameAndType 13 14), (0, u "java/lang/String"), (0, u "value"), (0, u "[B"), (0, .fieldref 10 16), (0, .nameAndType 17 18), (0, u "coder"), (0, u "B"), (2, u "hash"), (0, u "I"), (2, u "hashIsZero"), (0, u "Z"), (0, .methodref 10 28), (0, .nameAndType 5 29), (0, u "([CIILjava/lang/Void;)V"), (8, .fieldref 10 39), (0, .nameAndType 40 26), (0, u "COMPACT_STRINGS"), (1, .class_ 44), (1, u "java/lang/StringUTF16"), (0, u "compress"), (1, .methodref 42 48), (0, .nameAndType 49 50), (0, u "coderFromArrayLen"), (0, u "([BI)B"), (2, u "toBytes"), (53, .class_ 109), (1, u "java/lang/StringLatin1"), (67, .methodref 42 178), (0, .nameAndType 45 179), (0, u "([CII)[B"), (29, .methodref 10 210), (0, .nameAndType 5 211), (0, u "([BB)V"), (157, u "(C)Z"), (173, u "equals"), (29, u "(Ljava/lang/Object;)Z"), (1, .class_ 576), (0, u "java/lang/CharSequence"), (22, u "CASE_INSENSITIVE_ORDER"), (0, u "Ljava/util/Comparator;"), (181, u "valueOf"), (0, u "(C)Ljava/lang/String;"), (226, u "([C)V"), (4, .methodref 107 1016), (0, .nameAndType 1017 369), (0, u "canEncode"), (0, .methodref 107 1019), (0, .nameAndType 53 1020), (0, u "(C)[B"), (80, u "serialPersistentFields"), (0, u "[Ljava/io/ObjectStreamField;"), (0, .class_ 1104), (0, u "java/lang/String$CaseInsensitiveComparator"), (1, .class_ 1107), (0, u "java/io/Serializable"), (0, .class_ 1109), (0, u "java/lang/Comparable"), (0, .class_ 1111), (0, u "java/lang/constant/Constable"), (0, .class_ 1113), (0, u "java/lang/constant/ConstantDesc"), (2, u "serialVersionUID"), (0, u "J"), (3, u "REPL"), (0, u "C"), (2, u "LATIN1"), (1, u "UTF16")] 323

def k9m0 : Method := { name := "<init>", desc := "()V", sig := { parameters := [], returnType := none }, accessFlags := 1, code := none }
def k9c1 : Code := { maxStack := 5, maxLocals := 2, code := jdk_42_method_3_code, exceptionTable := #[], attributes := #[] }
def k9m1 : Method := { name := "<init>", desc := "([C)V", sig := { parameters := [(.array .char)], returnType := none }, accessFlags := 1, code := some k9c1 }
def k9c2 : Code := { maxStack := 2, maxLocals := 3, code := jdk_42_method_66_code, exceptionTable := #[], attributes := #[] }
def k9m2 : Method := { name := "equals", desc := "(Ljava/lang/Object;)Z", sig := { parameters := [(.object "java/lang/Object")], returnType := some .boolean }, accessFlags := 1, code := some k9c2 }
def k9c3 : Code := { maxStack := 4, maxLocals := 1, code := jdk_42_method_139_code, exceptionTable := #[], attributes := #[] }
def k9m3 : Method := { name := "valueOf", desc := "(C)Ljava/lang/String;", sig := { parameters := [.char], returnType := some (.object "java/lang/String") }, accessFlags := 9, code := some k9c3 }
def k9c4 : Code := { maxStack := 4, maxLocals := 6, code := jdk_42_method_149_code, exceptionTable := #[], attributes := #[] }
def k9m4 : Method := { name := "<init>", desc := "([CIILjava/lang/Void;)V", sig := { parameters := [(.array .char), .int, .int, (.object "java/lang/Void")], returnType := none }, accessFlags := 2, code := some k9c4 }
def k9c5 : Code := { maxStack := 2, maxLocals := 3, code := jdk_42_method_151_code, exceptionTable := #[], attributes := #[] }
def k9m5 : Method := { name := "<init>", desc := "([BB)V", sig := { parameters := [(.array .byte), .byte], returnType := none }, accessFlags := 0, code := some k9c5 }
/-- java/lang/String -/
def k9 : Class := { plain "java/lang/String" (some 0) with
  accessFlags := 49
  interfaces := #[4, 3, 7, 2, 8]
  cf := some (fileOf pool9 10 #[.nestMembers #[1103]] #[{ accessFlags := 1, nameIndex := 5, descriptorIndex := 6, attributes := #[] }, { accessFlags := 1, nameIndex := 5, descriptorIndex := 1010, attributes := #[] }, { accessFlags := 1, nameIndex := 543, descriptorIndex := 573, attributes := #[] }, { accessFlags := 9, nameIndex := 782, descriptorIndex := 783, attributes := #[] }, { accessFlags := 2, nameIndex := 5, descriptorIndex := 29, attributes := #[] }, { accessFlags := 0, nameIndex := 5, descriptorIndex := 211, attributes := #[] }] 49 2 #[1106, 1108, 575, 1110, 1112] #[{ accessFlags := 18, nameIndex := 13, descriptorIndex := 14, attributes := #[] }, { accessFlags := 18, nameIndex := 17, descriptorIndex := 18, attributes := #[] }, { accessFlags := 2, nameIndex := 21, descriptorIndex := 22, attributes := #[] }, { accessFlags := 2, nameIndex := 25, descriptorIndex := 26, attributes := #[] }, { accessFlags := 26, nameIndex := 1116, descriptorIndex := 1117, attributes := #[] }, { accessFlags := 24, nameIndex := 40, descriptorIndex := 26, attributes := #[] }, { accessFlags := 26, nameIndex := 1101, descriptorIndex := 1102, attributes := #[] }, { accessFlags := 26, nameIndex := 1121, descriptorIndex := 1122, attributes := #[] }, { accessFlags := 25, nameIndex := 599, descriptorIndex := 600, attributes := #[] }, { accessFlags := 24, nameIndex := 1125, descriptorIndex := 18, attributes := #[] }, { accessFlags := 24, nameIndex := 1127, descriptorIndex := 18, attributes := #[] }])
  fields := #[{ name := "value", type := (.array .byte), accessFlags := 18, slot := 0, constantValue := 0 }, { name := "coder", type := .byte, accessFlags := 18, slot := 1, constantValue := 0 }, { name := "hash", type := .int, accessFlags := 2, slot := 2, constantValue := 0 }, { name := "hashIsZero", type := .boolean, accessFlags := 2, slot := 3, constantValue := 0 }, { name := "serialVersionUID", type := .long, accessFlags := 26, slot := 0, constantValue := 0 }, { name := "COMPACT_STRINGS", type := .boolean, accessFlags := 24, slot := 1, constantValue := 0 }, { name := "serialPersistentFields", type := (.array (.object "java/io/ObjectStreamField")), accessFlags := 26, slot := 2, constantValue := 0 }, { name := "REPL", type := .char, accessFlags := 26, slot := 3, constantValue := 0 }, { name := "CASE_INSENSITIVE_ORDER", type := (.object "java/util/Comparator"), accessFlags := 25, slot := 4, constantValue := 0 }, { name := "LATIN1", type := .byte, accessFlags := 24, slot := 5, constantValue := 0 }, { name := "UTF16", type := .byte, accessFlags := 24, slot := 6, constantValue := 0 }]
  methods := #[k9m0, k9m1, k9m2, k9m3, k9m4, k9m5]
  instanceTypes := #[(.array .byte), .byte, .int, .boolean]
  staticTypes := #[.long, .boolean, (.array (.object "java/io/ObjectStreamField")), .char, (.object "java/util/Comparator"), .byte, .byte]
  resolved := Array.replicate 1451 none
  statics := some 1 }

def pool10 : Array CpInfo := pool [(4, .class_ 6), (1, u "java/lang/Object"), (0, u "<init>"), (0, u "()V"), (5, .class_ 16), (1, u "java/lang/StringLatin1"), (73, u "canEncode"), (14, u "(C)Z"), (15, u "$assertionsDisabled"), (0, u "Z"), (98, .class_ 223), (1, u "java/lang/StringLatin1$LinesSpliterator"), (156, u "toBytes"), (1, u "(C)[B"), (7, .class_ 391), (0, u "java/lang/StringLatin1$CharsSpliterator")] 3

def k10m0 : Method := { name := "<init>", desc := "()V", sig := { parameters := [], returnType := none }, accessFlags := 0, code := none }
def k10c1 : Code := { maxStack := 2, maxLocals := 1, code := jdk_43_method_3_code, exceptionTable := #[], attributes := #[] }
def k10m1 : Method := { name := "canEncode", desc := "(C)Z", sig := { parameters := [.char], returnType := some .boolean }, accessFlags := 9, code := some k10c1 }
def k10c2 : Code := { maxStack := 4, maxLocals := 1, code := jdk_43_method_46_code, exceptionTable := #[], attributes := #[] }
def k10m2 : Method := { name := "toBytes", desc := "(C)[B", sig := { parameters := [.char], returnType := some (.array .byte) }, accessFlags := 9, code := some k10c2 }
/-- java/lang/StringLatin1 -/
def k10 : Class := { plain "java/lang/StringLatin1" (some 0) with
  accessFlags := 48
  interfaces := #[]
  cf := some (fileOf pool10 14 #[.nestMembers #[390, 221]] #[{ accessFlags := 0, nameIndex := 7, descriptorIndex := 8, attributes := #[] }, { accessFlags := 9, nameIndex := 90, descriptorIndex := 105, attributes := #[] }, { accessFlags := 9, nameIndex := 380, descriptorIndex := 382, attributes := #[] }] 48 4 #[] #[{ accessFlags := 4120, nameIndex := 121, descriptorIndex := 122, attributes := #[] }])
  fields := #[{ name := "$assertionsDisabled", type := .boolean, accessFlags := 4120, slot := 0, constantValue := 0 }]
  methods := #[k10m0, k10m1, k10m2]
  instanceTypes := #[]
  staticTypes := #[.boolean]
  resolved := Array.replicate 395 none
  statics := none }

def pool11 : Array CpInfo := pool [(1, .methodref 2 3), (0, .class_ 4), (0, .nameAndType 5 6), (0, u "java/lang/Object"), (0, u "<init>"), (0, u "()V"), (0, .class_ 8), (0, u "java/util/ArrayList"), (0, .methodref 7 3), (0, .fieldref 11 12), (0, .class_ 13), (0, .nameAndType 14 15), (0, u "com/example/slicewright/slicewright/report/Report"), (0, u "slices"), (0, u "Ljava/util/List;"), (0, .fieldref 11 17), (0, .nameAndType 18 15), (0, u "errors"), (0, .class_ 20), (0, u "com/example/slicewright/slicewright/report/Report$SliceAssignment"), (0, .string 22), (0, u "location"), (0, .methodref 24 25), (0, .class_ 26), (0, .nameAndType 27 28), (0, u "java/util/Objects"), (0, u "requireNonNull"), (0, u "(Ljava/lang/Object;Ljava/lang/String;)Ljava/lang/Object;"), (0, .class_ 30), (0, u "java/lang/String"), (3, .interfaceMethodref 35 36), (0, .class_ 37), (0, .nameAndType 38 39), (0, u "java/util/List"), (0, u "add"), (0, u "(Ljava/lang/Object;)Z"), (0, .class_ 41), (0, u "com/example/slicewright/slicewright/report/Report$Finding"), (0, .string 43), (0, u "kind"), (0, .class_ 45), (0, u "com/example/slicewright/slicewright/report/ErrorKind"), (0, .string 47), (0, u "message"), (0, .methodref 40 49), (0, .nameAndType 5 50), (0, u "(Lcom/example/slicewright/slicewright/report/ErrorKind;Ljava/lang/String;Ljava/lang/String;)V"), (0, .methodref 52 53), (0, .class_ 54), (0, .nameAndType 55 56), (0, u "java/util/Collections"), (0, u "unmodifiableList"), (0, u "(Ljava/util/List;)Ljava/util/List;"), (0, .interfaceMethodref 35 58), (0, .nameAndType 59 60), (0, u "isEmpty"), (0, u "()Z"), (6, u "addError"), (0, u "()Ljava/util/List;"), (2, u "isValid")] 6

def k11c0 : Code := { maxStack := 3, maxLocals := 1, code := prog_24_method_1_code, exceptionTable := #[], attributes := #[] }
def k11m0 : Method := { name := "<init>", desc := "()V", sig := { parameters := [], returnType := none }, accessFlags := 1, code := some k11c0 }
def k11c1 : Code := { maxStack := 7, maxLocals := 4, code := prog_24_method_3_code, exceptionTable := #[], attributes := #[] }
def k11m1 : Method := { name := "addError", desc := "(Lcom/example/slicewright/slicewright/report/ErrorKind;Ljava/lang/String;Ljava/lang/String;)V", sig := { parameters := [(.object "com/example/slicewright/slicewright/report/ErrorKind"), (.object "java/lang/String"), (.object "java/lang/String")], returnType := none }, accessFlags := 1, code := some k11c1 }
def k11c2 : Code := { maxStack := 1, maxLocals := 1, code := prog_24_method_4_code, exceptionTable := #[], attributes := #[] }
def k11m2 : Method := { name := "slices", desc := "()Ljava/util/List;", sig := { parameters := [], returnType := some (.object "java/util/List") }, accessFlags := 1, code := some k11c2 }
def k11c3 : Code := { maxStack := 1, maxLocals := 1, code := prog_24_method_5_code, exceptionTable := #[], attributes := #[] }
def k11m3 : Method := { name := "errors", desc := "()Ljava/util/List;", sig := { parameters := [], returnType := some (.object "java/util/List") }, accessFlags := 1, code := some k11c3 }
def k11c4 : Code := { maxStack := 1, maxLocals := 1, code := prog_24_method_6_code, exceptionTable := #[], attributes := #[] }
def k11m4 : Method := { name := "isValid", desc := "()Z", sig := { parameters := [], returnType := some .boolean }, accessFlags := 1, code := some k11c4 }
/-- com/example/slicewright/slicewright/report/Report -/
def k11 : Class := { plain "com/example/slicewright/slicewright/report/Report" (some 0) with
  accessFlags := 49
  interfaces := #[]
  cf := some (fileOf pool11 11 #[.nestMembers #[40, 19]] #[{ accessFlags := 1, nameIndex := 5, descriptorIndex := 6, attributes := #[] }, { accessFlags := 1, nameIndex := 67, descriptorIndex := 50, attributes := #[] }, { accessFlags := 1, nameIndex := 14, descriptorIndex := 68, attributes := #[] }, { accessFlags := 1, nameIndex := 18, descriptorIndex := 68, attributes := #[] }, { accessFlags := 1, nameIndex := 71, descriptorIndex := 60, attributes := #[] }] 49 2 #[] #[{ accessFlags := 18, nameIndex := 14, descriptorIndex := 15, attributes := #[] }, { accessFlags := 18, nameIndex := 18, descriptorIndex := 15, attributes := #[] }])
  fields := #[{ name := "slices", type := (.object "java/util/List"), accessFlags := 18, slot := 0, constantValue := 0 }, { name := "errors", type := (.object "java/util/List"), accessFlags := 18, slot := 1, constantValue := 0 }]
  methods := #[k11m0, k11m1, k11m2, k11m3, k11m4]
  instanceTypes := #[(.object "java/util/List"), (.object "java/util/List")]
  staticTypes := #[]
  resolved := Array.replicate 78 none
  statics := none }

def pool12 : Array CpInfo := pool [(8, .class_ 10), (1, u "java/lang/Iterable"), (24, .class_ 36), (0, u "java/lang/Object")] 25

/-- java/lang/Iterable -/
def k12 : Class := { plain "java/lang/Iterable" (some 0) with
  accessFlags := 1537
  interfaces := #[]
  cf := some (fileOf pool12 8 #[] #[] 1537 35 #[] #[])
  fields := #[]
  methods := #[]
  instanceTypes := #[]
  staticTypes := #[]
  resolved := Array.replicate 62 none
  statics := none }

def pool13 : Array CpInfo := pool [(10, .class_ 12), (1, u "java/util/Collection"), (47, .class_ 61), (0, u "java/lang/Object"), (0, .class_ 63), (0, u "java/lang/Iterable"), (0, u "size"), (0, u "()I")] 49

def k13m0 : Method := { name := "size", desc := "()I", sig := { parameters := [], returnType := some .int }, accessFlags := 1025, code := none }
/-- java/util/Collection -/
def k13 : Class := { plain "java/util/Collection" (some 0) with
  accessFlags := 1537
  interfaces := #[12]
  cf := some (fileOf pool13 10 #[] #[{ accessFlags := 1025, nameIndex := 64, descriptorIndex := 65, attributes := #[] }] 1537 60 #[62] #[])
  fields := #[]
  methods := #[k13m0]
  instanceTypes := #[]
  staticTypes := #[]
  resolved := Array.replicate 115 none
  statics := none }

def pool14 : Array CpInfo := pool [(1, .methodref 2 3), (0, .class_ 4), (0, .nameAndType 5 6), (0, u "java/lang/Object"), (0, u "<init>"), (0, u "()V"), (1, .class_ 10), (1, u "java/util/AbstractCollection"), (66, .class_ 78), (0, u "java/util/Collection")] 81

def k14c0 : Code := { maxStack := 1, maxLocals := 1, code := jdk_22_method_1_code, exceptionTable := #[], attributes := #[] }
def k14m0 : Method := { name := "<init>", desc := "()V", sig := { parameters := [], returnType := none }, accessFlags := 4, code := some k14c0 }
/-- java/util/AbstractCollection -/
def k14 : Class := { plain "java/util/AbstractCollection" (some 0) with
  accessFlags := 1057
  interfaces := #[13]
  cf := some (fileOf pool14 8 #[] #[{ accessFlags := 4, nameIndex := 5, descriptorIndex := 6, attributes := #[] }] 1057 2 #[77] #[])
  fields := #[]
  methods := #[k14m0]
  instanceTypes := #[]
  staticTypes := #[]
  resolved := Array.replicate 160 none
  statics := none }

def pool15 : Array CpInfo := pool [(8, .class_ 10), (1, u "java/util/SequencedCollection"), (15, .class_ 27), (0, u "java/lang/Object"), (0, .class_ 29), (0, u "java/util/Collection")] 27

/-- java/util/SequencedCollection -/
def k15 : Class := { plain "java/util/SequencedCollection" (some 0) with
  accessFlags := 1537
  interfaces := #[13]
  cf := some (fileOf pool15 8 #[] #[] 1537 26 #[28] #[])
  fields := #[]
  methods := #[]
  instanceTypes := #[]
  staticTypes := #[]
  resolved := Array.replicate 57 none
  statics := none }

def pool16 : Array CpInfo := pool [(8, .class_ 10), (1, u "java/util/List"), (7, u "()Z"), (41, u "add"), (3, u "(Ljava/lang/Object;)Z"), (2, u "isEmpty"), (7, u "get"), (0, u "(I)Ljava/lang/Object;"), (2, u "size"), (0, u "()I"), (22, .class_ 104), (0, u "java/lang/Object"), (15, .class_ 121), (0, u "java/util/SequencedCollection")] 129

def k16m0 : Method := { name := "size", desc := "()I", sig := { parameters := [], returnType := some .int }, accessFlags := 1025, code := none }
def k16m1 : Method := { name := "isEmpty", desc := "()Z", sig := { parameters := [], returnType := some .boolean }, accessFlags := 1025, code := none }
def k16m2 : Method := { name := "add", desc := "(Ljava/lang/Object;)Z", sig := { parameters := [(.object "java/lang/Object")], returnType := some .boolean }, accessFlags := 1025, code := none }
def k16m3 : Method := { name := "get", desc := "(I)Ljava/lang/Object;", sig := { parameters := [.int], returnType := some (.object "java/lang/Object") }, accessFlags := 1025, code := none }
/-- java/util/List -/
def k16 : Class := { plain "java/util/List" (some 0) with
  accessFlags := 1537
  interfaces := #[15]
  cf := some (fileOf pool16 8 #[] #[{ accessFlags := 1025, nameIndex := 79, descriptorIndex := 80, attributes := #[] }, { accessFlags := 1025, nameIndex := 67, descriptorIndex := 18, attributes := #[] }, { accessFlags := 1025, nameIndex := 60, descriptorIndex := 64, attributes := #[] }, { accessFlags := 1025, nameIndex := 75, descriptorIndex := 76, attributes := #[] }] 1537 103 #[120] #[])
  fields := #[]
  methods := #[k16m0, k16m1, k16m2, k16m3]
  instanceTypes := #[]
  staticTypes := #[]
  resolved := Array.replicate 251 none
  statics := none }

def pool17 : Array CpInfo := pool [(1, .methodref 2 3), (0, .class_ 4), (0, .nameAndType 5 6), (0, u "java/util/AbstractCollection"), (0, u "<init>"), (0, u "()V"), (0, .fieldref 8 9), (0, .class_ 10), (0, .nameAndType 11 12), (0, u "java/util/AbstractList"), (0, u "modCount"), (0, u "I"), (64, .class_ 78), (0, u "java/util/AbstractList$Itr"), (3, .class_ 83), (0, u "java/util/AbstractList$ListItr"), (9, .class_ 94), (0, u "java/util/AbstractList$RandomAccessSubList"), (3, .class_ 99), (0, u "java/util/AbstractList$SubList"), (33, .class_ 134), (0, u "java/util/List"), (73, .class_ 209), (0, u "java/util/AbstractList$SubList$1"), (0, .class_ 211), (0, u "java/util/AbstractList$RandomAccessSpliterator")] 6

def k17c0 : Code := { maxStack := 2, maxLocals := 1, code := jdk_39_method_1_code, exceptionTable := #[], attributes := #[] }
def k17m0 : Method := { name := "<init>", desc := "()V", sig := { parameters := [], returnType := none }, accessFlags := 4, code := some k17c0 }
/-- java/util/AbstractList -/
def k17 : Class := { plain "java/util/AbstractList" (some 14) with
  accessFlags := 1057
  interfaces := #[16]
  cf := some (fileOf pool17 8 #[.nestMembers #[93, 98, 208, 210, 82, 77]] #[{ accessFlags := 4, nameIndex := 5, descriptorIndex := 6, attributes := #[] }] 1057 2 #[133] #[{ accessFlags := 132, nameIndex := 11, descriptorIndex := 12, attributes := #[] }])
  fields := #[{ name := "modCount", type := .int, accessFlags := 132, slot := 0, constantValue := 0 }]
  methods := #[k17m0]
  instanceTypes := #[.int]
  staticTypes := #[]
  resolved := Array.replicate 218 none
  statics := none }

def pool18 : Array CpInfo := pool [(1, .class_ 2), (0, u "java/util/RandomAccess"), (0, .class_ 4), (0, u "java/lang/Object")] 2

/-- java/util/RandomAccess -/
def k18 : Class := { plain "java/util/RandomAccess" (some 0) with
  accessFlags := 1537
  interfaces := #[]
  cf := some (fileOf pool18 1 #[] #[] 1537 3 #[] #[])
  fields := #[]
  methods := #[]
  instanceTypes := #[]
  staticTypes := #[]
  resolved := Array.replicate 7 none
  statics := none }

def pool19 : Array CpInfo := pool [(1, .class_ 2), (0, u "java/lang/Cloneable"), (0, .class_ 4), (0, u "java/lang/Object")] 2

/-- java/lang/Cloneable -/
def k19 : Class := { plain "java/lang/Cloneable" (some 0) with
  accessFlags := 1537
  interfaces := #[]
  cf := some (fileOf pool19 1 #[] #[] 1537 3 #[] #[])
  fields := #[]
  methods := #[]
  instanceTypes := #[]
  staticTypes := #[]
  resolved := Array.replicate 7 none
  statics := none }

def pool20 : Array CpInfo := pool [(1, .methodref 2 3), (0, .class_ 4), (0, .nameAndType 5 6), (0, u "java/util/AbstractList"), (0, u "<init>"), (0, u "()V"), (0, .class_ 8), (0, u "java/lang/Object"), (0, .fieldref 10 11), (0, .class_ 12), (0, .nameAndType 13 14), (0, u "java/util/ArrayList"), (0, u "elementData"), (0, u "[Ljava/lang/Object;"), (2, u "EMPTY_ELEMENTDATA"), (21, .fieldref 10 40), (0, .nameAndType 41 14), (0, u "DEFAULTCAPACITY_EMPTY_ELEMENTDATA"), (5, u "()[Ljava/lang/Object;"), (0, .fieldref 10 49), (0, .nameAndType 50 51), (0, u "size"), (0, u "I"), (11, .fieldref 10 64), (0, .nameAndType 65 51), (0, u "modCount"), (3, .methodref 10 70), (0, .nameAndType 71 72), (0, u "grow"), (0, u "(I)[Ljava/lang/Object;"), (6, .methodref 80 81), (0, .class_ 82), (0, .nameAndType 83 84), (0, u "java/lang/Math"), (0, u "max"), (0, u "(II)I"), (11, u "(Ljava/lang/Object;)Z"), (21, .methodref 119 120), (0, .class_ 121), (0, .nameAndType 122 84), (0, u "java/util/Objects"), (0, u "checkIndex"), (0, .methodref 10 124), (0, .nameAndType 13 125), (0, u "(I)Ljava/lang/Object;"), (3, .methodref 10 130), (0, .nameAndType 71 47), (0, .methodref 10 132), (0, .nameAndType 133 134), (0, u "add"), (0, u "(Ljava/lang/Object;[Ljava/lang/Object;I)V"), (13, .class_ 149), (0, u "java/util/List"), (23, u "()Z"), (12, u "()I"), (75, .class_ 263), (0, u "java/util/ArrayList$ListItr"), (3, .class_ 268), (0, u "java/util/ArrayList$Itr"), (7, .class_ 277), (0, u "java/util/ArrayList$SubList"), (12, .class_ 291), (0, u "java/util/ArrayList$ArrayListSpliterator"), (37, .class_ 330), (0, u "java/util/RandomAccess"), (0, .class_ 332), (0, u "java/lang/Cloneable"), (0, .class_ 334), (0, u "java/io/Serializable"), (0, u "serialVersionUID"), (0, u "J"), (3, u "DEFAULT_CAPACITY"), (22, u "isEmpty"), (17, u "get"), (118, .class_ 501), (0, u "java/util/ArrayList$SubList$2"), (0, .class_ 503), (0, u "java/util/ArrayList$SubList$1")] 5

def k20c0 : Code := { maxStack := 2, maxLocals := 1, code := jdk_38_method_2_code, exceptionTable := #[], attributes := #[] }
def k20m0 : Method := { name := "<init>", desc := "()V", sig := { parameters := [], returnType := none }, accessFlags := 1, code := some k20c0 }
def k20c1 : Code := { maxStack := 4, maxLocals := 4, code := jdk_38_method_6_code, exceptionTable := #[], attributes := #[] }
def k20m1 : Method := { name := "grow", desc := "(I)[Ljava/lang/Object;", sig := { parameters := [.int], returnType := some (.array (.object "java/lang/Object")) }, accessFlags := 2, code := some k20c1 }
def k20c2 : Code := { maxStack := 3, maxLocals := 1, code := jdk_38_method_7_code, exceptionTable := #[], attributes := #[] }
def k20m2 : Method := { name := "grow", desc := "()[Ljava/lang/Object;", sig := { parameters := [], returnType := some (.array (.object "java/lang/Object")) }, accessFlags := 2, code := some k20c2 }
def k20c3 : Code := { maxStack := 1, maxLocals := 1, code := jdk_38_method_8_code, exceptionTable := #[], attributes := #[] }
def k20m3 : Method := { name := "size", desc := "()I", sig := { parameters := [], returnType := some .int }, accessFlags := 1, code := some k20c3 }
def k20c4 : Code := { maxStack := 1, maxLocals := 1, code := jdk_38_method_9_code, exceptionTable := #[], attributes := #[] }
def k20m4 : Method := { name := "isEmpty", desc := "()Z", sig := { parameters := [], returnType := some .boolean }, accessFlags := 1, code := some k20c4 }
def k20c5 : Code := { maxStack := 2, maxLocals := 2, code := jdk_38_method_18_code, exceptionTable := #[], attributes := #[] }
def k20m5 : Method := { name := "elementData", desc := "(I)Ljava/lang/Object;", sig := { parameters := [.int], returnType := some (.object "java/lang/Object") }, accessFlags := 0, code := some k20c5 }
def k20c6 : Code := { maxStack := 2, maxLocals := 2, code := jdk_38_method_20_code, exceptionTable := #[], attributes := #[] }
def k20m6 : Method := { name := "get", desc := "(I)Ljava/lang/Object;", sig := { parameters := [.int], returnType := some (.object "java/lang/Object") }, accessFlags := 1, code := some k20c6 }
def k20c7 : Code := { maxStack := 3, maxLocals := 4, code := jdk_38_method_24_code, exceptionTable := #[], attributes := #[] }
def k20m7 : Method := { name := "add", desc := "(Ljava/lang/Object;[Ljava/lang/Object;I)V", sig := { parameters := [(.object "java/lang/Object"), (.array (.object "java/lang/Object")), .int], returnType := none }, accessFlags := 2, code := some k20c7 }
def k20c8 : Code := { maxStack := 4, maxLocals := 2, code := jdk_38_method_25_code, exceptionTable := #[], attributes := #[] }
def k20m8 : Method := { name := "add", desc := "(Ljava/lang/Object;)Z", sig := { parameters := [(.object "java/lang/Object")], returnType := some .boolean }, accessFlags := 1, code := some k20c8 }
/-- java/util/ArrayList -/
def k20 : Class := { plain "java/util/ArrayList" (some 17) with
  accessFlags := 33
  interfaces := #[16, 18, 19, 4]
  cf := some (fileOf pool20 10 #[.nestMembers #[290, 276, 500, 502, 262, 267]] #[{ accessFlags := 1, nameIndex := 5, descriptorIndex := 6, attributes := #[] }, { accessFlags := 2, nameIndex := 71, descriptorIndex := 72, attributes := #[] }, { accessFlags := 2, nameIndex := 71, descriptorIndex := 47, attributes := #[] }, { accessFlags := 1, nameIndex := 50, descriptorIndex := 186, attributes := #[] }, { accessFlags := 1, nameIndex := 363, descriptorIndex := 173, attributes := #[] }, { accessFlags := 0, nameIndex := 13, descriptorIndex := 125, attributes := #[] }, { accessFlags := 1, nameIndex := 381, descriptorIndex := 125, attributes := #[] }, { accessFlags := 2, nameIndex := 133, descriptorIndex := 134, attributes := #[] }, { accessFlags := 1, nameIndex := 133, descriptorIndex := 96, attributes := #[] }] 33 2 #[148, 329, 331, 333] #[{ accessFlags := 26, nameIndex := 335, descriptorIndex := 336, attributes := #[] }, { accessFlags := 26, nameIndex := 340, descriptorIndex := 51, attributes := #[] }, { accessFlags := 26, nameIndex := 17, descriptorIndex := 14, attributes := #[] }, { accessFlags := 26, nameIndex := 41, descriptorIndex := 14, attributes := #[] }, { accessFlags := 128, nameIndex := 13, descriptorIndex := 14, attributes := #[] }, { accessFlags := 2, nameIndex := 50, descriptorIndex := 51, attributes := #[] }])
  fields := #[{ name := "serialVersionUID", type := .long, accessFlags := 26, slot := 0, constantValue := 0 }, { name := "DEFAULT_CAPACITY", type := .int, accessFlags := 26, slot := 1, constantValue := 0 }, { name := "EMPTY_ELEMENTDATA", type := (.array (.object "java/lang/Object")), accessFlags := 26, slot := 2, constantValue := 0 }, { name := "DEFAULTCAPACITY_EMPTY_ELEMENTDATA", type := (.array (.object "java/lang/Object")), accessFlags := 26, slot := 3, constantValue := 0 }, { name := "elementData", type := (.array (.object "java/lang/Object")), accessFlags := 128, slot := 1, constantValue := 0 }, { name := "size", type := .int, accessFlags := 2, slot := 2, constantValue := 0 }]
  methods := #[k20m0, k20m1, k20m2, k20m3, k20m4, k20m5, k20m6, k20m7, k20m8]
  instanceTypes := #[.int, (.array (.object "java/lang/Object")), .int]
  staticTypes := #[.long, .int, (.array (.object "java/lang/Object")), (.array (.object "java/lang/Object"))]
  resolved := Array.replicate 509 none
  mirror := some 4
  statics := some 2 }

def pool21 : Array CpInfo := pool [(1, .methodref 2 3), (0, .class_ 4), (0, .nameAndType 5 6), (0, u "java/lang/Object"), (0, u "<init>"), (0, u "()V"), (0, .class_ 8), (0, u "java/lang/Record")] 13

def k21c0 : Code := { maxStack := 1, maxLocals := 1, code := jdk_30_method_1_code, exceptionTable := #[], attributes := #[] }
def k21m0 : Method := { name := "<init>", desc := "()V", sig := { parameters := [], returnType := none }, accessFlags := 4, code := some k21c0 }
/-- java/lang/Record -/
def k21 : Class := { plain "java/lang/Record" (some 0) with
  accessFlags := 1057
  interfaces := #[]
  cf := some (fileOf pool21 7 #[] #[{ accessFlags := 4, nameIndex := 5, descriptorIndex := 6, attributes := #[] }] 1057 2 #[] #[])
  fields := #[]
  methods := #[k21m0]
  instanceTypes := #[]
  staticTypes := #[]
  resolved := Array.replicate 22 none
  statics := none }

def pool22 : Array CpInfo := pool [(1, .methodref 2 3), (0, .class_ 4), (0, .nameAndType 5 6), (0, u "java/lang/Record"), (0, u "<init>"), (0, u "()V"), (0, .fieldref 8 9), (0, .class_ 10), (0, .nameAndType 11 12), (0, u "com/example/slicewright/slicewright/report/Report$Finding"), (0, u "kind"), (0, u "Lcom/example/slicewright/slicewright/report/ErrorKind;"), (0, .fieldref 8 14), (0, .nameAndType 15 16), (0, u "location"), (0, u "Ljava/lang/String;"), (0, .fieldref 8 18), (0, .nameAndType 19 16), (0, u "message"), (12, u "(Lcom/example/slicewright/slicewright/report/ErrorKind;Ljava/lang/String;Ljava/lang/String;)V"), (3, u "()Ljava/lang/String;"), (2, u "()Lcom/example/slicewright/slicewright/report/ErrorKind;"), (3, .class_ 44), (0, u "com/example/slicewright/slicewright/report/Report")] 21

def k22c0 : Code := { maxStack := 2, maxLocals := 4, code := prog_25_method_1_code, exceptionTable := #[], attributes := #[] }
def k22m0 : Method := { name := "<init>", desc := "(Lcom/example/slicewright/slicewright/report/ErrorKind;Ljava/lang/String;Ljava/lang/String;)V", sig := { parameters := [(.object "com/example/slicewright/slicewright/report/ErrorKind"), (.object "java/lang/String"), (.object "java/lang/String")], returnType := none }, accessFlags := 1, code := some k22c0 }
def k22c1 : Code := { maxStack := 1, maxLocals := 1, code := prog_25_method_5_code, exceptionTable := #[], attributes := #[] }
def k22m1 : Method := { name := "kind", desc := "()Lcom/example/slicewright/slicewright/report/ErrorKind;", sig := { parameters := [], returnType := some (.object "com/example/slicewright/slicewright/report/ErrorKind") }, accessFlags := 1, code := some k22c1 }
def k22c2 : Code := { maxStack := 1, maxLocals := 1, code := prog_25_method_6_code, exceptionTable := #[], attributes := #[] }
def k22m2 : Method := { name := "location", desc := "()Ljava/lang/String;", sig := { parameters := [], returnType := some (.object "java/lang/String") }, accessFlags := 1, code := some k22c2 }
def k22c3 : Code := { maxStack := 1, maxLocals := 1, code := prog_25_method_7_code, exceptionTable := #[], attributes := #[] }
def k22m3 : Method := { name := "message", desc := "()Ljava/lang/String;", sig := { parameters := [], returnType := some (.object "java/lang/String") }, accessFlags := 1, code := some k22c3 }
/-- com/example/slicewright/slicewright/report/Report$Finding -/
def k22 : Class := { plain "com/example/slicewright/slicewright/report/Report$Finding" (some 21) with
  accessFlags := 49
  interfaces := #[]
  cf := some (fileOf pool22 8 #[.nestHost 43] #[{ accessFlags := 1, nameIndex := 5, descriptorIndex := 32, attributes := #[] }, { accessFlags := 1, nameIndex := 11, descriptorIndex := 39, attributes := #[] }, { accessFlags := 1, nameIndex := 15, descriptorIndex := 36, attributes := #[] }, { accessFlags := 1, nameIndex := 19, descriptorIndex := 36, attributes := #[] }] 49 2 #[] #[{ accessFlags := 18, nameIndex := 11, descriptorIndex := 12, attributes := #[] }, { accessFlags := 18, nameIndex := 15, descriptorIndex := 16, attributes := #[] }, { accessFlags := 18, nameIndex := 19, descriptorIndex := 16, attributes := #[] }])
  fields := #[{ name := "kind", type := (.object "com/example/slicewright/slicewright/report/ErrorKind"), accessFlags := 18, slot := 0, constantValue := 0 }, { name := "location", type := (.object "java/lang/String"), accessFlags := 18, slot := 1, constantValue := 0 }, { name := "message", type := (.object "java/lang/String"), accessFlags := 18, slot := 2, constantValue := 0 }]
  methods := #[k22m0, k22m1, k22m2, k22m3]
  instanceTypes := #[(.object "com/example/slicewright/slicewright/report/ErrorKind"), (.object "java/lang/String"), (.object "java/lang/String")]
  staticTypes := #[]
  resolved := Array.replicate 66 none
  statics := none }

def pool23 : Array CpInfo := pool [(2, .class_ 4), (1, u "java/lang/Object"), (0, u "<init>"), (0, u "()V"), (35, .class_ 44), (1, u "java/util/Objects"), (0, u "requireNonNull"), (48, u "(Ljava/lang/Object;Ljava/lang/String;)Ljava/lang/Object;"), (10, .methodref 106 107), (0, .class_ 108), (0, .nameAndType 109 110), (0, u "jdk/internal/util/Preconditions"), (0, u "checkIndex"), (0, u "(IILjava/util/function/BiFunction;)I"), (60, u "(II)I")] 12

def k23m0 : Method := { name := "<init>", desc := "()V", sig := { parameters := [], returnType := none }, accessFlags := 2, code := none }
def k23c1 : Code := { maxStack := 3, maxLocals := 2, code := jdk_31_method_11_code, exceptionTable := #[], attributes := #[] }
def k23m1 : Method := { name := "requireNonNull", desc := "(Ljava/lang/Object;Ljava/lang/String;)Ljava/lang/Object;", sig := { parameters := [(.object "java/lang/Object"), (.object "java/lang/String")], returnType := some (.object "java/lang/Object") }, accessFlags := 9, code := some k23c1 }
def k23c2 : Code := { maxStack := 3, maxLocals := 2, code := jdk_31_method_17_code, exceptionTable := #[], attributes := #[] }
def k23m2 : Method := { name := "checkIndex", desc := "(II)I", sig := { parameters := [.int, .int], returnType := some .int }, accessFlags := 9, code := some k23c2 }
/-- java/util/Objects -/
def k23 : Class := { plain "java/util/Objects" (some 0) with
  accessFlags := 49
  interfaces := #[]
  cf := some (fileOf pool23 42 #[] #[{ accessFlags := 2, nameIndex := 5, descriptorIndex := 6, attributes := #[] }, { accessFlags := 9, nameIndex := 45, descriptorIndex := 94, attributes := #[] }, { accessFlags := 9, nameIndex := 109, descriptorIndex := 171, attributes := #[] }] 49 2 #[] #[])
  fields := #[]
  methods := #[k23m0, k23m1, k23m2]
  instanceTypes := #[]
  staticTypes := #[]
  resolved := Array.replicate 184 none
  statics := none }

def pool24 : Array CpInfo := pool [(1, .class_ 2), (0, u "java/lang/Math"), (1, .class_ 6), (1, u "java/lang/Object"), (0, u "<init>"), (0, u "()V"), (89, .class_ 100), (1, u "java/lang/Math$RandomNumberGeneratorHolder"), (71, u "negativeZeroFloatBits"), (0, u "J"), (2, u "negativeZeroDoubleBits"), (21, u "max"), (46, u "$assertionsDisabled"), (0, u "Z"), (88, u "(II)I"), (2, u "twoToTheDoubleScaleDown"), (0, u "D"), (4, u "twoToTheDoubleScaleUp"), (9, u "E"), (3, u "PI"), (2, u "TAU"), (2, u "DEGREES_TO_RADIANS"), (0, u "RADIANS_TO_DEGREES")] 94

def k24m0 : Method := { name := "<init>", desc := "()V", sig := { parameters := [], returnType := none }, accessFlags := 2, code := none }
def k24c1 : Code := { maxStack := 2, maxLocals := 2, code := jdk_29_method_65_code, exceptionTable := #[], attributes := #[] }
def k24m1 : Method := { name := "max", desc := "(II)I", sig := { parameters := [.int, .int], returnType := some .int }, accessFlags := 9, code := some k24c1 }
/-- java/lang/Math -/
def k24 : Class := { plain "java/lang/Math" (some 0) with
  accessFlags := 49
  interfaces := #[]
  cf := some (fileOf pool24 1 #[.nestMembers #[98]] #[{ accessFlags := 2, nameIndex := 7, descriptorIndex := 8, attributes := #[] }, { accessFlags := 9, nameIndex := 198, descriptorIndex := 335, attributes := #[] }] 49 4 #[] #[{ accessFlags := 25, nameIndex := 354, descriptorIndex := 339, attributes := #[] }, { accessFlags := 25, nameIndex := 358, descriptorIndex := 339, attributes := #[] }, { accessFlags := 25, nameIndex := 361, descriptorIndex := 339, attributes := #[] }, { accessFlags := 26, nameIndex := 364, descriptorIndex := 339, attributes := #[] }, { accessFlags := 26, nameIndex := 365, descriptorIndex := 339, attributes := #[] }, { accessFlags := 26, nameIndex := 172, descriptorIndex := 173, attributes := #[] }, { accessFlags := 26, nameIndex := 176, descriptorIndex := 173, attributes := #[] }, { accessFlags := 8, nameIndex := 344, descriptorIndex := 339, attributes := #[] }, { accessFlags := 8, nameIndex := 338, descriptorIndex := 339, attributes := #[] }, { accessFlags := 4120, nameIndex := 245, descriptorIndex := 246, attributes := #[] }])
  fields := #[{ name := "E", type := .double, accessFlags := 25, slot := 0, constantValue := 0 }, { name := "PI", type := .double, accessFlags := 25, slot := 1, constantValue := 0 }, { name := "TAU", type := .double, accessFlags := 25, slot := 2, constantValue := 0 }, { name := "DEGREES_TO_RADIANS", type := .double, accessFlags := 26, slot := 3, constantValue := 0 }, { name := "RADIANS_TO_DEGREES", type := .double, accessFlags := 26, slot := 4, constantValue := 0 }, { name := "negativeZeroFloatBits", type := .long, accessFlags := 26, slot := 5, constantValue := 0 }, { name := "negativeZeroDoubleBits", type := .long, accessFlags := 26, slot := 6, constantValue := 0 }, { name := "twoToTheDoubleScaleUp", type := .double, accessFlags := 8, slot := 7, constantValue := 0 }, { name := "twoToTheDoubleScaleDown", type := .double, accessFlags := 8, slot := 8, constantValue := 0 }, { name := "$assertionsDisabled", type := .boolean, accessFlags := 4120, slot := 9, constantValue := 0 }]
  methods := #[k24m0, k24m1]
  instanceTypes := #[]
  staticTypes := #[.double, .double, .double, .double, .double, .long, .long, .double, .double, .boolean]
  resolved := Array.replicate 460 none
  statics := none }

def pool25 : Array CpInfo := pool [(2, .class_ 4), (1, u "java/lang/Object"), (0, u "<init>"), (0, u "()V"), (1, .class_ 10), (1, u "java/util/List"), (2, .class_ 14), (0, u "java/util/RandomAccess"), (4, .class_ 20), (0, u "java/util/Collections"), (63, u "r"), (0, u "Ljava/util/Random;"), (67, u "(Ljava/util/List;)V"), (9, .nameAndType 164 165), (0, u "getClass"), (0, u "()Ljava/lang/Class;"), (0, .class_ 167), (0, u "java/util/Collections$UnmodifiableCollection"), (6, .class_ 175), (0, u "java/util/Collections$UnmodifiableSequencedCollection"), (6, .class_ 183), (0, u "java/util/Collections$UnmodifiableSet"), (6, .class_ 191), (0, u "java/util/Collections$UnmodifiableSequencedSet"), (6, .class_ 199), (0, u "java/util/Collections$UnmodifiableSortedSet"), (6, .class_ 207), (0, u "java/util/Collections$UnmodifiableNavigableSet"), (3, .interfaceMethodref 8 163), (0, .class_ 213), (0, u "java/util/Collections$UnmodifiableList"), (0, .interfaceMethodref 8 163), (0, .class_ 216), (0, u "java/util/Collections$UnmodifiableRandomAccessList"), (0, .methodref 215 218), (0, .nameAndType 5 153), (4, .class_ 224), (0, u "java/util/Collections$UnmodifiableMap"), (6, .class_ 232), (0, u "java/util/Collections$UnmodifiableSequencedMap"), (4, .class_ 238), (0, u "java/util/Collections$UnmodifiableSortedMap"), (6, .class_ 246), (0, u "java/util/Collections$UnmodifiableNavigableMap"), (3, .class_ 251), (0, u "java/util/Collections$SynchronizedCollection"), (4, .class_ 257), (0, u "java/util/Collections$SynchronizedSet"), (4, .class_ 263), (0, u "java/util/Collections$SynchronizedSortedSet"), (1, .class_ 266), (0, u "java/util/Collections$SynchronizedNavigableSet"), (1, .class_ 269), (0, u "java/util/Collections$SynchronizedRandomAccessList"), (1, .class_ 272), (0, u "java/util/Collections$SynchronizedList"), (5, .class_ 279), (0, u "java/util/Collections$SynchronizedMap"), (1, .class_ 282), (0, u "java/util/Collections$SynchronizedSortedMap"), (1, .class_ 285), (0, u "java/util/Collections$SynchronizedNavigableMap"), (1, .class_ 288), (0, u "java/util/Collections$CheckedCollection"), (11, .class_ 301), (0, u "java/util/Collections$CheckedQueue"), (3, .class_ 306), (0, u "java/util/Collections$CheckedSet"), (3, .class_ 311), (0, u "java/util/Collections$CheckedSortedSet"), (3, .class_ 316), (0, u "java/util/Collections$CheckedNavigableSet"), (3, .class_ 321), (0, u "java/util/Collections$CheckedRandomAccessList"), (3, .class_ 326), (0, u "java/util/Collections$CheckedList"), (1, .class_ 329), (0, u "java/util/Collections$CheckedMap"), (3, .class_ 334), (0, u "java/util/Collections$CheckedSortedMap"), (3, .class_ 339), (0, u "java/util/Collections$CheckedNavigableMap"), (4, .class_ 346), (1, u "java/util/Collections$EmptyIterator"), (3, .class_ 352), (1, u "java/util/Collections$EmptyListIterator"), (2, .class_ 357), (1, u "java/util/Collections$EmptyEnumeration"), (4, u "EMPTY_SET"), (0, u "Ljava/util/Set;"), (6, u "EMPTY_LIST"), (0, u "Ljava/util/List;"), (2, u "EMPTY_MAP"), (0, u "Ljava/util/Map;"), (4, .class_ 381), (0, u "java/util/Collections$SingletonSet"), (2, .class_ 385), (0, u "java/util/Collections$1"), (1, .class_ 388), (0, u "java/util/Collections$2"), (1, .class_ 391), (0, u "java/util/Collections$SingletonList"), (1, .class_ 394), (0, u "java/util/Collections$SingletonMap"), (22, .class_ 418), (0, u "java/util/Collections$CopiesList"), (4, .class_ 425), (1, u "java/util/Collections$ReverseComparator"), (8, .class_ 435), (0, u "java/util/Collections$ReverseComparator2"), (6, .class_ 443), (0, u "java/util/Collections$3"), (25, .class_ 470), (0, u "java/util/Collections$SetFromMap"), (2, .class_ 474), (0, u "java/util/Collections$SequencedSetFromMap"), (3, .class_ 479), (0, u "java/util/Collections$AsLIFOQueue"), (11, .class_ 492), (0, u "java/util/Collections$EmptySet"), (1, .class_ 495), (0, u "java/util/Collections$EmptyList"), (1, .class_ 498), (0, u "java/util/Collections$EmptyMap"), (1, u "BINARYSEARCH_THRESHOLD"), (0, u "I"), (2, u "REVERSE_THRESHOLD"), (1, u "SHUFFLE_THRESHOLD"), (1, u "FILL_THRESHOLD"), (1, u "ROTATE_THRESHOLD"), (1, u "COPY_THRESHOLD"), (1, u "REPLACEALL_THRESHOLD"), (1, u "INDEXOFSUBLIST_THRESHOLD"), (129, u "unmodifiableList"), (0, u "(Ljava/util/List;)Ljava/util/List;"), (202, .class_ 851), (0, u "java/util/Collections$CheckedMap$CheckedEntrySet"), (0, .class_ 853), (0, u "java/util/Collections$CheckedMap$CheckedEntrySet$CheckedEntry"), (0, .class_ 855), (0, u "java/util/Collections$CheckedMap$CheckedEntrySet$1"), (0, .class_ 857), (0, u "java/util/Collections$CheckedList$1"), (0, .class_ 859), (0, u "java/util/Collections$CheckedCollection$1"), (0, .class_ 861), (0, u "java/util/Collections$UnmodifiableNavigableMap$EmptyNavigableMap"), (0, .class_ 863), (0, u "java/util/Collections$UnmodifiableMap$UnmodifiableEntrySet"), (0, .class_ 865), (0, u "java/util/Collections$UnmodifiableMap$UnmodifiableEntrySet$UnmodifiableEntry"), (0, .class_ 867), (0, u "java/util/Collections$UnmodifiableMap$UnmodifiableEntrySet$UnmodifiableEntrySetSpliterator"), (0, .class_ 869), (0, u "java/util/Collections$UnmodifiableMap$UnmodifiableEntrySet$1"), (0, .class_ 871), (0, u "java/util/Collections$UnmodifiableList$1"), (0, .class_ 873), (0, u "java/util/Collections$UnmodifiableNavigableSet$EmptyNavigableSet"), (0, .class_ 875), (0, u "java/util/Collections$UnmodifiableCollection$1")] 57

def k25m0 : Method := { name := "<init>", desc := "()V", sig := { parameters := [], returnType := none }, accessFlags := 2, code := none }
def k25c1 : Code := { maxStack := 3, maxLocals := 1, code := jdk_79_method_35_code, exceptionTable := #[], attributes := #[] }
def k25m1 : Method := { name := "unmodifiableList", desc := "(Ljava/util/List;)Ljava/util/List;", sig := { parameters := [(.object "java/util/List")], returnType := some (.object "java/util/List") }, accessFlags := 9, code := some k25c1 }
/-- java/util/Collections -/
def k25 : Class := { plain "java/util/Collections" (some 0) with
  accessFlags := 33
  interfaces := #[]
  cf := some (fileOf pool25 19 #[.nestMembers #[478, 473, 469, 434, 423, 417, 393, 390, 380, 497, 494, 491, 355, 350, 344, 338, 333, 328, 850, 852, 854, 320, 325, 856, 315, 310, 305, 300, 287, 858, 284, 281, 278, 268, 271, 265, 262, 256, 250, 245, 860, 237, 231, 223, 862, 864, 866, 868, 215, 212, 870, 206, 872, 198, 190, 182, 174, 166, 874, 442, 387, 384]] #[{ accessFlags := 2, nameIndex := 5, descriptorIndex := 6, attributes := #[] }, { accessFlags := 9, nameIndex := 646, descriptorIndex := 647, attributes := #[] }] 33 2 #[] #[{ accessFlags := 26, nameIndex := 500, descriptorIndex := 501, attributes := #[] }, { accessFlags := 26, nameIndex := 504, descriptorIndex := 501, attributes := #[] }, { accessFlags := 26, nameIndex := 506, descriptorIndex := 501, attributes := #[] }, { accessFlags := 26, nameIndex := 508, descriptorIndex := 501, attributes := #[] }, { accessFlags := 26, nameIndex := 510, descriptorIndex := 501, attributes := #[] }, { accessFlags := 26, nameIndex := 512, descriptorIndex := 501, attributes := #[] }, { accessFlags := 26, nameIndex := 514, descriptorIndex := 501, attributes := #[] }, { accessFlags := 26, nameIndex := 516, descriptorIndex := 501, attributes := #[] }, { accessFlags := 10, nameIndex := 84, descriptorIndex := 85, attributes := #[] }, { accessFlags := 25, nameIndex := 362, descriptorIndex := 363, attributes := #[] }, { accessFlags := 25, nameIndex := 370, descriptorIndex := 371, attributes := #[] }, { accessFlags := 25, nameIndex := 374, descriptorIndex := 375, attributes := #[] }])
  fields := #[{ name := "BINARYSEARCH_THRESHOLD", type := .int, accessFlags := 26, slot := 0, constantValue := 0 }, { name := "REVERSE_THRESHOLD", type := .int, accessFlags := 26, slot := 1, constantValue := 0 }, { name := "SHUFFLE_THRESHOLD", type := .int, accessFlags := 26, slot := 2, constantValue := 0 }, { name := "FILL_THRESHOLD", type := .int, accessFlags := 26, slot := 3, constantValue := 0 }, { name := "ROTATE_THRESHOLD", type := .int, accessFlags := 26, slot := 4, constantValue := 0 }, { name := "COPY_THRESHOLD", type := .int, accessFlags := 26, slot := 5, constantValue := 0 }, { name := "REPLACEALL_THRESHOLD", type := .int, accessFlags := 26, slot := 6, constantValue := 0 }, { name := "INDEXOFSUBLIST_THRESHOLD", type := .int, accessFlags := 26, slot := 7, constantValue := 0 }, { name := "r", type := (.object "java/util/Random"), accessFlags := 10, slot := 8, constantValue := 0 }, { name := "EMPTY_SET", type := (.object "java/util/Set"), accessFlags := 25, slot := 9, constantValue := 0 }, { name := "EMPTY_LIST", type := (.object "java/util/List"), accessFlags := 25, slot := 10, constantValue := 0 }, { name := "EMPTY_MAP", type := (.object "java/util/Map"), accessFlags := 25, slot := 11, constantValue := 0 }]
  methods := #[k25m0, k25m1]
  instanceTypes := #[]
  staticTypes := #[.int, .int, .int, .int, .int, .int, .int, .int, (.object "java/util/Random"), (.object "java/util/Set"), (.object "java/util/List"), (.object "java/util/Map")]
  resolved := Array.replicate 933 none
  statics := none }

def pool26 : Array CpInfo := pool [(1, .methodref 2 3), (0, .class_ 4), (0, .nameAndType 5 6), (0, u "java/lang/Object"), (0, u "<init>"), (0, u "()V"), (3, .fieldref 11 12), (0, .class_ 13), (0, .nameAndType 14 15), (0, u "java/util/Collections$UnmodifiableCollection"), (0, u "c"), (0, u "Ljava/util/Collection;"), (0, .interfaceMethodref 17 18), (0, .class_ 19), (0, .nameAndType 20 21), (0, u "java/util/Collection"), (0, u "size"), (0, u "()I"), (49, .class_ 72), (0, u "java/io/Serializable"), (0, u "serialVersionUID"), (0, u "J"), (5, u "(Ljava/util/Collection;)V"), (51, .class_ 133), (0, u "java/util/Collections")] 2

def k26c0 : Code := { maxStack := 2, maxLocals := 2, code := jdk_119_method_1_code, exceptionTable := #[], attributes := #[] }
def k26m0 : Method := { name := "<init>", desc := "(Ljava/util/Collection;)V", sig := { parameters := [(.object "java/util/Collection")], returnType := none }, accessFlags := 0, code := some k26c0 }
def k26c1 : Code := { maxStack := 1, maxLocals := 1, code := jdk_119_method_2_code, exceptionTable := #[], attributes := #[] }
def k26m1 : Method := { name := "size", desc := "()I", sig := { parameters := [], returnType := some .int }, accessFlags := 1, code := some k26c1 }
/-- java/util/Collections$UnmodifiableCollection -/
def k26 : Class := { plain "java/util/Collections$UnmodifiableCollection" (some 0) with
  accessFlags := 32
  interfaces := #[13, 4]
  cf := some (fileOf pool26 11 #[.nestHost 132] #[{ accessFlags := 0, nameIndex := 5, descriptorIndex := 80, attributes := #[] }, { accessFlags := 1, nameIndex := 20, descriptorIndex := 21, attributes := #[] }] 32 2 #[17, 71] #[{ accessFlags := 26, nameIndex := 73, descriptorIndex := 74, attributes := #[] }, { accessFlags := 16, nameIndex := 14, descriptorIndex := 15, attributes := #[] }])
  fields := #[{ name := "serialVersionUID", type := .long, accessFlags := 26, slot := 0, constantValue := 0 }, { name := "c", type := (.object "java/util/Collection"), accessFlags := 16, slot := 0, constantValue := 0 }]
  methods := #[k26m0, k26m1]
  instanceTypes := #[(.object "java/util/Collection")]
  staticTypes := #[.long]
  resolved := Array.replicate 136 none
  statics := none }

def pool27 : Array CpInfo := pool [(1, .methodref 2 3), (0, .class_ 4), (0, .nameAndType 5 6), (0, u "java/util/Collections$UnmodifiableCollection"), (0, u "<init>"), (0, u "(Ljava/util/Collection;)V"), (0, .fieldref 8 9), (0, .class_ 10), (0, .nameAndType 11 12), (0, u "java/util/Collections$UnmodifiableList"), (0, u "list"), (0, u "Ljava/util/List;"), (1, .class_ 16), (1, u "java/util/List"), (6, .interfaceMethodref 14 24), (0, .nameAndType 25 26), (0, u "get"), (0, u "(I)Ljava/lang/Object;"), (27, u "(Ljava/util/List;)V"), (5, u "serialVersionUID"), (0, u "J"), (59, .class_ 122), (0, u "java/util/Collections")] 4

def k27c0 : Code := { maxStack := 2, maxLocals := 2, code := jdk_120_method_1_code, exceptionTable := #[], attributes := #[] }
def k27m0 : Method := { name := "<init>", desc := "(Ljava/util/List;)V", sig := { parameters := [(.object "java/util/List")], returnType := none }, accessFlags := 0, code := some k27c0 }
def k27c1 : Code := { maxStack := 2, maxLocals := 2, code := jdk_120_method_4_code, exceptionTable := #[], attributes := #[] }
def k27m1 : Method := { name := "get", desc := "(I)Ljava/lang/Object;", sig := { parameters := [.int], returnType := some (.object "java/lang/Object") }, accessFlags := 1, code := some k27c1 }
/-- java/util/Collections$UnmodifiableList -/
def k27 : Class := { plain "java/util/Collections$UnmodifiableList" (some 26) with
  accessFlags := 32
  interfaces := #[16]
  cf := some (fileOf pool27 8 #[.nestHost 121] #[{ accessFlags := 0, nameIndex := 5, descriptorIndex := 54, attributes := #[] }, { accessFlags := 1, nameIndex := 25, descriptorIndex := 26, attributes := #[] }] 32 2 #[14] #[{ accessFlags := 26, nameIndex := 60, descriptorIndex := 61, attributes := #[] }, { accessFlags := 16, nameIndex := 11, descriptorIndex := 12, attributes := #[] }])
  fields := #[{ name := "serialVersionUID", type := .long, accessFlags := 26, slot := 0, constantValue := 0 }, { name := "list", type := (.object "java/util/List"), accessFlags := 16, slot := 1, constantValue := 0 }]
  methods := #[k27m0, k27m1]
  instanceTypes := #[(.object "java/util/Collection"), (.object "java/util/List")]
  staticTypes := #[.long]
  resolved := Array.replicate 127 none
  mirror := some 5
  statics := none }

def pool28 : Array CpInfo := pool [(1, .methodref 2 3), (0, .class_ 4), (0, .nameAndType 5 6), (0, u "java/util/Collections$UnmodifiableList"), (0, u "<init>"), (0, u "(Ljava/util/List;)V"), (0, .class_ 8), (0, u "java/util/Collections$UnmodifiableRandomAccessList"), (11, .class_ 21), (0, u "java/util/RandomAccess"), (0, u "serialVersionUID"), (0, u "J"), (23, .class_ 48), (0, u "java/util/Collections")] 3

def k28c0 : Code := { maxStack := 2, maxLocals := 2, code := jdk_121_method_1_code, exceptionTable := #[], attributes := #[] }
def k28m0 : Method := { name := "<init>", desc := "(Ljava/util/List;)V", sig := { parameters := [(.object "java/util/List")], returnType := none }, accessFlags := 0, code := some k28c0 }
/-- java/util/Collections$UnmodifiableRandomAccessList -/
def k28 : Class := { plain "java/util/Collections$UnmodifiableRandomAccessList" (some 27) with
  accessFlags := 32
  interfaces := #[18]
  cf := some (fileOf pool28 7 #[.nestHost 47] #[{ accessFlags := 0, nameIndex := 5, descriptorIndex := 6, attributes := #[] }] 32 2 #[20] #[{ accessFlags := 26, nameIndex := 22, descriptorIndex := 23, attributes := #[] }])
  fields := #[{ name := "serialVersionUID", type := .long, accessFlags := 26, slot := 0, constantValue := 0 }]
  methods := #[k28m0]
  instanceTypes := #[(.object "java/util/Collection"), (.object "java/util/List")]
  staticTypes := #[.long]
  resolved := Array.replicate 52 none
  mirror := some 6
  statics := none }

def pool29 : Array CpInfo := pool [(2, .class_ 4), (1, u "java/lang/Object"), (0, u "<init>"), (0, u "()V"), (17, .class_ 26), (1, u "jdk/internal/util/Preconditions"), (6, u "checkIndex"), (21, .class_ 56), (0, u "jdk/internal/util/Preconditions$4"), (57, .class_ 115), (0, u "jdk/internal/util/Preconditions$1"), (7, u "SIOOBE_FORMATTER"), (0, u "Ljava/util/function/BiFunction;"), (0, .class_ 126), (0, u "jdk/internal/util/Preconditions$2"), (3, u "AIOOBE_FORMATTER"), (0, .class_ 132), (0, u "jdk/internal/util/Preconditions$3"), (3, u "IOOBE_FORMATTER"), (41, u "(IILjava/util/function/BiFunction;)I")] 15

def k29m0 : Method := { name := "<init>", desc := "()V", sig := { parameters := [], returnType := none }, accessFlags := 1, code := none }
def k29c1 : Code := { maxStack := 3, maxLocals := 3, code := jdk_41_method_11_code, exceptionTable := #[], attributes := #[] }
def k29m1 : Method := { name := "checkIndex", desc := "(IILjava/util/function/BiFunction;)I", sig := { parameters := [.int, .int, (.object "java/util/function/BiFunction")], returnType := some .int }, accessFlags := 9, code := some k29c1 }
/-- jdk/internal/util/Preconditions -/
def k29 : Class := { plain "jdk/internal/util/Preconditions" (some 0) with
  accessFlags := 33
  interfaces := #[]
  cf := some (fileOf pool29 24 #[.nestMembers #[55, 131, 125, 114]] #[{ accessFlags := 1, nameIndex := 5, descriptorIndex := 6, attributes := #[] }, { accessFlags := 9, nameIndex := 33, descriptorIndex := 178, attributes := #[] }] 33 2 #[] #[{ accessFlags := 25, nameIndex := 123, descriptorIndex := 124, attributes := #[] }, { accessFlags := 25, nameIndex := 130, descriptorIndex := 124, attributes := #[] }, { accessFlags := 25, nameIndex := 136, descriptorIndex := 124, attributes := #[] }])
  fields := #[{ name := "SIOOBE_FORMATTER", type := (.object "java/util/function/BiFunction"), accessFlags := 25, slot := 0, constantValue := 0 }, { name := "AIOOBE_FORMATTER", type := (.object "java/util/function/BiFunction"), accessFlags := 25, slot := 1, constantValue := 0 }, { name := "IOOBE_FORMATTER", type := (.object "java/util/function/BiFunction"), accessFlags := 25, slot := 2, constantValue := 0 }]
  methods := #[k29m0, k29m1]
  instanceTypes := #[]
  staticTypes := #[(.object "java/util/function/BiFunction"), (.object "java/util/function/BiFunction"), (.object "java/util/function/BiFunction")]
  resolved := Array.replicate 194 none
  statics := some 3 }

def pool30 : Array CpInfo := pool [(6, .class_ 8), (1, u "java/lang/Object"), (0, u "<init>"), (0, u "()V"), (1, .class_ 14), (1, u "java/lang/StringUTF16"), (31, u "$assertionsDisabled"), (0, u "Z"), (13, u "HI_BYTE_SHIFT"), (0, u "I"), (2, u "LO_BYTE_SHIFT"), (49, .methodref 12 116), (0, .nameAndType 117 118), (0, u "compress"), (0, u "([CI[BII)I"), (3, u "([CII)[B"), (138, u "coderFromArrayLen"), (0, u "([BI)B"), (106, .class_ 371), (1, u "java/lang/StringUTF16$LinesSpliterator"), (58, u "MAX_LENGTH"), (196, .class_ 628), (0, u "java/lang/StringUTF16$CodePointsSpliterator"), (0, .class_ 630), (0, u "java/lang/StringUTF16$CharsSpliterator")] 4

def k30m0 : Method := { name := "<init>", desc := "()V", sig := { parameters := [], returnType := none }, accessFlags := 0, code := none }
def k30c1 : Code := { maxStack := 2, maxLocals := 2, code := jdk_52_method_15_code, exceptionTable := #[], attributes := #[] }
def k30m1 : Method := { name := "coderFromArrayLen", desc := "([BI)B", sig := { parameters := [(.array .byte), .int], returnType := some .byte }, accessFlags := 8, code := some k30c1 }
def k30c2 : Code := { maxStack := 5, maxLocals := 6, code := jdk_52_method_16_code, exceptionTable := #[], attributes := #[] }
def k30m2 : Method := { name := "compress", desc := "([CII)[B", sig := { parameters := [(.array .char), .int, .int], returnType := some (.array .byte) }, accessFlags := 9, code := some k30c2 }
def k30c3 : Code := { maxStack := 3, maxLocals := 7, code := jdk_52_method_21_code, exceptionTable := #[], attributes := #[] }
def k30m3 : Method := { name := "compress", desc := "([CI[BII)I", sig := { parameters := [(.array .char), .int, (.array .byte), .int, .int], returnType := some .int }, accessFlags := 9, code := some k30c3 }
/-- java/lang/StringUTF16 -/
def k30 : Class := { plain "java/lang/StringUTF16" (some 0) with
  accessFlags := 48
  interfaces := #[]
  cf := some (fileOf pool30 12 #[.nestMembers #[627, 629, 369]] #[{ accessFlags := 0, nameIndex := 9, descriptorIndex := 10, attributes := #[] }, { accessFlags := 8, nameIndex := 261, descriptorIndex := 262, attributes := #[] }, { accessFlags := 9, nameIndex := 117, descriptorIndex := 122, attributes := #[] }, { accessFlags := 9, nameIndex := 117, descriptorIndex := 118, attributes := #[] }] 48 6 #[] #[{ accessFlags := 26, nameIndex := 61, descriptorIndex := 62, attributes := #[] }, { accessFlags := 26, nameIndex := 65, descriptorIndex := 62, attributes := #[] }, { accessFlags := 24, nameIndex := 430, descriptorIndex := 62, attributes := #[] }, { accessFlags := 4120, nameIndex := 46, descriptorIndex := 47, attributes := #[] }])
  fields := #[{ name := "HI_BYTE_SHIFT", type := .int, accessFlags := 26, slot := 0, constantValue := 0 }, { name := "LO_BYTE_SHIFT", type := .int, accessFlags := 26, slot := 1, constantValue := 0 }, { name := "MAX_LENGTH", type := .int, accessFlags := 24, slot := 2, constantValue := 0 }, { name := "$assertionsDisabled", type := .boolean, accessFlags := 4120, slot := 3, constantValue := 0 }]
  methods := #[k30m0, k30m1, k30m2, k30m3]
  instanceTypes := #[]
  staticTypes := #[.int, .int, .int, .boolean]
  resolved := Array.replicate 635 none
  statics := none }

def pool31 : Array CpInfo := pool [(9, u "<init>"), (6, .class_ 18), (1, u "java/lang/Object"), (0, u "()V"), (1, .class_ 23), (1, u "jdk/internal/util/ArraysSupport"), (0, u "LOG2_ARRAY_LONG_INDEX_SCALE"), (0, u "I"), (2, u "U"), (0, u "Ljdk/internal/misc/Unsafe;"), (8, u "BIG_ENDIAN"), (0, u "Z"), (8, u "LOG2_BYTE_BIT_SIZE"), (4, u "LOG2_ARRAY_INT_INDEX_SCALE"), (54, u "JLA"), (0, u "Ljdk/internal/access/JavaLangAccess;"), (11, u "LOG2_ARRAY_BOOLEAN_INDEX_SCALE"), (9, u "LOG2_ARRAY_BYTE_INDEX_SCALE"), (5, u "LOG2_ARRAY_CHAR_INDEX_SCALE"), (5, u "LOG2_ARRAY_SHORT_INDEX_SCALE"), (18, u "LOG2_ARRAY_FLOAT_INDEX_SCALE"), (24, u "LOG2_ARRAY_DOUBLE_INDEX_SCALE"), (89, u "T_BOOLEAN"), (2, u "T_CHAR"), (1, u "T_FLOAT"), (1, u "T_DOUBLE"), (1, u "T_BYTE"), (1, u "T_SHORT"), (1, u "T_INT"), (1, u "T_LONG"), (1, u "SOFT_MAX_ARRAY_LENGTH")] 83

def k31m0 : Method := { name := "<init>", desc := "()V", sig := { parameters := [], returnType := none }, accessFlags := 2, code := none }
/-- jdk/internal/util/ArraysSupport -/
def k31 : Class := { plain "jdk/internal/util/ArraysSupport" (some 0) with
  accessFlags := 33
  interfaces := #[]
  cf := some (fileOf pool31 21 #[] #[{ accessFlags := 2, nameIndex := 9, descriptorIndex := 19, attributes := #[] }] 33 16 #[] #[{ accessFlags := 24, nameIndex := 28, descriptorIndex := 29, attributes := #[] }, { accessFlags := 26, nameIndex := 38, descriptorIndex := 39, attributes := #[] }, { accessFlags := 25, nameIndex := 121, descriptorIndex := 25, attributes := #[] }, { accessFlags := 25, nameIndex := 131, descriptorIndex := 25, attributes := #[] }, { accessFlags := 25, nameIndex := 137, descriptorIndex := 25, attributes := #[] }, { accessFlags := 25, nameIndex := 143, descriptorIndex := 25, attributes := #[] }, { accessFlags := 25, nameIndex := 53, descriptorIndex := 25, attributes := #[] }, { accessFlags := 25, nameIndex := 24, descriptorIndex := 25, attributes := #[] }, { accessFlags := 25, nameIndex := 162, descriptorIndex := 25, attributes := #[] }, { accessFlags := 25, nameIndex := 187, descriptorIndex := 25, attributes := #[] }, { accessFlags := 26, nameIndex := 48, descriptorIndex := 25, attributes := #[] }, { accessFlags := 25, nameIndex := 277, descriptorIndex := 25, attributes := #[] }, { accessFlags := 25, nameIndex := 280, descriptorIndex := 25, attributes := #[] }, { accessFlags := 25, nameIndex := 282, descriptorIndex := 25, attributes := #[] }, { accessFlags := 25, nameIndex := 284, descriptorIndex := 25, attributes := #[] }, { accessFlags := 25, nameIndex := 286, descriptorIndex := 25, attributes := #[] }, { accessFlags := 25, nameIndex := 288, descriptorIndex := 25, attributes := #[] }, { accessFlags := 25, nameIndex := 290, descriptorIndex := 25, attributes := #[] }, { accessFlags := 25, nameIndex := 292, descriptorIndex := 25, attributes := #[] }, { accessFlags := 26, nameIndex := 108, descriptorIndex := 109, attributes := #[] }, { accessFlags := 25, nameIndex := 294, descriptorIndex := 25, attributes := #[] }])
  fields := #[{ name := "U", type := (.object "jdk/internal/misc/Unsafe"), accessFlags := 24, slot := 0, constantValue := 0 }, { name := "BIG_ENDIAN", type := .boolean, accessFlags := 26, slot := 1, constantValue := 0 }, { name := "LOG2_ARRAY_BOOLEAN_INDEX_SCALE", type := .int, accessFlags := 25, slot := 2, constantValue := 0 }, { name := "LOG2_ARRAY_BYTE_INDEX_SCALE", type := .int, accessFlags := 25, slot := 3, constantValue := 0 }, { name := "LOG2_ARRAY_CHAR_INDEX_SCALE", type := .int, accessFlags := 25, slot := 4, constantValue := 0 }, { name := "LOG2_ARRAY_SHORT_INDEX_SCALE", type := .int, accessFlags := 25, slot := 5, constantValue := 0 }, { name := "LOG2_ARRAY_INT_INDEX_SCALE", type := .int, accessFlags := 25, slot := 6, constantValue := 0 }, { name := "LOG2_ARRAY_LONG_INDEX_SCALE", type := .int, accessFlags := 25, slot := 7, constantValue := 0 }, { name := "LOG2_ARRAY_FLOAT_INDEX_SCALE", type := .int, accessFlags := 25, slot := 8, constantValue := 0 }, { name := "LOG2_ARRAY_DOUBLE_INDEX_SCALE", type := .int, accessFlags := 25, slot := 9, constantValue := 0 }, { name := "LOG2_BYTE_BIT_SIZE", type := .int, accessFlags := 26, slot := 10, constantValue := 0 }, { name := "T_BOOLEAN", type := .int, accessFlags := 25, slot := 11, constantValue := 0 }, { name := "T_CHAR", type := .int, accessFlags := 25, slot := 12, constantValue := 0 }, { name := "T_FLOAT", type := .int, accessFlags := 25, slot := 13, constantValue := 0 }, { name := "T_DOUBLE", type := .int, accessFlags := 25, slot := 14, constantValue := 0 }, { name := "T_BYTE", type := .int, accessFlags := 25, slot := 15, constantValue := 0 }, { name := "T_SHORT", type := .int, accessFlags := 25, slot := 16, constantValue := 0 }, { name := "T_INT", type := .int, accessFlags := 25, slot := 17, constantValue := 0 }, { name := "T_LONG", type := .int, accessFlags := 25, slot := 18, constantValue := 0 }, { name := "JLA", type := (.object "jdk/internal/access/JavaLangAccess"), accessFlags := 26, slot := 19, constantValue := 0 }, { name := "SOFT_MAX_ARRAY_LENGTH", type := .int, accessFlags := 25, slot := 20, constantValue := 0 }]
  methods := #[k31m0]
  instanceTypes := #[]
  staticTypes := #[(.object "jdk/internal/misc/Unsafe"), .boolean, .int, .int, .int, .int, .int, .int, .int, .int, .int, .int, .int, .int, .int, .int, .int, .int, .int, (.object "jdk/internal/access/JavaLangAccess"), .int]
  resolved := Array.replicate 378 none
  statics := none }

def pool32 : Array CpInfo := pool [(1, u "java/lang/Class"), (0, .class_ 1), (0, u "java/lang/Object"), (0, .class_ 3)] 3

/-- java/lang/Class -/
def k32 : Class := { plain "java/lang/Class" (some 0) with
  accessFlags := 49
  interfaces := #[]
  cf := some (fileOf pool32 2 #[] #[] 49 4 #[] #[])
  fields := #[]
  methods := #[]
  instanceTypes := #[]
  staticTypes := #[]
  resolved := Array.replicate 8 none
  statics := none }

/-- the primitive byte -/
def k33 : Class := { plain "byte" none with kind := .primitive 'B', accessFlags := 0x411 }
/-- [B -/
def k34 : Class := { plain "[B" (some 0) with kind := .array 33 .byte, interfaces := #[19, 4], accessFlags := 1041 }

/-- the primitive char -/
def k35 : Class := { plain "char" none with kind := .primitive 'C', accessFlags := 0x411 }
/-- [C -/
def k36 : Class := { plain "[C" (some 0) with kind := .array 35 .char, interfaces := #[19, 4], accessFlags := 1041 }

/-- the primitive int -/
def k37 : Class := { plain "int" none with kind := .primitive 'I', accessFlags := 0x411 }
/-- [I -/
def k38 : Class := { plain "[I" (some 0) with kind := .array 37 .int, interfaces := #[19, 4], accessFlags := 1041 }

/-- [Lcom/example/slicewright/slicewright/report/ErrorKind; -/
def k39 : Class := { plain "[Lcom/example/slicewright/slicewright/report/ErrorKind;" (some 0) with kind := .array 6 (.object "com/example/slicewright/slicewright/report/ErrorKind"), interfaces := #[19, 4], accessFlags := 1041 }

/-- [Ljava/lang/Object; -/
def k40 : Class := { plain "[Ljava/lang/Object;" (some 0) with kind := .array 0 (.object "java/lang/Object"), interfaces := #[19, 4], accessFlags := 1041 }

def heap : Heap := #[{ cls := 6, slots := #[.ref 7, .ref 8, .ref 9, .ref 10, .ref 11, .ref 12, .ref 13, .ref 14, .ref 15, .ref 16, .ref 17, .ref 18, .ref 19, .ref 20, .null], vm := .statics 6 },
  { cls := 9, slots := #[.long 0, .int 1, .null, .int 0, .null, .int 0, .int 0], vm := .statics 9 },
  { cls := 20, slots := #[.long 0, .int 0, .ref 21, .ref 22], vm := .statics 20 },
  { cls := 29, slots := #[.null, .null, .null], vm := .statics 29 },
  { cls := 32, slots := #[], vm := .mirror 20 },
  { cls := 32, slots := #[], vm := .mirror 27 },
  { cls := 32, slots := #[], vm := .mirror 28 },
  { cls := 6, slots := #[.null, .int 0, .int 0, .null], vm := .none },
  { cls := 6, slots := #[.null, .int 1, .int 0, .null], vm := .none },
  { cls := 6, slots := #[.null, .int 2, .int 0, .null], vm := .none },
  { cls := 6, slots := #[.null, .int 3, .int 0, .null], vm := .none },
  { cls := 6, slots := #[.null, .int 4, .int 0, .null], vm := .none },
  { cls := 6, slots := #[.null, .int 5, .int 0, .null], vm := .none },
  { cls := 6, slots := #[.null, .int 6, .int 0, .null], vm := .none },
  { cls := 6, slots := #[.null, .int 7, .int 0, .null], vm := .none },
  { cls := 6, slots := #[.null, .int 8, .int 0, .null], vm := .none },
  { cls := 6, slots := #[.null, .int 9, .int 0, .null], vm := .none },
  { cls := 6, slots := #[.null, .int 10, .int 0, .null], vm := .none },
  { cls := 6, slots := #[.null, .int 11, .int 0, .null], vm := .none },
  { cls := 6, slots := #[.null, .int 12, .int 0, .null], vm := .none },
  { cls := 6, slots := #[.null, .int 13, .int 0, .null], vm := .none },
  { cls := 40, slots := #[], vm := .none },
  { cls := 40, slots := #[], vm := .none }]
def classes : Array Class := #[k0, k1, k2, k3, k4, k5, k6, k7, k8, k9, k10, k11, k12, k13, k14, k15, k16, k17, k18, k19, k20, k21, k22, k23, k24, k25, k26, k27, k28, k29, k30, k31, k32, k33, k34, k35, k36, k37, k38, k39, k40]
def interned : List (Array UInt16 × Addr) := []
def slotsUsed : Nat := 85
def theMethod : MethodId := ⟨1, 3⟩
def args0 : Array Value := #[.int 5, .int 7, .int 65, .int 3]
def aboutOver (below : List Frame) : State where
  vm := { classes := classes, interned := interned.toArray }
  heap := heap
  slotsUsed := slotsUsed
  threads := #[{ frames := .invoking theMethod args0 :: below }]
def below0 : List Frame := [.native { method := ⟨0, 0⟩, args := #[] }]
def about1 : State := aboutOver below0
def p0 : Program := .bare "" "" ""
def e0 : Env := launch0.env 0 0 0
theorem w_frames : about1.frames = Frame.invoking theMethod args0 :: below0 := rfl
set_option maxRecDepth 65536 in
theorem w_args : argsFit about1.vm theMethod args0 = true := by decide +kernel
set_option maxRecDepth 65536 in
theorem w_heap : heapFits about1 = true := by decide +kernel
set_option maxRecDepth 65536 in
theorem w_runnable : about1.curStatus? = some .runnable := by decide +kernel
set_option maxRecDepth 65536 in
theorem w_alone : about1.alone = true := by decide +kernel
set_option maxRecDepth 65536 in
theorem w_named : about1.methodNamed? x = some theMethod := by decide +kernel
set_option maxRecDepth 65536 in
theorem w_hears : about1.hears theMethod below0 = true := by decide +kernel
set_option maxRecDepth 65536 in
theorem w_ripe : about1.ripe theMethod args0 below0 = true := by decide +kernel
theorem w_running : about1.status = .running := rfl
set_option maxRecDepth 65536 in
theorem w_room : about1.hasRoom e0.platform room_1 = true :=
  launch0.hasRoom_least _ room_1 (by decide +kernel) (by decide +kernel) (by decide +kernel) (by decide +kernel) (by decide +kernel) (by decide +kernel)
theorem allAtoms_all (ts : List Jvm.Cond) (a : Array Jvm.Value) (st : Jvm.State) : (allAtoms ts).before a st = ts.all (fun c => c.before a st) := by
  induction ts with
  | nil => rfl
  | cons c t ih =>
    show (Jvm.Cond.and c (allAtoms t)).before a st = _
    rw [Jvm.Cond.before_and, ih, List.all_cons]
def words1 : List Jvm.Cond := Jvm.Cond.code x code maxLocals ret :: tables_1
/-- a 'code' word, met by the world's own term for the bytes: nothing is compared byte by byte -/
theorem code_word {y : MethodName} {bytes : ByteArray} {mx : Nat} {rt : Option FieldType} {a : Array Value} {s : State} {m : MethodId} {meth : Method} {c : Code} (h1 : s.methodNamed? y = some m) (h2 : s.vm.method? m = some meth) (h3 : meth.code = some c) (h4 : c.code = bytes)
    (h5 : (c.maxLocals == mx && c.exceptionTable.isEmpty && decide (c.maxStack ≤ mostOperands) && decide (meth.sig.returnType = rt) && !meth.locks && decide (parseMethodDescriptor y.desc = some meth.sig)) = true) : (Jvm.Cond.code y bytes mx rt).before a s = true := by
  simp only [Bool.and_eq_true, beq_iff_eq, Bool.not_eq_true', decide_eq_true_eq] at h5
  obtain ⟨⟨⟨⟨⟨g1, g2⟩, g3⟩, g4⟩, g5⟩, g6⟩ := h5
  simp [Cond.before, Cond.holds, Cond.value, h1, h2, h3, h4, g1, g2, g3, g4, g5, g6]
def isCode : Jvm.Cond → Bool
  | .code _ _ _ _ => true
  | _ => false
theorem all_split {L : List Jvm.Cond} {P : Jvm.Cond → Bool} (h1 : L.all (fun c => isCode c || P c) = true) (h2 : ∀ c ∈ L.filter isCode, P c = true) : L.all P = true := by
  refine List.all_eq_true.mpr fun c hc => ?_
  have h := List.all_eq_true.mp h1 c hc
  rcases Bool.eq_false_or_eq_true (isCode c) with hi | hi
  · exact h2 c (List.mem_filter.mpr ⟨hc, hi⟩)
  · simpa [hi] using h
set_option maxRecDepth 65536 in
theorem w_c0 : (Jvm.Cond.code x code maxLocals ret).before args0 about1 = true := code_word (m := ⟨1, 3⟩) (meth := k1m3) (c := k1c3) (by decide +kernel) rfl rfl rfl (by decide +kernel)
set_option maxRecDepth 65536 in
theorem w_c1 : (Jvm.Cond.code ({ cls := "com/example/slicewright/slicewright/report/ReportAddErrorPinLaw", name := "kindOf", desc := "(I)Lcom/example/slicewright/slicewright/report/ErrorKind;" } : Jvm.MethodName) method_2_code (2 : Nat) (Option.some (Jvm.ClassFile.FieldType.object "com/example/slicewright/slicewright/report/ErrorKind"))).before args0 about1 = true := code_word (m := ⟨1, 1⟩) (meth := k1m1) (c := k1c1) (by decide +kernel) rfl rfl rfl (by decide +kernel)
set_option maxRecDepth 65536 in
theorem w_c2 : (Jvm.Cond.code ({ cls := "com/example/slicewright/slicewright/report/ReportAddErrorPinLaw", name := "draw", desc := "(II)Ljava/lang/String;" } : Jvm.MethodName) method_3_code (4 : Nat) (Option.some (Jvm.ClassFile.FieldType.object "java/lang/String"))).before args0 about1 = true := code_word (m := ⟨1, 2⟩) (meth := k1m2) (c := k1c2) (by decide +kernel) rfl rfl rfl (by decide +kernel)
set_option maxRecDepth 65536 in
theorem w_c3 : (Jvm.Cond.code ({ cls := "java/lang/String", name := "valueOf", desc := "(C)Ljava/lang/String;" } : Jvm.MethodName) jdk_42_method_139_code (1 : Nat) (Option.some (Jvm.ClassFile.FieldType.object "java/lang/String"))).before args0 about1 = true := code_word (m := ⟨9, 3⟩) (meth := k9m3) (c := k9c3) (by decide +kernel) rfl rfl rfl (by decide +kernel)
set_option maxRecDepth 65536 in
theorem w_c4 : (Jvm.Cond.code ({ cls := "java/lang/StringLatin1", name := "canEncode", desc := "(C)Z" } : Jvm.MethodName) jdk_43_method_3_code (1 : Nat) (Option.some Jvm.ClassFile.FieldType.boolean)).before args0 about1 = true := code_word (m := ⟨10, 1⟩) (meth := k10m1) (c := k10c1) (by decide +kernel) rfl rfl rfl (by decide +kernel)
set_option maxRecDepth 65536 in
theorem w_c5 : (Jvm.Cond.code ({ cls := "java/lang/StringLatin1", name := "toBytes", desc := "(C)[B" } : Jvm.MethodName) jdk_43_method_46_code (1 : Nat) (Option.some (Jvm.ClassFile.FieldType.array Jvm.ClassFile.FieldType.byte))).before args0 about1 = true := code_word (m := ⟨10, 2⟩) (meth := k10m2) (c := k10c2) (by decide +kernel) rfl rfl rfl (by decide +kernel)
set_option maxRecDepth 65536 in
theorem w_c6 : (Jvm.Cond.code ({ cls := "java/lang/String", name := "<init>", desc := "([BB)V" } : Jvm.MethodName) jdk_42_method_151_code (3 : Nat) (Option.none : Option Jvm.ClassFile.FieldType)).before args0 about1 = true := code_word (m := ⟨9, 5⟩) (meth := k9m5) (c := k9c5) (by decide +kernel) rfl rfl rfl (by decide +kernel)
set_option maxRecDepth 65536 in
theorem w_c7 : (Jvm.Cond.code ({ cls := "java/lang/Object", name := "<init>", desc := "()V" } : Jvm.MethodName) object_method_1_code (1 : Nat) (Option.none : Option Jvm.ClassFile.FieldType)).before args0 about1 = true := code_word (m := ⟨0, 0⟩) (meth := k0m0) (c := k0c0) (by decide +kernel) rfl rfl rfl (by decide +kernel)
set_option maxRecDepth 65536 in
theorem w_c8 : (Jvm.Cond.code ({ cls := "java/lang/String", name := "<init>", desc := "([C)V" } : Jvm.MethodName) jdk_42_method_3_code (2 : Nat) (Option.none : Option Jvm.ClassFile.FieldType)).before args0 about1 = true := code_word (m := ⟨9, 1⟩) (meth := k9m1) (c := k9c1) (by decide +kernel) rfl rfl rfl (by decide +kernel)
set_option maxRecDepth 65536 in
theorem w_c9 : (Jvm.Cond.code ({ cls := "java/lang/String", name := "<init>", desc := "([CIILjava/lang/Void;)V" } : Jvm.MethodName) jdk_42_method_149_code (6 : Nat) (Option.none : Option Jvm.ClassFile.FieldType)).before args0 about1 = true := code_word (m := ⟨9, 4⟩) (meth := k9m4) (c := k9c4) (by decide +kernel) rfl rfl rfl (by decide +kernel)
set_option maxRecDepth 65536 in
theorem w_c10 : (Jvm.Cond.code ({ cls := "com/example/slicewright/slicewright/report/Report", name := "<init>", desc := "()V" } : Jvm.MethodName) prog_24_method_1_code (1 : Nat) (Option.none : Option Jvm.ClassFile.FieldType)).before args0 about1 = true := code_word (m := ⟨11, 0⟩) (meth := k11m0) (c := k11c0) (by decide +kernel) rfl rfl rfl (by decide +kernel)
set_option maxRecDepth 65536 in
theorem w_c11 : (Jvm.Cond.code ({ cls := "java/util/ArrayList", name := "<init>", desc := "()V" } : Jvm.MethodName) jdk_38_method_2_code (1 : Nat) (Option.none : Option Jvm.ClassFile.FieldType)).before args0 about1 = true := code_word (m := ⟨20, 0⟩) (meth := k20m0) (c := k20c0) (by decide +kernel) rfl rfl rfl (by decide +kernel)
set_option maxRecDepth 65536 in
theorem w_c12 : (Jvm.Cond.code ({ cls := "java/util/AbstractList", name := "<init>", desc := "()V" } : Jvm.MethodName) jdk_39_method_1_code (1 : Nat) (Option.none : Option Jvm.ClassFile.FieldType)).before args0 about1 = true := code_word (m := ⟨17, 0⟩) (meth := k17m0) (c := k17c0) (by decide +kernel) rfl rfl rfl (by decide +kernel)
set_option maxRecDepth 65536 in
theorem w_c13 : (Jvm.Cond.code ({ cls := "java/util/AbstractCollection", name := "<init>", desc := "()V" } : Jvm.MethodName) jdk_22_method_1_code (1 : Nat) (Option.none : Option Jvm.ClassFile.FieldType)).before args0 about1 = true := code_word (m := ⟨14, 0⟩) (meth := k14m0) (c := k14c0) (by decide +kernel) rfl rfl rfl (by decide +kernel)
set_option maxRecDepth 65536 in
theorem w_c14 : (Jvm.Cond.code ({ cls := "com/example/slicewright/slicewright/report/Report", name := "isValid", desc := "()Z" } : Jvm.MethodName) prog_24_method_6_code (1 : Nat) (Option.some Jvm.ClassFile.FieldType.boolean)).before args0 about1 = true := code_word (m := ⟨11, 4⟩) (meth := k11m4) (c := k11c4) (by decide +kernel) rfl rfl rfl (by decide +kernel)
set_option maxRecDepth 65536 in
theorem w_c15 : (Jvm.Cond.code ({ cls := "java/util/ArrayList", name := "isEmpty", desc := "()Z" } : Jvm.MethodName) jdk_38_method_9_code (1 : Nat) (Option.some Jvm.ClassFile.FieldType.boolean)).before args0 about1 = true := code_word (m := ⟨20, 4⟩) (meth := k20m4) (c := k20c4) (by decide +kernel) rfl rfl rfl (by decide +kernel)
set_option maxRecDepth 65536 in
theorem w_c16 : (Jvm.Cond.code ({ cls := "com/example/slicewright/slicewright/report/Report", name := "addError", desc := "(Lcom/example/slicewright/slicewright/report/ErrorKind;Ljava/lang/String;Ljava/lang/String;)V" } : Jvm.MethodName) prog_24_method_3_code (4 : Nat) (Option.none : Option Jvm.ClassFile.FieldType)).before args0 about1 = true := code_word (m := ⟨11, 1⟩) (meth := k11m1) (c := k11c1) (by decide +kernel) rfl rfl rfl (by decide +kernel)
set_option maxRecDepth 65536 in
theorem w_c17 : (Jvm.Cond.code ({ cls := "java/util/Objects", name := "requireNonNull", desc := "(Ljava/lang/Object;Ljava/lang/String;)Ljava/lang/Object;" } : Jvm.MethodName) jdk_31_method_11_code (2 : Nat) (Option.some (Jvm.ClassFile.FieldType.object "java/lang/Object"))).before args0 about1 = true := code_word (m := ⟨23, 1⟩) (meth := k23m1) (c := k23c1) (by decide +kernel) rfl rfl rfl (by decide +kernel)
set_option maxRecDepth 65536 in
theorem w_c18 : (Jvm.Cond.code ({ cls := "com/example/slicewright/slicewright/report/Report$Finding", name := "<init>", desc := "(Lcom/example/slicewright/slicewright/report/ErrorKind;Ljava/lang/String;Ljava/lang/String;)V" } : Jvm.MethodName) prog_25_method_1_code (4 : Nat) (Option.none : Option Jvm.ClassFile.FieldType)).before args0 about1 = true := code_word (m := ⟨22, 0⟩) (meth := k22m0) (c := k22c0) (by decide +kernel) rfl rfl rfl (by decide +kernel)
set_option maxRecDepth 65536 in
theorem w_c19 : (Jvm.Cond.code ({ cls := "java/lang/Record", name := "<init>", desc := "()V" } : Jvm.MethodName) jdk_30_method_1_code (1 : Nat) (Option.none : Option Jvm.ClassFile.FieldType)).before args0 about1 = true := code_word (m := ⟨21, 0⟩) (meth := k21m0) (c := k21c0) (by decide +kernel) rfl rfl rfl (by decide +kernel)
set_option maxRecDepth 65536 in
theorem w_c20 : (Jvm.Cond.code ({ cls := "java/util/ArrayList", name := "add", desc := "(Ljava/lang/Object;)Z" } : Jvm.MethodName) jdk_38_method_25_code (2 : Nat) (Option.some Jvm.ClassFile.FieldType.boolean)).before args0 about1 = true := code_word (m := ⟨20, 8⟩) (meth := k20m8) (c := k20c8) (by decide +kernel) rfl rfl rfl (by decide +kernel)
set_option maxRecDepth 65536 in
theorem w_c21 : (Jvm.Cond.code ({ cls := "java/util/ArrayList", name := "add", desc := "(Ljava/lang/Object;[Ljava/lang/Object;I)V" } : Jvm.MethodName) jdk_38_method_24_code (4 : Nat) (Option.none : Option Jvm.ClassFile.FieldType)).before args0 about1 = true := code_word (m := ⟨20, 7⟩) (meth := k20m7) (c := k20c7) (by decide +kernel) rfl rfl rfl (by decide +kernel)
set_option maxRecDepth 65536 in
theorem w_c22 : (Jvm.Cond.code ({ cls := "java/util/ArrayList", name := "grow", desc := "()[Ljava/lang/Object;" } : Jvm.MethodName) jdk_38_method_7_code (1 : Nat) (Option.some (Jvm.ClassFile.FieldType.array (Jvm.ClassFile.FieldType.object "java/lang/Object")))).before args0 about1 = true := code_word (m := ⟨20, 2⟩) (meth := k20m2) (c := k20c2) (by decide +kernel) rfl rfl rfl (by decide +kernel)
set_option maxRecDepth 65536 in
theorem w_c23 : (Jvm.Cond.code ({ cls := "java/util/ArrayList", name := "grow", desc := "(I)[Ljava/lang/Object;" } : Jvm.MethodName) jdk_38_method_6_code (4 : Nat) (Option.some (Jvm.ClassFile.FieldType.array (Jvm.ClassFile.FieldType.object "java/lang/Object")))).before args0 about1 = true := code_word (m := ⟨20, 1⟩) (meth := k20m1) (c := k20c1) (by decide +kernel) rfl rfl rfl (by decide +kernel)
set_option maxRecDepth 65536 in
theorem w_c24 : (Jvm.Cond.code ({ cls := "java/lang/Math", name := "max", desc := "(II)I" } : Jvm.MethodName) jdk_29_method_65_code (2 : Nat) (Option.some Jvm.ClassFile.FieldType.int)).before args0 about1 = true := code_word (m := ⟨24, 1⟩) (meth := k24m1) (c := k24c1) (by decide +kernel) rfl rfl rfl (by decide +kernel)
set_option maxRecDepth 65536 in
theorem w_c25 : (Jvm.Cond.code ({ cls := "com/example/slicewright/slicewright/report/Report", name := "errors", desc := "()Ljava/util/List;" } : Jvm.MethodName) prog_24_method_5_code (1 : Nat) (Option.some (Jvm.ClassFile.FieldType.object "java/util/List"))).before args0 about1 = true := code_word (m := ⟨11, 3⟩) (meth := k11m3) (c := k11c3) (by decide +kernel) rfl rfl rfl (by decide +kernel)
set_option maxRecDepth 65536 in
theorem w_c26 : (Jvm.Cond.code ({ cls := "java/util/Collections", name := "unmodifiableList", desc := "(Ljava/util/List;)Ljava/util/List;" } : Jvm.MethodName) jdk_79_method_35_code (1 : Nat) (Option.some (Jvm.ClassFile.FieldType.object "java/util/List"))).before args0 about1 = true := code_word (m := ⟨25, 1⟩) (meth := k25m1) (c := k25c1) (by decide +kernel) rfl rfl rfl (by decide +kernel)
set_option maxRecDepth 65536 in
theorem w_c27 : (Jvm.Cond.code ({ cls := "java/util/Collections$UnmodifiableRandomAccessList", name := "<init>", desc := "(Ljava/util/List;)V" } : Jvm.MethodName) jdk_121_method_1_code (2 : Nat) (Option.none : Option Jvm.ClassFile.FieldType)).before args0 about1 = true := code_word (m := ⟨28, 0⟩) (meth := k28m0) (c := k28c0) (by decide +kernel) rfl rfl rfl (by decide +kernel)
set_option maxRecDepth 65536 in
theorem w_c28 : (Jvm.Cond.code ({ cls := "java/util/Collections$UnmodifiableList", name := "<init>", desc := "(Ljava/util/List;)V" } : Jvm.MethodName) jdk_120_method_1_code (2 : Nat) (Option.none : Option Jvm.ClassFile.FieldType)).before args0 about1 = true := code_word (m := ⟨27, 0⟩) (meth := k27m0) (c := k27c0) (by decide +kernel) rfl rfl rfl (by decide +kernel)
set_option maxRecDepth 65536 in
theorem w_c29 : (Jvm.Cond.code ({ cls := "java/util/Collections$UnmodifiableCollection", name := "<init>", desc := "(Ljava/util/Collection;)V" } : Jvm.MethodName) jdk_119_method_1_code (2 : Nat) (Option.none : Option Jvm.ClassFile.FieldType)).before args0 about1 = true := code_word (m := ⟨26, 0⟩) (meth := k26m0) (c := k26c0) (by decide +kernel) rfl rfl rfl (by decide +kernel)
set_option maxRecDepth 65536 in
theorem w_c30 : (Jvm.Cond.code ({ cls := "java/util/Collections$UnmodifiableCollection", name := "size", desc := "()I" } : Jvm.MethodName) jdk_119_method_2_code (1 : Nat) (Option.some Jvm.ClassFile.FieldType.int)).before args0 about1 = true := code_word (m := ⟨26, 1⟩) (meth := k26m1) (c := k26c1) (by decide +kernel) rfl rfl rfl (by decide +kernel)
set_option maxRecDepth 65536 in
theorem w_c31 : (Jvm.Cond.code ({ cls := "java/util/ArrayList", name := "size", desc := "()I" } : Jvm.MethodName) jdk_38_method_8_code (1 : Nat) (Option.some Jvm.ClassFile.FieldType.int)).before args0 about1 = true := code_word (m := ⟨20, 3⟩) (meth := k20m3) (c := k20c3) (by decide +kernel) rfl rfl rfl (by decide +kernel)
set_option maxRecDepth 65536 in
theorem w_c32 : (Jvm.Cond.code ({ cls := "java/util/Collections$UnmodifiableList", name := "get", desc := "(I)Ljava/lang/Object;" } : Jvm.MethodName) jdk_120_method_4_code (2 : Nat) (Option.some (Jvm.ClassFile.FieldType.object "java/lang/Object"))).before args0 about1 = true := code_word (m := ⟨27, 1⟩) (meth := k27m1) (c := k27c1) (by decide +kernel) rfl rfl rfl (by decide +kernel)
set_option maxRecDepth 65536 in
theorem w_c33 : (Jvm.Cond.code ({ cls := "java/util/ArrayList", name := "get", desc := "(I)Ljava/lang/Object;" } : Jvm.MethodName) jdk_38_method_20_code (2 : Nat) (Option.some (Jvm.ClassFile.FieldType.object "java/lang/Object"))).before args0 about1 = true := code_word (m := ⟨20, 6⟩) (meth := k20m6) (c := k20c6) (by decide +kernel) rfl rfl rfl (by decide +kernel)
set_option maxRecDepth 65536 in
theorem w_c34 : (Jvm.Cond.code ({ cls := "java/util/Objects", name := "checkIndex", desc := "(II)I" } : Jvm.MethodName) jdk_31_method_17_code (2 : Nat) (Option.some Jvm.ClassFile.FieldType.int)).before args0 about1 = true := code_word (m := ⟨23, 2⟩) (meth := k23m2) (c := k23c2) (by decide +kernel) rfl rfl rfl (by decide +kernel)
set_option maxRecDepth 65536 in
theorem w_c35 : (Jvm.Cond.code ({ cls := "jdk/internal/util/Preconditions", name := "checkIndex", desc := "(IILjava/util/function/BiFunction;)I" } : Jvm.MethodName) jdk_41_method_11_code (3 : Nat) (Option.some Jvm.ClassFile.FieldType.int)).before args0 about1 = true := code_word (m := ⟨29, 1⟩) (meth := k29m1) (c := k29c1) (by decide +kernel) rfl rfl rfl (by decide +kernel)
set_option maxRecDepth 65536 in
theorem w_c36 : (Jvm.Cond.code ({ cls := "java/util/ArrayList", name := "elementData", desc := "(I)Ljava/lang/Object;" } : Jvm.MethodName) jdk_38_method_18_code (2 : Nat) (Option.some (Jvm.ClassFile.FieldType.object "java/lang/Object"))).before args0 about1 = true := code_word (m := ⟨20, 5⟩) (meth := k20m5) (c := k20c5) (by decide +kernel) rfl rfl rfl (by decide +kernel)
set_option maxRecDepth 65536 in
theorem w_c37 : (Jvm.Cond.code ({ cls := "com/example/slicewright/slicewright/report/Report$Finding", name := "kind", desc := "()Lcom/example/slicewright/slicewright/report/ErrorKind;" } : Jvm.MethodName) prog_25_method_5_code (1 : Nat) (Option.some (Jvm.ClassFile.FieldType.object "com/example/slicewright/slicewright/report/ErrorKind"))).before args0 about1 = true := code_word (m := ⟨22, 1⟩) (meth := k22m1) (c := k22c1) (by decide +kernel) rfl rfl rfl (by decide +kernel)
set_option maxRecDepth 65536 in
theorem w_c38 : (Jvm.Cond.code ({ cls := "com/example/slicewright/slicewright/report/Report$Finding", name := "location", desc := "()Ljava/lang/String;" } : Jvm.MethodName) prog_25_method_6_code (1 : Nat) (Option.some (Jvm.ClassFile.FieldType.object "java/lang/String"))).before args0 about1 = true := code_word (m := ⟨22, 2⟩) (meth := k22m2) (c := k22c2) (by decide +kernel) rfl rfl rfl (by decide +kernel)
set_option maxRecDepth 65536 in
theorem w_c39 : (Jvm.Cond.code ({ cls := "java/lang/String", name := "equals", desc := "(Ljava/lang/Object;)Z" } : Jvm.MethodName) jdk_42_method_66_code (3 : Nat) (Option.some Jvm.ClassFile.FieldType.boolean)).before args0 about1 = true := code_word (m := ⟨9, 2⟩) (meth := k9m2) (c := k9c2) (by decide +kernel) rfl rfl rfl (by decide +kernel)
set_option maxRecDepth 65536 in
theorem w_c40 : (Jvm.Cond.code ({ cls := "com/example/slicewright/slicewright/report/Report$Finding", name := "message", desc := "()Ljava/lang/String;" } : Jvm.MethodName) prog_25_method_7_code (1 : Nat) (Option.some (Jvm.ClassFile.FieldType.object "java/lang/String"))).before args0 about1 = true := code_word (m := ⟨22, 3⟩) (meth := k22m3) (c := k22c3) (by decide +kernel) rfl rfl rfl (by decide +kernel)
set_option maxRecDepth 65536 in
theorem w_c41 : (Jvm.Cond.code ({ cls := "com/example/slicewright/slicewright/report/Report", name := "slices", desc := "()Ljava/util/List;" } : Jvm.MethodName) prog_24_method_4_code (1 : Nat) (Option.some (Jvm.ClassFile.FieldType.object "java/util/List"))).before args0 about1 = true := code_word (m := ⟨11, 2⟩) (meth := k11m2) (c := k11c2) (by decide +kernel) rfl rfl rfl (by decide +kernel)
set_option maxRecDepth 65536 in
theorem w_c42 : (Jvm.Cond.code ({ cls := "java/lang/StringUTF16", name := "compress", desc := "([CII)[B" } : Jvm.MethodName) jdk_52_method_16_code (6 : Nat) (Option.some (Jvm.ClassFile.FieldType.array Jvm.ClassFile.FieldType.byte))).before args0 about1 = true := code_word (m := ⟨30, 2⟩) (meth := k30m2) (c := k30c2) (by decide +kernel) rfl rfl rfl (by decide +kernel)
set_option maxRecDepth 65536 in
theorem w_c43 : (Jvm.Cond.code ({ cls := "java/lang/StringUTF16", name := "compress", desc := "([CI[BII)I" } : Jvm.MethodName) jdk_52_method_21_code (7 : Nat) (Option.some Jvm.ClassFile.FieldType.int)).before args0 about1 = true := code_word (m := ⟨30, 3⟩) (meth := k30m3) (c := k30c3) (by decide +kernel) rfl rfl rfl (by decide +kernel)
set_option maxRecDepth 65536 in
theorem w_c44 : (Jvm.Cond.code ({ cls := "java/lang/StringUTF16", name := "coderFromArrayLen", desc := "([BI)B" } : Jvm.MethodName) jdk_52_method_15_code (2 : Nat) (Option.some Jvm.ClassFile.FieldType.byte)).before args0 about1 = true := code_word (m := ⟨30, 1⟩) (meth := k30m1) (c := k30c1) (by decide +kernel) rfl rfl rfl (by decide +kernel)
def codes1 : List Jvm.Cond := [Jvm.Cond.code x code maxLocals ret, Jvm.Cond.code ({ cls := "com/example/slicewright/slicewright/report/ReportAddErrorPinLaw", name := "kindOf", desc := "(I)Lcom/example/slicewright/slicewright/report/ErrorKind;" } : Jvm.MethodName) method_2_code (2 : Nat) (Option.some (Jvm.ClassFile.FieldType.object "com/example/slicewright/slicewright/report/ErrorKind")), Jvm.Cond.code ({ cls := "com/example/slicewright/slicewright/report/ReportAddErrorPinLaw", name := "draw", desc := "(II)Ljava/lang/String;" } : Jvm.MethodName) method_3_code (4 : Nat) (Option.some (Jvm.ClassFile.FieldType.object "java/lang/String")), Jvm.Cond.code ({ cls := "java/lang/String", name := "valueOf", desc := "(C)Ljava/lang/String;" } : Jvm.MethodName) jdk_42_method_139_code (1 : Nat) (Option.some (Jvm.ClassFile.FieldType.object "java/lang/String")), Jvm.Cond.code ({ cls := "java/lang/StringLatin1", name := "canEncode", desc := "(C)Z" } : Jvm.MethodName) jdk_43_method_3_code (1 : Nat) (Option.some Jvm.ClassFile.FieldType.boolean), Jvm.Cond.code ({ cls := "java/lang/StringLatin1", name := "toBytes", desc := "(C)[B" } : Jvm.MethodName) jdk_43_method_46_code (1 : Nat) (Option.some (Jvm.ClassFile.FieldType.array Jvm.ClassFile.FieldType.byte)), Jvm.Cond.code ({ cls := "java/lang/String", name := "<init>", desc := "([BB)V" } : Jvm.MethodName) jdk_42_method_151_code (3 : Nat) (Option.none : Option Jvm.ClassFile.FieldType), Jvm.Cond.code ({ cls := "java/lang/Object", name := "<init>", desc := "()V" } : Jvm.MethodName) object_method_1_code (1 : Nat) (Option.none : Option Jvm.ClassFile.FieldType), Jvm.Cond.code ({ cls := "java/lang/String", name := "<init>", desc := "([C)V" } : Jvm.MethodName) jdk_42_method_3_code (2 : Nat) (Option.none : Option Jvm.ClassFile.FieldType), Jvm.Cond.code ({ cls := "java/lang/String", name := "<init>", desc := "([CIILjava/lang/Void;)V" } : Jvm.MethodName) jdk_42_method_149_code (6 : Nat) (Option.none : Option Jvm.ClassFile.FieldType), Jvm.Cond.code ({ cls := "com/example/slicewright/slicewright/report/Report", name := "<init>", desc := "()V" } : Jvm.MethodName) prog_24_method_1_code (1 : Nat) (Option.none : Option Jvm.ClassFile.FieldType), Jvm.Cond.code ({ cls := "java/util/ArrayList", name := "<init>", desc := "()V" } : Jvm.MethodName) jdk_38_method_2_code (1 : Nat) (Option.none : Option Jvm.ClassFile.FieldType), Jvm.Cond.code ({ cls := "java/util/AbstractList", name := "<init>", desc := "()V" } : Jvm.MethodName) jdk_39_method_1_code (1 : Nat) (Option.none : Option Jvm.ClassFile.FieldType), Jvm.Cond.code ({ cls := "java/util/AbstractCollection", name := "<init>", desc := "()V" } : Jvm.MethodName) jdk_22_method_1_code (1 : Nat) (Option.none : Option Jvm.ClassFile.FieldType), Jvm.Cond.code ({ cls := "com/example/slicewright/slicewright/report/Report", name := "isValid", desc := "()Z" } : Jvm.MethodName) prog_24_method_6_code (1 : Nat) (Option.some Jvm.ClassFile.FieldType.boolean), Jvm.Cond.code ({ cls := "java/util/ArrayList", name := "isEmpty", desc := "()Z" } : Jvm.MethodName) jdk_38_method_9_code (1 : Nat) (Option.some Jvm.ClassFile.FieldType.boolean), Jvm.Cond.code ({ cls := "com/example/slicewright/slicewright/report/Report", name := "addError", desc := "(Lcom/example/slicewright/slicewright/report/ErrorKind;Ljava/lang/String;Ljava/lang/String;)V" } : Jvm.MethodName) prog_24_method_3_code (4 : Nat) (Option.none : Option Jvm.ClassFile.FieldType), Jvm.Cond.code ({ cls := "java/util/Objects", name := "requireNonNull", desc := "(Ljava/lang/Object;Ljava/lang/String;)Ljava/lang/Object;" } : Jvm.MethodName) jdk_31_method_11_code (2 : Nat) (Option.some (Jvm.ClassFile.FieldType.object "java/lang/Object")), Jvm.Cond.code ({ cls := "com/example/slicewright/slicewright/report/Report$Finding", name := "<init>", desc := "(Lcom/example/slicewright/slicewright/report/ErrorKind;Ljava/lang/String;Ljava/lang/String;)V" } : Jvm.MethodName) prog_25_method_1_code (4 : Nat) (Option.none : Option Jvm.ClassFile.FieldType), Jvm.Cond.code ({ cls := "java/lang/Record", name := "<init>", desc := "()V" } : Jvm.MethodName) jdk_30_method_1_code (1 : Nat) (Option.none : Option Jvm.ClassFile.FieldType), Jvm.Cond.code ({ cls := "java/util/ArrayList", name := "add", desc := "(Ljava/lang/Object;)Z" } : Jvm.MethodName) jdk_38_method_25_code (2 : Nat) (Option.some Jvm.ClassFile.FieldType.boolean), Jvm.Cond.code ({ cls := "java/util/ArrayList", name := "add", desc := "(Ljava/lang/Object;[Ljava/lang/Object;I)V" } : Jvm.MethodName) jdk_38_method_24_code (4 : Nat) (Option.none : Option Jvm.ClassFile.FieldType), Jvm.Cond.code ({ cls := "java/util/ArrayList", name := "grow", desc := "()[Ljava/lang/Object;" } : Jvm.MethodName) jdk_38_method_7_code (1 : Nat) (Option.some (Jvm.ClassFile.FieldType.array (Jvm.ClassFile.FieldType.object "java/lang/Object"))), Jvm.Cond.code ({ cls := "java/util/ArrayList", name := "grow", desc := "(I)[Ljava/lang/Object;" } : Jvm.MethodName) jdk_38_method_6_code (4 : Nat) (Option.some (Jvm.ClassFile.FieldType.array (Jvm.ClassFile.FieldType.object "java/lang/Object"))), Jvm.Cond.code ({ cls := "java/lang/Math", name := "max", desc := "(II)I" } : Jvm.MethodName) jdk_29_method_65_code (2 : Nat) (Option.some Jvm.ClassFile.FieldType.int), Jvm.Cond.code ({ cls := "com/example/slicewright/slicewright/report/Report", name := "errors", desc := "()Ljava/util/List;" } : Jvm.MethodName) prog_24_method_5_code (1 : Nat) (Option.some (Jvm.ClassFile.FieldType.object "java/util/List")), Jvm.Cond.code ({ cls := "java/util/Collections", name := "unmodifiableList", desc := "(Ljava/util/List;)Ljava/util/List;" } : Jvm.MethodName) jdk_79_method_35_code (1 : Nat) (Option.some (Jvm.ClassFile.FieldType.object "java/util/List")), Jvm.Cond.code ({ cls := "java/util/Collections$UnmodifiableRandomAccessList", name := "<init>", desc := "(Ljava/util/List;)V" } : Jvm.MethodName) jdk_121_method_1_code (2 : Nat) (Option.none : Option Jvm.ClassFile.FieldType), Jvm.Cond.code ({ cls := "java/util/Collections$UnmodifiableList", name := "<init>", desc := "(Ljava/util/List;)V" } : Jvm.MethodName) jdk_120_method_1_code (2 : Nat) (Option.none : Option Jvm.ClassFile.FieldType), Jvm.Cond.code ({ cls := "java/util/Collections$UnmodifiableCollection", name := "<init>", desc := "(Ljava/util/Collection;)V" } : Jvm.MethodName) jdk_119_method_1_code (2 : Nat) (Option.none : Option Jvm.ClassFile.FieldType), Jvm.Cond.code ({ cls := "java/util/Collections$UnmodifiableCollection", name := "size", desc := "()I" } : Jvm.MethodName) jdk_119_method_2_code (1 : Nat) (Option.some Jvm.ClassFile.FieldType.int), Jvm.Cond.code ({ cls := "java/util/ArrayList", name := "size", desc := "()I" } : Jvm.MethodName) jdk_38_method_8_code (1 : Nat) (Option.some Jvm.ClassFile.FieldType.int), Jvm.Cond.code ({ cls := "java/util/Collections$UnmodifiableList", name := "get", desc := "(I)Ljava/lang/Object;" } : Jvm.MethodName) jdk_120_method_4_code (2 : Nat) (Option.some (Jvm.ClassFile.FieldType.object "java/lang/Object")), Jvm.Cond.code ({ cls := "java/util/ArrayList", name := "get", desc := "(I)Ljava/lang/Object;" } : Jvm.MethodName) jdk_38_method_20_code (2 : Nat) (Option.some (Jvm.ClassFile.FieldType.object "java/lang/Object")), Jvm.Cond.code ({ cls := "java/util/Objects", name := "checkIndex", desc := "(II)I" } : Jvm.MethodName) jdk_31_method_17_code (2 : Nat) (Option.some Jvm.ClassFile.FieldType.int), Jvm.Cond.code ({ cls := "jdk/internal/util/Preconditions", name := "checkIndex", desc := "(IILjava/util/function/BiFunction;)I" } : Jvm.MethodName) jdk_41_method_11_code (3 : Nat) (Option.some Jvm.ClassFile.FieldType.int), Jvm.Cond.code ({ cls := "java/util/ArrayList", name := "elementData", desc := "(I)Ljava/lang/Object;" } : Jvm.MethodName) jdk_38_method_18_code (2 : Nat) (Option.some (Jvm.ClassFile.FieldType.object "java/lang/Object")), Jvm.Cond.code ({ cls := "com/example/slicewright/slicewright/report/Report$Finding", name := "kind", desc := "()Lcom/example/slicewright/slicewright/report/ErrorKind;" } : Jvm.MethodName) prog_25_method_5_code (1 : Nat) (Option.some (Jvm.ClassFile.FieldType.object "com/example/slicewright/slicewright/report/ErrorKind")), Jvm.Cond.code ({ cls := "com/example/slicewright/slicewright/report/Report$Finding", name := "location", desc := "()Ljava/lang/String;" } : Jvm.MethodName) prog_25_method_6_code (1 : Nat) (Option.some (Jvm.ClassFile.FieldType.object "java/lang/String")), Jvm.Cond.code ({ cls := "java/lang/String", name := "equals", desc := "(Ljava/lang/Object;)Z" } : Jvm.MethodName) jdk_42_method_66_code (3 : Nat) (Option.some Jvm.ClassFile.FieldType.boolean), Jvm.Cond.code ({ cls := "com/example/slicewright/slicewright/report/Report$Finding", name := "message", desc := "()Ljava/lang/String;" } : Jvm.MethodName) prog_25_method_7_code (1 : Nat) (Option.some (Jvm.ClassFile.FieldType.object "java/lang/String")), Jvm.Cond.code ({ cls := "com/example/slicewright/slicewright/report/Report", name := "slices", desc := "()Ljava/util/List;" } : Jvm.MethodName) prog_24_method_4_code (1 : Nat) (Option.some (Jvm.ClassFile.FieldType.object "java/util/List")), Jvm.Cond.code ({ cls := "java/lang/StringUTF16", name := "compress", desc := "([CII)[B" } : Jvm.MethodName) jdk_52_method_16_code (6 : Nat) (Option.some (Jvm.ClassFile.FieldType.array Jvm.ClassFile.FieldType.byte)), Jvm.Cond.code ({ cls := "java/lang/StringUTF16", name := "compress", desc := "([CI[BII)I" } : Jvm.MethodName) jdk_52_method_21_code (7 : Nat) (Option.some Jvm.ClassFile.FieldType.int), Jvm.Cond.code ({ cls := "java/lang/StringUTF16", name := "coderFromArrayLen", desc := "([BI)B" } : Jvm.MethodName) jdk_52_method_15_code (2 : Nat) (Option.some Jvm.ClassFile.FieldType.byte)]
set_option maxRecDepth 65536 in
theorem codes_eq : words1.filter isCode = codes1 := rfl
theorem w_codes : ∀ c ∈ words1.filter isCode, c.before args0 about1 = true := by
  rw [codes_eq]
  intro c hc
  simp only [codes1, List.mem_cons, List.not_mem_nil, or_false] at hc
  rcases hc with rfl | rfl | rfl | rfl | rfl | rfl | rfl | rfl | rfl | rfl | rfl | rfl | rfl | rfl | rfl | rfl | rfl | rfl | rfl | rfl | rfl | rfl | rfl | rfl | rfl | rfl | rfl | rfl | rfl | rfl | rfl | rfl | rfl | rfl | rfl | rfl | rfl | rfl | rfl | rfl | rfl | rfl | rfl | rfl | rfl
  · exact w_c0
  · exact w_c1
  · exact w_c2
  · exact w_c3
  · exact w_c4
  · exact w_c5
  · exact w_c6
  · exact w_c7
  · exact w_c8
  · exact w_c9
  · exact w_c10
  · exact w_c11
  · exact w_c12
  · exact w_c13
  · exact w_c14
  · exact w_c15
  · exact w_c16
  · exact w_c17
  · exact w_c18
  · exact w_c19
  · exact w_c20
  · exact w_c21
  · exact w_c22
  · exact w_c23
  · exact w_c24
  · exact w_c25
  · exact w_c26
  · exact w_c27
  · exact w_c28
  · exact w_c29
  · exact w_c30
  · exact w_c31
  · exact w_c32
  · exact w_c33
  · exact w_c34
  · exact w_c35
  · exact w_c36
  · exact w_c37
  · exact w_c38
  · exact w_c39
  · exact w_c40
  · exact w_c41
  · exact w_c42
  · exact w_c43
  · exact w_c44
set_option maxRecDepth 65536 in
theorem w_t1 : (words1.take 24).all (fun c => isCode c || c.before args0 about1) = true := by decide +kernel
set_option maxRecDepth 65536 in
theorem w_t2 : ((words1.drop 24).take 24).all (fun c => isCode c || c.before args0 about1) = true := by decide +kernel
set_option maxRecDepth 65536 in
theorem w_t3 : (((words1.drop 24).drop 24).take 24).all (fun c => isCode c || c.before args0 about1) = true := by decide +kernel
set_option maxRecDepth 65536 in
theorem w_t4 : ((((words1.drop 24).drop 24).drop 24).take 24).all (fun c => isCode c || c.before args0 about1) = true := by decide +kernel
set_option maxRecDepth 65536 in
theorem w_t5 : (((((words1.drop 24).drop 24).drop 24).drop 24).take 24).all (fun c => isCode c || c.before args0 about1) = true := by decide +kernel
set_option maxRecDepth 65536 in
theorem w_t6 : ((((((words1.drop 24).drop 24).drop 24).drop 24).drop 24).take 24).all (fun c => isCode c || c.before args0 about1) = true := by decide +kernel
set_option maxRecDepth 65536 in
theorem w_t7 : (((((((words1.drop 24).drop 24).drop 24).drop 24).drop 24).drop 24).take 24).all (fun c => isCode c || c.before args0 about1) = true := by decide +kernel
set_option maxRecDepth 65536 in
theorem w_t8 : ((((((((words1.drop 24).drop 24).drop 24).drop 24).drop 24).drop 24).drop 24).take 24).all (fun c => isCode c || c.before args0 about1) = true := by decide +kernel
set_option maxRecDepth 65536 in
theorem w_t9 : (((((((((words1.drop 24).drop 24).drop 24).drop 24).drop 24).drop 24).drop 24).drop 24).take 24).all (fun c => isCode c || c.before args0 about1) = true := by decide +kernel
set_option maxRecDepth 65536 in
theorem w_t10 : ((((((((((words1.drop 24).drop 24).drop 24).drop 24).drop 24).drop 24).drop 24).drop 24).drop 24).take 24).all (fun c => isCode c || c.before args0 about1) = true := by decide +kernel
set_option maxRecDepth 65536 in
theorem w_t11 : (((((((((((words1.drop 24).drop 24).drop 24).drop 24).drop 24).drop 24).drop 24).drop 24).drop 24).drop 24).take 24).all (fun c => isCode c || c.before args0 about1) = true := by decide +kernel
set_option maxRecDepth 65536 in
theorem w_t12 : ((((((((((((words1.drop 24).drop 24).drop 24).drop 24).drop 24).drop 24).drop 24).drop 24).drop 24).drop 24).drop 24).take 24).all (fun c => isCode c || c.before args0 about1) = true := by decide +kernel
set_option maxRecDepth 65536 in
theorem w_t13 : (((((((((((((words1.drop 24).drop 24).drop 24).drop 24).drop 24).drop 24).drop 24).drop 24).drop 24).drop 24).drop 24).drop 24).take 24).all (fun c => isCode c || c.before args0 about1) = true := by decide +kernel
set_option maxRecDepth 65536 in
theorem w_t14 : (((((((((((((words1.drop 24).drop 24).drop 24).drop 24).drop 24).drop 24).drop 24).drop 24).drop 24).drop 24).drop 24).drop 24).drop 24).all (fun c => isCode c || c.before args0 about1) = true := by decide +kernel
theorem w_tables : (allAtoms (Jvm.Cond.code x code maxLocals ret :: tables_1)).before args0 about1 = true := by
  rw [allAtoms_all]
  show words1.all (fun c => c.before args0 about1) = true
  refine all_split ?_ w_codes
  rw [← List.take_append_drop 24 words1, List.all_append, w_t1, ← List.take_append_drop 24 (words1.drop 24), List.all_append, w_t2, ← List.take_append_drop 24 ((words1.drop 24).drop 24), List.all_append, w_t3, ← List.take_append_drop 24 (((words1.drop 24).drop 24).drop 24), List.all_append, w_t4, ← List.take_append_drop 24 ((((words1.drop 24).drop 24).drop 24).drop 24), List.all_append, w_t5, ← List.take_append_drop 24 (((((words1.drop 24).drop 24).drop 24).drop 24).drop 24), List.all_append, w_t6, ← List.take_append_drop 24 ((((((words1.drop 24).drop 24).drop 24).drop 24).drop 24).drop 24), List.all_append, w_t7, ← List.take_append_drop 24 (((((((words1.drop 24).drop 24).drop 24).drop 24).drop 24).drop 24).drop 24), List.all_append, w_t8, ← List.take_append_drop 24 ((((((((words1.drop 24).drop 24).drop 24).drop 24).drop 24).drop 24).drop 24).drop 24), List.all_append, w_t9, ← List.take_append_drop 24 (((((((((words1.drop 24).drop 24).drop 24).drop 24).drop 24).drop 24).drop 24).drop 24).drop 24), List.all_append, w_t10, ← List.take_append_drop 24 ((((((((((words1.drop 24).drop 24).drop 24).drop 24).drop 24).drop 24).drop 24).drop 24).drop 24).drop 24), List.all_append, w_t11, ← List.take_append_drop 24 (((((((((((words1.drop 24).drop 24).drop 24).drop 24).drop 24).drop 24).drop 24).drop 24).drop 24).drop 24).drop 24), List.all_append, w_t12, ← List.take_append_drop 24 ((((((((((((words1.drop 24).drop 24).drop 24).drop 24).drop 24).drop 24).drop 24).drop 24).drop 24).drop 24).drop 24).drop 24), List.all_append, w_t13, w_t14]
  rfl
set_option maxRecDepth 65536 in
theorem w_rest : rest_1_c.before args0 about1 = true := by decide +kernel
set_option maxRecDepth 65536 in
theorem w_case : (Jvm.Cond.and given_1 narrow_1).before args0 about1 = true := by decide +kernel
set_option maxRecDepth 65536 in
theorem w_consts : constsHeld consts_1 about1 := Jvm.Lit.constsHeldB_iff.mp (by decide +kernel)
theorem w_applies : (headSpec (Jvm.Cond.code x code maxLocals ret :: tables_1) room_1).applies x e0.platform about1 = true :=
  (Spec.applies_iff w_frames).mpr ⟨w_running, w_runnable, w_alone, w_named, w_hears, w_ripe, w_room, w_tables⟩
theorem atStart : AtStart classFile x code maxLocals ret World_1 tables_1 room_1 Calls_1 rest_1 Pre_1 launch0 p0 e0 about1 theMethod args0 below0 :=
  ⟨lists_1, trivial, launch0.admits_env _ _ _, launch0.least_env, fairChoices_fair.cas, fairChoices_fair.clock, w_frames, w_args, w_heap, w_applies, ⟨⟨20, k20, 4, by decide +kernel, rfl, rfl, _, rfl, rfl⟩, ⟨⟨27, k27, 5, by decide +kernel, rfl, rfl, _, rfl, rfl⟩, ⟨⟨28, k28, 6, by decide +kernel, rfl, rfl, _, rfl, rfl⟩, ⟨w_consts, trivial⟩⟩⟩⟩, w_rest, w_case⟩
end start1
theorem witness_1 : WitnessClaimed_1 := ⟨start1.p0, start1.e0, start1.about1, start1.theMethod, start1.args0, start1.below0, start1.atStart⟩
end Jvm.Pilot.@@N@@
