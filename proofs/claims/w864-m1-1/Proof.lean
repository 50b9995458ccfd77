import JvmDerived
import JvmDerived.Pilot.@@N@@Statement
import JvmDerived.Pilot.@@N@@Code
set_option linter.unusedVariables false
set_option linter.unusedSimpArgs false
/- laws to paste: Road.backV, Road.eqW, Road.codOf (cut by pick.py; bodies as the Statement names them) -/
namespace Jvm.Pilot.@@N@@
namespace StrChars
open Jvm Sem ClassFile Op Lib Jvm.Stand Jvm.Free.XT Jvm.Free.ALB Jvm.Free.JM Jvm.Free
open Jvm.Lib.Cold (StaticIs)
/-- a char array whose places are chars -/
def Ch (a : Addr) (A : Cell) (U : State) : Prop := Arr .char a A U ∧ Typed .char A
theorem Ch.mv {a : Addr} {A : Cell} {U U' : State} (h : Ch a A U) (hal : U.vm.Alike U'.vm) (hh : U'.heap = U.heap) : Ch a A U' := ⟨h.1.mv hal hh, h.2⟩
theorem Ch.keep {a : Addr} {A : Cell} {U U' : State} (h : Ch a A U) (hal : U.vm.Alike U'.vm) (hk : U'.heap[a]? = some A) : Ch a A U' := ⟨h.1.keep hal hk, h.2⟩
/-- what place i of a char[]'s cell holds -/
def cv (A : Cell) (i : Nat) : Int32 := match A.slots[i]? with | some (.int x) => x | _ => 0
theorem Ch.get {a : Addr} {A : Cell} {U : State} (h : Ch a A U) {i : Nat} (hi : i < A.slots.size) : A.slots[i]? = some (.int (cv A i)) := by
  have e := Array.getElem?_eq_getElem hi
  have f := h.2 i _ e
  unfold cv; rw [e]
  generalize A.slots[i] = v at f
  cases v <;> simp [fits] at f ⊢
/-- the byte that i2b leaves of a char -/
def lo8 (x : Int32) : Int32 := x.toInt8.toInt32
theorem fits_lo8 (y : Int32) : fits .byte (.int (lo8 y)) = true := by
  have h1 := y.toInt8.le_toInt
  have h2 := y.toInt8.toInt_lt
  simp only [lo8, fits, Bool.and_eq_true, decide_eq_true_eq, Int32.le_iff_toInt_le, Int8.toInt_toInt32, show (-128 : Int32).toInt = -128 from by decide, show (127 : Int32).toInt = 127 from by decide]
  omega
/-- A' is A but that each place j of lo .. hi - 1 holds f j -/
def Laid (A A' : Cell) (lo hi : Nat) (f : Nat → Value) : Prop := A'.cls = A.cls ∧ A'.vm = A.vm ∧ A'.slots.size = A.slots.size ∧ ∀ i, A'.slots[i]? = if lo ≤ i ∧ i < hi then some (f i) else A.slots[i]?
theorem Laid.zero (A : Cell) (lo : Nat) (f : Nat → Value) : Laid A A lo (lo + 0) f := ⟨rfl, rfl, rfl, fun i => by rw [if_neg (by omega)]⟩
theorem Laid.step {A Ak : Cell} {lo k : Nat} {f : Nat → Value} {v : Value} (h : Laid A Ak lo k f) (hlo : lo ≤ k) (hk : k < Ak.slots.size) (hv : v = f k) : Laid A (Ak.setSlot k v) lo (k + 1) f := by
  refine ⟨h.1, h.2.1, by simpa [Cell.setSlot] using h.2.2.1, fun i => ?_⟩
  by_cases e : k = i
  · subst e; rw [Cell.slots_setSlot_self v hk, if_pos (by omega), hv]
  · rw [Cell.slots_setSlot_ne v e, h.2.2.2 i]
    by_cases q : lo ≤ i ∧ i < k
    · rw [if_pos q, if_pos (by omega)]
    · rw [if_neg q, if_neg (by omega)]
def U16 : String := "java/lang/StringUTF16"
namespace Cmp5
def yN : MethodName := ⟨"java/lang/StringUTF16", "compress", "([CI[BII)I"⟩
abbrev yB : ByteArray := jdk_52_method_21_code
theorem d0 : decode yB 0 = .ok (.iconst 0, 1) := by decide +kernel
theorem d1 : decode yB 1 = .ok (.istore 5, 2) := by decide +kernel
theorem d3 : decode yB 3 = .ok (.iload 5, 2) := by decide +kernel
theorem d5 : decode yB 5 = .ok (.iload 4, 2) := by decide +kernel
theorem d7 : decode yB 7 = .ok (.if_icmp (.ge) 37, 3) := by decide +kernel
theorem d10 : decode yB 10 = .ok (.aload_n 0, 1) := by decide +kernel
theorem d11 : decode yB 11 = .ok (.iload_n 1, 1) := by decide +kernel
theorem d12 : decode yB 12 = .ok (.caload, 1) := by decide +kernel
theorem d13 : decode yB 13 = .ok (.istore 6, 2) := by decide +kernel
theorem d15 : decode yB 15 = .ok (.iload 6, 2) := by decide +kernel
theorem d17 : decode yB 17 = .ok (.sipush 255, 3) := by decide +kernel
theorem d20 : decode yB 20 = .ok (.if_icmp (.le) 6, 3) := by decide +kernel
theorem d26 : decode yB 26 = .ok (.aload_n 2, 1) := by decide +kernel
theorem d27 : decode yB 27 = .ok (.iload_n 3, 1) := by decide +kernel
theorem d28 : decode yB 28 = .ok (.iload 6, 2) := by decide +kernel
theorem d30 : decode yB 30 = .ok (.i2b, 1) := by decide +kernel
theorem d31 : decode yB 31 = .ok (.bastore, 1) := by decide +kernel
theorem d32 : decode yB 32 = .ok (.iinc 1 1, 3) := by decide +kernel
theorem d35 : decode yB 35 = .ok (.iinc 3 1, 3) := by decide +kernel
theorem d38 : decode yB 38 = .ok (.iinc 5 1, 3) := by decide +kernel
theorem d41 : decode yB 41 = .ok (.goto (-38), 3) := by decide +kernel
theorem d44 : decode yB 44 = .ok (.iload 4, 2) := by decide +kernel
theorem d46 : decode yB 46 = .ok (.ireturn, 1) := by decide +kernel
def site : List Cond := []
def tab : Cond := tabOf yN yB 7 (some .int) site
def P (b : Addr) (A : Cell) (d : Addr) (B : Cell) (o q len : Nat) (args : Array Value) (s : State) : Prop := args = #[.ref b, .int (Int32.ofNat o), .ref d, .int (Int32.ofNat q), .int (Int32.ofNat len)] ∧ Ch b A s ∧ Arr .byte d B s ∧ b ≠ d ∧ o + len ≤ A.slots.size ∧ q + len ≤ B.slots.size ∧ ∀ i, i < len → ¬ 255 < cv A (o + i)
def E (b : Addr) (A : Cell) (d : Addr) (B : Cell) (o q len : Nat) (r : Option Value) (s u : State) : Prop := r = some (.int (Int32.ofNat len)) ∧ ∃ B', Put d B' s u ∧ Laid B B' q (q + len) (fun j => Value.int (lo8 (cv A (o + (j - q)))))
/-- no char of the range above 255: len; the places written hold each char's low byte -/
theorem law (l : Launch) (b : Addr) (A : Cell) (d : Addr) (B : Cell) (o q len : Nat) : Law l yN 5 5 0 0 yB 7 (some .int) site (P b A d B o q len) (E b A d B o q len) (copyLocs d q len) 0 0 := by
  refine Law.of_walk (plainFor_of_name (by decide +kernel)) (by decide +kernel) (by decide +kernel) (by decide) (fun _ _ h => by rw [h.1]; rfl) (fun _ U U' hal hh h => ⟨h.1, h.2.1.mv hal hh, h.2.2.1.mv hal hh, h.2.2.2⟩) (fun r U U' V V' h1 hal h2 h => ⟨h.1, h.2.elim fun B' q => ⟨B', q.1.mv h1 h2, q.2⟩⟩) ?_
  intro p e s m args below meth c s₁ X0 hexec hbytes hml hret hlk hnm hown hh0 W hP
  obtain ⟨rfl, hA, hB, hne, l1, l2, hp⟩ := hP
  have c1 : Steps p.tables e below (s₁.setTop (entryFrame m #[.ref b, .int (Int32.ofNat o), .ref d, .int (Int32.ofNat q), .int (Int32.ofNat len)] 7)) (s₁.setTop (mkF m 0 #[.val (.ref b), .val (.int (Int32.ofNat o)), .val (.ref d), .val (.int (Int32.ofNat q)), .val (.int (Int32.ofNat len)), .unset, .unset] [])) := entry rfl
  have hA0 := hA.1.mv X0.warmed.alike hh0
  have hB0 := hB.mv X0.warmed.alike hh0
  have a31 := hA.1.2.2.2
  have c2 : Steps p.tables e below (s₁.setTop (entryFrame m #[.ref b, .int (Int32.ofNat o), .ref d, .int (Int32.ofNat q), .int (Int32.ofNat len)] 7)) (s₁.setTop (mkF m 3 #[.val (.ref b), .val (.int (Int32.ofNat o)), .val (.ref d), .val (.int (Int32.ofNat q)), .val (.int (Int32.ofNat len)), .val (.int 0), .unset] [])) := c1.trans (by
    refine iconstV X0.here hexec rfl 0 (hb hbytes d0) (by decide) ?_
    refine XS.istore X0.here hexec rfl (hb hbytes d1) rfl rfl ?_
    exact Steps.refl _)
  have loop : ∀ (r i : Nat), i + r = len → ∀ (z : Slot), (z = .unset ∨ ∃ w, z = .val w ∧ w.category = 1) → ∀ (Tl : State) (Bk : Cell), Stand p l e { frames := 0, locals := 0, cells := 0, slots := 0 } s m #[.ref b, .int (Int32.ofNat o), .ref d, .int (Int32.ofNat q), .int (Int32.ofNat len)] below meth c Tl ([] ++ copyLocs d q i) 0 0 → Put d Bk s₁ Tl → Laid B Bk q (q + i) (fun j => Value.int (lo8 (cv A (o + (j - q))))) →
      Steps p.tables e below (s₁.setTop (entryFrame m #[.ref b, .int (Int32.ofNat o), .ref d, .int (Int32.ofNat q), .int (Int32.ofNat len)] 7)) (Tl.setTop (mkF m 3 #[.val (.ref b), .val (.int (Int32.ofNat (o + i))), .val (.ref d), .val (.int (Int32.ofNat (q + i))), .val (.int (Int32.ofNat len)), .val (.int (Int32.ofNat i)), z] [])) → ∃ (T' : State) (B' : Cell) (z' : Slot), Stand p l e { frames := 0, locals := 0, cells := 0, slots := 0 } s m #[.ref b, .int (Int32.ofNat o), .ref d, .int (Int32.ofNat q), .int (Int32.ofNat len)] below meth c T' ([] ++ copyLocs d q len) 0 0 ∧ Put d B' s₁ T' ∧ Laid B B' q (q + len) (fun j => Value.int (lo8 (cv A (o + (j - q))))) ∧
      Steps p.tables e below (s₁.setTop (entryFrame m #[.ref b, .int (Int32.ofNat o), .ref d, .int (Int32.ofNat q), .int (Int32.ofNat len)] 7)) (T'.setTop (mkF m 3 #[.val (.ref b), .val (.int (Int32.ofNat (o + len))), .val (.ref d), .val (.int (Int32.ofNat (q + len))), .val (.int (Int32.ofNat len)), .val (.int (Int32.ofNat len)), z'] [])) := by
    intro r
    induction r with
    | zero =>
      intro i hi z hz Tl Bk Xl pl fl cl
      have hil : i = len := by omega
      rw [hil] at Xl fl cl
      exact ⟨Tl, Bk, z, Xl, pl, fl, cl⟩
    | succ r ih =>
      intro i hi z hz Tl Bk Xl pl fl cl
      have all := X0.warmed.alike.symm.trans Xl.warmed.alike
      have hAl := hA0.keep all (pl.other hne hA0.1)
      have hBk := hB0.like all pl.1 fl.1 fl.2.1 fl.2.2.1
      have hlt : q + i < Bk.slots.size := by rw [fl.2.2.1]; omega
      have c3 : Steps p.tables e below (s₁.setTop (entryFrame m #[.ref b, .int (Int32.ofNat o), .ref d, .int (Int32.ofNat q), .int (Int32.ofNat len)] 7)) (Tl.setTop (mkF m 12 #[.val (.ref b), .val (.int (Int32.ofNat (o + i))), .val (.ref d), .val (.int (Int32.ofNat (q + i))), .val (.int (Int32.ofNat len)), .val (.int (Int32.ofNat i)), z] [.int (Int32.ofNat (o + i)), .ref b])) := cl.trans (by
        refine XS.iload Xl.here hexec rfl (hb hbytes d3) rfl ?_
        refine XS.iload Xl.here hexec rfl (hb hbytes d5) rfl ?_
        refine XS.icmpNo Xl.here hexec rfl (hb hbytes d7) rfl (ii_ge_f (lt32 (by omega) (by omega))) ?_
        refine XS.aloadN Xl.here hexec rfl (hb hbytes d10) rfl rfl ?_
        refine XS.iloadN Xl.here hexec rfl (hb hbytes d11) rfl ?_
        exact Steps.refl _)
      have c4 : Steps p.tables e below (s₁.setTop (entryFrame m #[.ref b, .int (Int32.ofNat o), .ref d, .int (Int32.ofNat q), .int (Int32.ofNat len)] 7)) (Tl.setTop (mkF m 13 #[.val (.ref b), .val (.int (Int32.ofNat (o + i))), .val (.ref d), .val (.int (Int32.ofNat (q + i))), .val (.int (Int32.ofNat len)), .val (.int (Int32.ofNat i)), z] [.int (cv A (o + i))])) := c3.trans (by
        refine Xl.aget hexec hAl rfl (hA.get (i := o + i) (by omega)) rfl rfl (hb hbytes d12) ?_
        exact Steps.refl _)
      have c5 : Steps p.tables e below (s₁.setTop (entryFrame m #[.ref b, .int (Int32.ofNat o), .ref d, .int (Int32.ofNat q), .int (Int32.ofNat len)] 7)) (Tl.setTop (mkF m 15 #[.val (.ref b), .val (.int (Int32.ofNat (o + i))), .val (.ref d), .val (.int (Int32.ofNat (q + i))), .val (.int (Int32.ofNat len)), .val (.int (Int32.ofNat i)), .val (.int (cv A (o + i)))] [])) := c4.trans (by
        refine XS.istoreS Xl.here hexec rfl (hb hbytes d13) rfl rfl hz ?_
        exact Steps.refl _)
      have c6 : Steps p.tables e below (s₁.setTop (entryFrame m #[.ref b, .int (Int32.ofNat o), .ref d, .int (Int32.ofNat q), .int (Int32.ofNat len)] 7)) (Tl.setTop (mkF m 31 #[.val (.ref b), .val (.int (Int32.ofNat (o + i))), .val (.ref d), .val (.int (Int32.ofNat (q + i))), .val (.int (Int32.ofNat len)), .val (.int (Int32.ofNat i)), .val (.int (cv A (o + i)))] [.int (lo8 (cv A (o + i))), .int (Int32.ofNat (q + i)), .ref d])) := c5.trans (by
        refine XS.iload Xl.here hexec rfl (hb hbytes d15) rfl ?_
        refine sipushV Xl.here hexec rfl 255 (hb hbytes d17) (by decide) ?_
        refine XS.icmpYes Xl.here hexec rfl (pc0 := 20) rfl (hb hbytes d20) rfl (ii_le_t (hp i (by omega))) (by decide) rfl ?_
        refine XS.aloadN Xl.here hexec rfl (hb hbytes d26) rfl rfl ?_
        refine XS.iloadN Xl.here hexec rfl (hb hbytes d27) rfl ?_
        refine XS.iload Xl.here hexec rfl (hb hbytes d28) rfl ?_
        refine i2b Xl.here hexec rfl (hb hbytes d30) rfl ?_
        exact Steps.refl _)
      obtain ⟨T7, X7, p7, st7⟩ := Xl.aput hexec hBk rfl hlt rfl (fits_lo8 (cv A (o + i))) (g := (mkF m 31 #[.val (.ref b), .val (.int (Int32.ofNat (o + i))), .val (.ref d), .val (.int (Int32.ofNat (q + i))), .val (.int (Int32.ofNat len)), .val (.int (Int32.ofNat i)), .val (.int (cv A (o + i)))] [.int (lo8 (cv A (o + i))), .int (Int32.ofNat (q + i)), .ref d])) rfl (rest := []) rfl (hb hbytes d31)
      have c8 : Steps p.tables e below (s₁.setTop (entryFrame m #[.ref b, .int (Int32.ofNat o), .ref d, .int (Int32.ofNat q), .int (Int32.ofNat len)] 7)) (T7.setTop (mkF m 32 #[.val (.ref b), .val (.int (Int32.ofNat (o + i))), .val (.ref d), .val (.int (Int32.ofNat (q + i))), .val (.int (Int32.ofNat len)), .val (.int (Int32.ofNat i)), .val (.int (cv A (o + i)))] [])) := c6.trans (st7 _ (Steps.refl _))
      have c9 : Steps p.tables e below (s₁.setTop (entryFrame m #[.ref b, .int (Int32.ofNat o), .ref d, .int (Int32.ofNat q), .int (Int32.ofNat len)] 7)) (T7.setTop (mkF m 3 #[.val (.ref b), .val (.int (Int32.ofNat (o + i) + 1)), .val (.ref d), .val (.int (Int32.ofNat (q + i) + 1)), .val (.int (Int32.ofNat len)), .val (.int (Int32.ofNat i + 1)), .val (.int (cv A (o + i)))] [])) := c8.trans (by
        refine iincV X7.here hexec rfl 1 (hb hbytes d32) (by decide) rfl rfl ?_
        refine iincV X7.here hexec rfl 1 (hb hbytes d35) (by decide) rfl rfl ?_
        refine iincV X7.here hexec rfl 1 (hb hbytes d38) (by decide) rfl rfl ?_
        refine XS.goto X7.here hexec rfl (pc0 := 41) rfl (hb hbytes d41) (by decide) rfl ?_
        exact Steps.refl _)
      have c10 : Steps p.tables e below (s₁.setTop (entryFrame m #[.ref b, .int (Int32.ofNat o), .ref d, .int (Int32.ofNat q), .int (Int32.ofNat len)] 7)) (T7.setTop (mkF m 3 #[.val (.ref b), .val (.int (Int32.ofNat (o + (i + 1)))), .val (.ref d), .val (.int (Int32.ofNat (q + (i + 1)))), .val (.int (Int32.ofNat len)), .val (.int (Int32.ofNat (i + 1))), .val (.int (cv A (o + i)))] [])) := by
        have := c9
        rw [succ32, succ32, succ32] at this
        exact this
      exact ih (i + 1) (by omega) _ (Or.inr ⟨_, rfl, rfl⟩) T7 _ (by rw [copyLocs_step, ← List.append_assoc]; exact X7) (pl.trans p7) (fl.step (by omega) hlt (by simp)) c10
  obtain ⟨T9, B9, z9, X9, p9, f9, g9⟩ := loop len 0 (by omega) .unset (Or.inl rfl) s₁ B (by simpa [copyLocs] using X0) ⟨hB0.1, fun _ _ => rfl, rfl⟩ (Laid.zero _ _ _) c2
  have c11 : Steps p.tables e below (s₁.setTop (entryFrame m #[.ref b, .int (Int32.ofNat o), .ref d, .int (Int32.ofNat q), .int (Int32.ofNat len)] 7)) (T9.setTop (mkF m 46 #[.val (.ref b), .val (.int (Int32.ofNat (o + len))), .val (.ref d), .val (.int (Int32.ofNat (q + len))), .val (.int (Int32.ofNat len)), .val (.int (Int32.ofNat len)), z9] [.int (Int32.ofNat len)])) := g9.trans (by
    refine XS.iload X9.here hexec rfl (hb hbytes d3) rfl ?_
    refine XS.iload X9.here hexec rfl (hb hbytes d5) rfl ?_
    refine XS.icmpYes X9.here hexec rfl (pc0 := 7) rfl (hb hbytes d7) rfl (ii_ge_t (nlt32 (by omega) (Nat.le_refl _))) (by decide) rfl ?_
    refine XS.iload X9.here hexec rfl (hb hbytes d44) rfl ?_
    exact Steps.refl _)
  exact ⟨T9, some (.int (Int32.ofNat len)), _, _, _, X9, by simp, rfl, rfl, (fun h => by cases h), ⟨rfl, B9, p9.from hh0, f9⟩, fun fs hl => c11.trans (X9.ireturnOut hexec hret rfl (Or.inl rfl) (hb hbytes d46) hl)⟩
end Cmp5
namespace Cmp3
def yN : MethodName := ⟨"java/lang/StringUTF16", "compress", "([CII)[B"⟩
abbrev yB : ByteArray := jdk_52_method_16_code
theorem d0 : decode yB 0 = .ok (.iload_n 2, 1) := by decide +kernel
theorem d1 : decode yB 1 = .ok (.newarray .byte, 2) := by decide +kernel
theorem d3 : decode yB 3 = .ok (.astore_n 3, 1) := by decide +kernel
theorem d4 : decode yB 4 = .ok (.aload_n 0, 1) := by decide +kernel
theorem d5 : decode yB 5 = .ok (.iload_n 1, 1) := by decide +kernel
theorem d6 : decode yB 6 = .ok (.aload_n 3, 1) := by decide +kernel
theorem d7 : decode yB 7 = .ok (.iconst 0, 1) := by decide +kernel
theorem d8 : decode yB 8 = .ok (.iload_n 2, 1) := by decide +kernel
theorem d9 : decode yB 9 = .ok (.invokestatic 115, 3) := by decide +kernel
theorem d12 : decode yB 12 = .ok (.istore 4, 2) := by decide +kernel
theorem d14 : decode yB 14 = .ok (.iload 4, 2) := by decide +kernel
theorem d16 : decode yB 16 = .ok (.iload_n 2, 1) := by decide +kernel
theorem d17 : decode yB 17 = .ok (.if_icmp (.eq) 40, 3) := by decide +kernel
theorem d57 : decode yB 57 = .ok (.aload_n 3, 1) := by decide +kernel
theorem d58 : decode yB 58 = .ok (.areturn, 1) := by decide +kernel
def site : List Cond := [.arrayClass .byte, Cmp5.tab] ++ staticW U16 115 Cmp5.yN
def tab : Cond := tabOf yN yB 6 (some (.array .byte)) site
def P (b : Addr) (A : Cell) (o len : Nat) (args : Array Value) (s : State) : Prop := args = #[.ref b, .int (Int32.ofNat o), .int (Int32.ofNat len)] ∧ Ch b A s ∧ o + len ≤ A.slots.size ∧ len ≤ 536870912 ∧ ∀ i, i < len → ¬ 255 < cv A (o + i)
def E (b : Addr) (A : Cell) (o len : Nat) (r : Option Value) (s u : State) : Prop := NewArr .byte "[B" len (fun j => .int (lo8 (cv A (o + j)))) r s u ∧ u.heap.size = s.heap.size + 1
/-- no char of the range above 255: a new byte[] of their low bytes -/
theorem law (l : Launch) (b : Addr) (A : Cell) (o len : Nat) : Law l yN 3 3 1 18 yB 6 (some (.array .byte)) site (P b A o len) (E b A o len) [] 1 len := by
  refine Law.of_walk (plainFor_of_name (by decide +kernel)) (by decide +kernel) (by decide +kernel) (by decide) (fun _ _ h => by rw [h.1]; rfl) (fun _ U U' hal hh h => ⟨h.1, h.2.1.mv hal hh, h.2.2⟩) (fun r U U' V V' h1 hal h2 h => ⟨NewArr.mv r U U' V V' h1 hal h2 h.1, by rw [h1, h2]; exact h.2⟩) ?_
  intro p e s m args below meth c s₁ X0 hexec hbytes hml hret hlk hnm hown hh0 W hP
  obtain ⟨rfl, hA, l1, l2, hp⟩ := hP
  have a31 := hA.1.2.2.2
  have c1 : Steps p.tables e below (s₁.setTop (entryFrame m #[.ref b, .int (Int32.ofNat o), .int (Int32.ofNat len)] 6)) (s₁.setTop (mkF m 0 #[.val (.ref b), .val (.int (Int32.ofNat o)), .val (.int (Int32.ofNat len)), .unset, .unset, .unset] [])) := entry rfl
  have c2 : Steps p.tables e below (s₁.setTop (entryFrame m #[.ref b, .int (Int32.ofNat o), .int (Int32.ofNat len)] 6)) (s₁.setTop (mkF m 1 #[.val (.ref b), .val (.int (Int32.ofNat o)), .val (.int (Int32.ofNat len)), .unset, .unset, .unset] [.int (Int32.ofNat len)])) := c1.trans (by
    refine XS.iloadN X0.here hexec rfl (hb hbytes d0) rfl ?_
    exact Steps.refl _)
  obtain ⟨T3, B3, X3, ba3, bs3, bv3, bh3, bf3, st3⟩ := X0.anew hexec (atype := .byte) (wk W (.arrayClass .byte)) rfl (by show len * 1 ≤ _; omega) (by omega) (g := (mkF m 1 #[.val (.ref b), .val (.int (Int32.ofNat o)), .val (.int (Int32.ofNat len)), .unset, .unset, .unset] [.int (Int32.ofNat len)])) rfl (hb hbytes d1) (rest := []) rfl (Nat.le_refl _) (by show 0 + len ≤ len; omega)
  rw [hh0] at ba3 st3
  have kp3 : XT.Kept s T3 := (XT.Kept.of_eq hh0).push bh3
  have hA3 := hA.keep X3.warmed.alike (kp3 _ _ hA.1.1)
  have hne : b ≠ s.heap.size := hA.1.ne
  have c4 : Steps p.tables e below (s₁.setTop (entryFrame m #[.ref b, .int (Int32.ofNat o), .int (Int32.ofNat len)] 6)) (T3.setTop (mkF m 3 #[.val (.ref b), .val (.int (Int32.ofNat o)), .val (.int (Int32.ofNat len)), .unset, .unset, .unset] [.ref s.heap.size])) := c2.trans (st3 _ (Steps.refl _))
  have c5 : Steps p.tables e below (s₁.setTop (entryFrame m #[.ref b, .int (Int32.ofNat o), .int (Int32.ofNat len)] 6)) (T3.setTop (mkF m 9 #[.val (.ref b), .val (.int (Int32.ofNat o)), .val (.int (Int32.ofNat len)), .val (.ref s.heap.size), .unset, .unset] [.int (Int32.ofNat len), .int 0, .ref s.heap.size, .int (Int32.ofNat o), .ref b])) := c4.trans (by
    refine XS.astoreN X3.here hexec rfl (hb hbytes d3) rfl rfl rfl ?_
    refine XS.aloadN X3.here hexec rfl (hb hbytes d4) rfl rfl ?_
    refine XS.iloadN X3.here hexec rfl (hb hbytes d5) rfl ?_
    refine XS.aloadN X3.here hexec rfl (hb hbytes d6) rfl rfl ?_
    refine iconstV X3.here hexec rfl 0 (hb hbytes d7) (by decide) ?_
    refine XS.iloadN X3.here hexec rfl (hb hbytes d8) rfl ?_
    exact Steps.refl _)
  obtain ⟨v6, T6, X6, E6, g6⟩ := X3.callS hexec (Cmp5.law l b A s.heap.size B3 o 0 len) hown (wks W (staticW U16 115 Cmp5.yN)) (wk W Cmp5.tab) (W := 0) (Nat.le_of_ble_eq_true rfl) (Nat.le_of_ble_eq_true rfl) (Nat.le_refl _) (by show 0 + len + 0 ≤ len; omega) (g := (mkF m 9 #[.val (.ref b), .val (.int (Int32.ofNat o)), .val (.int (Int32.ofNat len)), .val (.ref s.heap.size), .unset, .unset] [.int (Int32.ofNat len), .int (Int32.ofNat 0), .ref s.heap.size, .int (Int32.ofNat o), .ref b])) rfl (by rw [hml]; rfl) c5 (argsL := [.ref b, .int (Int32.ofNat o), .ref s.heap.size, .int (Int32.ofNat 0), .int (Int32.ofNat len)]) (rest := []) rfl rfl (by show 2 * 0 + 0 ≤ _; decide) (hb hbytes d9) (⟨rfl, hA3, ba3, hne, l1, by rw [bs3]; simp, hp⟩)
  obtain ⟨rfl, B6, p6, f6⟩ := E6
  have c7 : Steps p.tables e below (s₁.setTop (entryFrame m #[.ref b, .int (Int32.ofNat o), .int (Int32.ofNat len)] 6)) (T6.setTop (mkF m 12 #[.val (.ref b), .val (.int (Int32.ofNat o)), .val (.int (Int32.ofNat len)), .val (.ref s.heap.size), .unset, .unset] [.int (Int32.ofNat len)])) := g6
  have c8 : Steps p.tables e below (s₁.setTop (entryFrame m #[.ref b, .int (Int32.ofNat o), .int (Int32.ofNat len)] 6)) (T6.setTop (mkF m 58 #[.val (.ref b), .val (.int (Int32.ofNat o)), .val (.int (Int32.ofNat len)), .val (.ref s.heap.size), .val (.int (Int32.ofNat len)), .unset] [.ref s.heap.size])) := c7.trans (by
    refine XS.istore X6.here hexec rfl (hb hbytes d12) rfl rfl ?_
    refine XS.iload X6.here hexec rfl (hb hbytes d14) rfl ?_
    refine XS.iloadN X6.here hexec rfl (hb hbytes d16) rfl ?_
    refine XS.icmpYes X6.here hexec rfl (pc0 := 17) rfl (hb hbytes d17) rfl (ii_eq_t rfl) (by decide) rfl ?_
    refine XS.aloadN X6.here hexec rfl (hb hbytes d57) rfl rfl ?_
    exact Steps.refl _)
  have X8 := X6.wide (L' := []) (cells' := 1) (slots' := len) (fun x hx hlt => by
    simp only [List.nil_append, copyLocs, List.mem_map, List.mem_range] at hx
    obtain ⟨i, -, rfl⟩ := hx
    exact absurd hlt (Nat.lt_irrefl _)) (Nat.le_refl _) (by omega)
  exact ⟨T6, some (.ref s.heap.size), _, _, _, X8, rfl, rfl, rfl, (fun h => by cases h), ⟨⟨rfl, B6, ba3.like (X3.warmed.alike.symm.trans X6.warmed.alike) p6.1 f6.1 f6.2.1 f6.2.2.1, f6.2.1.trans bv3, by rw [X6.warmed.alike.findClass, f6.1]; exact bf3, by rw [f6.2.2.1, bs3]; simp, fun j hj => by rw [f6.2.2.2 j, if_pos (by omega)]; rfl, kp3.put p6 (Nat.le_refl _)⟩, by rw [p6.2.2, bh3, hh0]; simp⟩, fun fs hl => c8.trans (X8.areturnOut hexec rfl hret rfl (hb hbytes d58) hl)⟩
end Cmp3
namespace CodL
def yN : MethodName := ⟨"java/lang/StringUTF16", "coderFromArrayLen", "([BI)B"⟩
abbrev yB : ByteArray := jdk_52_method_15_code
theorem d0 : decode yB 0 = .ok (.iload_n 1, 1) := by decide +kernel
theorem d1 : decode yB 1 = .ok (.aload_n 0, 1) := by decide +kernel
theorem d2 : decode yB 2 = .ok (.arraylength, 1) := by decide +kernel
theorem d3 : decode yB 3 = .ok (.isub, 1) := by decide +kernel
theorem d4 : decode yB 4 = .ok (.bipush 31, 2) := by decide +kernel
theorem d6 : decode yB 6 = .ok (.iushr, 1) := by decide +kernel
theorem d7 : decode yB 7 = .ok (.i2b, 1) := by decide +kernel
theorem d8 : decode yB 8 = .ok (.ireturn, 1) := by decide +kernel
def site : List Cond := []
def tab : Cond := tabOf yN yB 2 (some .byte) site
def P (d : Addr) (B : Cell) (args : Array Value) (s : State) : Prop := args = #[.ref d, .int (Int32.ofNat B.slots.size)] ∧ Arr .byte d B s
def E (r : Option Value) (s u : State) : Prop := XT.PureE (some (.int 0)) r s u
/-- an array as long as the number of chars: LATIN1 -/
theorem law (l : Launch) (d : Addr) (B : Cell) : Law l yN 2 2 0 0 yB 2 (some .byte) site (P d B) E [] 0 0 := by
  refine Law.of_walk (plainFor_of_name (by decide +kernel)) (by decide +kernel) (by decide +kernel) (by decide) (fun _ _ h => by rw [h.1]; rfl) (fun _ U U' hal hh h => ⟨h.1, h.2.mv hal hh⟩) (fun r U U' V V' h1 hal h2 h => XT.PureE.mv r U U' V V' h1 hal h2 h) ?_
  intro p e s m args below meth c s₁ X0 hexec hbytes hml hret hlk hnm hown hh0 W hP
  obtain ⟨rfl, hB⟩ := hP
  have hB0 := hB.mv X0.warmed.alike hh0
  have c1 : Steps p.tables e below (s₁.setTop (entryFrame m #[.ref d, .int (Int32.ofNat B.slots.size)] 2)) (s₁.setTop (mkF m 0 #[.val (.ref d), .val (.int (Int32.ofNat B.slots.size))] [])) := entry rfl
  have c2 : Steps p.tables e below (s₁.setTop (entryFrame m #[.ref d, .int (Int32.ofNat B.slots.size)] 2)) (s₁.setTop (mkF m 2 #[.val (.ref d), .val (.int (Int32.ofNat B.slots.size))] [.ref d, .int (Int32.ofNat B.slots.size)])) := c1.trans (by
    refine XS.iloadN X0.here hexec rfl (hb hbytes d0) rfl ?_
    refine XS.aloadN X0.here hexec rfl (hb hbytes d1) rfl rfl ?_
    exact Steps.refl _)
  have c3 : Steps p.tables e below (s₁.setTop (entryFrame m #[.ref d, .int (Int32.ofNat B.slots.size)] 2)) (s₁.setTop (mkF m 8 #[.val (.ref d), .val (.int (Int32.ofNat B.slots.size))] [.int (lo8 (ushr (Int32.ofNat B.slots.size - Int32.ofNat B.slots.size) 31))])) := c2.trans (by
    refine X0.alen hexec hB0 rfl rfl (hb hbytes d2) ?_
    refine XS.isub X0.here hexec rfl (hb hbytes d3) rfl ?_
    refine bipushV X0.here hexec rfl 31 (hb hbytes d4) (by decide) ?_
    refine iushr X0.here hexec rfl (hb hbytes d6) rfl ?_
    refine i2b X0.here hexec rfl (hb hbytes d7) rfl ?_
    exact Steps.refl _)
  have e0 : lo8 (ushr (Int32.ofNat B.slots.size - Int32.ofNat B.slots.size) 31) = 0 := by rw [Int32.sub_self]; decide
  rw [e0] at c3
  exact ⟨s₁, some (.int 0), _, _, _, X0, rfl, rfl, rfl, (fun h => by cases h), ⟨rfl, hh0⟩, fun fs hl => c3.trans (X0.ireturnOut hexec hret rfl (Or.inr (Or.inr (Or.inl rfl))) (hb hbytes d8) hl)⟩
end CodL
/-- the String at a is Latin-1 over a new byte[] (the heap's one new cell): the low bytes of the len chars of A from o on; every cell but a is kept -/
def Got (a : Addr) (D : Cell) (fV fC : Field) (A : Cell) (o len : Nat) (r : Option Value) (s u : State) : Prop := r = none ∧ ∃ D' V : Cell, Blank "java/lang/String" a D' u ∧ Same D D' [fV.slot, fC.slot] ∧ D'.slots[fV.slot]? = some (.ref s.heap.size) ∧ D'.slots[fC.slot]? = some (.int 0) ∧ Arr .byte s.heap.size V u ∧ V.vm = .none ∧ u.vm.findClass "[B" = some V.cls ∧ V.slots.size = len ∧ (∀ j, j < len → V.slots[j]? = some (.int (lo8 (cv A (o + j))))) ∧ (∀ (y : Addr) (c : Cell), y ≠ a → s.heap[y]? = some c → u.heap[y]? = some c) ∧ u.heap.size = s.heap.size + 1
theorem Got.mv {a : Addr} {D A : Cell} {fV fC : Field} {o len : Nat} : ∀ r (U U' V V' : State), U'.heap = U.heap → V.vm.Alike V'.vm → V'.heap = V.heap → Got a D fV fC A o len r U V → Got a D fV fC A o len r U' V' :=
  fun r U U' V V' h1 hal h2 ⟨e0, D', X, a1, a2, a3, a4, a5, a6, a7, a8, a9, a10, a11⟩ => ⟨e0, D', X, a1.mv hal h2, a2, by rw [h1]; exact a3, a4, by rw [h1]; exact a5.mv hal h2, a6, by rw [hal.findClass]; exact a7, a8, a9, by rw [h1, h2]; exact a10, by rw [h1, h2]; exact a11⟩
namespace New4
def yN : MethodName := ⟨"java/lang/String", "<init>", "([CIILjava/lang/Void;)V"⟩
abbrev yB : ByteArray := jdk_42_method_149_code
theorem d0 : decode yB 0 = .ok (.aload_n 0, 1) := by decide +kernel
theorem d1 : decode yB 1 = .ok (.invokespecial 1, 3) := by decide +kernel
theorem d4 : decode yB 4 = .ok (.iload_n 3, 1) := by decide +kernel
theorem d5 : decode yB 5 = .ok (.ifCond (.ne) 22, 3) := by decide +kernel
theorem d27 : decode yB 27 = .ok (.getstatic 38, 3) := by decide +kernel
theorem d30 : decode yB 30 = .ok (.ifCond (.eq) 28, 3) := by decide +kernel
theorem d33 : decode yB 33 = .ok (.aload_n 1, 1) := by decide +kernel
theorem d34 : decode yB 34 = .ok (.iload_n 2, 1) := by decide +kernel
theorem d35 : decode yB 35 = .ok (.iload_n 3, 1) := by decide +kernel
theorem d36 : decode yB 36 = .ok (.invokestatic 177, 3) := by decide +kernel
theorem d39 : decode yB 39 = .ok (.astore 5, 2) := by decide +kernel
theorem d41 : decode yB 41 = .ok (.aload_n 0, 1) := by decide +kernel
theorem d42 : decode yB 42 = .ok (.aload 5, 2) := by decide +kernel
theorem d44 : decode yB 44 = .ok (.iload_n 3, 1) := by decide +kernel
theorem d45 : decode yB 45 = .ok (.invokestatic 47, 3) := by decide +kernel
theorem d48 : decode yB 48 = .ok (.putfield 15, 3) := by decide +kernel
theorem d51 : decode yB 51 = .ok (.aload_n 0, 1) := by decide +kernel
theorem d52 : decode yB 52 = .ok (.aload 5, 2) := by decide +kernel
theorem d54 : decode yB 54 = .ok (.putfield 9, 3) := by decide +kernel
theorem d57 : decode yB 57 = .ok (.return_, 1) := by decide +kernel
def site : List Cond := [.fieldLink "java/lang/String" 38 "java/lang/String" "COMPACT_STRINGS" "Z", Cmp3.tab, CodL.tab, .laysFinal "java/lang/String" "java/lang/String" "value" "[B", .fieldLink "java/lang/String" 9 "java/lang/String" "value" "[B", .laysFinal "java/lang/String" "java/lang/String" "coder" "B", .fieldLink "java/lang/String" 15 "java/lang/String" "coder" "B"] ++ objW "java/lang/String" 1 ++ staticW "java/lang/String" 177 Cmp3.yN ++ staticW "java/lang/String" 47 CodL.yN
def tab : Cond := tabOf yN yB 6 none site
def P (a : Addr) (D : Cell) (fV fC : Field) (b : Addr) (A : Cell) (z : Int32) (o len : Nat) (args : Array Value) (s : State) : Prop := args = #[.ref a, .ref b, .int (Int32.ofNat o), .int (Int32.ofNat len), .null] ∧ Blank "java/lang/String" a D s ∧ Found "java/lang/String" "value" "[B" fV s ∧ Found "java/lang/String" "coder" "B" fC s ∧ Ch b A s ∧ StaticIs s "java/lang/String" "COMPACT_STRINGS" "Z" (.int z) ∧ ¬ z = 0 ∧ 0 < len ∧ o + len ≤ A.slots.size ∧ len ≤ 536870912 ∧ ∀ i, i < len → ¬ 255 < cv A (o + i)
def E (a : Addr) (D : Cell) (fV fC : Field) (A : Cell) (o len : Nat) (r : Option Value) (s u : State) : Prop := Got a D fV fC A o len r s u
/-- len > 0, no char of the range above 255: a Latin-1 String of their low bytes -/
theorem law (l : Launch) (a : Addr) (D : Cell) (fV fC : Field) (b : Addr) (A : Cell) (z : Int32) (o len : Nat) : Law l yN 5 4 2 35 yB 6 none site (P a D fV fC b A z o len) (E a D fV fC A o len) [⟨a, fC.slot⟩, ⟨a, fV.slot⟩] 1 len := by
  refine Law.of_walk (plainFor_of_name (by decide +kernel)) (by decide +kernel) (by decide +kernel) (by decide) (fun _ _ h => by rw [h.1]; rfl) (fun _ U U' hal hh h => ⟨h.1, h.2.1.mv hal hh, h.2.2.1.al hal, h.2.2.2.1.al hal, h.2.2.2.2.1.mv hal hh, h.2.2.2.2.2.1.there hal hh, h.2.2.2.2.2.2⟩) (fun r U U' V V' h1 hal h2 h => Got.mv r U U' V V' h1 hal h2 h) ?_
  intro p e s m args below meth c s₁ X0 hexec hbytes hml hret hlk hnm hown hh0 W hP
  obtain ⟨rfl, hB, f1, f2, hA, s1, hz, l0, l1, l2, hp⟩ := hP
  have a31 := hA.1.2.2.2
  have c1 : Steps p.tables e below (s₁.setTop (entryFrame m #[.ref a, .ref b, .int (Int32.ofNat o), .int (Int32.ofNat len), .null] 6)) (s₁.setTop (mkF m 0 #[.val (.ref a), .val (.ref b), .val (.int (Int32.ofNat o)), .val (.int (Int32.ofNat len)), .val .null, .unset] [])) := entry rfl
  have c2 : Steps p.tables e below (s₁.setTop (entryFrame m #[.ref a, .ref b, .int (Int32.ofNat o), .int (Int32.ofNat len), .null] 6)) (s₁.setTop (mkF m 1 #[.val (.ref a), .val (.ref b), .val (.int (Int32.ofNat o)), .val (.int (Int32.ofNat len)), .val .null, .unset] [.ref a])) := c1.trans (by
    refine XS.aloadN X0.here hexec rfl (hb hbytes d0) rfl rfl ?_
    exact Steps.refl _)
  obtain ⟨T3, X3, q3, st3⟩ := X0.oinit hexec hown (wks W (objW "java/lang/String" 1)) (g := (mkF m 1 #[.val (.ref a), .val (.ref b), .val (.int (Int32.ofNat o)), .val (.int (Int32.ofNat len)), .val .null, .unset] [.ref a])) rfl (by rw [hml]; rfl) (rest := []) rfl (hb hbytes d1) (W := 0) (by show 2 * 0 + 0 ≤ _; decide) (Nat.le_of_ble_eq_true rfl) (Nat.le_of_ble_eq_true rfl)
  have hh3 := q3.trans hh0
  have c4 : Steps p.tables e below (s₁.setTop (entryFrame m #[.ref a, .ref b, .int (Int32.ofNat o), .int (Int32.ofNat len), .null] 6)) (T3.setTop (mkF m 27 #[.val (.ref a), .val (.ref b), .val (.int (Int32.ofNat o)), .val (.int (Int32.ofNat len)), .val .null, .unset] [])) := (c2.trans (st3 _ (Steps.refl _))).trans (by
    refine XS.iloadN X3.here hexec rfl (hb hbytes d4) rfl ?_
    refine XS.ifYes X3.here hexec rfl (pc0 := 5) rfl (hb hbytes d5) rfl (i0_ne_t (nz32 (by omega) l0)) (by decide) rfl ?_
    exact Steps.refl _)
  obtain ⟨T5, X5, q5, st5⟩ := X3.sget hexec hown (wk W (.fieldLink "java/lang/String" 38 "java/lang/String" "COMPACT_STRINGS" "Z")) s1 (fun _ _ h => by rw [hh3]; exact h) (g := (mkF m 27 #[.val (.ref a), .val (.ref b), .val (.int (Int32.ofNat o)), .val (.int (Int32.ofNat len)), .val .null, .unset] [])) rfl (hb hbytes d27)
  have hh5 := q5.trans hh3
  have c6 : Steps p.tables e below (s₁.setTop (entryFrame m #[.ref a, .ref b, .int (Int32.ofNat o), .int (Int32.ofNat len), .null] 6)) (T5.setTop (mkF m 30 #[.val (.ref a), .val (.ref b), .val (.int (Int32.ofNat o)), .val (.int (Int32.ofNat len)), .val .null, .unset] [.int z])) := c4.trans (st5 _ (Steps.refl _))
  have c7 : Steps p.tables e below (s₁.setTop (entryFrame m #[.ref a, .ref b, .int (Int32.ofNat o), .int (Int32.ofNat len), .null] 6)) (T5.setTop (mkF m 36 #[.val (.ref a), .val (.ref b), .val (.int (Int32.ofNat o)), .val (.int (Int32.ofNat len)), .val .null, .unset] [.int (Int32.ofNat len), .int (Int32.ofNat o), .ref b])) := c6.trans (by
    refine XS.ifNo X5.here hexec rfl (hb hbytes d30) rfl (i0_eq_f hz) ?_
    refine XS.aloadN X5.here hexec rfl (hb hbytes d33) rfl rfl ?_
    refine XS.iloadN X5.here hexec rfl (hb hbytes d34) rfl ?_
    refine XS.iloadN X5.here hexec rfl (hb hbytes d35) rfl ?_
    exact Steps.refl _)
  obtain ⟨v8, T8, X8, E8, g8⟩ := X5.callS hexec (Cmp3.law l b A o len) hown (wks W (staticW "java/lang/String" 177 Cmp3.yN)) (wk W Cmp3.tab) (W := 0) (Nat.le_of_ble_eq_true rfl) (Nat.le_of_ble_eq_true rfl) (Nat.le_refl _) (by show 0 + len ≤ len; omega) (g := (mkF m 36 #[.val (.ref a), .val (.ref b), .val (.int (Int32.ofNat o)), .val (.int (Int32.ofNat len)), .val .null, .unset] [.int (Int32.ofNat len), .int (Int32.ofNat o), .ref b])) rfl (by rw [hml]; rfl) c7 (argsL := [.ref b, .int (Int32.ofNat o), .int (Int32.ofNat len)]) (rest := []) rfl rfl (by show 2 * 0 + 0 ≤ _; decide) (hb hbytes d36) (⟨rfl, hA.mv X5.warmed.alike hh5, l1, l2, hp⟩)
  obtain ⟨e8, z8⟩ := E8
  obtain ⟨rfl, N, n1, n2, n3, n4, n5, n6⟩ := NewArr.mv _ T5 s _ _ hh5.symm (Vm.Alike.refl _) rfl e8
  rw [hh5] at z8
  have hB1 := hB.keep X8.warmed.alike (n6 _ _ hB.1)
  have hne : s.heap.size ≠ a := (Nat.ne_of_lt (Array.getElem?_eq_some_iff.mp hB.1).1).symm
  have c9 : Steps p.tables e below (s₁.setTop (entryFrame m #[.ref a, .ref b, .int (Int32.ofNat o), .int (Int32.ofNat len), .null] 6)) (T8.setTop (mkF m 39 #[.val (.ref a), .val (.ref b), .val (.int (Int32.ofNat o)), .val (.int (Int32.ofNat len)), .val .null, .unset] [.ref s.heap.size])) := g8
  have c10 : Steps p.tables e below (s₁.setTop (entryFrame m #[.ref a, .ref b, .int (Int32.ofNat o), .int (Int32.ofNat len), .null] 6)) (T8.setTop (mkF m 45 #[.val (.ref a), .val (.ref b), .val (.int (Int32.ofNat o)), .val (.int (Int32.ofNat len)), .val .null, .val (.ref s.heap.size)] [.int (Int32.ofNat N.slots.size), .ref s.heap.size, .ref a])) := by
    have hc : Steps p.tables e below (s₁.setTop (entryFrame m #[.ref a, .ref b, .int (Int32.ofNat o), .int (Int32.ofNat len), .null] 6)) (T8.setTop (mkF m 45 #[.val (.ref a), .val (.ref b), .val (.int (Int32.ofNat o)), .val (.int (Int32.ofNat len)), .val .null, .val (.ref s.heap.size)] [.int (Int32.ofNat len), .ref s.heap.size, .ref a])) := c9.trans (by
      refine XS.astore X8.here hexec rfl (hb hbytes d39) rfl rfl rfl ?_
      refine XS.aloadN X8.here hexec rfl (hb hbytes d41) rfl rfl ?_
      refine XS.aload X8.here hexec rfl (hb hbytes d42) rfl rfl ?_
      refine XS.iloadN X8.here hexec rfl (hb hbytes d44) rfl ?_
      exact Steps.refl _)
    rw [n4]; exact hc
  obtain ⟨v11, T11, X11, E11, g11⟩ := X8.callS hexec (CodL.law l s.heap.size N) hown (wks W (staticW "java/lang/String" 47 CodL.yN)) (wk W CodL.tab) (W := 1) (Nat.le_of_ble_eq_true rfl) (Nat.le_of_ble_eq_true rfl) (Nat.le_refl _) (by show 0 + len + 0 ≤ len; omega) (g := (mkF m 45 #[.val (.ref a), .val (.ref b), .val (.int (Int32.ofNat o)), .val (.int (Int32.ofNat len)), .val .null, .val (.ref s.heap.size)] [.int (Int32.ofNat N.slots.size), .ref s.heap.size, .ref a])) rfl (by rw [hml]; rfl) c10 (argsL := [.ref s.heap.size, .int (Int32.ofNat N.slots.size)]) (rest := [.ref a]) rfl rfl (by show 2 * 0 + (1 + 0) ≤ _; decide) (hb hbytes d45) (⟨rfl, n1⟩)
  obtain ⟨rfl, q11⟩ := E11
  have hB11 := hB1.mv (X8.warmed.alike.symm.trans X11.warmed.alike) q11
  have c12 : Steps p.tables e below (s₁.setTop (entryFrame m #[.ref a, .ref b, .int (Int32.ofNat o), .int (Int32.ofNat len), .null] 6)) (T11.setTop (mkF m 48 #[.val (.ref a), .val (.ref b), .val (.int (Int32.ofNat o)), .val (.int (Int32.ofNat len)), .val .null, .val (.ref s.heap.size)] [.int 0, .ref a])) := g11
  obtain ⟨T13, X13, p13, bl13, sl13, st13⟩ := X11.finit hexec hown (wk W (.fieldLink "java/lang/String" 15 "java/lang/String" "coder" "B")) (Or.inr ⟨_, (wk W (.laysFinal "java/lang/String" "java/lang/String" "coder" "B"))⟩) (Or.inl ⟨rfl, hnm⟩) f2 (Or.inl rfl) hB11 (t := .byte) (by decide +kernel) rfl (g := (mkF m 48 #[.val (.ref a), .val (.ref b), .val (.int (Int32.ofNat o)), .val (.int (Int32.ofNat len)), .val .null, .val (.ref s.heap.size)] [.int 0, .ref a])) rfl (rest := []) rfl (hb hbytes d48)
  have c14 : Steps p.tables e below (s₁.setTop (entryFrame m #[.ref a, .ref b, .int (Int32.ofNat o), .int (Int32.ofNat len), .null] 6)) (T13.setTop (mkF m 54 #[.val (.ref a), .val (.ref b), .val (.int (Int32.ofNat o)), .val (.int (Int32.ofNat len)), .val .null, .val (.ref s.heap.size)] [.ref s.heap.size, .ref a])) := (c12.trans (st13 _ (Steps.refl _))).trans (by
    refine XS.aloadN X13.here hexec rfl (hb hbytes d51) rfl rfl ?_
    refine XS.aload X13.here hexec rfl (hb hbytes d52) rfl rfl ?_
    exact Steps.refl _)
  obtain ⟨T15, X15, p15, bl15, sl15, st15⟩ := X13.finit hexec hown (wk W (.fieldLink "java/lang/String" 9 "java/lang/String" "value" "[B")) (Or.inr ⟨_, (wk W (.laysFinal "java/lang/String" "java/lang/String" "value" "[B"))⟩) (Or.inl ⟨rfl, hnm⟩) f1 (Or.inl rfl) bl13 (t := (.array .byte)) (by decide +kernel) rfl (g := (mkF m 54 #[.val (.ref a), .val (.ref b), .val (.int (Int32.ofNat o)), .val (.int (Int32.ofNat len)), .val .null, .val (.ref s.heap.size)] [.ref s.heap.size, .ref a])) rfl (rest := []) rfl (hb hbytes d54)
  have c16 : Steps p.tables e below (s₁.setTop (entryFrame m #[.ref a, .ref b, .int (Int32.ofNat o), .int (Int32.ofNat len), .null] 6)) (T15.setTop (mkF m 57 #[.val (.ref a), .val (.ref b), .val (.int (Int32.ofNat o)), .val (.int (Int32.ofNat len)), .val .null, .val (.ref s.heap.size)] [])) := c14.trans (st15 _ (Steps.refl _))
  have ap := apart (Or.inr ⟨_, (wk W (.laysFinal "java/lang/String" "java/lang/String" "value" "[B"))⟩) (Or.inr ⟨_, (wk W (.laysFinal "java/lang/String" "java/lang/String" "coder" "B"))⟩) f1 f2 (t₁ := .array .byte) (t₂ := .byte) (by decide +kernel) (by decide +kernel) (by decide)
  have al := X8.warmed.alike.symm.trans X15.warmed.alike
  have n7 : T11.heap[s.heap.size]? = some N := by rw [q11]; exact n1.1
  exact ⟨T15, none, _, _, _, X15, by simp, rfl, by omega, (fun _ => rfl), ⟨rfl, _, N, bl15, ((Same.refl D _).set _ (by simp)).set _ (by simp), sl15, (Cell.slots_setSlot_ne _ ap).trans sl13, n1.keep al (p15.other hne (p13.other hne n7)), n2, by rw [al.findClass]; exact n3, n4, n5, fun y c h1 h2 => p15.other h1 (p13.other h1 (by rw [q11]; exact n6 y c h2)), by rw [p15.2.2, p13.2.2, q11]; exact z8⟩, fun fs hl => c16.trans (X15.returnOut hexec hret (hb hbytes d57) hl)⟩
end New4
namespace New1
def yN : MethodName := ⟨"java/lang/String", "<init>", "([C)V"⟩
abbrev yB : ByteArray := jdk_42_method_3_code
theorem d0 : decode yB 0 = .ok (.aload_n 0, 1) := by decide +kernel
theorem d1 : decode yB 1 = .ok (.aload_n 1, 1) := by decide +kernel
theorem d2 : decode yB 2 = .ok (.iconst 0, 1) := by decide +kernel
theorem d3 : decode yB 3 = .ok (.aload_n 1, 1) := by decide +kernel
theorem d4 : decode yB 4 = .ok (.arraylength, 1) := by decide +kernel
theorem d5 : decode yB 5 = .ok (.aconst_null, 1) := by decide +kernel
theorem d6 : decode yB 6 = .ok (.invokespecial 27, 3) := by decide +kernel
theorem d9 : decode yB 9 = .ok (.return_, 1) := by decide +kernel
def site : List Cond := [New4.tab] ++ initW "java/lang/String" 27 New4.yN
def tab : Cond := tabOf yN yB 2 none site
def P (a : Addr) (D : Cell) (fV fC : Field) (b : Addr) (A : Cell) (z : Int32) (args : Array Value) (s : State) : Prop := args = #[.ref a, .ref b] ∧ Blank "java/lang/String" a D s ∧ Found "java/lang/String" "value" "[B" fV s ∧ Found "java/lang/String" "coder" "B" fC s ∧ Ch b A s ∧ StaticIs s "java/lang/String" "COMPACT_STRINGS" "Z" (.int z) ∧ ¬ z = 0 ∧ 0 < A.slots.size ∧ A.slots.size ≤ 536870912 ∧ ∀ i, i < A.slots.size → ¬ 255 < cv A i
def E (a : Addr) (D : Cell) (fV fC : Field) (A : Cell) (r : Option Value) (s u : State) : Prop := Got a D fV fC A 0 A.slots.size r s u
/-- new String(chars), not empty, no char above 255: a Latin-1 String of their low bytes -/
theorem law (l : Launch) (a : Addr) (D : Cell) (fV fC : Field) (b : Addr) (A : Cell) (z : Int32) : Law l yN 2 1 3 52 yB 2 none site (P a D fV fC b A z) (E a D fV fC A) [⟨a, fC.slot⟩, ⟨a, fV.slot⟩] 1 A.slots.size := by
  refine Law.of_walk (plainFor_of_name (by decide +kernel)) (by decide +kernel) (by decide +kernel) (by decide) (fun _ _ h => by rw [h.1]; rfl) (fun _ U U' hal hh h => ⟨h.1, h.2.1.mv hal hh, h.2.2.1.al hal, h.2.2.2.1.al hal, h.2.2.2.2.1.mv hal hh, h.2.2.2.2.2.1.there hal hh, h.2.2.2.2.2.2⟩) (fun r U U' V V' h1 hal h2 h => Got.mv r U U' V V' h1 hal h2 h) ?_
  intro p e s m args below meth c s₁ X0 hexec hbytes hml hret hlk hnm hown hh0 W hP
  obtain ⟨rfl, hB, f1, f2, hA, s1, hz, l0, l2, hp⟩ := hP
  have c1 : Steps p.tables e below (s₁.setTop (entryFrame m #[.ref a, .ref b] 2)) (s₁.setTop (mkF m 0 #[.val (.ref a), .val (.ref b)] [])) := entry rfl
  have c2 : Steps p.tables e below (s₁.setTop (entryFrame m #[.ref a, .ref b] 2)) (s₁.setTop (mkF m 6 #[.val (.ref a), .val (.ref b)] [.null, .int (Int32.ofNat A.slots.size), .int 0, .ref b, .ref a])) := c1.trans (by
    refine XS.aloadN X0.here hexec rfl (hb hbytes d0) rfl rfl ?_
    refine XS.aloadN X0.here hexec rfl (hb hbytes d1) rfl rfl ?_
    refine iconstV X0.here hexec rfl 0 (hb hbytes d2) (by decide) ?_
    refine XS.aloadN X0.here hexec rfl (hb hbytes d3) rfl rfl ?_
    refine X0.alen hexec (hA.1.mv X0.warmed.alike hh0) rfl rfl (hb hbytes d4) ?_
    refine XS.aconstNull X0.here hexec rfl (hb hbytes d5) ?_
    exact Steps.refl _)
  obtain ⟨v3, T3, X3, E3, g3⟩ := X0.callN hexec (New4.law l a D fV fC b A z 0 A.slots.size) rfl hown (wks W (initW "java/lang/String" 27 New4.yN)) (W New4.tab (by simp only [site, List.mem_cons, List.mem_append, true_or, or_true])) (W := 0) (Nat.le_of_ble_eq_true rfl) (Nat.le_of_ble_eq_true rfl) (Nat.le_refl _) (by show 0 + A.slots.size ≤ A.slots.size; omega) (g := (mkF m 6 #[.val (.ref a), .val (.ref b)] [.null, .int (Int32.ofNat A.slots.size), .int (Int32.ofNat 0), .ref b, .ref a])) rfl (by rw [hml]; rfl) c2 (argsL := [.ref b, .int (Int32.ofNat 0), .int (Int32.ofNat A.slots.size), .null]) (rest := []) rfl rfl (by show 2 * 0 + 0 ≤ _; decide) (hb hbytes d6) (⟨rfl, hB.mv X0.warmed.alike hh0, f1.al X0.warmed.alike, f2.al X0.warmed.alike, hA.mv X0.warmed.alike hh0, s1.there X0.warmed.alike hh0, hz, l0, by omega, l2, fun i hi => by rw [Nat.zero_add]; exact hp i hi⟩)
  have e0 := Got.mv _ s₁ s _ _ hh0.symm (Vm.Alike.refl _) rfl E3
  obtain rfl := e0.1
  have c4 : Steps p.tables e below (s₁.setTop (entryFrame m #[.ref a, .ref b] 2)) (T3.setTop (mkF m 9 #[.val (.ref a), .val (.ref b)] [])) := g3
  exact ⟨T3, none, _, _, _, X3, by simp, rfl, by omega, (fun _ => rfl), e0, fun fs hl => c4.trans (X3.returnOut hexec hret (hb hbytes d9) hl)⟩
theorem pays {l : Launch} {R : Room} {p : Program} {e : Env} {below : List Frame} {s : State} {sargs : Array Value} {len W : Nat} (a : Addr) (D : Cell) (fV fC : Field) (b : Addr) (A : Cell) (z : Int32) (htab : tab.before sargs s = true) (hfr : 4 ≤ R.frames) (hlo : W + 65 ≤ R.locals) :
    Back l R p e below s sargs yN len W (fun A₁ a₁ => A₁.cells + 1 ≤ R.cells ∧ A₁.slots + A.slots.size ≤ R.slots ∧ P a D fV fC b A z a₁ A₁.U) (fun A₁ _ v₁ B₁ => E a D fV fC A v₁ A₁.U B₁.U ∧ B₁.locs = A₁.locs ++ [⟨a, fC.slot⟩, ⟨a, fV.slot⟩] ∧ B₁.cells = A₁.cells + 1 ∧ B₁.slots = A₁.slots + A.slots.size) :=
  (law l a D fV fC b A z).pays htab hfr (by omega)
end New1
/-- the byte, read back as charAt reads it, is the char -/
theorem lo8_mask {x : Int32} (h0 : ¬ x < 0) (h1 : ¬ 255 < x) : lo8 x &&& 255 = x := by
  have t : ∀ k : Fin 256, lo8 (Int32.ofNat k.val) &&& 255 = Int32.ofNat k.val := by decide +kernel
  rw [Int32.lt_iff_toInt_lt] at h0 h1
  have e0 : (0 : Int32).toInt = 0 := rfl
  have e1 : (255 : Int32).toInt = 255 := rfl
  obtain ⟨k, hk⟩ : ∃ k : Nat, x.toInt = k := ⟨x.toInt.toNat, by omega⟩
  have hx : x = Int32.ofNat k := Int32.toInt_inj.mp (by rw [hk, Int32.toInt_ofNat_small (by omega)])
  rw [hx]
  exact t ⟨k, by omega⟩
end StrChars
namespace StrChars.Road
open Jvm Sem ClassFile Op Lib Jvm.Stand Jvm.Free Jvm.Free.XT
open Jvm.Lib.Cold (StaticIs)
abbrev ST : String := "java/lang/String"
/-- every table word that New1's law asks, flat -/
abbrev words : List Jvm.Cond := [.code New1.yN New1.yB 2 none, .initialized ST, .methodLink ST 27 New4.yN, .instanceMethod New4.yN,
  .code New4.yN New4.yB 6 none, .fieldLink ST 38 ST "COMPACT_STRINGS" "Z", .laysFinal ST ST "value" "[B", .fieldLink ST 9 ST "value" "[B", .laysFinal ST ST "coder" "B", .fieldLink ST 15 ST "coder" "B",
  .methodLink ST 1 Lib.objectInit, .instanceMethod Lib.objectInit, .code Lib.objectInit ⟨#[0xb1]⟩ 1 none, .methodLink ST 177 Cmp3.yN, .static Cmp3.yN, .methodLink ST 47 CodL.yN, .static CodL.yN,
  .code Cmp3.yN Cmp3.yB 6 (some (.array .byte)), .initialized U16, .arrayClass .byte, .methodLink U16 115 Cmp5.yN, .static Cmp5.yN, .code Cmp5.yN Cmp5.yB 7 (some .int), .code CodL.yN CodL.yB 2 (some .byte)]
theorem tab_of {a : Array Value} {s : State} (h : ∀ w ∈ words, w.before a s = true) : New1.tab.before a s = true := by
  have h5 : Cmp5.tab.before a s = true := unparts (wk h (.code Cmp5.yN Cmp5.yB 7 (some .int))) (wks h (.initialized Cmp5.yN.cls :: Cmp5.site))
  have hc : CodL.tab.before a s = true := unparts (wk h (.code CodL.yN CodL.yB 2 (some .byte))) (wks h (.initialized CodL.yN.cls :: CodL.site))
  have q5 : ∀ w ∈ Cmp5.tab :: words, w.before a s = true := fun w hw => (List.mem_cons.mp hw).elim (fun e => e ▸ h5) (h w)
  have h3 : Cmp3.tab.before a s = true := unparts (wk q5 (.code Cmp3.yN Cmp3.yB 6 (some (.array .byte)))) (wks q5 (.initialized Cmp3.yN.cls :: Cmp3.site))
  have q3 : ∀ w ∈ Cmp3.tab :: CodL.tab :: words, w.before a s = true := fun w hw => (List.mem_cons.mp hw).elim (fun e => e ▸ h3) fun hw => (List.mem_cons.mp hw).elim (fun e => e ▸ hc) (h w)
  have h4 : New4.tab.before a s = true := unparts (wk q3 (.code New4.yN New4.yB 6 none)) (wks q3 (.initialized New4.yN.cls :: New4.site))
  have q4 : ∀ w ∈ New4.tab :: words, w.before a s = true := fun w hw => (List.mem_cons.mp hw).elim (fun e => e ▸ h4) (h w)
  exact unparts (wk q4 (.code New1.yN New1.yB 2 none)) (wks q4 (.initialized New1.yN.cls :: New1.site))
/-- the words ride from the start Z to the walk's own state -/
theorem moved {Z s : State} {a0 args : Array Value} (hZ : Z.Warmed39 s.vm) (hw : ∀ d ∈ words, d.before a0 Z = true) : ∀ d ∈ words, d.before args s = true := fun d hd => by
  have q := hw d hd
  have t : ∀ d ∈ words, d = .arrayClass .byte ∨ (d.onTables && d.keepsFace) = true := by decide +kernel
  rcases t d hd with rfl | t
  · exact RoadKit.mvA hZ q
  · exact RoadKit.mv hZ q t
/-- WHAT COMES BACK, over the tables of the start Z: h the heap at the call, h' behind it -/
def Q (Z : State) (x : Addr) (A : Cell) (h : Heap) (v : Option Value) (h' : Heap) (L : List Loc) : Prop := v = none ∧ (∀ y ∈ L, y.base = x) ∧ RoadKit.Keep h h' [x] ∧ h'.size = h.size + 1 ∧ RoadKit.Exa Z h' x ST ∧ RoadKit.Fld Z h' x ST "value" "[B" (.ref h.size) ∧ RoadKit.Fld Z h' x ST "coder" "B" (.int 0) ∧
  (∃ V : Cell, RoadKit.Arr Z h' h.size V .byte ∧ V.vm = .none ∧ Z.vm.findClass "[B" = some V.cls ∧ V.slots.size = A.slots.size ∧ ∀ j, j < A.slots.size → V.slots[j]? = some (.int (lo8 (cv A j)))) ∧
  ∀ (O n d : String) (w : Value), RoadKit.Fld Z h x O n d w → RoadKit.slotOf Z O n d ≠ RoadKit.slotOf Z ST "value" "[B" → RoadKit.slotOf Z O n d ≠ RoadKit.slotOf Z ST "coder" "B" → RoadKit.Fld Z h' x O n d w
/-- **new String(chars) AT A CALL, IN THE ROAD'S FORM**: for specialBack behind newO: x the fresh String, b the char[] with the cell A -/
theorem back {p : Program} {l : Launch} {e : Env} {R : Room} {s : State} {args : Array Value} {below : List Frame} {len W : Nat} {Z : State} {a0 : Array Value} {h : Heap} (hZ : Z.Warmed39 s.vm) (hw : ∀ d ∈ words, d.before a0 Z = true) {kI : Nat} (wi : (Jvm.Cond.instantiable ST kI).before a0 Z = true)
    {x b : Addr} {A : Cell} {z : Int32} {v0 c0 : Value} (E : RoadKit.Exa Z h x ST) (V : RoadKit.Fld Z h x ST "value" "[B" v0) (C : RoadKit.Fld Z h x ST "coder" "B" c0) (K : RoadKit.Arr Z h b A .char) (hty : Typed .char A) (S : RoadKit.Sta Z h ST "COMPACT_STRINGS" "Z" (.int z)) (hz : ¬ z = 0)
    (l0 : 0 < A.slots.size) (l2 : A.slots.size ≤ 536870912) (hp : ∀ i, i < A.slots.size → ¬ 255 < cv A i) (hfr : 4 ≤ R.frames) (hlo : W + 65 ≤ R.locals) :
    Back l R p e below s args New1.yN len W (fun P a => a = #[.ref x, .ref b] ∧ P.U.heap = h ∧ P.cells + 1 ≤ R.cells ∧ P.slots + A.slots.size ≤ R.slots)
      (fun P _ v B => ∃ L, Q Z x A h v B.U.heap L ∧ B.locs = P.locs ++ L ∧ B.cells = P.cells + 1 ∧ B.slots = P.slots + A.slots.size) := by
  intro m meth c P g ig mk a X hg hsize hdg hW hn hp'
  obtain ⟨rfl, rfl, r1, r2⟩ := hp'
  have al : Z.vm.Alike P.U.vm := hZ.alike.trans X.warmed.alike
  obtain ⟨D, cfV, kV, iV, fV, hD, gV, stV, knV, obV, asV, slV⟩ := id V
  obtain ⟨D', cfC, kC, iC, fC, hD', gC, stC, -, -, asC, slC⟩ := id C
  cases hD.symm.trans hD'
  obtain ⟨D2, kD, e1, e2, e3, e4, e5⟩ := id E
  cases hD.symm.trans e1
  obtain ⟨c2, k2, i1, i2, i3, -⟩ := Cond.instantiable_spec wi
  cases e2.symm.trans i1
  cases e3.symm.trans i2
  obtain ⟨kU, u1, u2⟩ := al.2.2 _ _ e3
  have hB : Blank ST x D P.U := ⟨hD, ⟨knV, fun q hq => by rw [hq] at obV; cases obV⟩, by rw [al.findClass]; exact e2, kU, u1, by rw [u2]; exact i3, by rw [u2]; exact e5 i3⟩
  have F1 : Found ST "value" "[B" fV P.U := ⟨SBG.found_only al ⟨cfV, kV, iV, gV⟩, stV⟩
  have F2 : Found ST "coder" "B" fC P.U := ⟨SBG.found_only al ⟨cfC, kC, iC, gC⟩, stC⟩
  have hA : Ch b A P.U := ⟨⟨K.1, State.isArrayOf_alike al K.2.1, K.2.2, by omega⟩, hty⟩
  have hS : StaticIs P.U ST "COMPACT_STRINGS" "Z" (.int z) := by
    obtain ⟨cfS, iS, kS, fS, st, cS, t1, t2, t3, t4, t5, t6, t7⟩ := S
    exact StaticIs.there (s := { Z with heap := P.U.heap }) ⟨cfS, iS, kS, fS, st, cS, t1, t2, t3, t4, t5, (fun q => by rw [q] at t6; cases t6), t7⟩ al rfl
  obtain ⟨v, B, X', ⟨⟨hv, E', V', q1, q2, q3, q4, q5, q6, q7, q8, q9, q10, q11⟩, hl, hc, hs⟩, st⟩ := New1.pays x D fV fC b A z (tab_of (moved hZ hw)) hfr hlo m meth c P g ig mk _ X hg hsize hdg hW hn ⟨r1, r2, rfl, hB, F1, F2, hA, hS, hz, l0, l2, hp⟩
  have al' : Z.vm.Alike B.U.vm := hZ.alike.trans X'.warmed.alike
  have hsz : E'.slots.size = D.slots.size := by
    obtain ⟨-, -, -, kB, w1, w2, w3⟩ := q1
    obtain ⟨kB', y1, y2⟩ := al'.2.2 _ _ e3
    rw [q2.2.1] at w1
    cases w1.symm.trans y1
    rw [w3, e5 i3, y2]
  refine ⟨v, B, X', ⟨_, ⟨hv, ?_, ⟨by omega, fun y cy hy hn' => q10 y cy (by simpa using hn') hy, fun y cy hy => ?_⟩, q11, ⟨E', _, q1.1, by rw [q2.2.1]; exact e2, by rw [q2.2.1]; exact e3, by rw [q2.1]; exact obV, fun _ => by rw [hsz]; exact e5 i3⟩,
    ⟨E', cfV, kV, iV, fV, q1.1, gV, stV, by rw [q2.1]; exact knV, by rw [q2.1]; exact obV, by rw [q2.2.1]; exact asV, q3⟩, ⟨E', cfC, kC, iC, fC, q1.1, gC, stC, by rw [q2.1]; exact knV, by rw [q2.1]; exact obV, by rw [q2.2.1]; exact asC, q4⟩,
    ⟨V', ⟨q5.1, State.isArrayOf_alike al'.symm q5.2.1, q5.2.2.1⟩, q6, by rw [← al'.findClass]; exact q7, q8, fun j hj => by have := q9 j hj; rwa [Nat.zero_add] at this⟩, fun O n d w F n1 n2 => ?_⟩, hl, hc, hs⟩, st⟩
  · intro y hy
    simp only [List.mem_cons, List.not_mem_nil, or_false] at hy
    rcases hy with rfl | rfl <;> rfl
  · by_cases q : y = x
    · subst q
      cases hD.symm.trans hy
      exact ⟨E', q1.1, q2.2.1, q2.1, hsz⟩
    · exact ⟨cy, q10 y cy q hy, rfl, rfl, rfl⟩
  · obtain ⟨D3, cf, k, i, f, g1, g2, g3, g4, g5, g6, g7⟩ := F
    cases hD.symm.trans g1
    simp only [RoadKit.slotOf, g2, gV, gC, Option.map_some, Option.getD_some] at n1 n2
    exact ⟨E', cf, k, i, f, q1.1, g2, g3, by rw [q2.1]; exact g4, by rw [q2.1]; exact g5, by rw [q2.2.1]; exact g6, by rw [q2.2.2 f.slot (by simp [n1, n2])]; exact g7⟩
end StrChars.Road
namespace StrChars.Road
open Jvm Sem ClassFile Op Lib Jvm.Stand Jvm.Free Jvm.Free.XT
/-- WHAT COMES BACK, the byte[] as a list of values -/
def QA (Z : State) (x : Addr) (zn : Int32) (cs : List Int32) (h : Heap) (v : Option Value) (h' : Heap) (L : List Loc) : Prop := v = none ∧ (∀ y ∈ L, y.base = x) ∧ RoadKit.Keep h h' [x] ∧ h'.size = h.size + 1 ∧ RoadKit.Exa Z h' x ST ∧ RoadKit.Fld Z h' x ST "value" "[B" (.ref h.size) ∧ RoadKit.Fld Z h' x ST "coder" "B" (.int 0) ∧
  (∃ kb, Z.vm.findClass "[B" = some kb ∧ RoadKit.Arv Z h' h.size kb .byte zn (cs.map fun c => .int (lo8 c)) (.int 0)) ∧
  ∀ (O n d : String) (w : Value), RoadKit.Fld Z h x O n d w → RoadKit.slotOf Z O n d ≠ RoadKit.slotOf Z ST "value" "[B" → RoadKit.slotOf Z O n d ≠ RoadKit.slotOf Z ST "coder" "B" → RoadKit.Fld Z h' x O n d w
/-- **new String(chars) AT A CALL, THE ARRAYS AS LISTS**: the char[] at b holds cs, not empty, no char above 255 -/
theorem backArv {p : Program} {l : Launch} {e : Env} {R : Room} {s : State} {args : Array Value} {below : List Frame} {len W : Nat} {Z : State} {a0 : Array Value} {h : Heap} (hZ : Z.Warmed39 s.vm) (hw : ∀ d ∈ words, d.before a0 Z = true) {kI : Nat} (wi : (Jvm.Cond.instantiable ST kI).before a0 Z = true)
    {x b : Addr} {k : ClassId} {zn z : Int32} {cs : List Int32} {dv v0 c0 : Value} (E : RoadKit.Exa Z h x ST) (V : RoadKit.Fld Z h x ST "value" "[B" v0) (C : RoadKit.Fld Z h x ST "coder" "B" c0) (K : RoadKit.Arv Z h b k .char zn (cs.map Value.int) dv) (S : RoadKit.Sta Z h ST "COMPACT_STRINGS" "Z" (.int z)) (hz : ¬ z = 0)
    (hlen : zn.toNatClampNeg = cs.length) (h0 : 0 < cs.length) (hbig : cs.length ≤ 536870912) (hall : ∀ c ∈ cs, ¬ 255 < c) (hfr : 4 ≤ R.frames) (hlo : W + 65 ≤ R.locals) :
    Back l R p e below s args New1.yN len W (fun P a => a = #[.ref x, .ref b] ∧ P.U.heap = h ∧ P.cells + 1 ≤ R.cells ∧ P.slots + cs.length ≤ R.slots)
      (fun P _ v B => ∃ L, QA Z x zn cs h v B.U.heap L ∧ B.locs = P.locs ++ L ∧ B.cells = P.cells + 1 ∧ B.slots = P.slots + cs.length) := by
  obtain ⟨A, K1, K2, K3, K4, K5, K6⟩ := K
  have e : A.slots.size = cs.length := K3.trans hlen
  have hat : ∀ (i : Nat) (hi : i < cs.length), A.slots[i]? = some (.int cs[i]) := fun i hi => by rw [K5 i (by omega)]; simp [List.getD_eq_getElem?_getD, hi]
  have hcv : ∀ (i : Nat) (hi : i < cs.length), cv A i = cs[i] := fun i hi => by unfold cv; rw [hat i hi]
  have hty : Typed .char A := fun i v hv => by
    have hi : i < A.slots.size := (Array.getElem?_eq_some_iff.mp hv).1
    have q := K5 i hi
    rw [hv] at q
    rw [Option.some.inj q]
    exact K6 i hi
  refine Back.mono (back hZ hw wi E V C K1 hty S hz (by omega) (by omega) (fun i hi => by rw [hcv i (by omega)]; exact hall _ (List.getElem_mem _)) hfr hlo) (fun P a hp => ⟨hp.1, hp.2.1, hp.2.2.1, by rw [e]; exact hp.2.2.2⟩) (fun P a v B hp hq => ?_)
  obtain ⟨L, ⟨q1, q2, q3, q4, q5, q6, q7, ⟨V', v1, v2, v3, v4, v5⟩, q9⟩, hl, hc, hs⟩ := hq
  refine ⟨L, ⟨q1, q2, q3, q4, q5, q6, q7, ⟨V'.cls, v3, V', v1, rfl, by rw [v4, e, hlen], K4, fun i hi => ?_, fun i hi => ?_⟩, q9⟩, hl, hc, by rw [hs, e]⟩
  · have hi' : i < cs.length := by omega
    rw [v5 i (by omega), hcv i hi']; simp [List.getD_eq_getElem?_getD, hi']
  · have hi' : i < cs.length := by omega
    simp only [List.getD_eq_getElem?_getD, List.getElem?_map, List.getElem?_eq_getElem hi', Option.map_some, Option.getD_some]
    exact fits_lo8 _
end StrChars.Road
namespace StrChars.Road
open Jvm Sem ClassFile Op Lib Jvm.Stand Jvm.Free Jvm.Free.XT
/-- WHAT COMES BACK, in the writer's own shape -/
def QV (Z : State) (x : Addr) (N : Int32) (bs : List Int32) (h : Heap) (n0 : Nat) (v : Option Value) (h' : Heap) (L : List Loc) : Prop := v = none ∧ RoadKit.Fr n0 L ∧ RoadKit.Keep h h' [x] ∧ RoadKit.Exa Z h' x ST ∧ RoadKit.Fld Z h' x ST "coder" "B" (.int 0) ∧
  ∃ (t : Addr) (kb : ClassId), n0 ≤ t ∧ h.size ≤ t ∧ ¬ t = x ∧ RoadKit.Fld Z h' x ST "value" "[B" (.ref t) ∧ RoadKit.Arv Z h' t kb .byte N (bs.map Value.int) (.int 0)
/-- **new String(chars) AT A CALL, FOR THE WRITER**: a char[] of n known ints, each 0 to 255 -/
theorem backV {p : Program} {l : Launch} {e : Env} {R : Room} {s : State} {args : Array Value} {below : List Frame} {len W : Nat} {Z : State} {a0 : Array Value} {h : Heap} (hZ : Z.Warmed39 s.vm) (hw : ∀ d ∈ words, d.before a0 Z = true) {kI : Nat} (wi : (Jvm.Cond.instantiable ST kI).before a0 Z = true)
    {x b : Addr} {kC : ClassId} {cs bs : List Int32} {d v0 c0 : Value} {z N : Int32} {n n0 : Nat} (hx0 : n0 ≤ x) (hh0 : n0 ≤ h.size) (E : RoadKit.Exa Z h x ST) (V : RoadKit.Fld Z h x ST "value" "[B" v0) (C : RoadKit.Fld Z h x ST "coder" "B" c0) (K : RoadKit.Arv Z h b kC .char N (cs.map Value.int) d) (S : RoadKit.Sta Z h ST "COMPACT_STRINGS" "Z" (.int z)) (hz : ¬ z = 0)
    (hn : cs.length = n) (hN : N = Int32.ofNat n) (l0 : 0 < n) (l2 : n ≤ 4000) (hp : ∀ c ∈ cs, ¬ c < 0 ∧ ¬ (255 : Int32) < c) (hb : bs = cs.map (fun c => c.toInt8.toInt32)) (hfr : 4 ≤ R.frames) (hlo : W + 65 ≤ R.locals) :
    Back l R p e below s args (⟨"java/lang/String", "<init>", "([C)V"⟩ : MethodName) len W (fun P a => a = #[.ref x, .ref b] ∧ P.U.heap = h ∧ P.cells + 1 ≤ R.cells ∧ P.slots + n ≤ R.slots)
      (fun P _ v B => ∃ L, QV Z x N bs h n0 v B.U.heap L ∧ B.locs = P.locs ++ L ∧ B.cells = P.cells + 1 ∧ B.slots = P.slots + n) := by
  subst hn hN hb
  refine Back.mono (backArv hZ hw wi E V C K S hz (n32 (by omega)) l0 (by omega) (fun c hc => (hp c hc).2) hfr hlo) (fun P a hp => hp) (fun P a v B hp hq => ?_)
  obtain ⟨L, ⟨q1, q2, q3, q4, q5, q6, q7, ⟨kb, v1, v2⟩, q9⟩, hl, hc, hs⟩ := hq
  exact ⟨L, ⟨q1, fun y hy => by rw [q2 y hy]; exact hx0, q3, q5, q7, h.size, kb, hh0, Nat.le_refl _, Nat.ne_of_gt E.lt, q6, by rw [List.map_map]; exact v2⟩, hl, hc, hs⟩
end StrChars.Road
namespace StrChars
open Jvm Sem ClassFile Op Lib Jvm.Stand Jvm.Free.XT Jvm.Free.ALB Jvm.Free.JM Jvm.Free
open Jvm.Lib.Cold (StaticIs)
def hi8 (x : Int32) : Int32 := lo8 (x >>> ((8 : Int32) &&& 31))
/-- what StringUTF16.getChar makes of two bytes -/
def pairCh (u v : Int32) : Int32 := (((u &&& 255) <<< ((0 : Int32) &&& 31)) ||| ((v &&& 255) <<< ((8 : Int32) &&& 31))).toUInt32.toUInt16.toUInt32.toInt32
theorem lo8_and (x : Int32) : (lo8 x &&& 255).toBitVec.toNat = x.toBitVec.toNat % 256 := by
  have h : (lo8 x).toBitVec = (x.toBitVec.signExtend 8).signExtend 32 := by rw [lo8, Int8.toBitVec_toInt32, Int32.toBitVec_toInt8]
  rw [Int32.toBitVec_and, BitVec.toNat_and, h]
  have e : ((x.toBitVec.signExtend 8).signExtend 32).toNat % 256 = x.toBitVec.toNat % 256 := by
    rw [BitVec.toNat_signExtend]
    have hlt := x.toBitVec.isLt
    simp only [BitVec.toNat_setWidth, BitVec.toNat_signExtend]
    split <;> split <;> omega
  rw [← e]
  exact Nat.and_two_pow_sub_one_eq_mod _ 8
theorem pair_says {c : Int32} (h0 : ¬ c < 0) (h1 : ¬ 65535 < c) : pairCh (lo8 c) (hi8 c) = c := by
  rw [Int32.lt_iff_toInt_lt] at h0 h1
  have e0 : (0 : Int32).toInt = 0 := rfl
  have e1 : (65535 : Int32).toInt = 65535 := rfl
  have hc : c.toInt = c.toBitVec.toNat := by
    have := c.toBitVec.isLt
    have e : c.toInt = c.toBitVec.toInt := rfl
    rw [e] at h0 h1
    rw [e]
    rw [BitVec.toInt_eq_toNat_cond] at h0 h1 ⊢
    split at h0 <;> split <;> omega
  have hn : c.toBitVec.toNat < 65536 := by omega
  have a1 := lo8_and c
  have a2 : (hi8 c &&& 255).toBitVec.toNat = c.toBitVec.toNat / 256 := by
    rw [hi8, lo8_and]
    have e : ((8 : Int32) &&& 31) = 8 := by decide
    rw [e, Int32.toBitVec_shiftRight]
    have e2 : ((8 : Int32).toBitVec.smod 32) = 8#32 := by decide
    rw [e2, BitVec.sshiftRight_eq', BitVec.toNat_sshiftRight_of_msb_false (by rw [BitVec.msb_eq_false_iff_two_mul_lt]; omega)]
    show c.toBitVec.toNat >>> 8 % 256 = _
    rw [Nat.shiftRight_eq_div_pow]
    omega
  unfold pairCh
  apply Int32.toBitVec_inj.mp
  apply BitVec.eq_of_toNat_eq
  have f0 : ((0 : Int32) &&& 31) = 0 := by decide
  have f8 : ((8 : Int32) &&& 31) = 8 := by decide
  rw [f0, f8]
  have g : (((lo8 c &&& 255) <<< (0 : Int32)) ||| ((hi8 c &&& 255) <<< (8 : Int32))).toBitVec.toNat = c.toBitVec.toNat := by
    rw [Int32.toBitVec_or, Int32.toBitVec_shiftLeft, Int32.toBitVec_shiftLeft]
    have s0 : ((0 : Int32).toBitVec.smod 32) = 0#32 := by decide
    have s8 : ((8 : Int32).toBitVec.smod 32) = 8#32 := by decide
    rw [s0, s8, BitVec.toNat_or]
    simp only [BitVec.shiftLeft_eq', BitVec.toNat_shiftLeft, a1, a2]
    show (c.toBitVec.toNat % 256) <<< 0 % 2 ^ 32 ||| (c.toBitVec.toNat / 256) <<< 8 % 2 ^ 32 = _
    rw [Nat.shiftLeft_zero, Nat.mod_eq_of_lt (show c.toBitVec.toNat % 256 < 2 ^ 32 by omega), Nat.mod_eq_of_lt (show (c.toBitVec.toNat / 256) <<< 8 < 2 ^ 32 by rw [Nat.shiftLeft_eq]; omega), Nat.or_comm, ← Nat.shiftLeft_add_eq_or_of_lt (by omega), Nat.shiftLeft_eq]
    omega
  show BitVec.toNat (((((lo8 c &&& 255) <<< (0 : Int32)) ||| ((hi8 c &&& 255) <<< (8 : Int32))).toBitVec.setWidth 16).setWidth 32) = _
  rw [BitVec.toNat_setWidth, BitVec.toNat_setWidth, g]
  omega
end StrChars
namespace StrChars
open Jvm Sem ClassFile Op Lib Jvm.Stand Jvm.Free.XT Jvm.Free.ALB Jvm.Free.JM Jvm.Free
open Jvm.Lib.Cold (StaticIs)
/-- the array's cell V codes the n chars f 0 .. f (n - 1) by the coder cd, as the JDK does: coder 1 just where some char is above 255 -/
def Cod (cd : Int32) (n : Nat) (f : Nat → Int32) (V : Cell) : Prop := (cd = 0 ∧ V.slots.size = n ∧ ∀ j, j < n → V.slots[j]? = some (.int (lo8 (f j))) ∧ ¬ 255 < f j) ∨ (cd = 1 ∧ V.slots.size = 2 * n ∧ (∀ j, j < n → V.slots[2 * j]? = some (.int (lo8 (f j))) ∧ V.slots[2 * j + 1]? = some (.int (hi8 (f j)))) ∧ ∃ j, j < n ∧ 255 < f j)
/-- **x is a String of the n chars f 0 .. f (n - 1)**, Latin-1 or UTF-16; its array at t has the cell V -/
def Txt (x t : Addr) (V : Cell) (cd : Int32) (n : Nat) (f : Nat → Int32) (U : State) : Prop := Exact "java/lang/String" x U ∧ Has x "java/lang/String" "value" "[B" (.ref t) U ∧ Has x "java/lang/String" "coder" "B" (.int cd) U ∧ XT.Arr .byte t V U ∧ Cod cd n f V ∧ ∀ j, j < n → ¬ f j < 0 ∧ ¬ 65535 < f j
theorem Txt.mv {x t : Addr} {V : Cell} {cd : Int32} {n : Nat} {f : Nat → Int32} {U U' : State} (h : Txt x t V cd n f U) (hal : U.vm.Alike U'.vm) (hh : U'.heap = U.heap) : Txt x t V cd n f U' := ⟨h.1.mv hal hh, h.2.1.mv hal hh, h.2.2.1.mv hal hh, h.2.2.2.1.mv hal hh, h.2.2.2.2⟩
end StrChars
namespace StrChars.Road
open Jvm Sem ClassFile Op Lib Jvm.Stand Jvm.Free Jvm.Free.XT
open Jvm.Lib.Cold (StaticIs)
theorem consq {a : Array Value} {s : State} {c : Jvm.Cond} {L : List Jvm.Cond} (h0 : c.before a s = true) (h : ∀ w ∈ L, w.before a s = true) : ∀ w ∈ c :: L, w.before a s = true := fun w hw => (List.mem_cons.mp hw).elim (fun e => e ▸ h0) (h w)
/-- the bytes of the chars cs, low before high -/
def wideBytes : List Int32 → List Value
  | [] => []
  | c :: cs => .int (lo8 c) :: .int (hi8 c) :: wideBytes cs
theorem wide_lo (d : Value) : ∀ (cs : List Int32) (j : Nat), j < cs.length → (wideBytes cs).getD (2 * j) d = .int (lo8 (cs.getD j 0))
  | [], j, h => absurd h (Nat.not_lt_zero j)
  | c :: cs, 0, _ => rfl
  | c :: cs, j + 1, h => by
    have q := wide_lo d cs j (by simpa using h)
    rw [show 2 * (j + 1) = 2 * j + 1 + 1 from by omega]
    simpa [wideBytes] using q
theorem wide_hi (d : Value) : ∀ (cs : List Int32) (j : Nat), j < cs.length → (wideBytes cs).getD (2 * j + 1) d = .int (hi8 (cs.getD j 0))
  | [], j, h => absurd h (Nat.not_lt_zero j)
  | c :: cs, 0, _ => rfl
  | c :: cs, j + 1, h => by
    have q := wide_hi d cs j (by simpa using h)
    rw [show 2 * (j + 1) + 1 = 2 * j + 1 + 1 + 1 from by omega]
    simpa [wideBytes] using q
theorem low_at (d : Value) (cs : List Int32) (j : Nat) (h : j < cs.length) : (cs.map fun c => Value.int (lo8 c)).getD j d = .int (lo8 (cs.getD j 0)) := by
  simp [List.getD_eq_getElem?_getD, h]
/-- an array of N2 bytes vs codes the chars cs by the coder cd -/
def CodA (cs : List Int32) (cd N2 : Int32) (vs : List Value) : Prop := (cd = 0 ∧ N2 = Int32.ofNat cs.length ∧ vs = (cs.map fun c => Value.int (lo8 c)) ∧ ∀ c ∈ cs, ¬ 255 < c) ∨ (cd = 1 ∧ N2 = Int32.ofNat (2 * cs.length) ∧ vs = wideBytes cs ∧ ∃ c ∈ cs, 255 < c)
theorem CodA.cod {cs : List Int32} {cd N2 : Int32} {vs : List Value} {V : Cell} (h : CodA cs cd N2 vs) (hn : 2 * cs.length < 2 ^ 31) (hs : V.slots.size = N2.toNatClampNeg) (hv : RoadKit.Has V vs (.int 0)) : Cod cd cs.length (fun j => cs.getD j 0) V := by
  rcases h with ⟨rfl, rfl, rfl, h⟩ | ⟨rfl, rfl, rfl, c, hc, hw⟩
  · rw [n32 (by omega)] at hs
    exact Or.inl ⟨rfl, hs, fun j hj => ⟨by rw [hv j (by omega), low_at _ _ _ hj], by
      have e : cs.getD j 0 = cs[j] := by simp [List.getD_eq_getElem?_getD, hj]
      show ¬ 255 < cs.getD j 0
      rw [e]; exact h _ (List.getElem_mem _)⟩⟩
  · rw [n32 (by omega)] at hs
    obtain ⟨j, hj, rfl⟩ := List.getElem_of_mem hc
    exact Or.inr ⟨rfl, hs, fun j hj => ⟨by rw [hv _ (by omega), wide_lo _ _ _ hj], by rw [hv _ (by omega), wide_hi _ _ _ hj]⟩, j, hj, by
      have e : cs.getD j 0 = cs[j] := by simp [List.getD_eq_getElem?_getD, hj]
      show 255 < cs.getD j 0
      rw [e]; exact hw⟩
/-- an object of exactly java/lang/String, its two fields found: as the laws ask it -/
theorem strObj {Z U : State} {a0 : Array Value} {kI : Nat} (wi : (Jvm.Cond.instantiable ST kI).before a0 Z = true) (al : Z.vm.Alike U.vm) {x : Addr} {v0 c0 : Value} (E : RoadKit.Exa Z U.heap x ST) (V : RoadKit.Fld Z U.heap x ST "value" "[B" v0) (C : RoadKit.Fld Z U.heap x ST "coder" "B" c0) :
    ∃ (D : Cell) (fV fC : Field), Blank ST x D U ∧ Found ST "value" "[B" fV U ∧ Found ST "coder" "B" fC U ∧ D.slots[fV.slot]? = some v0 ∧ D.slots[fC.slot]? = some c0 ∧ RoadKit.slotOf Z ST "value" "[B" = fV.slot ∧ RoadKit.slotOf Z ST "coder" "B" = fC.slot := by
  obtain ⟨D, cfV, kV, iV, fV, hD, gV, stV, knV, obV, asV, slV⟩ := V
  obtain ⟨D', cfC, kC, iC, fC, hD', gC, stC, -, -, asC, slC⟩ := C
  cases hD.symm.trans hD'
  obtain ⟨D2, kD, e1, e2, e3, e4, e5⟩ := E
  cases hD.symm.trans e1
  obtain ⟨c2, k2, i1, i2, i3, -⟩ := Cond.instantiable_spec wi
  cases e2.symm.trans i1
  cases e3.symm.trans i2
  obtain ⟨kU, u1, u2⟩ := al.2.2 _ _ e3
  exact ⟨D, fV, fC, ⟨hD, ⟨knV, fun q hq => by rw [hq] at obV; cases obV⟩, by rw [al.findClass]; exact e2, kU, u1, by rw [u2]; exact i3, by rw [u2]; exact e5 i3⟩, ⟨SBG.found_only al ⟨cfV, kV, iV, gV⟩, stV⟩, ⟨SBG.found_only al ⟨cfC, kC, iC, gC⟩, stC⟩, slV, slC, by simp [RoadKit.slotOf, gV], by simp [RoadKit.slotOf, gC]⟩
theorem sta_is {Z U : State} (al : Z.vm.Alike U.vm) {C n d : String} {v : Value} (S : RoadKit.Sta Z U.heap C n d v) : StaticIs U C n d v := by
  obtain ⟨cfS, iS, kS, fS, st, cS, t1, t2, t3, t4, t5, t6, t7⟩ := S
  exact StaticIs.there (s := { Z with heap := U.heap }) ⟨cfS, iS, kS, fS, st, cS, t1, t2, t3, t4, t5, (fun q => by rw [q] at t6; cases t6), t7⟩ al rfl
end StrChars.Road
namespace StrChars
open Jvm Sem ClassFile Op Lib Jvm.Stand Jvm.Free.XT Jvm.Free.ALB Jvm.Free.JM Jvm.Free
open Jvm.Lib.Cold (StaticIs)
/-- what place i of a byte[]'s cell holds -/
def yv (A : Cell) (i : Nat) : Int32 := match A.slots[i]? with | some (.int x) => x | _ => 0
theorem yv_get {a : Addr} {A : Cell} {U : State} (h : XT.Arr .byte a A U) (ht : Typed .byte A) {i : Nat} (hi : i < A.slots.size) : A.slots[i]? = some (.int (yv A i)) := by
  have e := Array.getElem?_eq_getElem hi
  have f := ht i _ e
  unfold yv; rw [e]
  generalize A.slots[i] = v at f
  cases v <;> simp [fits] at f ⊢
/-- the two arrays are equal, place for place -/
def EqC (A B : Cell) : Prop := A.slots.size = B.slots.size ∧ ∀ i, i < A.slots.size → yv A i = yv B i
/-- a boolean that says whether p -/
def Says01 (q : Prop) (r : Option Value) (s u : State) : Prop := ∃ v : Int32, r = some (.int v) ∧ u.heap = s.heap ∧ ((v = 1 ∧ q) ∨ (v = 0 ∧ ¬ q))
theorem Says01.mv {q : Prop} : ∀ r (U U' V V' : State), U'.heap = U.heap → V.vm.Alike V'.vm → V'.heap = V.heap → Says01 q r U V → Says01 q r U' V' :=
  fun r U U' V V' h1 _ h2 ⟨v, a, b, c⟩ => ⟨v, a, by rw [h1, h2]; exact b, c⟩
namespace LEq
def yN : MethodName := ⟨"java/lang/StringLatin1", "equals", "([B[B)Z"⟩
abbrev yB : ByteArray := jdk_43_method_13_code
theorem d0 : decode yB 0 = .ok (.aload_n 0, 1) := by decide +kernel
theorem d1 : decode yB 1 = .ok (.arraylength, 1) := by decide +kernel
theorem d2 : decode yB 2 = .ok (.aload_n 1, 1) := by decide +kernel
theorem d3 : decode yB 3 = .ok (.arraylength, 1) := by decide +kernel
theorem d4 : decode yB 4 = .ok (.if_icmp (.ne) 30, 3) := by decide +kernel
theorem d7 : decode yB 7 = .ok (.iconst 0, 1) := by decide +kernel
theorem d8 : decode yB 8 = .ok (.istore_n 2, 1) := by decide +kernel
theorem d9 : decode yB 9 = .ok (.iload_n 2, 1) := by decide +kernel
theorem d10 : decode yB 10 = .ok (.aload_n 0, 1) := by decide +kernel
theorem d11 : decode yB 11 = .ok (.arraylength, 1) := by decide +kernel
theorem d12 : decode yB 12 = .ok (.if_icmp (.ge) 20, 3) := by decide +kernel
theorem d15 : decode yB 15 = .ok (.aload_n 0, 1) := by decide +kernel
theorem d16 : decode yB 16 = .ok (.iload_n 2, 1) := by decide +kernel
theorem d17 : decode yB 17 = .ok (.baload, 1) := by decide +kernel
theorem d18 : decode yB 18 = .ok (.aload_n 1, 1) := by decide +kernel
theorem d19 : decode yB 19 = .ok (.iload_n 2, 1) := by decide +kernel
theorem d20 : decode yB 20 = .ok (.baload, 1) := by decide +kernel
theorem d21 : decode yB 21 = .ok (.if_icmp (.eq) 5, 3) := by decide +kernel
theorem d24 : decode yB 24 = .ok (.iconst 0, 1) := by decide +kernel
theorem d25 : decode yB 25 = .ok (.ireturn, 1) := by decide +kernel
theorem d26 : decode yB 26 = .ok (.iinc 2 1, 3) := by decide +kernel
theorem d29 : decode yB 29 = .ok (.goto (-20), 3) := by decide +kernel
theorem d32 : decode yB 32 = .ok (.iconst 1, 1) := by decide +kernel
theorem d33 : decode yB 33 = .ok (.ireturn, 1) := by decide +kernel
theorem d34 : decode yB 34 = .ok (.iconst 0, 1) := by decide +kernel
theorem d35 : decode yB 35 = .ok (.ireturn, 1) := by decide +kernel
def site : List Cond := []
def tab : Cond := tabOf yN yB 3 (some .boolean) site
def P (a : Addr) (A : Cell) (b : Addr) (B : Cell) (args : Array Value) (s : State) : Prop := args = #[.ref a, .ref b] ∧ XT.Arr .byte a A s ∧ Typed .byte A ∧ XT.Arr .byte b B s ∧ Typed .byte B
/-- whether two byte[] are equal, place for place -/
theorem law (l : Launch) (a : Addr) (A : Cell) (b : Addr) (B : Cell) : Law l yN 2 2 0 0 yB 3 (some .boolean) site (P a A b B) (Says01 (EqC A B)) [] 0 0 := by
  refine Law.of_walk (plainFor_of_name (by decide +kernel)) (by decide +kernel) (by decide +kernel) (by decide) (fun _ _ h => by rw [h.1]; rfl) (fun _ U U' hal hh h => ⟨h.1, h.2.1.mv hal hh, h.2.2.1, h.2.2.2.1.mv hal hh, h.2.2.2.2⟩) (fun r U U' V V' h1 hal h2 h => Says01.mv r U U' V V' h1 hal h2 h) ?_
  intro p e s m args below meth c s₁ X0 hexec hbytes hml hret hlk hnm hown hh0 W hP
  obtain ⟨rfl, hA, tA, hB, tB⟩ := hP
  have a31 := hA.2.2.2
  have b31 := hB.2.2.2
  have hA0 := hA.mv X0.warmed.alike hh0
  have hB0 := hB.mv X0.warmed.alike hh0
  have c1 : Steps p.tables e below (s₁.setTop (entryFrame m #[.ref a, .ref b] 3)) (s₁.setTop (mkF m 0 #[.val (.ref a), .val (.ref b), .unset] [])) := entry rfl
  have c2 : Steps p.tables e below (s₁.setTop (entryFrame m #[.ref a, .ref b] 3)) (s₁.setTop (mkF m 4 #[.val (.ref a), .val (.ref b), .unset] [.int (Int32.ofNat B.slots.size), .int (Int32.ofNat A.slots.size)])) := c1.trans (by
    refine XS.aloadN X0.here hexec rfl (hb hbytes d0) rfl rfl ?_
    refine X0.alen hexec hA0 rfl rfl (hb hbytes d1) ?_
    refine XS.aloadN X0.here hexec rfl (hb hbytes d2) rfl rfl ?_
    refine X0.alen hexec hB0 rfl rfl (hb hbytes d3) ?_
    exact Steps.refl _)
  by_cases hs : A.slots.size = B.slots.size
  · have c3 : Steps p.tables e below (s₁.setTop (entryFrame m #[.ref a, .ref b] 3)) (s₁.setTop (mkF m 9 #[.val (.ref a), .val (.ref b), .val (.int 0)] [])) := c2.trans (by
      refine XS.icmpNo X0.here hexec rfl (hb hbytes d4) rfl (ii_ne_f (by rw [hs])) ?_
      refine iconstV X0.here hexec rfl 0 (hb hbytes d7) (by decide) ?_
      refine XS.istoreN X0.here hexec rfl (hb hbytes d8) rfl rfl ?_
      exact Steps.refl _)
    have loop : ∀ (r i : Nat), i + r = A.slots.size → (∀ j, j < i → yv A j = yv B j) → Steps p.tables e below (s₁.setTop (entryFrame m #[.ref a, .ref b] 3)) (s₁.setTop (mkF m 9 #[.val (.ref a), .val (.ref b), .val (.int (Int32.ofNat i))] [])) → ∃ (pc : Nat) (Ls : Array Slot) (v : Int32), (pc = 25 ∨ pc = 33) ∧ ((v = 1 ∧ EqC A B) ∨ (v = 0 ∧ ¬ EqC A B)) ∧ Steps p.tables e below (s₁.setTop (entryFrame m #[.ref a, .ref b] 3)) (s₁.setTop (mkF m pc Ls [.int v])) := by
      intro r
      induction r with
      | zero =>
        intro i hi he cl
        exact ⟨33, _, 1, Or.inr rfl, Or.inl ⟨rfl, hs, fun j hj => he j (by omega)⟩, cl.trans (by
          refine XS.iloadN X0.here hexec rfl (hb hbytes d9) rfl ?_
          refine XS.aloadN X0.here hexec rfl (hb hbytes d10) rfl rfl ?_
          refine X0.alen hexec hA0 rfl rfl (hb hbytes d11) ?_
          refine XS.icmpYes X0.here hexec rfl (pc0 := 12) rfl (hb hbytes d12) rfl (ii_ge_t (nlt32 (by omega) (by omega))) (by decide) rfl ?_
          refine iconstV X0.here hexec rfl 1 (hb hbytes d32) (by decide) ?_
          exact Steps.refl _)⟩
      | succ r ih =>
        intro i hi he cl
        have c4 : Steps p.tables e below (s₁.setTop (entryFrame m #[.ref a, .ref b] 3)) (s₁.setTop (mkF m 21 #[.val (.ref a), .val (.ref b), .val (.int (Int32.ofNat i))] [.int (yv B i), .int (yv A i)])) := cl.trans (by
          refine XS.iloadN X0.here hexec rfl (hb hbytes d9) rfl ?_
          refine XS.aloadN X0.here hexec rfl (hb hbytes d10) rfl rfl ?_
          refine X0.alen hexec hA0 rfl rfl (hb hbytes d11) ?_
          refine XS.icmpNo X0.here hexec rfl (hb hbytes d12) rfl (ii_ge_f (lt32 (by omega) (by omega))) ?_
          refine XS.aloadN X0.here hexec rfl (hb hbytes d15) rfl rfl ?_
          refine XS.iloadN X0.here hexec rfl (hb hbytes d16) rfl ?_
          refine X0.aget hexec hA0 rfl (yv_get hA tA (i := i) (by omega)) rfl rfl (hb hbytes d17) ?_
          refine XS.aloadN X0.here hexec rfl (hb hbytes d18) rfl rfl ?_
          refine XS.iloadN X0.here hexec rfl (hb hbytes d19) rfl ?_
          refine X0.aget hexec hB0 rfl (yv_get hB tB (i := i) (by omega)) rfl rfl (hb hbytes d20) ?_
          exact Steps.refl _)
        by_cases hv : yv A i = yv B i
        · have c5 : Steps p.tables e below (s₁.setTop (entryFrame m #[.ref a, .ref b] 3)) (s₁.setTop (mkF m 9 #[.val (.ref a), .val (.ref b), .val (.int (Int32.ofNat i + 1))] [])) := c4.trans (by
            refine XS.icmpYes X0.here hexec rfl (pc0 := 21) rfl (hb hbytes d21) rfl (ii_eq_t hv) (by decide) rfl ?_
            refine iincV X0.here hexec rfl 1 (hb hbytes d26) (by decide) rfl rfl ?_
            refine XS.goto X0.here hexec rfl (pc0 := 29) rfl (hb hbytes d29) (by decide) rfl ?_
            exact Steps.refl _)
          rw [succ32] at c5
          exact ih (i + 1) (by omega) (fun j hj => by
            by_cases e : j = i
            · rw [e]; exact hv
            · exact he j (by omega)) c5
        · exact ⟨25, _, 0, Or.inl rfl, Or.inr ⟨rfl, fun q => hv (q.2 i (by omega))⟩, c4.trans (by
            refine XS.icmpNo X0.here hexec rfl (hb hbytes d21) rfl (ii_eq_f hv) ?_
            refine iconstV X0.here hexec rfl 0 (hb hbytes d24) (by decide) ?_
            exact Steps.refl _)⟩
    obtain ⟨pc, Ls, v, hpc, hv, cz⟩ := loop A.slots.size 0 (by omega) (fun j hj => absurd hj (Nat.not_lt_zero j)) c3
    have nv : narrow .boolean (.int v) = .int v := by rcases hv with ⟨rfl, -⟩ | ⟨rfl, -⟩ <;> rfl
    rcases hpc with rfl | rfl
    · exact ⟨s₁, some (.int v), _, _, _, X0, rfl, rfl, rfl, (fun h => by cases h), ⟨v, rfl, hh0, hv⟩, fun fs hl => cz.trans (X0.ireturnOut hexec hret nv (Or.inr (Or.inl rfl)) (hb hbytes d25) hl)⟩
    · exact ⟨s₁, some (.int v), _, _, _, X0, rfl, rfl, rfl, (fun h => by cases h), ⟨v, rfl, hh0, hv⟩, fun fs hl => cz.trans (X0.ireturnOut hexec hret nv (Or.inr (Or.inl rfl)) (hb hbytes d33) hl)⟩
  · have c3 : Steps p.tables e below (s₁.setTop (entryFrame m #[.ref a, .ref b] 3)) (s₁.setTop (mkF m 35 #[.val (.ref a), .val (.ref b), .unset] [.int 0])) := c2.trans (by
      refine XS.icmpYes X0.here hexec rfl (pc0 := 4) rfl (hb hbytes d4) rfl (ii_ne_t (ne32 a31 b31 hs)) (by decide) rfl ?_
      refine iconstV X0.here hexec rfl 0 (hb hbytes d34) (by decide) ?_
      exact Steps.refl _)
    exact ⟨s₁, some (.int 0), _, _, _, X0, rfl, rfl, rfl, (fun h => by cases h), ⟨0, rfl, hh0, Or.inr ⟨rfl, fun q => hs q.1⟩⟩, fun fs hl => c3.trans (X0.ireturnOut hexec hret rfl (Or.inr (Or.inl rfl)) (hb hbytes d35) hl)⟩
end LEq
theorem Cod.ty {cd : Int32} {n : Nat} {f : Nat → Int32} {V : Cell} (h : Cod cd n f V) : Typed .byte V := fun i v hv => by
  have hi : i < V.slots.size := (Array.getElem?_eq_some_iff.mp hv).1
  rcases h with ⟨-, k1, k2⟩ | ⟨-, k1, k2, -⟩
  · rw [(k2 i (by omega)).1] at hv; cases hv; exact fits_lo8 _
  · rcases Nat.mod_two_eq_zero_or_one i with e | e
    · obtain ⟨j, rfl⟩ : ∃ j, i = 2 * j := ⟨i / 2, by omega⟩
      rw [(k2 j (by omega)).1] at hv; cases hv; exact fits_lo8 _
    · obtain ⟨j, rfl⟩ : ∃ j, i = 2 * j + 1 := ⟨i / 2, by omega⟩
      rw [(k2 j (by omega)).2] at hv; cases hv; exact fits_lo8 _
/-- the same text -/
def SameT (n : Nat) (f : Nat → Int32) (k : Nat) (g : Nat → Int32) : Prop := n = k ∧ ∀ j, j < n → f j = g j
theorem lo8_inj {x y : Int32} (h0 : ¬ x < 0) (h1 : ¬ 255 < x) (k0 : ¬ y < 0) (k1 : ¬ 255 < y) (h : lo8 x = lo8 y) : x = y := by
  rw [← lo8_mask h0 h1, ← lo8_mask k0 k1, h]
/-- arrays coded by one coder are equal just where the texts are -/
theorem Cod.eqv {cd : Int32} {n k : Nat} {f g : Nat → Int32} {V V' : Cell} (h : Cod cd n f V) (h' : Cod cd k g V') (hf : ∀ j, j < n → ¬ f j < 0 ∧ ¬ 65535 < f j) (hg : ∀ j, j < k → ¬ g j < 0 ∧ ¬ 65535 < g j) : EqC V V' ↔ SameT n f k g := by
  have yvv : ∀ {W : Cell} {i : Nat} {x : Int32}, W.slots[i]? = some (.int x) → yv W i = x := fun q => by unfold yv; rw [q]
  rcases h with ⟨rfl, k1, k2⟩ | ⟨rfl, k1, k2, -⟩
  · rcases h' with ⟨-, m1, m2⟩ | ⟨e, -⟩
    · constructor
      · rintro ⟨e1, e2⟩
        refine ⟨by omega, fun j hj => ?_⟩
        have q := e2 j (by omega)
        rw [yvv (k2 j hj).1, yvv (m2 j (by omega)).1] at q
        exact lo8_inj (hf j hj).1 (k2 j hj).2 (hg j (by omega)).1 (m2 j (by omega)).2 q
      · rintro ⟨rfl, e2⟩
        refine ⟨by omega, fun j hj => ?_⟩
        rw [yvv (k2 j (by omega)).1, yvv (m2 j (by omega)).1, e2 j (by omega)]
    · exact absurd e (by decide)
  · rcases h' with ⟨e, -⟩ | ⟨-, m1, m2, -⟩
    · exact absurd e (by decide)
    · constructor
      · rintro ⟨e1, e2⟩
        refine ⟨by omega, fun j hj => ?_⟩
        have q1 := e2 (2 * j) (by omega)
        have q2 := e2 (2 * j + 1) (by omega)
        rw [yvv (k2 j hj).1, yvv (m2 j (by omega)).1] at q1
        rw [yvv (k2 j hj).2, yvv (m2 j (by omega)).2] at q2
        rw [← pair_says (hf j hj).1 (hf j hj).2, ← pair_says (hg j (by omega)).1 (hg j (by omega)).2, q1, q2]
      · rintro ⟨rfl, e2⟩
        refine ⟨by omega, fun i hi => ?_⟩
        rcases Nat.mod_two_eq_zero_or_one i with e | e
        · obtain ⟨j, rfl⟩ : ∃ j, i = 2 * j := ⟨i / 2, by omega⟩
          rw [yvv (k2 j (by omega)).1, yvv (m2 j (by omega)).1, e2 j (by omega)]
        · obtain ⟨j, rfl⟩ : ∃ j, i = 2 * j + 1 := ⟨i / 2, by omega⟩
          rw [yvv (k2 j (by omega)).2, yvv (m2 j (by omega)).2, e2 j (by omega)]
/-- two codings differ: so do the texts -/
theorem Cod.dif {cd cd' : Int32} {n k : Nat} {f g : Nat → Int32} {V V' : Cell} (h : Cod cd n f V) (h' : Cod cd' k g V') (hne : ¬ cd = cd') : ¬ SameT n f k g := by
  rintro ⟨rfl, e⟩
  rcases h with ⟨rfl, -, k2⟩ | ⟨rfl, -, -, j, hj, hw⟩
  · rcases h' with ⟨rfl, -⟩ | ⟨-, -, -, j, hj, hw⟩
    · exact hne rfl
    · exact (k2 j hj).2 (by rw [e j hj]; exact hw)
  · rcases h' with ⟨-, -, m2⟩ | ⟨rfl, -⟩
    · exact (m2 j hj).2 (by rw [← e j hj]; exact hw)
    · exact hne rfl
/-- an object of exactly C is an instance of C -/
theorem cinst {p : Program} {l : Launch} {e : Env} {R : Room} {s : State} {m : MethodId} {args : Array Value} {below : List Frame} {meth : Method} {c : Code} {T : State} {locs : List Loc} {cells slots : Nat} (X : Stand p l e R s m args below meth c T locs cells slots) (hexec : p.tables.exec = Jvm.exec) {own C : String} {index : Nat} (hown : s.vm.findClass own = some m.cls) (hlink : (Cond.classLink own index C).before args s = true) {a : Addr} (hE : Exact C a T)
    {g : JFrame} (hg : g.method = m) {rest : List Value} (hstack : g.stack = .ref a :: rest) (hdg : decode c.code g.pc = .ok (.instanceof index, 3)) :
    ∃ T', Stand p l e R s m args below meth c T' locs cells slots ∧ T'.heap = T.heap ∧ ∀ target, Steps p.tables e below (T'.setTop { g with pc := g.pc + 3, stack := .int 1 :: rest }) target → Steps p.tables e below (T.setTop g) target := by
  obtain ⟨cB, h1, D, h2, h3, h4⟩ := hE
  have h1' : s.vm.findClass C = some cB := by rw [← X.warmed.alike.findClass]; exact h1
  obtain ⟨vm', X', st⟩ := X.instanceofYes hexec hown hlink h2 h4 h1' (by rw [h3]; exact Jvm.Free.SB.assignable_self _ _) hg hstack hdg
  exact ⟨_, X', rfl, st⟩
theorem cself {p : Program} {l : Launch} {e : Env} {R : Room} {s : State} {m : MethodId} {args : Array Value} {below : List Frame} {meth : Method} {c : Code} {T : State} {locs : List Loc} {cells slots : Nat} (X : Stand p l e R s m args below meth c T locs cells slots) (hexec : p.tables.exec = Jvm.exec) {own C : String} {index : Nat} (hown : s.vm.findClass own = some m.cls) (hlink : (Cond.classLink own index C).before args s = true) {a : Addr} (hE : Exact C a T)
    {g : JFrame} (hg : g.method = m) {rest : List Value} (hstack : g.stack = .ref a :: rest) (hdg : decode c.code g.pc = .ok (.checkcast index, 3)) :
    ∃ T', Stand p l e R s m args below meth c T' locs cells slots ∧ T'.heap = T.heap ∧ ∀ target, Steps p.tables e below (T'.setTop { g with pc := g.pc + 3, stack := .ref a :: rest }) target → Steps p.tables e below (T.setTop g) target := by
  obtain ⟨cB, h1, D, h2, h3, h4⟩ := hE
  have h1' : s.vm.findClass C = some cB := by rw [← X.warmed.alike.findClass]; exact h1
  obtain ⟨vm', X', st⟩ := X.checkcastYes hexec hown hlink h2 h4 h1' (by rw [h3]; exact Jvm.Free.SB.assignable_self _ _) hg hstack hdg
  exact ⟨_, X', rfl, fun t h => st t (by rw [← hstack] at h; exact h)⟩
namespace SEq
def yN : MethodName := ⟨"java/lang/String", "equals", "(Ljava/lang/Object;)Z"⟩
abbrev yB : ByteArray := jdk_42_method_66_code
theorem d0 : decode yB 0 = .ok (.aload_n 0, 1) := by decide +kernel
theorem d1 : decode yB 1 = .ok (.aload_n 1, 1) := by decide +kernel
theorem d2 : decode yB 2 = .ok (.if_acmp (.ne) 5, 3) := by decide +kernel
theorem d5 : decode yB 5 = .ok (.iconst 1, 1) := by decide +kernel
theorem d6 : decode yB 6 = .ok (.ireturn, 1) := by decide +kernel
theorem d7 : decode yB 7 = .ok (.aload_n 1, 1) := by decide +kernel
theorem d8 : decode yB 8 = .ok (.instanceof 10, 3) := by decide +kernel
theorem d11 : decode yB 11 = .ok (.ifCond (.eq) 43, 3) := by decide +kernel
theorem d14 : decode yB 14 = .ok (.aload_n 1, 1) := by decide +kernel
theorem d15 : decode yB 15 = .ok (.checkcast 10, 3) := by decide +kernel
theorem d18 : decode yB 18 = .ok (.astore_n 2, 1) := by decide +kernel
theorem d19 : decode yB 19 = .ok (.getstatic 38, 3) := by decide +kernel
theorem d22 : decode yB 22 = .ok (.ifCond (.eq) 14, 3) := by decide +kernel
theorem d25 : decode yB 25 = .ok (.aload_n 0, 1) := by decide +kernel
theorem d26 : decode yB 26 = .ok (.getfield 15, 3) := by decide +kernel
theorem d29 : decode yB 29 = .ok (.aload_n 2, 1) := by decide +kernel
theorem d30 : decode yB 30 = .ok (.getfield 15, 3) := by decide +kernel
theorem d33 : decode yB 33 = .ok (.if_icmp (.ne) 21, 3) := by decide +kernel
theorem d36 : decode yB 36 = .ok (.aload_n 0, 1) := by decide +kernel
theorem d37 : decode yB 37 = .ok (.getfield 9, 3) := by decide +kernel
theorem d40 : decode yB 40 = .ok (.aload_n 2, 1) := by decide +kernel
theorem d41 : decode yB 41 = .ok (.getfield 9, 3) := by decide +kernel
theorem d44 : decode yB 44 = .ok (.invokestatic 541, 3) := by decide +kernel
theorem d47 : decode yB 47 = .ok (.ifCond (.eq) 7, 3) := by decide +kernel
theorem d50 : decode yB 50 = .ok (.iconst 1, 1) := by decide +kernel
theorem d51 : decode yB 51 = .ok (.goto 4, 3) := by decide +kernel
theorem d54 : decode yB 54 = .ok (.iconst 0, 1) := by decide +kernel
theorem d55 : decode yB 55 = .ok (.ireturn, 1) := by decide +kernel
def site : List Cond := [.classLink "java/lang/String" 10 "java/lang/String", .fieldLink "java/lang/String" 38 "java/lang/String" "COMPACT_STRINGS" "Z", .fieldLink "java/lang/String" 15 "java/lang/String" "coder" "B", .fieldLink "java/lang/String" 9 "java/lang/String" "value" "[B", LEq.tab] ++ staticW "java/lang/String" 541 LEq.yN
def tab : Cond := tabOf yN yB 3 (some .boolean) site
def P (x t : Addr) (V : Cell) (cd : Int32) (n : Nat) (f : Nat → Int32) (y t' : Addr) (V' : Cell) (cd' : Int32) (k : Nat) (g : Nat → Int32) (z : Int32) (args : Array Value) (s : State) : Prop := args = #[.ref x, .ref y] ∧ Txt x t V cd n f s ∧ Txt y t' V' cd' k g s ∧ StaticIs s "java/lang/String" "COMPACT_STRINGS" "Z" (.int z) ∧ ¬ z = 0
/-- equals(Object) of two Strings: whether the texts are the same -/
theorem law (l : Launch) (x t : Addr) (V : Cell) (cd : Int32) (n : Nat) (f : Nat → Int32) (y t' : Addr) (V' : Cell) (cd' : Int32) (k : Nat) (g : Nat → Int32) (z : Int32) : Law l yN 2 1 1 14 yB 3 (some .boolean) site (P x t V cd n f y t' V' cd' k g z) (Says01 (SameT n f k g)) [] 0 0 := by
  refine Law.of_walk (plainFor_of_name (by decide +kernel)) (by decide +kernel) (by decide +kernel) (by decide) (fun _ _ h => by rw [h.1]; rfl) (fun _ U U' hal hh h => ⟨h.1, h.2.1.mv hal hh, h.2.2.1.mv hal hh, h.2.2.2.1.there hal hh, h.2.2.2.2⟩) (fun r U U' V V' h1 hal h2 h => Says01.mv r U U' V V' h1 hal h2 h) ?_
  intro p e s m args below meth c s₁ X0 hexec hbytes hml hret hlk hnm hown hh0 W hP
  obtain ⟨rfl, hx, hy, s1, hz⟩ := hP
  have c1 : Steps p.tables e below (s₁.setTop (entryFrame m #[.ref x, .ref y] 3)) (s₁.setTop (mkF m 2 #[.val (.ref x), .val (.ref y), .unset] [.ref y, .ref x])) := Steps.trans (entry rfl) (by
    show Steps p.tables e below (s₁.setTop (mkF m 0 #[.val (.ref x), .val (.ref y), .unset] [])) _
    refine XS.aloadN X0.here hexec rfl (hb hbytes d0) rfl rfl ?_
    refine XS.aloadN X0.here hexec rfl (hb hbytes d1) rfl rfl ?_
    exact Steps.refl _)
  by_cases hxy : x = y
  · have c2 : Steps p.tables e below (s₁.setTop (entryFrame m #[.ref x, .ref y] 3)) (s₁.setTop (mkF m 6 #[.val (.ref x), .val (.ref y), .unset] [.int 1])) := c1.trans (by
      refine acmpNo X0.here hexec rfl (hb hbytes d2) rfl rfl rfl (by simp [acmp, hxy]) ?_
      refine iconstV X0.here hexec rfl 1 (hb hbytes d5) (by decide) ?_
      exact Steps.refl _)
    subst hxy
    have ec : cd = cd' := by
      obtain ⟨D, fd, a1, a2, a3⟩ := hx.2.2.1
      obtain ⟨D', fd', b1, b2, b3⟩ := hy.2.2.1
      cases a1.symm.trans b1
      obtain ⟨q1, q2, q3, q4⟩ := a2.1
      obtain ⟨r1, r2, r3, r4⟩ := b2.1
      cases q4.symm.trans r4
      cases a3.symm.trans b3; rfl
    have et : t = t' := by
      obtain ⟨D, fd, a1, a2, a3⟩ := hx.2.1
      obtain ⟨D', fd', b1, b2, b3⟩ := hy.2.1
      cases a1.symm.trans b1
      obtain ⟨q1, q2, q3, q4⟩ := a2.1
      obtain ⟨r1, r2, r3, r4⟩ := b2.1
      cases q4.symm.trans r4
      cases a3.symm.trans b3; rfl
    subst ec et
    have ev : V = V' := by cases hx.2.2.2.1.1.symm.trans hy.2.2.2.1.1; rfl
    subst ev
    have hs : SameT n f k g := (Cod.eqv hx.2.2.2.2.1 hy.2.2.2.2.1 hx.2.2.2.2.2 hy.2.2.2.2.2).mp ⟨rfl, fun _ _ => rfl⟩
    exact ⟨s₁, some (.int 1), _, _, _, X0, rfl, rfl, rfl, (fun h => by cases h), ⟨1, rfl, hh0, Or.inl ⟨rfl, hs⟩⟩, fun fs hl => c2.trans (X0.ireturnOut hexec hret rfl (Or.inr (Or.inl rfl)) (hb hbytes d6) hl)⟩
  · have c2 : Steps p.tables e below (s₁.setTop (entryFrame m #[.ref x, .ref y] 3)) (s₁.setTop (mkF m 8 #[.val (.ref x), .val (.ref y), .unset] [.ref y])) := c1.trans (by
      refine acmpYes X0.here hexec rfl (pc0 := 2) rfl (hb hbytes d2) rfl rfl rfl (by simp [acmp, hxy]) (by decide) rfl ?_
      refine XS.aloadN X0.here hexec rfl (hb hbytes d7) rfl rfl ?_
      exact Steps.refl _)
    obtain ⟨T3, X3, q3, st3⟩ := cinst X0 hexec hown (wk W (.classLink "java/lang/String" 10 "java/lang/String")) (hy.mv X0.warmed.alike hh0).1 (g := (mkF m 8 #[.val (.ref x), .val (.ref y), .unset] [.ref y])) rfl (rest := []) rfl (hb hbytes d8)
    have hh3 := q3.trans hh0
    have c4 : Steps p.tables e below (s₁.setTop (entryFrame m #[.ref x, .ref y] 3)) (T3.setTop (mkF m 15 #[.val (.ref x), .val (.ref y), .unset] [.ref y])) := (c2.trans (st3 _ (Steps.refl _))).trans (by
      refine XS.ifNo X3.here hexec rfl (hb hbytes d11) rfl (i0_eq_f (by decide)) ?_
      refine XS.aloadN X3.here hexec rfl (hb hbytes d14) rfl rfl ?_
      exact Steps.refl _)
    obtain ⟨T5, X5, q5, st5⟩ := cself X3 hexec hown (wk W (.classLink "java/lang/String" 10 "java/lang/String")) (hy.mv X3.warmed.alike hh3).1 (g := (mkF m 15 #[.val (.ref x), .val (.ref y), .unset] [.ref y])) rfl (rest := []) rfl (hb hbytes d15)
    have hh5 := q5.trans hh3
    have c6 : Steps p.tables e below (s₁.setTop (entryFrame m #[.ref x, .ref y] 3)) (T5.setTop (mkF m 19 #[.val (.ref x), .val (.ref y), .val (.ref y)] [])) := (c4.trans (st5 _ (Steps.refl _))).trans (by
      refine XS.astoreN X5.here hexec rfl (hb hbytes d18) rfl rfl rfl ?_
      exact Steps.refl _)
    obtain ⟨T7, X7, q7, st7⟩ := X5.sget hexec hown (wk W (.fieldLink "java/lang/String" 38 "java/lang/String" "COMPACT_STRINGS" "Z")) s1 (fun _ _ h => by rw [hh5]; exact h) (g := (mkF m 19 #[.val (.ref x), .val (.ref y), .val (.ref y)] [])) rfl (hb hbytes d19)
    have hh7 := q7.trans hh5
    have c8 : Steps p.tables e below (s₁.setTop (entryFrame m #[.ref x, .ref y] 3)) (T7.setTop (mkF m 26 #[.val (.ref x), .val (.ref y), .val (.ref y)] [.ref x])) := (c6.trans (st7 _ (Steps.refl _))).trans (by
      refine XS.ifNo X7.here hexec rfl (hb hbytes d22) rfl (i0_eq_f hz) ?_
      refine XS.aloadN X7.here hexec rfl (hb hbytes d25) rfl rfl ?_
      exact Steps.refl _)
    obtain ⟨T9, X9, q9, st9⟩ := X7.hget hexec hown (wk W (.fieldLink "java/lang/String" 15 "java/lang/String" "coder" "B")) (hx.mv X7.warmed.alike hh7).2.2.1 (g := (mkF m 26 #[.val (.ref x), .val (.ref y), .val (.ref y)] [.ref x])) rfl (rest := []) rfl (hb hbytes d26)
    have hh9 := q9.trans hh7
    have c10 : Steps p.tables e below (s₁.setTop (entryFrame m #[.ref x, .ref y] 3)) (T9.setTop (mkF m 30 #[.val (.ref x), .val (.ref y), .val (.ref y)] [.ref y, .int cd])) := (c8.trans (st9 _ (Steps.refl _))).trans (by
      refine XS.aloadN X9.here hexec rfl (hb hbytes d29) rfl rfl ?_
      exact Steps.refl _)
    obtain ⟨T11, X11, q11, st11⟩ := X9.hget hexec hown (wk W (.fieldLink "java/lang/String" 15 "java/lang/String" "coder" "B")) (hy.mv X9.warmed.alike hh9).2.2.1 (g := (mkF m 30 #[.val (.ref x), .val (.ref y), .val (.ref y)] [.ref y, .int cd])) rfl (rest := [.int cd]) rfl (hb hbytes d30)
    have hh11 := q11.trans hh9
    have c12 : Steps p.tables e below (s₁.setTop (entryFrame m #[.ref x, .ref y] 3)) (T11.setTop (mkF m 33 #[.val (.ref x), .val (.ref y), .val (.ref y)] [.int cd', .int cd])) := c10.trans (st11 _ (Steps.refl _))
    by_cases hcd : cd = cd'
    · subst hcd
      have c13 : Steps p.tables e below (s₁.setTop (entryFrame m #[.ref x, .ref y] 3)) (T11.setTop (mkF m 37 #[.val (.ref x), .val (.ref y), .val (.ref y)] [.ref x])) := c12.trans (by
        refine XS.icmpNo X11.here hexec rfl (hb hbytes d33) rfl (ii_ne_f rfl) ?_
        refine XS.aloadN X11.here hexec rfl (hb hbytes d36) rfl rfl ?_
        exact Steps.refl _)
      obtain ⟨T14, X14, q14, st14⟩ := X11.hget hexec hown (wk W (.fieldLink "java/lang/String" 9 "java/lang/String" "value" "[B")) (hx.mv X11.warmed.alike hh11).2.1 (g := (mkF m 37 #[.val (.ref x), .val (.ref y), .val (.ref y)] [.ref x])) rfl (rest := []) rfl (hb hbytes d37)
      have hh14 := q14.trans hh11
      have c15 : Steps p.tables e below (s₁.setTop (entryFrame m #[.ref x, .ref y] 3)) (T14.setTop (mkF m 41 #[.val (.ref x), .val (.ref y), .val (.ref y)] [.ref y, .ref t])) := (c13.trans (st14 _ (Steps.refl _))).trans (by
        refine XS.aloadN X14.here hexec rfl (hb hbytes d40) rfl rfl ?_
        exact Steps.refl _)
      obtain ⟨T16, X16, q16, st16⟩ := X14.hget hexec hown (wk W (.fieldLink "java/lang/String" 9 "java/lang/String" "value" "[B")) (hy.mv X14.warmed.alike hh14).2.1 (g := (mkF m 41 #[.val (.ref x), .val (.ref y), .val (.ref y)] [.ref y, .ref t])) rfl (rest := [.ref t]) rfl (hb hbytes d41)
      have hh16 := q16.trans hh14
      have c17 : Steps p.tables e below (s₁.setTop (entryFrame m #[.ref x, .ref y] 3)) (T16.setTop (mkF m 44 #[.val (.ref x), .val (.ref y), .val (.ref y)] [.ref t', .ref t])) := c15.trans (st16 _ (Steps.refl _))
      obtain ⟨v18, T18, X18, E18, g18⟩ := X16.callS hexec (LEq.law l t V t' V') hown (wks W (staticW "java/lang/String" 541 LEq.yN)) (wk W LEq.tab) (W := 0) (Nat.le_of_ble_eq_true rfl) (Nat.le_of_ble_eq_true rfl) (Nat.le_refl _) (Nat.le_refl _) (g := (mkF m 44 #[.val (.ref x), .val (.ref y), .val (.ref y)] [.ref t', .ref t])) rfl (by rw [hml]; rfl) c17 (argsL := [.ref t, .ref t']) (rest := []) rfl rfl (by show 2 * 0 + 0 ≤ _; decide) (hb hbytes d44) (⟨rfl, hx.2.2.2.1.mv X16.warmed.alike hh16, hx.2.2.2.2.1.ty, hy.2.2.2.1.mv X16.warmed.alike hh16, hy.2.2.2.2.1.ty⟩)
      obtain ⟨v, rfl, q18, hv⟩ := E18
      have iff := Cod.eqv hx.2.2.2.2.1 hy.2.2.2.2.1 hx.2.2.2.2.2 hy.2.2.2.2.2
      rcases hv with ⟨rfl, he⟩ | ⟨rfl, he⟩
      · have c19 : Steps p.tables e below (s₁.setTop (entryFrame m #[.ref x, .ref y] 3)) (T18.setTop (mkF m 55 #[.val (.ref x), .val (.ref y), .val (.ref y)] [.int 1])) := Steps.trans g18 (by
          refine XS.ifNo X18.here hexec rfl (hb hbytes d47) rfl (i0_eq_f (by decide)) ?_
          refine iconstV X18.here hexec rfl 1 (hb hbytes d50) (by decide) ?_
          refine XS.goto X18.here hexec rfl (pc0 := 51) rfl (hb hbytes d51) (by decide) rfl ?_
          exact Steps.refl _)
        exact ⟨T18, some (.int 1), _, _, _, X18, rfl, rfl, rfl, (fun h => by cases h), ⟨1, rfl, q18.trans hh16, Or.inl ⟨rfl, iff.mp he⟩⟩, fun fs hl => c19.trans (X18.ireturnOut hexec hret rfl (Or.inr (Or.inl rfl)) (hb hbytes d55) hl)⟩
      · have c19 : Steps p.tables e below (s₁.setTop (entryFrame m #[.ref x, .ref y] 3)) (T18.setTop (mkF m 55 #[.val (.ref x), .val (.ref y), .val (.ref y)] [.int 0])) := Steps.trans g18 (by
          refine XS.ifYes X18.here hexec rfl (pc0 := 47) rfl (hb hbytes d47) rfl (i0_eq_t rfl) (by decide) rfl ?_
          refine iconstV X18.here hexec rfl 0 (hb hbytes d54) (by decide) ?_
          exact Steps.refl _)
        exact ⟨T18, some (.int 0), _, _, _, X18, rfl, rfl, rfl, (fun h => by cases h), ⟨0, rfl, q18.trans hh16, Or.inr ⟨rfl, fun q => he (iff.mpr q)⟩⟩, fun fs hl => c19.trans (X18.ireturnOut hexec hret rfl (Or.inr (Or.inl rfl)) (hb hbytes d55) hl)⟩
    · have c13 : Steps p.tables e below (s₁.setTop (entryFrame m #[.ref x, .ref y] 3)) (T11.setTop (mkF m 55 #[.val (.ref x), .val (.ref y), .val (.ref y)] [.int 0])) := c12.trans (by
        refine XS.icmpYes X11.here hexec rfl (pc0 := 33) rfl (hb hbytes d33) rfl (ii_ne_t hcd) (by decide) rfl ?_
        refine iconstV X11.here hexec rfl 0 (hb hbytes d54) (by decide) ?_
        exact Steps.refl _)
      exact ⟨T11, some (.int 0), _, _, _, X11, rfl, rfl, rfl, (fun h => by cases h), ⟨0, rfl, hh11, Or.inr ⟨rfl, Cod.dif hx.2.2.2.2.1 hy.2.2.2.2.1 hcd⟩⟩, fun fs hl => c13.trans (X11.ireturnOut hexec hret rfl (Or.inr (Or.inl rfl)) (hb hbytes d55) hl)⟩
theorem pays {l : Launch} {R : Room} {p : Program} {e : Env} {below : List Frame} {s : State} {sargs : Array Value} {len W : Nat} (x t : Addr) (V : Cell) (cd : Int32) (n : Nat) (f : Nat → Int32) (y t' : Addr) (V' : Cell) (cd' : Int32) (k : Nat) (g : Nat → Int32) (z : Int32) (htab : tab.before sargs s = true) (hfr : 2 ≤ R.frames) (hlo : W + 28 ≤ R.locals) :
    Back l R p e below s sargs yN len W (fun A₁ a₁ => A₁.cells + 0 ≤ R.cells ∧ A₁.slots + 0 ≤ R.slots ∧ P x t V cd n f y t' V' cd' k g z a₁ A₁.U) (fun A₁ _ v₁ B₁ => Says01 (SameT n f k g) v₁ A₁.U B₁.U ∧ B₁.locs = A₁.locs ++ [] ∧ B₁.cells = A₁.cells + 0 ∧ B₁.slots = A₁.slots + 0) :=
  (law l x t V cd n f y t' V' cd' k g z).pays htab hfr (by omega)
end SEq
end StrChars
namespace StrChars.Road
open Jvm Sem ClassFile Op Lib Jvm.Stand Jvm.Free Jvm.Free.XT
open Jvm.Lib.Cold (StaticIs)
/-- the words of String.equals(Object) -/
abbrev wordsEq : List Jvm.Cond := [.code SEq.yN SEq.yB 3 (some .boolean), .initialized ST, .classLink ST 10 ST, .fieldLink ST 38 ST "COMPACT_STRINGS" "Z", .fieldLink ST 15 ST "coder" "B", .fieldLink ST 9 ST "value" "[B", .methodLink ST 541 LEq.yN, .static LEq.yN, .code LEq.yN LEq.yB 3 (some .boolean), .initialized "java/lang/StringLatin1"]
theorem tabEq_of {a : Array Value} {s : State} (h : ∀ w ∈ wordsEq, w.before a s = true) : SEq.tab.before a s = true := by
  have hl : LEq.tab.before a s = true := unparts (wk h (.code LEq.yN LEq.yB 3 (some .boolean))) (wks h (.initialized LEq.yN.cls :: LEq.site))
  have q := consq hl h
  exact unparts (wk q (.code SEq.yN SEq.yB 3 (some .boolean))) (wks q (.initialized SEq.yN.cls :: SEq.site))
theorem movedEq {Z s : State} {a0 args : Array Value} (hZ : Z.Warmed39 s.vm) (hw : ∀ d ∈ wordsEq, d.before a0 Z = true) : ∀ d ∈ wordsEq, d.before args s = true := fun d hd => by
  have t : ∀ d ∈ wordsEq, (d.onTables && d.keepsFace) = true := by decide +kernel
  exact RoadKit.mv hZ (hw d hd) (t d hd)
/-- the road's facts of a String, as the laws ask it -/
theorem txt_of {Z U : State} {a0 : Array Value} {kI : Nat} (wi : (Jvm.Cond.instantiable ST kI).before a0 Z = true) (al : Z.vm.Alike U.vm) {x t : Addr} {kb : ClassId} {cs : List Int32} {cd N2 : Int32} {vs : List Value} (E : RoadKit.Exa Z U.heap x ST) (V : RoadKit.Fld Z U.heap x ST "value" "[B" (.ref t)) (C : RoadKit.Fld Z U.heap x ST "coder" "B" (.int cd)) (K : RoadKit.Arv Z U.heap t kb .byte N2 vs (.int 0)) (hc : CodA cs cd N2 vs) (hb : ∀ c ∈ cs, ¬ c < 0 ∧ ¬ (65535 : Int32) < c) (l2 : cs.length ≤ 4000) :
    ∃ A, Txt x t A cd cs.length (fun j => cs.getD j 0) U := by
  obtain ⟨A, K1, K2, K3, K4, K5, K6⟩ := K
  have hcod := hc.cod (by omega) K3 K5
  obtain ⟨D, fV, fC, hB, F1, F2, g1, g2, -, -⟩ := strObj wi al E V C
  exact ⟨A, ⟨_, hB.2.2.1, D, hB.1, rfl, by cases q : D.vm <;> first | rfl | exact absurd q (hB.2.1.2 _)⟩, Has.of hB F1 g1, Has.of hB F2 g2, ⟨K1.1, State.isArrayOf_alike al K1.2.1, K1.2.2, by rcases hcod with ⟨-, q, -⟩ | ⟨-, q, -⟩ <;> omega⟩, hcod, fun j hj => by
    have e : cs.getD j 0 = cs[j] := by simp [List.getD_eq_getElem?_getD, hj]
    show ¬ cs.getD j 0 < 0 ∧ ¬ 65535 < cs.getD j 0
    rw [e]; exact hb _ (List.getElem_mem _)⟩
theorem same_list (cs ds : List Int32) : SameT cs.length (fun j => cs.getD j 0) ds.length (fun j => ds.getD j 0) ↔ cs = ds := by
  constructor
  · rintro ⟨e, q⟩
    refine List.ext_getElem e fun j h1 h2 => ?_
    have := q j h1
    simpa [List.getD_eq_getElem?_getD, h1, h2] using this
  · rintro rfl
    exact ⟨rfl, fun _ _ => rfl⟩
/-- **equals(Object) OF TWO SUCH STRINGS**: 1 just where the chars are the same -/
theorem eqW {p : Program} {l : Launch} {e : Env} {R : Room} {s : State} {args : Array Value} {below : List Frame} {len W : Nat} {Z : State} {a0 : Array Value} {h : Heap} (hZ : Z.Warmed39 s.vm) (hw : ∀ d ∈ wordsEq, d.before a0 Z = true) {kI : Nat} (wi : (Jvm.Cond.instantiable ST kI).before a0 Z = true)
    {x t : Addr} {kb : ClassId} {cs : List Int32} {cd N2 : Int32} {vs : List Value} (E : RoadKit.Exa Z h x ST) (V : RoadKit.Fld Z h x ST "value" "[B" (.ref t)) (C : RoadKit.Fld Z h x ST "coder" "B" (.int cd)) (K : RoadKit.Arv Z h t kb .byte N2 vs (.int 0)) (hc : CodA cs cd N2 vs) (hb : ∀ c ∈ cs, ¬ c < 0 ∧ ¬ (65535 : Int32) < c) (l2 : cs.length ≤ 4000)
    {y t' : Addr} {kb' : ClassId} {ds : List Int32} {cd' N2' : Int32} {vs' : List Value} (E' : RoadKit.Exa Z h y ST) (V' : RoadKit.Fld Z h y ST "value" "[B" (.ref t')) (C' : RoadKit.Fld Z h y ST "coder" "B" (.int cd')) (K' : RoadKit.Arv Z h t' kb' .byte N2' vs' (.int 0)) (hc' : CodA ds cd' N2' vs') (hb' : ∀ c ∈ ds, ¬ c < 0 ∧ ¬ (65535 : Int32) < c) (l2' : ds.length ≤ 4000)
    {z : Int32} (S : RoadKit.Sta Z h ST "COMPACT_STRINGS" "Z" (.int z)) (hz : ¬ z = 0) (hfr : 2 ≤ R.frames) (hlo : W + 28 ≤ R.locals) :
    Back l R p e below s args (⟨"java/lang/String", "equals", "(Ljava/lang/Object;)Z"⟩ : MethodName) len W (fun P a => a = #[.ref x, .ref y] ∧ P.U.heap = h ∧ P.cells + 0 ≤ R.cells ∧ P.slots + 0 ≤ R.slots)
      (fun P _ v B => ∃ L, (((v = some (.int 1) ∧ cs = ds) ∨ (v = some (.int 0) ∧ ¬ cs = ds)) ∧ L = [] ∧ B.U.heap = h) ∧ B.locs = P.locs ++ L ∧ B.cells = P.cells + 0 ∧ B.slots = P.slots + 0) := by
  intro m meth c P g ig mk a X hg hsize hdg hW hn hp'
  obtain ⟨rfl, rfl, r1, r2⟩ := hp'
  have al : Z.vm.Alike P.U.vm := hZ.alike.trans X.warmed.alike
  obtain ⟨A, hx⟩ := txt_of wi al E V C K hc hb l2
  obtain ⟨A', hy⟩ := txt_of wi al E' V' C' K' hc' hb' l2'
  obtain ⟨v, B, X', ⟨⟨w, hv, hh, hq⟩, hl, hk, hs⟩, st⟩ := SEq.pays x t A cd cs.length (fun j => cs.getD j 0) y t' A' cd' ds.length (fun j => ds.getD j 0) z (tabEq_of (movedEq hZ hw)) hfr hlo m meth c P g ig mk _ X hg hsize hdg hW hn ⟨r1, r2, rfl, hx, hy, sta_is al S, hz⟩
  refine ⟨v, B, X', ⟨[], ⟨?_, rfl, hh⟩, hl, hk, hs⟩, st⟩
  rcases hq with ⟨rfl, q⟩ | ⟨rfl, q⟩
  · exact Or.inl ⟨hv, (same_list cs ds).mp q⟩
  · exact Or.inr ⟨hv, fun e => q ((same_list cs ds).mpr e)⟩
end StrChars.Road
namespace StrChars.Road
open Jvm Sem ClassFile Op Lib Jvm.Stand Jvm.Free Jvm.Free.XT
open Jvm.Lib.Cold (StaticIs)
/-- what backV says of its String, as the contracts of this text ask it: cs's low bytes, coder 0 -/
theorem codOf {cs : List Int32} {n : Nat} (hn : cs.length = n) (hb : ∀ c ∈ cs, ¬ 255 < c) : CodA cs 0 (Int32.ofNat n) ((cs.map lo8).map Value.int) := Or.inl ⟨rfl, by rw [hn], by simp [List.map_map, Function.comp_def], hb⟩
end StrChars.Road
end Jvm.Pilot.@@N@@

namespace Jvm.Pilot.@@N@@
open Jvm Jvm.ClassFile Sem Op Lib Jvm.Free Jvm.Stand Jvm.LawKit Jvm.RoadKit Bundle Jvm.Pilot.@@N@@.Jvm.D
/-- the goal of a walk: from S the run ends, and G holds there -/
def Go (p : Program) (e : Env) (below : List Frame) (G : State → Outcome → Prop) (S : State) : Prop :=
  ∃ s₂ o, Steps p.tables e below S s₂ ∧ s₂.status = .running ∧ Ended s₂ below o ∧ G s₂ o
theorem Go.by {p : Program} {e : Env} {below : List Frame} {G : State → Outcome → Prop} {S S' : State} (h : ∀ t, Steps p.tables e below S' t → Steps p.tables e below S t) (k : Go p e below G S') : Go p e below G S := by
  obtain ⟨s₂, o, h1, h2⟩ := k
  exact ⟨s₂, o, h _ h1, h2⟩
/-- what a body's end says -/
def End (Q : Option Value → Heap → List Loc → Prop) (s : State) (cells slots : Nat) (s₂ : State) (o : Outcome) : Prop := ∃ v L, o = .returned v ∧ Q v s₂.heap L ∧ FrameEnd s o s₂ L cells slots
section
variable {p : Program} {l : Launch} {e : Env} {R : Room} {s : State} {m : MethodId} {args : Array Value} {below : List Frame} {meth : Method} {c : Code} {T : State} {locs : List Loc} {cells slots C S : Nat} {Q : Option Value → Heap → List Loc → Prop}
theorem Go.ret1 (X : Stand p l e R s m args below meth c T locs cells slots) (hx : p.tables.exec = Jvm.exec) {pc : Nat} {Ls : Array Slot} {w : Value} {t : FieldType} {i : Instr} {rest : List Value} (hret : meth.sig.returnType = some t) (hlk : meth.locks = false) (hn : narrow t w = w)
    (hi : (i = .ireturn ∧ (t = .int ∨ t = .boolean ∨ t = .byte ∨ t = .char ∨ t = .short) ∧ ∃ z, w = .int z) ∨ (i = .lreturn ∧ t = .long ∧ ∃ z, w = .long z) ∨ (i = .dreturn ∧ t = .double ∧ ∃ z, w = .double z) ∨ (i = .freturn ∧ t = .float ∧ ∃ z, w = .float z) ∨ (i = .areturn ∧ t.isReference = true ∧ w.isRef = true))
    (hd : decode c.code pc = .ok (i, 1)) (hc : cells ≤ C) (hs : slots ≤ S) (hQ : Q (some w) T.heap locs) : Go p e below (End Q s C S) (T.setTop (mkF m pc Ls (w :: rest))) := by
  obtain ⟨fs, hr, hrun, hended, hW, hsame⟩ := X.leave (v := some w) (fun h => by rw [hret] at h; cases h) hlk
  exact ⟨_, _, retOut X hx hret hn hi hd hr, hrun, hended, _, _, rfl, hQ, ⟨_, rfl⟩, hW, hsame.mono hc hs⟩
theorem Go.ret0 (X : Stand p l e R s m args below meth c T locs cells slots) (hx : p.tables.exec = Jvm.exec) {pc : Nat} {Ls : Array Slot} (hret : meth.sig.returnType = none) (hlk : meth.locks = false)
    (hd : decode c.code pc = .ok (.return_, 1)) (hc : cells ≤ C) (hs : slots ≤ S) (hQ : Q none T.heap locs) : Go p e below (End Q s C S) (T.setTop (mkF m pc Ls [])) := by
  obtain ⟨fs, hr, hrun, hended, hW, hsame⟩ := X.leave (v := none) (fun _ => rfl) hlk
  exact ⟨_, _, X.returnOut hx hret hd hr, hrun, hended, _, _, rfl, hQ, ⟨_, rfl⟩, hW, hsame.mono hc hs⟩
theorem Stand.more (X : Stand p l e R s m args below meth c T locs cells slots) (hc : cells ≤ C) (hs : slots ≤ S) : Stand p l e R s m args below meth c T locs C S :=
  { X with same := X.same.mono hc hs }
theorem arv_neT {Z : State} {h : Heap} {a b : Addr} {k1 k2 : ClassId} {t1 t2 : FieldType} {z1 z2 : Int32} {v1 v2 : List Value} {d1 d2 : Value} (A : Arv Z h a k1 t1 z1 v1 d1) (B : Arv Z h b k2 t2 z2 v2 d2) (hne : t1 ≠ t2) : a ≠ b := fun e => by
  subst e
  obtain ⟨c1, ⟨p1, ⟨-, q1, r1, u1, w1⟩, -⟩, -⟩ := A
  obtain ⟨c2, ⟨p2, ⟨-, q2, r2, u2, w2⟩, -⟩, -⟩ := B
  cases p1.symm.trans p2
  cases r1.symm.trans r2
  have := w1.symm.trans w2
  injection this with _ e
  exact hne e
theorem cat_ref {r : Value} (h : r.isRef = true) : r.category = 1 := by rcases ref_cases h with rfl | ⟨_, rfl⟩ <;> rfl
theorem fit_ref {C : String} {r : Value} (h : r.isRef = true) : fits (.object C) r = true := by rcases ref_cases h with rfl | ⟨_, rfl⟩ <;> rfl
theorem nar_ref {t : FieldType} {r : Value} (h : r.isRef = true) : narrow t r = r := by cases r <;> cases t <;> simp_all [Value.isRef, narrow]
end
theorem and255_chars (x : Int32) : ¬ nar .char ((x &&& (255 : Int32)).toUInt32.toUInt16.toUInt32.toInt32) < 0 ∧ ¬ (255 : Int32) < nar .char ((x &&& (255 : Int32)).toUInt32.toUInt16.toUInt32.toInt32) := by
  have t : ∀ k : Fin 256, ¬ nar .char ((Int32.ofNat k.val).toUInt32.toUInt16.toUInt32.toInt32) < 0 ∧ ¬ (255 : Int32) < nar .char ((Int32.ofNat k.val).toUInt32.toUInt16.toUInt32.toInt32) := by decide +kernel
  have h : (x &&& 255).toBitVec.toNat < 256 := by
    simp only [Int32.toBitVec_and, BitVec.toNat_and]
    exact Nat.lt_succ_of_le Nat.and_le_right
  have e : (x &&& 255) = Int32.ofNat (x &&& 255).toBitVec.toNat := by
    apply Int32.toBitVec_inj.mp
    show _ = BitVec.ofNat 32 _
    rw [BitVec.ofNat_toNat]; simp
  rw [e]
  exact t ⟨_, h⟩
theorem up (cs : List Int32) (h : ∀ c ∈ cs, ¬ c < 0 ∧ ¬ (255 : Int32) < c) : ∀ c ∈ cs, ¬ c < 0 ∧ ¬ (65535 : Int32) < c := fun c hc => ⟨(h c hc).1, fun q => (h c hc).2 (by rw [Int32.lt_iff_toInt_lt] at q ⊢; have e1 : (65535 : Int32).toInt = 65535 := rfl; have e2 : (255 : Int32).toInt = 255 := rfl; omega)⟩
theorem all1 {P : Int32 → Prop} {x : Int32} (h : P x) : ∀ c ∈ [x], P c := fun c hc => by cases List.mem_singleton.mp hc; exact h
theorem allC {P : Int32 → Prop} {x : Int32} {L : List Int32} (h : P x) (r : ∀ c ∈ L, P c) : ∀ c ∈ x :: L, P c := fun c hc => (List.mem_cons.mp hc).elim (fun u => u ▸ h) (r c)
theorem allN {P : Int32 → Prop} : ∀ c ∈ ([] : List Int32), P c := fun _ q => nomatch q
section
variable {Z : State} {h h' : Heap} {x o : Addr} {cs ds : List Int32} {ws : List Addr} {sl : Nat} {v : Value}
/-- in heap h the object at x is a String of Latin-1 signs cs -/
def StrAt (Z : State) (h : Heap) (x : Addr) (cs : List Int32) : Prop := ∃ (t : Addr) (kb : ClassId) (N : Int32) (vs : List Value), Exa Z h x "java/lang/String" ∧ Fld Z h x "java/lang/String" "value" "[B" (.ref t) ∧ Fld Z h x "java/lang/String" "coder" "B" (.int 0) ∧ Arv Z h t kb .byte N vs (.int 0) ∧ StrChars.Road.CodA cs 0 N vs ∧ (∀ c ∈ cs, ¬ c < 0 ∧ ¬ (65535 : Int32) < c) ∧ cs.length ≤ 4000
theorem StrAt.exa (S : StrAt Z h x cs) : Exa Z h x "java/lang/String" := by obtain ⟨_, _, _, _, E, -⟩ := S; exact E
theorem StrAt.lt (S : StrAt Z h x cs) : x < h.size := S.exa.lt
theorem StrAt.ext (S : StrAt Z h x cs) (E : Ext h h') : StrAt Z h' x cs := by obtain ⟨t, kb, N, vs, a, b, c, d, r⟩ := S; exact ⟨t, kb, N, vs, a.ext E, b.ext E, c.ext E, d.ext E, r⟩
theorem StrAt.keep (S : StrAt Z h x cs) (K : Keep h h' ws) (hx : x ∉ ws) (ht : ∀ t kb N vs, Arv Z h t kb .byte N vs (.int 0) → t ∉ ws) : StrAt Z h' x cs := by obtain ⟨t, kb, N, vs, a, b, c, d, r⟩ := S; exact ⟨t, kb, N, vs, a.keep K, b.keep K hx, c.keep K hx, d.keep K (ht _ _ _ _ d), r⟩
theorem StrAt.wr (S : StrAt Z h x cs) (W : Wr h h' o sl v) (hx : x ≠ o) (ht : ∀ t kb N vs, Arv Z h t kb .byte N vs (.int 0) → t ≠ o) : StrAt Z h' x cs := S.keep (Keep.of_wr W) (ninS hx nin0) fun _ _ _ _ A => ninS (ht _ _ _ _ A) nin0
end
theorem eqS {p : Program} {l : Launch} {e : Env} {R : Room} {s : State} {args : Array Value} {below : List Frame} {len W : Nat} {Z : State} {a0 : Array Value} {h : Heap} (hZ : Z.Warmed39 s.vm) (hw : ∀ d ∈ StrChars.Road.wordsEq, d.before a0 Z = true) (wi : (Jvm.Cond.instantiable "java/lang/String" 4).before a0 Z = true)
    {x y : Addr} {cs ds : List Int32} (S : StrAt Z h x cs) (S' : StrAt Z h y ds) {z : Int32} (O : Sta Z h "java/lang/String" "COMPACT_STRINGS" "Z" (.int z)) (hz : ¬ z = 0) (hfr : 2 ≤ R.frames) (hlo : W + 28 ≤ R.locals) :
    Back l R p e below s args (⟨"java/lang/String", "equals", "(Ljava/lang/Object;)Z"⟩ : MethodName) len W (fun P a => a = #[.ref x, .ref y] ∧ P.U.heap = h ∧ P.cells + 0 ≤ R.cells ∧ P.slots + 0 ≤ R.slots)
      (fun P _ v B => ∃ L, (v = some (.int (if cs = ds then 1 else 0)) ∧ L = [] ∧ B.U.heap = h) ∧ B.locs = P.locs ++ L ∧ B.cells = P.cells + 0 ∧ B.slots = P.slots + 0) := by
  obtain ⟨t, kb, N, vs, a1, a2, a3, a4, a5, a6, a7⟩ := S
  obtain ⟨t', kb', N', vs', b1, b2, b3, b4, b5, b6, b7⟩ := S'
  refine Back.mono (StrChars.Road.eqW hZ hw wi a1 a2 a3 a4 a5 a6 a7 b1 b2 b3 b4 b5 b6 b7 O hz hfr hlo) (fun P a hp => hp) (fun P a v B hp hq => ?_)
  obtain ⟨L, ⟨q1, q2, q3⟩, r⟩ := hq
  refine ⟨L, ⟨?_, q2, q3⟩, r⟩
  rcases q1 with ⟨rfl, q⟩ | ⟨rfl, q⟩
  · rw [if_pos q]
  · rw [if_neg q]
theorem L_gt {q : Nat} (h : q < 2147483648) (h' : 0 < q) : (0 : Int64) < Int64.ofNat q := by
  rw [Int64.lt_iff_toInt_lt, Int64.toInt_ofNat_of_lt (by omega)]
  have : (0 : Int64).toInt = 0 := rfl
  omega
theorem last_lt (A : Nat) (hA : A < 8) : Int32.ofNat (A + 0) - (1 : Int32) < Int32.ofNat A := (by decide +kernel : ∀ A : Fin 8, Int32.ofNat (A.val + 0) - (1 : Int32) < Int32.ofNat A.val) ⟨A, hA⟩
theorem mask31 (x : Int32) : ∃ F : Nat, F < 2147483648 ∧ x &&& (2147483647 : Int32) = Int32.ofNat F := by
  refine ⟨(x &&& 2147483647).toBitVec.toNat, ?_, ?_⟩
  · simp only [Int32.toBitVec_and, BitVec.toNat_and]
    exact Nat.lt_succ_of_le Nat.and_le_right
  · apply Int32.toBitVec_inj.mp
    show _ = BitVec.ofNat 32 _
    rw [BitVec.ofNat_toNat]; simp
theorem mask7 (x : Int32) : ∃ A : Nat, A < 8 ∧ x &&& (7 : Int32) = Int32.ofNat A := by
  refine ⟨(x &&& 7).toBitVec.toNat, ?_, ?_⟩
  · simp only [Int32.toBitVec_and, BitVec.toNat_and]
    exact Nat.lt_succ_of_le Nat.and_le_right
  · apply Int32.toBitVec_inj.mp
    show _ = BitVec.ofNat 32 _
    rw [BitVec.ofNat_toNat]; simp
theorem max_nat {d : Nat} (h : d ≤ 10) : (if Int32.ofNat d < 2 then (2 : Int32) else Int32.ofNat d) = Int32.ofNat (max d 2) := (by decide +kernel : ∀ d : Fin 11, (if Int32.ofNat d.val < 2 then (2 : Int32) else Int32.ofNat d.val) = Int32.ofNat (max d.val 2)) ⟨d, by omega⟩
theorem sta_eqL {args : Array Value} {s : State} {t : Term} {z : Int64} (h : (Cond.eq t (Term.long z)).value args s none s [] = some true) : t.eval args s none [] s = some (.long z) := by
  simp only [Cond.value, Term.eval] at h
  cases ht : t.eval args s none [] s with
  | none => simp [ht] at h
  | some x => cases x <;> simp [ht] at h ⊢; exact h
theorem sta_eqI {args : Array Value} {s : State} {t : Term} {z : Int32} (h : (Cond.eq t (Term.int z)).value args s none s [] = some true) : t.eval args s none [] s = some (.int z) := by
  simp only [Cond.value, Term.eval] at h
  cases ht : t.eval args s none [] s with
  | none => simp [ht] at h
  | some x => cases x <;> simp [ht] at h ⊢; exact h
theorem d1_0 : decode method_3_code 0 = .ok (.iload_n 0, 1) := by decide +kernel
theorem d1_1 : decode method_3_code 1 = .ok (.bipush 10, 2) := by decide +kernel
theorem d1_3 : decode method_3_code 3 = .ok (.if_icmp .ge 5, 3) := by decide +kernel
theorem d1_6 : decode method_3_code 6 = .ok (.iconst 1, 1) := by decide +kernel
theorem d1_7 : decode method_3_code 7 = .ok (.ireturn, 1) := by decide +kernel
theorem d1_8 : decode method_3_code 8 = .ok (.iload_n 0, 1) := by decide +kernel
theorem d1_9 : decode method_3_code 9 = .ok (.bipush 100, 2) := by decide +kernel
theorem d1_11 : decode method_3_code 11 = .ok (.if_icmp .ge 5, 3) := by decide +kernel
theorem d1_14 : decode method_3_code 14 = .ok (.iconst 2, 1) := by decide +kernel
theorem d1_15 : decode method_3_code 15 = .ok (.ireturn, 1) := by decide +kernel
theorem d1_16 : decode method_3_code 16 = .ok (.iload_n 0, 1) := by decide +kernel
theorem d1_17 : decode method_3_code 17 = .ok (.sipush 1000, 3) := by decide +kernel
theorem d1_20 : decode method_3_code 20 = .ok (.if_icmp .ge 5, 3) := by decide +kernel
theorem d1_23 : decode method_3_code 23 = .ok (.iconst 3, 1) := by decide +kernel
theorem d1_24 : decode method_3_code 24 = .ok (.ireturn, 1) := by decide +kernel
theorem d1_25 : decode method_3_code 25 = .ok (.iload_n 0, 1) := by decide +kernel
theorem d1_26 : decode method_3_code 26 = .ok (.sipush 10000, 3) := by decide +kernel
theorem d1_29 : decode method_3_code 29 = .ok (.if_icmp .ge 5, 3) := by decide +kernel
theorem d1_32 : decode method_3_code 32 = .ok (.iconst 4, 1) := by decide +kernel
theorem d1_33 : decode method_3_code 33 = .ok (.ireturn, 1) := by decide +kernel
theorem d1_34 : decode method_3_code 34 = .ok (.iload_n 0, 1) := by decide +kernel
theorem d1_35 : decode method_3_code 35 = .ok (.ldc 39, 2) := by decide +kernel
theorem d1_37 : decode method_3_code 37 = .ok (.if_icmp .ge 5, 3) := by decide +kernel
theorem d1_40 : decode method_3_code 40 = .ok (.iconst 5, 1) := by decide +kernel
theorem d1_41 : decode method_3_code 41 = .ok (.ireturn, 1) := by decide +kernel
theorem d1_42 : decode method_3_code 42 = .ok (.iload_n 0, 1) := by decide +kernel
theorem d1_43 : decode method_3_code 43 = .ok (.ldc 40, 2) := by decide +kernel
theorem d1_45 : decode method_3_code 45 = .ok (.if_icmp .ge 6, 3) := by decide +kernel
theorem d1_48 : decode method_3_code 48 = .ok (.bipush 6, 2) := by decide +kernel
theorem d1_50 : decode method_3_code 50 = .ok (.ireturn, 1) := by decide +kernel
theorem d1_51 : decode method_3_code 51 = .ok (.iload_n 0, 1) := by decide +kernel
theorem d1_52 : decode method_3_code 52 = .ok (.ldc 41, 2) := by decide +kernel
theorem d1_54 : decode method_3_code 54 = .ok (.if_icmp .ge 6, 3) := by decide +kernel
theorem d1_57 : decode method_3_code 57 = .ok (.bipush 7, 2) := by decide +kernel
theorem d1_59 : decode method_3_code 59 = .ok (.ireturn, 1) := by decide +kernel
theorem d1_60 : decode method_3_code 60 = .ok (.iload_n 0, 1) := by decide +kernel
theorem d1_61 : decode method_3_code 61 = .ok (.ldc 42, 2) := by decide +kernel
theorem d1_63 : decode method_3_code 63 = .ok (.if_icmp .ge 6, 3) := by decide +kernel
theorem d1_66 : decode method_3_code 66 = .ok (.bipush 8, 2) := by decide +kernel
theorem d1_68 : decode method_3_code 68 = .ok (.ireturn, 1) := by decide +kernel
theorem d1_69 : decode method_3_code 69 = .ok (.iload_n 0, 1) := by decide +kernel
theorem d1_70 : decode method_3_code 70 = .ok (.ldc 43, 2) := by decide +kernel
theorem d1_72 : decode method_3_code 72 = .ok (.if_icmp .ge 6, 3) := by decide +kernel
theorem d1_75 : decode method_3_code 75 = .ok (.bipush 9, 2) := by decide +kernel
theorem d1_77 : decode method_3_code 77 = .ok (.ireturn, 1) := by decide +kernel
theorem d1_78 : decode method_3_code 78 = .ok (.bipush 10, 2) := by decide +kernel
theorem d1_80 : decode method_3_code 80 = .ok (.ireturn, 1) := by decide +kernel
theorem pn_0 : plainName "com/example/oneiros/oneiros/cli/FrameTimeWriteSecondsPinLaw" = true := by first | (simp [plainName, overriddenIn]; done) | decide +kernel
theorem d2_0 : decode jdk_29_method_65_code 0 = .ok (.iload_n 0, 1) := by decide +kernel
theorem d2_1 : decode jdk_29_method_65_code 1 = .ok (.iload_n 1, 1) := by decide +kernel
theorem d2_2 : decode jdk_29_method_65_code 2 = .ok (.if_icmp .lt 7, 3) := by decide +kernel
theorem d2_5 : decode jdk_29_method_65_code 5 = .ok (.iload_n 0, 1) := by decide +kernel
theorem d2_6 : decode jdk_29_method_65_code 6 = .ok (.goto 4, 3) := by decide +kernel
theorem d2_9 : decode jdk_29_method_65_code 9 = .ok (.iload_n 1, 1) := by decide +kernel
theorem d2_10 : decode jdk_29_method_65_code 10 = .ok (.ireturn, 1) := by decide +kernel
theorem d3_0 : decode method_4_code 0 = .ok (.iload 4, 2) := by decide +kernel
theorem d3_2 : decode method_4_code 2 = .ok (.iload_n 3, 1) := by decide +kernel
theorem d3_3 : decode method_4_code 3 = .ok (.if_icmp .lt 4, 3) := by decide +kernel
theorem d3_6 : decode method_4_code 6 = .ok (.return_, 1) := by decide +kernel
theorem d3_7 : decode method_4_code 7 = .ok (.iload 4, 2) := by decide +kernel
theorem d3_9 : decode method_4_code 9 = .ok (.iload_n 3, 1) := by decide +kernel
theorem d3_10 : decode method_4_code 10 = .ok (.iconst 2, 1) := by decide +kernel
theorem d3_11 : decode method_4_code 11 = .ok (.isub, 1) := by decide +kernel
theorem d3_12 : decode method_4_code 12 = .ok (.if_icmp .ne 12, 3) := by decide +kernel
theorem d3_15 : decode method_4_code 15 = .ok (.aload_n 0, 1) := by decide +kernel
theorem d3_16 : decode method_4_code 16 = .ok (.iload_n 1, 1) := by decide +kernel
theorem d3_17 : decode method_4_code 17 = .ok (.iload 4, 2) := by decide +kernel
theorem d3_19 : decode method_4_code 19 = .ok (.iadd, 1) := by decide +kernel
theorem d3_20 : decode method_4_code 20 = .ok (.bipush 46, 2) := by decide +kernel
theorem d3_22 : decode method_4_code 22 = .ok (.castore, 1) := by decide +kernel
theorem d3_23 : decode method_4_code 23 = .ok (.return_, 1) := by decide +kernel
theorem d3_24 : decode method_4_code 24 = .ok (.iload 4, 2) := by decide +kernel
theorem d3_26 : decode method_4_code 26 = .ok (.iload_n 3, 1) := by decide +kernel
theorem d3_27 : decode method_4_code 27 = .ok (.iconst 1, 1) := by decide +kernel
theorem d3_28 : decode method_4_code 28 = .ok (.isub, 1) := by decide +kernel
theorem d3_29 : decode method_4_code 29 = .ok (.if_icmp .ne 7, 3) := by decide +kernel
theorem d3_32 : decode method_4_code 32 = .ok (.iconst 0, 1) := by decide +kernel
theorem d3_33 : decode method_4_code 33 = .ok (.goto 9, 3) := by decide +kernel
theorem d3_36 : decode method_4_code 36 = .ok (.iload_n 3, 1) := by decide +kernel
theorem d3_37 : decode method_4_code 37 = .ok (.iconst 2, 1) := by decide +kernel
theorem d3_38 : decode method_4_code 38 = .ok (.isub, 1) := by decide +kernel
theorem d3_39 : decode method_4_code 39 = .ok (.iload 4, 2) := by decide +kernel
theorem d3_41 : decode method_4_code 41 = .ok (.isub, 1) := by decide +kernel
theorem d3_42 : decode method_4_code 42 = .ok (.istore 5, 2) := by decide +kernel
theorem d3_44 : decode method_4_code 44 = .ok (.bipush 10, 2) := by decide +kernel
theorem d3_46 : decode method_4_code 46 = .ok (.newarray .long, 2) := by decide +kernel
theorem d3_48 : decode method_4_code 48 = .ok (.dup, 1) := by decide +kernel
theorem d3_49 : decode method_4_code 49 = .ok (.iconst 0, 1) := by decide +kernel
theorem d3_50 : decode method_4_code 50 = .ok (.lconst 1, 1) := by decide +kernel
theorem d3_51 : decode method_4_code 51 = .ok (.lastore, 1) := by decide +kernel
theorem d3_52 : decode method_4_code 52 = .ok (.dup, 1) := by decide +kernel
theorem d3_53 : decode method_4_code 53 = .ok (.iconst 1, 1) := by decide +kernel
theorem d3_54 : decode method_4_code 54 = .ok (.ldc2_w 44, 3) := by decide +kernel
theorem d3_57 : decode method_4_code 57 = .ok (.lastore, 1) := by decide +kernel
theorem d3_58 : decode method_4_code 58 = .ok (.dup, 1) := by decide +kernel
theorem d3_59 : decode method_4_code 59 = .ok (.iconst 2, 1) := by decide +kernel
theorem d3_60 : decode method_4_code 60 = .ok (.ldc2_w 46, 3) := by decide +kernel
theorem d3_63 : decode method_4_code 63 = .ok (.lastore, 1) := by decide +kernel
theorem d3_64 : decode method_4_code 64 = .ok (.dup, 1) := by decide +kernel
theorem d3_65 : decode method_4_code 65 = .ok (.iconst 3, 1) := by decide +kernel
theorem d3_66 : decode method_4_code 66 = .ok (.ldc2_w 48, 3) := by decide +kernel
theorem d3_69 : decode method_4_code 69 = .ok (.lastore, 1) := by decide +kernel
theorem d3_70 : decode method_4_code 70 = .ok (.dup, 1) := by decide +kernel
theorem d3_71 : decode method_4_code 71 = .ok (.iconst 4, 1) := by decide +kernel
theorem d3_72 : decode method_4_code 72 = .ok (.ldc2_w 50, 3) := by decide +kernel
theorem d3_75 : decode method_4_code 75 = .ok (.lastore, 1) := by decide +kernel
theorem d3_76 : decode method_4_code 76 = .ok (.dup, 1) := by decide +kernel
theorem d3_77 : decode method_4_code 77 = .ok (.iconst 5, 1) := by decide +kernel
theorem d3_78 : decode method_4_code 78 = .ok (.ldc2_w 52, 3) := by decide +kernel
theorem d3_81 : decode method_4_code 81 = .ok (.lastore, 1) := by decide +kernel
theorem d3_82 : decode method_4_code 82 = .ok (.dup, 1) := by decide +kernel
theorem d3_83 : decode method_4_code 83 = .ok (.bipush 6, 2) := by decide +kernel
theorem d3_85 : decode method_4_code 85 = .ok (.ldc2_w 54, 3) := by decide +kernel
theorem d3_88 : decode method_4_code 88 = .ok (.lastore, 1) := by decide +kernel
theorem d3_89 : decode method_4_code 89 = .ok (.dup, 1) := by decide +kernel
theorem d3_90 : decode method_4_code 90 = .ok (.bipush 7, 2) := by decide +kernel
theorem d3_92 : decode method_4_code 92 = .ok (.ldc2_w 56, 3) := by decide +kernel
theorem d3_95 : decode method_4_code 95 = .ok (.lastore, 1) := by decide +kernel
theorem d3_96 : decode method_4_code 96 = .ok (.dup, 1) := by decide +kernel
theorem d3_97 : decode method_4_code 97 = .ok (.bipush 8, 2) := by decide +kernel
theorem d3_99 : decode method_4_code 99 = .ok (.ldc2_w 58, 3) := by decide +kernel
theorem d3_102 : decode method_4_code 102 = .ok (.lastore, 1) := by decide +kernel
theorem d3_103 : decode method_4_code 103 = .ok (.dup, 1) := by decide +kernel
theorem d3_104 : decode method_4_code 104 = .ok (.bipush 9, 2) := by decide +kernel
theorem d3_106 : decode method_4_code 106 = .ok (.ldc2_w 60, 3) := by decide +kernel
theorem d3_109 : decode method_4_code 109 = .ok (.lastore, 1) := by decide +kernel
theorem d3_110 : decode method_4_code 110 = .ok (.astore 6, 2) := by decide +kernel
theorem d3_112 : decode method_4_code 112 = .ok (.aload 6, 2) := by decide +kernel
theorem d3_114 : decode method_4_code 114 = .ok (.iload 5, 2) := by decide +kernel
theorem d3_116 : decode method_4_code 116 = .ok (.laload, 1) := by decide +kernel
theorem d3_117 : decode method_4_code 117 = .ok (.lstore 7, 2) := by decide +kernel
theorem d3_119 : decode method_4_code 119 = .ok (.aload_n 0, 1) := by decide +kernel
theorem d3_120 : decode method_4_code 120 = .ok (.iload_n 1, 1) := by decide +kernel
theorem d3_121 : decode method_4_code 121 = .ok (.iload 4, 2) := by decide +kernel
theorem d3_123 : decode method_4_code 123 = .ok (.iadd, 1) := by decide +kernel
theorem d3_124 : decode method_4_code 124 = .ok (.bipush 48, 2) := by decide +kernel
theorem d3_126 : decode method_4_code 126 = .ok (.iload_n 2, 1) := by decide +kernel
theorem d3_127 : decode method_4_code 127 = .ok (.i2l, 1) := by decide +kernel
theorem d3_128 : decode method_4_code 128 = .ok (.lload 7, 2) := by decide +kernel
theorem d3_130 : decode method_4_code 130 = .ok (.ldiv, 1) := by decide +kernel
theorem d3_131 : decode method_4_code 131 = .ok (.ldc2_w 44, 3) := by decide +kernel
theorem d3_134 : decode method_4_code 134 = .ok (.lrem, 1) := by decide +kernel
theorem d3_135 : decode method_4_code 135 = .ok (.l2i, 1) := by decide +kernel
theorem d3_136 : decode method_4_code 136 = .ok (.iadd, 1) := by decide +kernel
theorem d3_137 : decode method_4_code 137 = .ok (.i2c, 1) := by decide +kernel
theorem d3_138 : decode method_4_code 138 = .ok (.castore, 1) := by decide +kernel
theorem d3_139 : decode method_4_code 139 = .ok (.return_, 1) := by decide +kernel
theorem d4_0 : decode prog_32_method_3_code 0 = .ok (.iload_n 2, 1) := by decide +kernel
theorem d4_1 : decode prog_32_method_3_code 1 = .ok (.i2l, 1) := by decide +kernel
theorem d4_2 : decode prog_32_method_3_code 2 = .ok (.getstatic 9, 3) := by decide +kernel
theorem d4_5 : decode prog_32_method_3_code 5 = .ok (.lmul, 1) := by decide +kernel
theorem d4_6 : decode prog_32_method_3_code 6 = .ok (.lstore_n 3, 1) := by decide +kernel
theorem d4_7 : decode prog_32_method_3_code 7 = .ok (.iconst 2, 1) := by decide +kernel
theorem d4_8 : decode prog_32_method_3_code 8 = .ok (.istore 5, 2) := by decide +kernel
theorem d4_10 : decode prog_32_method_3_code 10 = .ok (.lload_n 3, 1) := by decide +kernel
theorem d4_11 : decode prog_32_method_3_code 11 = .ok (.getstatic 19, 3) := by decide +kernel
theorem d4_14 : decode prog_32_method_3_code 14 = .ok (.i2l, 1) := by decide +kernel
theorem d4_15 : decode prog_32_method_3_code 15 = .ok (.ldiv, 1) := by decide +kernel
theorem d4_16 : decode prog_32_method_3_code 16 = .ok (.ldc2_w 23, 3) := by decide +kernel
theorem d4_19 : decode prog_32_method_3_code 19 = .ok (.ldiv, 1) := by decide +kernel
theorem d4_20 : decode prog_32_method_3_code 20 = .ok (.lstore 6, 2) := by decide +kernel
theorem d4_22 : decode prog_32_method_3_code 22 = .ok (.lload 6, 2) := by decide +kernel
theorem d4_24 : decode prog_32_method_3_code 24 = .ok (.lconst 0, 1) := by decide +kernel
theorem d4_25 : decode prog_32_method_3_code 25 = .ok (.lcmp, 1) := by decide +kernel
theorem d4_26 : decode prog_32_method_3_code 26 = .ok (.ifCond .le 17, 3) := by decide +kernel
theorem d4_29 : decode prog_32_method_3_code 29 = .ok (.iinc 5 1, 3) := by decide +kernel
theorem d4_32 : decode prog_32_method_3_code 32 = .ok (.lload 6, 2) := by decide +kernel
theorem d4_34 : decode prog_32_method_3_code 34 = .ok (.ldc2_w 23, 3) := by decide +kernel
theorem d4_37 : decode prog_32_method_3_code 37 = .ok (.ldiv, 1) := by decide +kernel
theorem d4_38 : decode prog_32_method_3_code 38 = .ok (.lstore 6, 2) := by decide +kernel
theorem d4_40 : decode prog_32_method_3_code 40 = .ok (.goto (-18), 3) := by decide +kernel
theorem d4_43 : decode prog_32_method_3_code 43 = .ok (.iinc 5 1, 3) := by decide +kernel
theorem d4_46 : decode prog_32_method_3_code 46 = .ok (.iload_n 1, 1) := by decide +kernel
theorem d4_47 : decode prog_32_method_3_code 47 = .ok (.iload 5, 2) := by decide +kernel
theorem d4_49 : decode prog_32_method_3_code 49 = .ok (.iadd, 1) := by decide +kernel
theorem d4_50 : decode prog_32_method_3_code 50 = .ok (.istore 6, 2) := by decide +kernel
theorem d4_52 : decode prog_32_method_3_code 52 = .ok (.iload 6, 2) := by decide +kernel
theorem d4_54 : decode prog_32_method_3_code 54 = .ok (.iconst 1, 1) := by decide +kernel
theorem d4_55 : decode prog_32_method_3_code 55 = .ok (.isub, 1) := by decide +kernel
theorem d4_56 : decode prog_32_method_3_code 56 = .ok (.iconst 1, 1) := by decide +kernel
theorem d4_57 : decode prog_32_method_3_code 57 = .ok (.isub, 1) := by decide +kernel
theorem d4_58 : decode prog_32_method_3_code 58 = .ok (.istore 7, 2) := by decide +kernel
theorem d4_60 : decode prog_32_method_3_code 60 = .ok (.lload_n 3, 1) := by decide +kernel
theorem d4_61 : decode prog_32_method_3_code 61 = .ok (.lstore 8, 2) := by decide +kernel
theorem d4_63 : decode prog_32_method_3_code 63 = .ok (.iload 6, 2) := by decide +kernel
theorem d4_65 : decode prog_32_method_3_code 65 = .ok (.iconst 1, 1) := by decide +kernel
theorem d4_66 : decode prog_32_method_3_code 66 = .ok (.isub, 1) := by decide +kernel
theorem d4_67 : decode prog_32_method_3_code 67 = .ok (.istore 10, 2) := by decide +kernel
theorem d4_69 : decode prog_32_method_3_code 69 = .ok (.iload 10, 2) := by decide +kernel
theorem d4_71 : decode prog_32_method_3_code 71 = .ok (.iload_n 1, 1) := by decide +kernel
theorem d4_72 : decode prog_32_method_3_code 72 = .ok (.if_icmp .lt 49, 3) := by decide +kernel
theorem d4_75 : decode prog_32_method_3_code 75 = .ok (.iload 10, 2) := by decide +kernel
theorem d4_77 : decode prog_32_method_3_code 77 = .ok (.iload 7, 2) := by decide +kernel
theorem d4_79 : decode prog_32_method_3_code 79 = .ok (.if_icmp .ne 12, 3) := by decide +kernel
theorem d4_82 : decode prog_32_method_3_code 82 = .ok (.aload_n 0, 1) := by decide +kernel
theorem d4_83 : decode prog_32_method_3_code 83 = .ok (.iload 10, 2) := by decide +kernel
theorem d4_85 : decode prog_32_method_3_code 85 = .ok (.bipush 46, 2) := by decide +kernel
theorem d4_87 : decode prog_32_method_3_code 87 = .ok (.castore, 1) := by decide +kernel
theorem d4_88 : decode prog_32_method_3_code 88 = .ok (.goto 27, 3) := by decide +kernel
theorem d4_91 : decode prog_32_method_3_code 91 = .ok (.aload_n 0, 1) := by decide +kernel
theorem d4_92 : decode prog_32_method_3_code 92 = .ok (.iload 10, 2) := by decide +kernel
theorem d4_94 : decode prog_32_method_3_code 94 = .ok (.ldc2_w 25, 3) := by decide +kernel
theorem d4_97 : decode prog_32_method_3_code 97 = .ok (.lload 8, 2) := by decide +kernel
theorem d4_99 : decode prog_32_method_3_code 99 = .ok (.ldc2_w 23, 3) := by decide +kernel
theorem d4_102 : decode prog_32_method_3_code 102 = .ok (.lrem, 1) := by decide +kernel
theorem d4_103 : decode prog_32_method_3_code 103 = .ok (.ladd, 1) := by decide +kernel
theorem d4_104 : decode prog_32_method_3_code 104 = .ok (.l2i, 1) := by decide +kernel
theorem d4_105 : decode prog_32_method_3_code 105 = .ok (.i2c, 1) := by decide +kernel
theorem d4_106 : decode prog_32_method_3_code 106 = .ok (.castore, 1) := by decide +kernel
theorem d4_107 : decode prog_32_method_3_code 107 = .ok (.lload 8, 2) := by decide +kernel
theorem d4_109 : decode prog_32_method_3_code 109 = .ok (.ldc2_w 23, 3) := by decide +kernel
theorem d4_112 : decode prog_32_method_3_code 112 = .ok (.ldiv, 1) := by decide +kernel
theorem d4_113 : decode prog_32_method_3_code 113 = .ok (.lstore 8, 2) := by decide +kernel
theorem d4_115 : decode prog_32_method_3_code 115 = .ok (.iinc 10 (-1), 3) := by decide +kernel
theorem d4_118 : decode prog_32_method_3_code 118 = .ok (.goto (-49), 3) := by decide +kernel
theorem d4_121 : decode prog_32_method_3_code 121 = .ok (.iload 6, 2) := by decide +kernel
theorem d4_123 : decode prog_32_method_3_code 123 = .ok (.ireturn, 1) := by decide +kernel
theorem pn_1 : plainName "com/example/oneiros/oneiros/cli/FrameTime" = true := by first | (simp [plainName, overriddenIn]; done) | decide +kernel
theorem pd_0 : parseMethodDescriptor "(I)I" = some ⟨[.int], some .int⟩ := by decide +kernel
theorem pd_1 : parseMethodDescriptor "(II)I" = some ⟨[.int, .int], some .int⟩ := by decide +kernel
theorem pd_2 : parseMethodDescriptor "([CIIII)V" = some ⟨[(.array .char), .int, .int, .int, .int], none⟩ := by decide +kernel
theorem pd_3 : parseMethodDescriptor "([CII)I" = some ⟨[(.array .char), .int, .int], some .int⟩ := by decide +kernel
theorem pd_4 : parseMethodDescriptor "([C)V" = some ⟨[(.array .char)], none⟩ := by decide +kernel
theorem pd_5 : parseMethodDescriptor "(Ljava/lang/Object;)Z" = some ⟨[(.object "java/lang/Object")], some .boolean⟩ := by decide +kernel
open Jvm.Free.XT (lt32 nlt32 ne32 sub32n add32n n32)
def digI (x : Int32) : Int32 := if x < 10 then 1 else if x < 100 then 2 else if x < 1000 then 3 else if x < 10000 then 4 else if x < 100000 then 5 else if x < 1000000 then 6 else if x < 10000000 then 7 else if x < 100000000 then 8 else if x < 1000000000 then 9 else 10
def dig (n : Nat) : Nat := if n < 10 then 1 else if n < 100 then 2 else if n < 1000 then 3 else if n < 10000 then 4 else if n < 100000 then 5 else if n < 1000000 then 6 else if n < 10000000 then 7 else if n < 100000000 then 8 else if n < 1000000000 then 9 else 10
theorem ltN {n k : Nat} (hn : n < 2147483648) (hk : k < 2147483648) : (Int32.ofNat n < Int32.ofNat k) = (n < k) := by
  apply propext
  exact ⟨fun h => Nat.lt_of_not_le fun q => nlt32 hn q h, fun h => lt32 hk h⟩
theorem dig_nat {n : Nat} (h : n < 2147483648) : digI (Int32.ofNat n) = Int32.ofNat (dig n) := by
  have q : ∀ k : Nat, k < 2147483648 → (Int32.ofNat n < Int32.ofNat k) = (n < k) := fun k hk => ltN h hk
  have e1 := q 10 (by decide); have e2 := q 100 (by decide); have e3 := q 1000 (by decide); have e4 := q 10000 (by decide); have e5 := q 100000 (by decide); have e6 := q 1000000 (by decide); have e7 := q 10000000 (by decide); have e8 := q 100000000 (by decide); have e9 := q 1000000000 (by decide)
  unfold digI dig
  show (if Int32.ofNat n < Int32.ofNat 10 then (1 : Int32) else if Int32.ofNat n < Int32.ofNat 100 then 2 else if Int32.ofNat n < Int32.ofNat 1000 then 3 else if Int32.ofNat n < Int32.ofNat 10000 then 4 else if Int32.ofNat n < Int32.ofNat 100000 then 5 else if Int32.ofNat n < Int32.ofNat 1000000 then 6 else if Int32.ofNat n < Int32.ofNat 10000000 then 7 else if Int32.ofNat n < Int32.ofNat 100000000 then 8 else if Int32.ofNat n < Int32.ofNat 1000000000 then 9 else 10) = _
  simp only [e1, e2, e3, e4, e5, e6, e7, e8, e9]
  repeat' split
  all_goals rfl
theorem dig_b (n : Nat) : 1 ≤ dig n ∧ dig n ≤ 10 := by unfold dig; repeat' split
                                                       all_goals omega
/-- the digits beyond the second -/
def nd (n : Nat) : Nat := if n = 0 then 0 else 1 + nd (n / 10)
theorem nd_0 : nd 0 = 0 := by rw [nd]; rfl
theorem nd_s {n : Nat} (h : 0 < n) : nd n = 1 + nd (n / 10) := by rw [nd, if_neg (by omega)]
theorem nd_dig {n : Nat} (h : n < 2147483648) : 2 + nd (n / 10 / 10) = max (dig n) 2 := by
  have s0 : ∀ m, m = 0 → nd m = 0 := fun m e => by rw [e, nd_0]
  unfold dig
  by_cases c2 : n < 100
  · rw [s0 _ (by omega)]; split <;> first | rfl | (rw [if_pos c2]; rfl)
  rw [if_neg (by omega), if_neg c2, nd_s (by omega)]
  by_cases c3 : n < 1000
  · rw [if_pos c3, s0 _ (by omega)]; rfl
  rw [if_neg c3, nd_s (by omega)]
  by_cases c4 : n < 10000
  · rw [if_pos c4, s0 _ (by omega)]; rfl
  rw [if_neg c4, nd_s (by omega)]
  by_cases c5 : n < 100000
  · rw [if_pos c5, s0 _ (by omega)]; rfl
  rw [if_neg c5, nd_s (by omega)]
  by_cases c6 : n < 1000000
  · rw [if_pos c6, s0 _ (by omega)]; rfl
  rw [if_neg c6, nd_s (by omega)]
  by_cases c7 : n < 10000000
  · rw [if_pos c7, s0 _ (by omega)]; rfl
  rw [if_neg c7, nd_s (by omega)]
  by_cases c8 : n < 100000000
  · rw [if_pos c8, s0 _ (by omega)]; rfl
  rw [if_neg c8, nd_s (by omega)]
  by_cases c9 : n < 1000000000
  · rw [if_pos c9, s0 _ (by omega)]; rfl
  rw [if_neg c9, nd_s (by omega), s0 _ (by omega)]; rfl
def ushortC (x : Int32) : Int32 := nar .char (x.toUInt32.toUInt16.toUInt32.toInt32)
theorem ch_nat : ∀ k : Fin 256, nar .char ((Int32.ofNat k.val).toUInt32.toUInt16.toUInt32.toInt32) = Int32.ofNat k.val := by decide +kernel
theorem ch_of {k : Nat} (h : k < 256) : nar .char ((Int32.ofNat k).toUInt32.toUInt16.toUInt32.toInt32) = Int32.ofNat k := ch_nat ⟨k, h⟩
theorem l_of {n : Nat} (h : n < 2147483648) : (Int32.ofNat n).toInt64 = Int64.ofNat n := by
  apply Int64.toInt_inj.mp
  rw [Int32.toInt_toInt64, Int32.toInt_ofNat_of_lt (by omega), Int64.toInt_ofNat_of_lt (by omega)]
theorem L_div {a b : Nat} (ha : a < 2147483648) (hb : b < 2147483648) : Int64.ofNat a / Int64.ofNat b = Int64.ofNat (a / b) := by
  apply Int64.toInt_inj.mp
  have hd : a / b ≤ a := Nat.div_le_self a b
  rw [Int64.toInt_div, Int64.toInt_ofNat_of_lt (by omega), Int64.toInt_ofNat_of_lt (by omega), Int64.toInt_ofNat_of_lt (by omega), ← Int.ofNat_tdiv]
  generalize a / b = q at hd ⊢
  exact Int.bmod_eq_of_le (by omega) (by omega)
theorem L_rem {a b : Nat} (ha : a < 2147483648) (hb : b < 2147483648) : Int64.ofNat a % Int64.ofNat b = Int64.ofNat (a % b) := by
  apply Int64.toInt_inj.mp
  have hd : a % b ≤ a := Nat.mod_le a b
  rw [Int64.toInt_mod, Int64.toInt_ofNat_of_lt (by omega), Int64.toInt_ofNat_of_lt (by omega), Int64.toInt_ofNat_of_lt (by omega)]
  exact (Int.ofNat_tmod a b).symm
theorem L_add {a b : Nat} (ha : a < 2147483648) (hb : b < 2147483648) : Int64.ofNat a + Int64.ofNat b = Int64.ofNat (a + b) := (Int64.ofNat_add a b).symm
theorem L_int {a : Nat} (ha : a < 2147483648) : (Int64.ofNat a).toInt32 = Int32.ofNat a := by
  apply Int32.toInt_inj.mp
  rw [Int64.toInt_toInt32, Int64.toInt_ofNat_of_lt (by omega), Int32.toInt_ofNat_of_lt (by omega)]
  exact Int.bmod_eq_of_le (by omega) (by omega)
theorem L_ne {b : Nat} (hb : b < 2147483648) (h : 0 < b) : ¬ Int64.ofNat b = (0 : Int64) := fun e => by
  have q := congrArg Int64.toInt e
  rw [Int64.toInt_ofNat_of_lt (by omega)] at q
  have : (0 : Int64).toInt = 0 := rfl
  omega
/-- the sign at place i of a written time -/
def gch (A F Ln i : Nat) : Nat := if i = A + Ln - 2 then 46 else if i = A + Ln - 1 then 48 + F % 10 else 48 + F / 10 ^ (A + Ln - 2 - i) % 10
theorem gch_b (A F Ln i : Nat) : gch A F Ln i < 256 := by unfold gch; repeat' split
                                                          all_goals omega
def ascL (A F Ln k : Nat) : List Int32 := (List.range 20).map fun i => if A ≤ i ∧ i < A + k ∧ i < A + Ln then Int32.ofNat (gch A F Ln i) else 0
def desL (A F Ln k : Nat) : List Int32 := (List.range 20).map fun i => if A + k ≤ i ∧ i < A + Ln then Int32.ofNat (gch A F Ln i) else 0
theorem zeros20 : (List.range 20).map (fun _ => (0 : Int32)) = List.replicate 20 0 := by decide +kernel
theorem asc_0 (A F Ln : Nat) : ascL A F Ln 0 = List.replicate 20 0 := by
  rw [← zeros20]; unfold ascL
  exact List.map_congr_left fun i _ => if_neg (by omega)
theorem des_0 (A F Ln : Nat) : desL A F Ln Ln = List.replicate 20 0 := by
  rw [← zeros20]; unfold desL
  exact List.map_congr_left fun i _ => if_neg (by omega)
theorem asc_des {A F Ln : Nat} (h : Ln ≤ 11) : ascL A F Ln 11 = desL A F Ln 0 := by
  unfold ascL desL
  exact List.map_congr_left fun i _ => by
    by_cases q : A + 0 ≤ i ∧ i < A + Ln
    · rw [if_pos q, if_pos (by omega)]
    · rw [if_neg q, if_neg (by omega)]
theorem set_map (f : Nat → Int32) {n k : Nat} (v : Int32) (hk : k < n) : (((List.range n).map f).map Value.int).set k (.int v) = ((List.range n).map fun i => if i = k then v else f i).map Value.int := by
  apply List.ext_getElem
  · simp
  · intro i h1 h2
    simp only [List.getElem_set, List.getElem_map, List.getElem_range]
    by_cases q : k = i
    · rw [if_pos q, if_pos q.symm]
    · rw [if_neg q, if_neg (Ne.symm q)]
theorem asc_len (A F Ln k : Nat) : (ascL A F Ln k).length = 20 := by simp [ascL]
theorem des_len (A F Ln k : Nat) : (desL A F Ln k).length = 20 := by simp [desL]
theorem asc_set {A F Ln k : Nat} (hA : A < 8) (hk : k ≤ 10) (hl : k < Ln) : ((ascL A F Ln k).map Value.int).set (A + k) (.int (Int32.ofNat (gch A F Ln (A + k)))) = (ascL A F Ln (k + 1)).map Value.int := by
  unfold ascL
  rw [set_map _ _ (by omega)]
  congr 1
  exact List.map_congr_left fun i _ => by
    by_cases q : i = A + k
    · rw [if_pos q, if_pos (by omega), q]
    · rw [if_neg q]
      by_cases r : A ≤ i ∧ i < A + k ∧ i < A + Ln
      · rw [if_pos r, if_pos (by omega)]
      · rw [if_neg r, if_neg (by omega)]
theorem asc_same {A F Ln k : Nat} (hl : Ln ≤ k) : ascL A F Ln (k + 1) = ascL A F Ln k := by
  unfold ascL
  exact List.map_congr_left fun i _ => by
    by_cases r : A ≤ i ∧ i < A + k ∧ i < A + Ln
    · rw [if_pos r, if_pos (by omega)]
    · rw [if_neg r, if_neg (by omega)]
theorem des_set {A F Ln k : Nat} (hA : A < 8) (hk : k < Ln) (hl : Ln ≤ 11) : ((desL A F Ln (k + 1)).map Value.int).set (A + k) (.int (Int32.ofNat (gch A F Ln (A + k)))) = (desL A F Ln k).map Value.int := by
  unfold desL
  rw [set_map _ _ (by omega)]
  congr 1
  exact List.map_congr_left fun i _ => by
    by_cases q : i = A + k
    · rw [if_pos q, if_pos (by omega), q]
    · rw [if_neg q]
      by_cases r : A + (k + 1) ≤ i ∧ i < A + Ln
      · rw [if_pos r, if_pos (by omega)]
      · rw [if_neg r, if_neg (by omega)]
theorem des_p (A F Ln k : Nat) : ∀ c ∈ desL A F Ln k, ¬ c < 0 ∧ ¬ (255 : Int32) < c := fun c hc => by
  unfold desL at hc
  obtain ⟨i, -, rfl⟩ := List.mem_map.mp hc
  split
  · exact (by decide +kernel : ∀ k : Fin 256, ¬ Int32.ofNat k.val < 0 ∧ ¬ (255 : Int32) < Int32.ofNat k.val) ⟨gch A F Ln i, gch_b _ _ _ _⟩
  · decide
def powV : List Value := [(.long (1 : Int64)), (.long (10 : Int64)), (.long (100 : Int64)), (.long (1000 : Int64)), (.long (10000 : Int64)), (.long (100000 : Int64)), (.long (1000000 : Int64)), (.long (10000000 : Int64)), (.long (100000000 : Int64)), (.long (1000000000 : Int64))]
theorem pow_at : ∀ E : Fin 10, powV.getD (Int32.ofNat E.val).toNatClampNeg (.long (0 : Int64)) = .long (Int64.ofNat (10 ^ E.val)) := by decide +kernel
theorem pow_b : ∀ E : Fin 10, 0 < 10 ^ E.val ∧ 10 ^ E.val < 2147483648 := by decide +kernel
theorem sub2 {n : Nat} (h : 2 ≤ n) : Int32.ofNat n - (2 : Int32) = Int32.ofNat (n - 2) := sub32n (b := 2) h
theorem sub1 {n : Nat} (h : 1 ≤ n) : Int32.ofNat n - (1 : Int32) = Int32.ofNat (n - 1) := sub32n (b := 1) h
theorem L_div10 {a : Nat} (ha : a < 2147483648) : Int64.ofNat a / (10 : Int64) = Int64.ofNat (a / 10) := L_div (b := 10) ha (by decide)
theorem L_rem10 {a : Nat} (ha : a < 2147483648) : Int64.ofNat a % (10 : Int64) = Int64.ofNat (a % 10) := L_rem (b := 10) ha (by decide)
theorem L_48 (a : Nat) (ha : a < 2147483648) : (48 : Int64) + Int64.ofNat a = Int64.ofNat (48 + a) := L_add (a := 48) (by decide) ha
theorem I_48 (a : Nat) : (48 : Int32) + Int32.ofNat a = Int32.ofNat (48 + a) := add32n 48 a
theorem L_pos {q : Nat} (h : q < 2147483648) (h' : 0 < q) : ¬ lcmpW (Int64.ofNat q) (0 : Int64) ≤ 0 := by
  rw [Int32.not_le, lw_gt, Int64.lt_iff_toInt_lt, Int64.toInt_ofNat_of_lt (by omega)]
  have : (0 : Int64).toInt = 0 := rfl
  omega
theorem down (n : Nat) : (Int32.ofNat (n + 1) - (1 : Int32)) + (-1 : Int32) = Int32.ofNat n - (1 : Int32) := by
  rw [sub1 (by omega)]
  show Int32.ofNat n + (-1 : Int32) = _
  rw [Int32.sub_eq_add_neg]
theorem sign_of {A F Ln k r : Nat} (hL : 3 ≤ Ln) (h2 : ¬ k = Ln - 2) (hk : k + 1 ≤ Ln) (hrr : (k + 1 = Ln → r = F) ∧ (k + 1 + 1 = Ln → r = F / 10) ∧ (k + 1 + 1 < Ln → r = F / 10 ^ (Ln - 1 - (k + 1)))) : 48 + r % 10 = gch A F Ln (A + k) := by
  unfold gch
  rw [if_neg (by omega)]
  by_cases h : k + 1 = Ln
  · rw [if_pos (by omega), hrr.1 h]
  · rw [if_neg (by omega), hrr.2.2 (by omega), show Ln - 1 - (k + 1) = A + Ln - 2 - (A + k) by omega]
theorem rem_of {F Ln k r : Nat} (hL : 3 ≤ Ln) (h2 : ¬ k = Ln - 2) (hk : k + 1 ≤ Ln) (hrr : (k + 1 = Ln → r = F) ∧ (k + 1 + 1 = Ln → r = F / 10) ∧ (k + 1 + 1 < Ln → r = F / 10 ^ (Ln - 1 - (k + 1)))) : (k = Ln → r / 10 = F) ∧ (k + 1 = Ln → r / 10 = F / 10) ∧ (k + 1 < Ln → r / 10 = F / 10 ^ (Ln - 1 - k)) := by
  refine ⟨fun q => absurd q (by omega), fun q => by rw [hrr.1 q], fun q => ?_⟩
  rw [hrr.2.2 (by omega), Nat.div_div_eq_div_mul, show Ln - 1 - k = (Ln - 1 - (k + 1)) + 1 by omega, Nat.pow_succ]
def Q_rm1 (Z : State) (p1 : Int32) (h0 : Heap) (n0 : Nat) : Option Value → Heap → List Loc → Prop := fun v h L => v = some (.int (digI p1)) ∧ Fr n0 L ∧ h = h0
set_option maxRecDepth 65536 in
set_option maxHeartbeats 40000000 in
theorem rm1 (l : Launch) (Z : State) (a0 : Array Value) (hw : ∀ d ∈ tables_1, d.before a0 Z = true) (ws : List Jvm.Cond) (p1 : Int32) (h0 : Heap) (n0 : Nat)  :
    MetFree l (⟨"com/example/oneiros/oneiros/cli/FrameTimeWriteSecondsPinLaw", "digits", "(I)I"⟩ : MethodName) (head1 (Jvm.Cond.code (⟨"com/example/oneiros/oneiros/cli/FrameTimeWriteSecondsPinLaw", "digits", "(I)I"⟩ : MethodName) method_3_code 1 (some .int) :: ws) ({ frames := 0, cells := 0, slots := 0, locals := 0 } : Room)) (fun a U => a = #[(.int p1)] ∧ Z.Warmed39 U.vm ∧ U.heap = h0) (fun _ _ _ _ _ => True) (fun _ U o U' => ∃ v L, o = .returned v ∧ Q_rm1 Z p1 h0 n0 v U'.heap L ∧ FrameEnd U o U' L ({ frames := 0, cells := 0, slots := 0, locals := 0 } : Room).cells ({ frames := 0, cells := 0, slots := 0, locals := 0 } : Room).slots) := by
  refine MetFree.of_bodySF (plainFor_of_name pn_0) hisR ?_
  intro p e s m args below meth c s₁ Bd hml0 hP hK
  obtain ⟨rfl, hZ, hh⟩ := hP
  have hx := Bd.exec
  have hby := Bd.bytes
  have hml : c.maxLocals = 1 := hml0
  have hown : s.vm.findClass "com/example/oneiros/oneiros/cli/FrameTimeWriteSecondsPinLaw" = some m.cls := findClass_of_methodNamed Bd.named
  have hnm := (name_of_methodNamed Bd.named Bd.method).1
  have X0 : Stand p l e ({ frames := 0, cells := 0, slots := 0, locals := 0 } : Room) s m #[(.int p1)] below meth c s₁ [] 0 0 := Stand.of_body Bd
  have e0 : s₁.heap = h0 := by rw [← hh, Bd.state]; rfl
  have N0 := Fr.nil n0
  have ef : entryFrame m #[(.int p1)] 1 = (mkF m 0 #[.val (.int p1)] []) := by first | rfl | (simp [entryFrame, mkF, argsToLocals, Value.category, maxLocals]; done)
  show Go p e below (End (fun v h L => v = some (.int (digI p1)) ∧ Fr n0 L ∧ h = h0) s 0 0) (s₁.setTop (entryFrame m #[(.int p1)] 1))
  rw [ef]
  show Go p e below _ (s₁.setTop (mkF m 0 #[.val (.int p1)] []))
  show Go p e below _ (s₁.setTop (mkF m 0 #[.val (.int p1)] []))
  refine Go.by (fun t => XS.iloadN X0.here hx rfl (hb hby d1_0) rfl ) ?_
  show Go p e below _ (s₁.setTop (mkF m 1 #[.val (.int p1)] [(.int p1)]))
  refine Go.by (fun t => XS.bipush X0.here hx rfl (hb hby d1_1)) ?_
  show Go p e below _ (s₁.setTop (mkF m 3 #[.val (.int p1)] [(.int (10 : Int32)), (.int p1)]))
  by_cases hc3 : p1 < (10 : Int32)
  · -- hc3 True
    refine Go.by (fun t => XS.icmpNo X0.here hx rfl (hb hby d1_3) rfl (tlt (hc3 : p1 < (10 : Int32))).2.1) ?_
    show Go p e below _ (s₁.setTop (mkF m 6 #[.val (.int p1)] []))
    show Go p e below _ (s₁.setTop (mkF m 6 #[.val (.int p1)] []))
    refine Go.by (fun t => XS.iconst X0.here hx rfl (hb hby d1_6)) ?_
    show Go p e below _ (s₁.setTop (mkF m 7 #[.val (.int p1)] [(.int (1 : Int32))]))
    exact Go.ret1 X0 hx Bd.returns Bd.notSynchronized rfl (Or.inl ⟨rfl, by simp, _, rfl⟩) (hb hby d1_7) (by decide) (by decide) (by first | (rw [e0]; exact ⟨by rw [digI, if_pos hc3], N0, rfl⟩) | exact ⟨by rw [digI, if_pos hc3], N0, rfl⟩)
  · -- hc3 False
    refine Go.by (fun t => XS.icmpYes X0.here hx rfl (pc0 := 3) (pc' := 8) rfl (hb hby d1_3) rfl (flt (hc3 : ¬ (p1 < (10 : Int32)))).2.1 (by decide) (by decide)) ?_
    show Go p e below _ (s₁.setTop (mkF m 8 #[.val (.int p1)] []))
    show Go p e below _ (s₁.setTop (mkF m 8 #[.val (.int p1)] []))
    refine Go.by (fun t => XS.iloadN X0.here hx rfl (hb hby d1_8) rfl ) ?_
    show Go p e below _ (s₁.setTop (mkF m 9 #[.val (.int p1)] [(.int p1)]))
    refine Go.by (fun t => XS.bipush X0.here hx rfl (hb hby d1_9)) ?_
    show Go p e below _ (s₁.setTop (mkF m 11 #[.val (.int p1)] [(.int (100 : Int32)), (.int p1)]))
    by_cases hc11 : p1 < (100 : Int32)
    · -- hc11 True
      refine Go.by (fun t => XS.icmpNo X0.here hx rfl (hb hby d1_11) rfl (tlt (hc11 : p1 < (100 : Int32))).2.1) ?_
      show Go p e below _ (s₁.setTop (mkF m 14 #[.val (.int p1)] []))
      show Go p e below _ (s₁.setTop (mkF m 14 #[.val (.int p1)] []))
      refine Go.by (fun t => XS.iconst X0.here hx rfl (hb hby d1_14)) ?_
      show Go p e below _ (s₁.setTop (mkF m 15 #[.val (.int p1)] [(.int (2 : Int32))]))
      exact Go.ret1 X0 hx Bd.returns Bd.notSynchronized rfl (Or.inl ⟨rfl, by simp, _, rfl⟩) (hb hby d1_15) (by decide) (by decide) (by first | (rw [e0]; exact ⟨by rw [digI, if_neg hc3, if_pos hc11], N0, rfl⟩) | exact ⟨by rw [digI, if_neg hc3, if_pos hc11], N0, rfl⟩)
    · -- hc11 False
      refine Go.by (fun t => XS.icmpYes X0.here hx rfl (pc0 := 11) (pc' := 16) rfl (hb hby d1_11) rfl (flt (hc11 : ¬ (p1 < (100 : Int32)))).2.1 (by decide) (by decide)) ?_
      show Go p e below _ (s₁.setTop (mkF m 16 #[.val (.int p1)] []))
      show Go p e below _ (s₁.setTop (mkF m 16 #[.val (.int p1)] []))
      refine Go.by (fun t => XS.iloadN X0.here hx rfl (hb hby d1_16) rfl ) ?_
      show Go p e below _ (s₁.setTop (mkF m 17 #[.val (.int p1)] [(.int p1)]))
      refine Go.by (fun t => XS.sipush X0.here hx rfl (hb hby d1_17)) ?_
      show Go p e below _ (s₁.setTop (mkF m 20 #[.val (.int p1)] [(.int (1000 : Int32)), (.int p1)]))
      by_cases hc20 : p1 < (1000 : Int32)
      · -- hc20 True
        refine Go.by (fun t => XS.icmpNo X0.here hx rfl (hb hby d1_20) rfl (tlt (hc20 : p1 < (1000 : Int32))).2.1) ?_
        show Go p e below _ (s₁.setTop (mkF m 23 #[.val (.int p1)] []))
        show Go p e below _ (s₁.setTop (mkF m 23 #[.val (.int p1)] []))
        refine Go.by (fun t => XS.iconst X0.here hx rfl (hb hby d1_23)) ?_
        show Go p e below _ (s₁.setTop (mkF m 24 #[.val (.int p1)] [(.int (3 : Int32))]))
        exact Go.ret1 X0 hx Bd.returns Bd.notSynchronized rfl (Or.inl ⟨rfl, by simp, _, rfl⟩) (hb hby d1_24) (by decide) (by decide) (by first | (rw [e0]; exact ⟨by rw [digI, if_neg hc3, if_neg hc11, if_pos hc20], N0, rfl⟩) | exact ⟨by rw [digI, if_neg hc3, if_neg hc11, if_pos hc20], N0, rfl⟩)
      · -- hc20 False
        refine Go.by (fun t => XS.icmpYes X0.here hx rfl (pc0 := 20) (pc' := 25) rfl (hb hby d1_20) rfl (flt (hc20 : ¬ (p1 < (1000 : Int32)))).2.1 (by decide) (by decide)) ?_
        show Go p e below _ (s₁.setTop (mkF m 25 #[.val (.int p1)] []))
        show Go p e below _ (s₁.setTop (mkF m 25 #[.val (.int p1)] []))
        refine Go.by (fun t => XS.iloadN X0.here hx rfl (hb hby d1_25) rfl ) ?_
        show Go p e below _ (s₁.setTop (mkF m 26 #[.val (.int p1)] [(.int p1)]))
        refine Go.by (fun t => XS.sipush X0.here hx rfl (hb hby d1_26)) ?_
        show Go p e below _ (s₁.setTop (mkF m 29 #[.val (.int p1)] [(.int (10000 : Int32)), (.int p1)]))
        by_cases hc29 : p1 < (10000 : Int32)
        · -- hc29 True
          refine Go.by (fun t => XS.icmpNo X0.here hx rfl (hb hby d1_29) rfl (tlt (hc29 : p1 < (10000 : Int32))).2.1) ?_
          show Go p e below _ (s₁.setTop (mkF m 32 #[.val (.int p1)] []))
          show Go p e below _ (s₁.setTop (mkF m 32 #[.val (.int p1)] []))
          refine Go.by (fun t => XS.iconst X0.here hx rfl (hb hby d1_32)) ?_
          show Go p e below _ (s₁.setTop (mkF m 33 #[.val (.int p1)] [(.int (4 : Int32))]))
          exact Go.ret1 X0 hx Bd.returns Bd.notSynchronized rfl (Or.inl ⟨rfl, by simp, _, rfl⟩) (hb hby d1_33) (by decide) (by decide) (by first | (rw [e0]; exact ⟨by rw [digI, if_neg hc3, if_neg hc11, if_neg hc20, if_pos hc29], N0, rfl⟩) | exact ⟨by rw [digI, if_neg hc3, if_neg hc11, if_neg hc20, if_pos hc29], N0, rfl⟩)
        · -- hc29 False
          refine Go.by (fun t => XS.icmpYes X0.here hx rfl (pc0 := 29) (pc' := 34) rfl (hb hby d1_29) rfl (flt (hc29 : ¬ (p1 < (10000 : Int32)))).2.1 (by decide) (by decide)) ?_
          show Go p e below _ (s₁.setTop (mkF m 34 #[.val (.int p1)] []))
          show Go p e below _ (s₁.setTop (mkF m 34 #[.val (.int p1)] []))
          refine Go.by (fun t => XS.iloadN X0.here hx rfl (hb hby d1_34) rfl ) ?_
          show Go p e below _ (s₁.setTop (mkF m 35 #[.val (.int p1)] [(.int p1)]))
          refine Go.by (fun t => X0.ldcInt hx hown (mvT hZ (hw _ (List.mem_of_getElem? (i := 72) rfl))) (g := (mkF m 35 #[.val (.int p1)] [(.int p1)])) rfl (hb hby d1_35) t) ?_
          show Go p e below _ (s₁.setTop (mkF m 37 #[.val (.int p1)] [(.int (100000 : Int32)), (.int p1)]))
          show Go p e below _ (s₁.setTop (mkF m 37 #[.val (.int p1)] [(.int (100000 : Int32)), (.int p1)]))
          by_cases hc37 : p1 < (100000 : Int32)
          · -- hc37 True
            refine Go.by (fun t => XS.icmpNo X0.here hx rfl (hb hby d1_37) rfl (tlt (hc37 : p1 < (100000 : Int32))).2.1) ?_
            show Go p e below _ (s₁.setTop (mkF m 40 #[.val (.int p1)] []))
            show Go p e below _ (s₁.setTop (mkF m 40 #[.val (.int p1)] []))
            refine Go.by (fun t => XS.iconst X0.here hx rfl (hb hby d1_40)) ?_
            show Go p e below _ (s₁.setTop (mkF m 41 #[.val (.int p1)] [(.int (5 : Int32))]))
            exact Go.ret1 X0 hx Bd.returns Bd.notSynchronized rfl (Or.inl ⟨rfl, by simp, _, rfl⟩) (hb hby d1_41) (by decide) (by decide) (by first | (rw [e0]; exact ⟨by rw [digI, if_neg hc3, if_neg hc11, if_neg hc20, if_neg hc29, if_pos hc37], N0, rfl⟩) | exact ⟨by rw [digI, if_neg hc3, if_neg hc11, if_neg hc20, if_neg hc29, if_pos hc37], N0, rfl⟩)
          · -- hc37 False
            refine Go.by (fun t => XS.icmpYes X0.here hx rfl (pc0 := 37) (pc' := 42) rfl (hb hby d1_37) rfl (flt (hc37 : ¬ (p1 < (100000 : Int32)))).2.1 (by decide) (by decide)) ?_
            show Go p e below _ (s₁.setTop (mkF m 42 #[.val (.int p1)] []))
            show Go p e below _ (s₁.setTop (mkF m 42 #[.val (.int p1)] []))
            refine Go.by (fun t => XS.iloadN X0.here hx rfl (hb hby d1_42) rfl ) ?_
            show Go p e below _ (s₁.setTop (mkF m 43 #[.val (.int p1)] [(.int p1)]))
            refine Go.by (fun t => X0.ldcInt hx hown (mvT hZ (hw _ (List.mem_of_getElem? (i := 73) rfl))) (g := (mkF m 43 #[.val (.int p1)] [(.int p1)])) rfl (hb hby d1_43) t) ?_
            show Go p e below _ (s₁.setTop (mkF m 45 #[.val (.int p1)] [(.int (1000000 : Int32)), (.int p1)]))
            show Go p e below _ (s₁.setTop (mkF m 45 #[.val (.int p1)] [(.int (1000000 : Int32)), (.int p1)]))
            by_cases hc45 : p1 < (1000000 : Int32)
            · -- hc45 True
              refine Go.by (fun t => XS.icmpNo X0.here hx rfl (hb hby d1_45) rfl (tlt (hc45 : p1 < (1000000 : Int32))).2.1) ?_
              show Go p e below _ (s₁.setTop (mkF m 48 #[.val (.int p1)] []))
              show Go p e below _ (s₁.setTop (mkF m 48 #[.val (.int p1)] []))
              refine Go.by (fun t => XS.bipush X0.here hx rfl (hb hby d1_48)) ?_
              show Go p e below _ (s₁.setTop (mkF m 50 #[.val (.int p1)] [(.int (6 : Int32))]))
              exact Go.ret1 X0 hx Bd.returns Bd.notSynchronized rfl (Or.inl ⟨rfl, by simp, _, rfl⟩) (hb hby d1_50) (by decide) (by decide) (by first | (rw [e0]; exact ⟨by rw [digI, if_neg hc3, if_neg hc11, if_neg hc20, if_neg hc29, if_neg hc37, if_pos hc45], N0, rfl⟩) | exact ⟨by rw [digI, if_neg hc3, if_neg hc11, if_neg hc20, if_neg hc29, if_neg hc37, if_pos hc45], N0, rfl⟩)
            · -- hc45 False
              refine Go.by (fun t => XS.icmpYes X0.here hx rfl (pc0 := 45) (pc' := 51) rfl (hb hby d1_45) rfl (flt (hc45 : ¬ (p1 < (1000000 : Int32)))).2.1 (by decide) (by decide)) ?_
              show Go p e below _ (s₁.setTop (mkF m 51 #[.val (.int p1)] []))
              show Go p e below _ (s₁.setTop (mkF m 51 #[.val (.int p1)] []))
              refine Go.by (fun t => XS.iloadN X0.here hx rfl (hb hby d1_51) rfl ) ?_
              show Go p e below _ (s₁.setTop (mkF m 52 #[.val (.int p1)] [(.int p1)]))
              refine Go.by (fun t => X0.ldcInt hx hown (mvT hZ (hw _ (List.mem_of_getElem? (i := 74) rfl))) (g := (mkF m 52 #[.val (.int p1)] [(.int p1)])) rfl (hb hby d1_52) t) ?_
              show Go p e below _ (s₁.setTop (mkF m 54 #[.val (.int p1)] [(.int (10000000 : Int32)), (.int p1)]))
              show Go p e below _ (s₁.setTop (mkF m 54 #[.val (.int p1)] [(.int (10000000 : Int32)), (.int p1)]))
              by_cases hc54 : p1 < (10000000 : Int32)
              · -- hc54 True
                refine Go.by (fun t => XS.icmpNo X0.here hx rfl (hb hby d1_54) rfl (tlt (hc54 : p1 < (10000000 : Int32))).2.1) ?_
                show Go p e below _ (s₁.setTop (mkF m 57 #[.val (.int p1)] []))
                show Go p e below _ (s₁.setTop (mkF m 57 #[.val (.int p1)] []))
                refine Go.by (fun t => XS.bipush X0.here hx rfl (hb hby d1_57)) ?_
                show Go p e below _ (s₁.setTop (mkF m 59 #[.val (.int p1)] [(.int (7 : Int32))]))
                exact Go.ret1 X0 hx Bd.returns Bd.notSynchronized rfl (Or.inl ⟨rfl, by simp, _, rfl⟩) (hb hby d1_59) (by decide) (by decide) (by first | (rw [e0]; exact ⟨by rw [digI, if_neg hc3, if_neg hc11, if_neg hc20, if_neg hc29, if_neg hc37, if_neg hc45, if_pos hc54], N0, rfl⟩) | exact ⟨by rw [digI, if_neg hc3, if_neg hc11, if_neg hc20, if_neg hc29, if_neg hc37, if_neg hc45, if_pos hc54], N0, rfl⟩)
              · -- hc54 False
                refine Go.by (fun t => XS.icmpYes X0.here hx rfl (pc0 := 54) (pc' := 60) rfl (hb hby d1_54) rfl (flt (hc54 : ¬ (p1 < (10000000 : Int32)))).2.1 (by decide) (by decide)) ?_
                show Go p e below _ (s₁.setTop (mkF m 60 #[.val (.int p1)] []))
                show Go p e below _ (s₁.setTop (mkF m 60 #[.val (.int p1)] []))
                refine Go.by (fun t => XS.iloadN X0.here hx rfl (hb hby d1_60) rfl ) ?_
                show Go p e below _ (s₁.setTop (mkF m 61 #[.val (.int p1)] [(.int p1)]))
                refine Go.by (fun t => X0.ldcInt hx hown (mvT hZ (hw _ (List.mem_of_getElem? (i := 75) rfl))) (g := (mkF m 61 #[.val (.int p1)] [(.int p1)])) rfl (hb hby d1_61) t) ?_
                show Go p e below _ (s₁.setTop (mkF m 63 #[.val (.int p1)] [(.int (100000000 : Int32)), (.int p1)]))
                show Go p e below _ (s₁.setTop (mkF m 63 #[.val (.int p1)] [(.int (100000000 : Int32)), (.int p1)]))
                by_cases hc63 : p1 < (100000000 : Int32)
                · -- hc63 True
                  refine Go.by (fun t => XS.icmpNo X0.here hx rfl (hb hby d1_63) rfl (tlt (hc63 : p1 < (100000000 : Int32))).2.1) ?_
                  show Go p e below _ (s₁.setTop (mkF m 66 #[.val (.int p1)] []))
                  show Go p e below _ (s₁.setTop (mkF m 66 #[.val (.int p1)] []))
                  refine Go.by (fun t => XS.bipush X0.here hx rfl (hb hby d1_66)) ?_
                  show Go p e below _ (s₁.setTop (mkF m 68 #[.val (.int p1)] [(.int (8 : Int32))]))
                  exact Go.ret1 X0 hx Bd.returns Bd.notSynchronized rfl (Or.inl ⟨rfl, by simp, _, rfl⟩) (hb hby d1_68) (by decide) (by decide) (by first | (rw [e0]; exact ⟨by rw [digI, if_neg hc3, if_neg hc11, if_neg hc20, if_neg hc29, if_neg hc37, if_neg hc45, if_neg hc54, if_pos hc63], N0, rfl⟩) | exact ⟨by rw [digI, if_neg hc3, if_neg hc11, if_neg hc20, if_neg hc29, if_neg hc37, if_neg hc45, if_neg hc54, if_pos hc63], N0, rfl⟩)
                · -- hc63 False
                  refine Go.by (fun t => XS.icmpYes X0.here hx rfl (pc0 := 63) (pc' := 69) rfl (hb hby d1_63) rfl (flt (hc63 : ¬ (p1 < (100000000 : Int32)))).2.1 (by decide) (by decide)) ?_
                  show Go p e below _ (s₁.setTop (mkF m 69 #[.val (.int p1)] []))
                  show Go p e below _ (s₁.setTop (mkF m 69 #[.val (.int p1)] []))
                  refine Go.by (fun t => XS.iloadN X0.here hx rfl (hb hby d1_69) rfl ) ?_
                  show Go p e below _ (s₁.setTop (mkF m 70 #[.val (.int p1)] [(.int p1)]))
                  refine Go.by (fun t => X0.ldcInt hx hown (mvT hZ (hw _ (List.mem_of_getElem? (i := 76) rfl))) (g := (mkF m 70 #[.val (.int p1)] [(.int p1)])) rfl (hb hby d1_70) t) ?_
                  show Go p e below _ (s₁.setTop (mkF m 72 #[.val (.int p1)] [(.int (1000000000 : Int32)), (.int p1)]))
                  show Go p e below _ (s₁.setTop (mkF m 72 #[.val (.int p1)] [(.int (1000000000 : Int32)), (.int p1)]))
                  by_cases hc72 : p1 < (1000000000 : Int32)
                  · -- hc72 True
                    refine Go.by (fun t => XS.icmpNo X0.here hx rfl (hb hby d1_72) rfl (tlt (hc72 : p1 < (1000000000 : Int32))).2.1) ?_
                    show Go p e below _ (s₁.setTop (mkF m 75 #[.val (.int p1)] []))
                    show Go p e below _ (s₁.setTop (mkF m 75 #[.val (.int p1)] []))
                    refine Go.by (fun t => XS.bipush X0.here hx rfl (hb hby d1_75)) ?_
                    show Go p e below _ (s₁.setTop (mkF m 77 #[.val (.int p1)] [(.int (9 : Int32))]))
                    exact Go.ret1 X0 hx Bd.returns Bd.notSynchronized rfl (Or.inl ⟨rfl, by simp, _, rfl⟩) (hb hby d1_77) (by decide) (by decide) (by first | (rw [e0]; exact ⟨by rw [digI, if_neg hc3, if_neg hc11, if_neg hc20, if_neg hc29, if_neg hc37, if_neg hc45, if_neg hc54, if_neg hc63, if_pos hc72], N0, rfl⟩) | exact ⟨by rw [digI, if_neg hc3, if_neg hc11, if_neg hc20, if_neg hc29, if_neg hc37, if_neg hc45, if_neg hc54, if_neg hc63, if_pos hc72], N0, rfl⟩)
                  · -- hc72 False
                    refine Go.by (fun t => XS.icmpYes X0.here hx rfl (pc0 := 72) (pc' := 78) rfl (hb hby d1_72) rfl (flt (hc72 : ¬ (p1 < (1000000000 : Int32)))).2.1 (by decide) (by decide)) ?_
                    show Go p e below _ (s₁.setTop (mkF m 78 #[.val (.int p1)] []))
                    show Go p e below _ (s₁.setTop (mkF m 78 #[.val (.int p1)] []))
                    refine Go.by (fun t => XS.bipush X0.here hx rfl (hb hby d1_78)) ?_
                    show Go p e below _ (s₁.setTop (mkF m 80 #[.val (.int p1)] [(.int (10 : Int32))]))
                    exact Go.ret1 X0 hx Bd.returns Bd.notSynchronized rfl (Or.inl ⟨rfl, by simp, _, rfl⟩) (hb hby d1_80) (by decide) (by decide) (by first | (rw [e0]; exact ⟨by rw [digI, if_neg hc3, if_neg hc11, if_neg hc20, if_neg hc29, if_neg hc37, if_neg hc45, if_neg hc54, if_neg hc63, if_neg hc72], N0, rfl⟩) | exact ⟨by rw [digI, if_neg hc3, if_neg hc11, if_neg hc20, if_neg hc29, if_neg hc37, if_neg hc45, if_neg hc54, if_neg hc63, if_neg hc72], N0, rfl⟩)
def Q_rm2 (Z : State) (p1 p2 : Int32) (h0 : Heap) (n0 : Nat) : Option Value → Heap → List Loc → Prop := fun v h L => v = some (.int (if p1 < p2 then p2 else p1)) ∧ Fr n0 L ∧ h = h0
set_option maxRecDepth 65536 in
set_option maxHeartbeats 40000000 in
theorem rm2 (l : Launch) (Z : State) (a0 : Array Value) (hw : ∀ d ∈ tables_1, d.before a0 Z = true) (ws : List Jvm.Cond) (p1 p2 : Int32) (h0 : Heap) (n0 : Nat)  :
    MetFree l (⟨"java/lang/Math", "max", "(II)I"⟩ : MethodName) (head1 (Jvm.Cond.code (⟨"java/lang/Math", "max", "(II)I"⟩ : MethodName) jdk_29_method_65_code 2 (some .int) :: ws) ({ frames := 0, cells := 0, slots := 0, locals := 0 } : Room)) (fun a U => a = #[(.int p1), (.int p2)] ∧ Z.Warmed39 U.vm ∧ U.heap = h0) (fun _ _ _ _ _ => True) (fun _ U o U' => ∃ v L, o = .returned v ∧ Q_rm2 Z p1 p2 h0 n0 v U'.heap L ∧ FrameEnd U o U' L ({ frames := 0, cells := 0, slots := 0, locals := 0 } : Room).cells ({ frames := 0, cells := 0, slots := 0, locals := 0 } : Room).slots) := by
  refine MetFree.of_bodySF (Jvm.Free.JP.mathPlain rfl (by decide +kernel)) hisR ?_
  intro p e s m args below meth c s₁ Bd hml0 hP hK
  obtain ⟨rfl, hZ, hh⟩ := hP
  have hx := Bd.exec
  have hby := Bd.bytes
  have hml : c.maxLocals = 2 := hml0
  have hown : s.vm.findClass "java/lang/Math" = some m.cls := findClass_of_methodNamed Bd.named
  have hnm := (name_of_methodNamed Bd.named Bd.method).1
  have X0 : Stand p l e ({ frames := 0, cells := 0, slots := 0, locals := 0 } : Room) s m #[(.int p1), (.int p2)] below meth c s₁ [] 0 0 := Stand.of_body Bd
  have e0 : s₁.heap = h0 := by rw [← hh, Bd.state]; rfl
  have N0 := Fr.nil n0
  have ef : entryFrame m #[(.int p1), (.int p2)] 2 = (mkF m 0 #[.val (.int p1), .val (.int p2)] []) := by first | rfl | (simp [entryFrame, mkF, argsToLocals, Value.category, maxLocals]; done)
  show Go p e below (End (fun v h L => v = some (.int (if p1 < p2 then p2 else p1)) ∧ Fr n0 L ∧ h = h0) s 0 0) (s₁.setTop (entryFrame m #[(.int p1), (.int p2)] 2))
  rw [ef]
  show Go p e below _ (s₁.setTop (mkF m 0 #[.val (.int p1), .val (.int p2)] []))
  show Go p e below _ (s₁.setTop (mkF m 0 #[.val (.int p1), .val (.int p2)] []))
  refine Go.by (fun t => XS.iloadN X0.here hx rfl (hb hby d2_0) rfl ) ?_
  show Go p e below _ (s₁.setTop (mkF m 1 #[.val (.int p1), .val (.int p2)] [(.int p1)]))
  refine Go.by (fun t => XS.iloadN X0.here hx rfl (hb hby d2_1) rfl ) ?_
  show Go p e below _ (s₁.setTop (mkF m 2 #[.val (.int p1), .val (.int p2)] [(.int p2), (.int p1)]))
  by_cases hc2 : p1 < p2
  · -- hc2 True
    refine Go.by (fun t => XS.icmpYes X0.here hx rfl (pc0 := 2) (pc' := 9) rfl (hb hby d2_2) rfl (tlt (hc2 : p1 < p2)).1 (by decide) (by decide)) ?_
    show Go p e below _ (s₁.setTop (mkF m 9 #[.val (.int p1), .val (.int p2)] []))
    show Go p e below _ (s₁.setTop (mkF m 9 #[.val (.int p1), .val (.int p2)] []))
    refine Go.by (fun t => XS.iloadN X0.here hx rfl (hb hby d2_9) rfl ) ?_
    show Go p e below _ (s₁.setTop (mkF m 10 #[.val (.int p1), .val (.int p2)] [(.int p2)]))
    exact Go.ret1 X0 hx Bd.returns Bd.notSynchronized rfl (Or.inl ⟨rfl, by simp, _, rfl⟩) (hb hby d2_10) (by decide) (by decide) (by first | (rw [e0]; exact ⟨by rw [if_pos hc2], N0, rfl⟩) | exact ⟨by rw [if_pos hc2], N0, rfl⟩)
  · -- hc2 False
    refine Go.by (fun t => XS.icmpNo X0.here hx rfl (hb hby d2_2) rfl (flt (hc2 : ¬ (p1 < p2))).1) ?_
    show Go p e below _ (s₁.setTop (mkF m 5 #[.val (.int p1), .val (.int p2)] []))
    show Go p e below _ (s₁.setTop (mkF m 5 #[.val (.int p1), .val (.int p2)] []))
    refine Go.by (fun t => XS.iloadN X0.here hx rfl (hb hby d2_5) rfl ) ?_
    show Go p e below _ (s₁.setTop (mkF m 6 #[.val (.int p1), .val (.int p2)] [(.int p1)]))
    refine Go.by (fun t => XS.goto X0.here hx rfl (pc0 := 6) (pc' := 10) rfl (hb hby d2_6) (by decide) (by decide)) ?_
    show Go p e below _ (s₁.setTop (mkF m 10 #[.val (.int p1), .val (.int p2)] [(.int p1)]))
    exact Go.ret1 X0 hx Bd.returns Bd.notSynchronized rfl (Or.inl ⟨rfl, by simp, _, rfl⟩) (hb hby d2_10) (by decide) (by decide) (by first | (rw [e0]; exact ⟨by rw [if_neg hc2], N0, rfl⟩) | exact ⟨by rw [if_neg hc2], N0, rfl⟩)
def Q_rm3 (Z : State) (a1 : Addr) (kc : ClassId) (A F Ln J : Nat) (h0 : Heap) (n0 : Nat) : Option Value → Heap → List Loc → Prop := fun v h L => v = none ∧ Fr n0 L ∧ Keep h0 h [a1] ∧ Arv Z h a1 kc .char (20 : Int32) ((ascL A F Ln (J + 1)).map Value.int) (.int (0 : Int32))
set_option maxRecDepth 65536 in
set_option maxHeartbeats 40000000 in
theorem rm3 (l : Launch) (Z : State) (a0 : Array Value) (hw : ∀ d ∈ tables_1, d.before a0 Z = true) (ws : List Jvm.Cond) (a1 : Addr) (kc : ClassId) (A F Ln J : Nat) (h0 : Heap) (n0 : Nat) (hA : A < 8) (hF : F < 2147483648) (hL : 3 ≤ Ln) (hL' : Ln ≤ 11) (hJ : J ≤ 10) (Z0 : n0 ≤ h0.size) (g_a1 : n0 ≤ a1) (V_a1 : Arv Z h0 a1 kc .char (20 : Int32) ((ascL A F Ln J).map Value.int) (.int (0 : Int32))) :
    MetFree l (⟨"com/example/oneiros/oneiros/cli/FrameTimeWriteSecondsPinLaw", "put", "([CIIII)V"⟩ : MethodName) (head1 (Jvm.Cond.code (⟨"com/example/oneiros/oneiros/cli/FrameTimeWriteSecondsPinLaw", "put", "([CIIII)V"⟩ : MethodName) method_4_code 9 none :: ws) ({ frames := 0, cells := 1, slots := 10, locals := 0 } : Room)) (fun a U => a = #[(.ref a1), (.int (Int32.ofNat A)), (.int (Int32.ofNat F)), (.int (Int32.ofNat Ln)), (.int (Int32.ofNat J))] ∧ Z.Warmed39 U.vm ∧ U.heap = h0) (fun _ _ _ _ _ => True) (fun _ U o U' => ∃ v L, o = .returned v ∧ Q_rm3 Z a1 kc A F Ln J h0 n0 v U'.heap L ∧ FrameEnd U o U' L ({ frames := 0, cells := 1, slots := 10, locals := 0 } : Room).cells ({ frames := 0, cells := 1, slots := 10, locals := 0 } : Room).slots) := by
  refine MetFree.of_bodySF (plainFor_of_name pn_0) hisR ?_
  intro p e s m args below meth c s₁ Bd hml0 hP hK
  obtain ⟨rfl, hZ, hh⟩ := hP
  have hx := Bd.exec
  have hby := Bd.bytes
  have hml : c.maxLocals = 9 := hml0
  have hown : s.vm.findClass "com/example/oneiros/oneiros/cli/FrameTimeWriteSecondsPinLaw" = some m.cls := findClass_of_methodNamed Bd.named
  have hnm := (name_of_methodNamed Bd.named Bd.method).1
  have X0 : Stand p l e ({ frames := 0, cells := 1, slots := 10, locals := 0 } : Room) s m #[(.ref a1), (.int (Int32.ofNat A)), (.int (Int32.ofNat F)), (.int (Int32.ofNat Ln)), (.int (Int32.ofNat J))] below meth c s₁ [] 0 0 := Stand.of_body Bd
  have e0 : s₁.heap = h0 := by rw [← hh, Bd.state]; rfl
  have N0 := Fr.nil n0
  have ef : entryFrame m #[(.ref a1), (.int (Int32.ofNat A)), (.int (Int32.ofNat F)), (.int (Int32.ofNat Ln)), (.int (Int32.ofNat J))] 9 = (mkF m 0 #[.val (.ref a1), .val (.int (Int32.ofNat A)), .val (.int (Int32.ofNat F)), .val (.int (Int32.ofNat Ln)), .val (.int (Int32.ofNat J)), .unset, .unset, .unset, .unset] []) := by first | rfl | (simp [entryFrame, mkF, argsToLocals, Value.category, maxLocals]; done)
  show Go p e below (End (fun v h L => v = none ∧ Fr n0 L ∧ Keep h0 h [a1] ∧ Arv Z h a1 kc .char (20 : Int32) ((ascL A F Ln (J + 1)).map Value.int) (.int (0 : Int32))) s 1 10) (s₁.setTop (entryFrame m #[(.ref a1), (.int (Int32.ofNat A)), (.int (Int32.ofNat F)), (.int (Int32.ofNat Ln)), (.int (Int32.ofNat J))] 9))
  rw [ef]
  show Go p e below _ (s₁.setTop (mkF m 0 #[.val (.ref a1), .val (.int (Int32.ofNat A)), .val (.int (Int32.ofNat F)), .val (.int (Int32.ofNat Ln)), .val (.int (Int32.ofNat J)), .unset, .unset, .unset, .unset] []))
  have K0 : Keep h0 h0 [a1] := Keep.refl _ _
  show Go p e below _ (s₁.setTop (mkF m 0 #[.val (.ref a1), .val (.int (Int32.ofNat A)), .val (.int (Int32.ofNat F)), .val (.int (Int32.ofNat Ln)), .val (.int (Int32.ofNat J)), .unset, .unset, .unset, .unset] []))
  refine Go.by (fun t => XS.iload X0.here hx rfl (hb hby d3_0) rfl ) ?_
  show Go p e below _ (s₁.setTop (mkF m 2 #[.val (.ref a1), .val (.int (Int32.ofNat A)), .val (.int (Int32.ofNat F)), .val (.int (Int32.ofNat Ln)), .val (.int (Int32.ofNat J)), .unset, .unset, .unset, .unset] [(.int (Int32.ofNat J))]))
  refine Go.by (fun t => XS.iloadN X0.here hx rfl (hb hby d3_2) rfl ) ?_
  show Go p e below _ (s₁.setTop (mkF m 3 #[.val (.ref a1), .val (.int (Int32.ofNat A)), .val (.int (Int32.ofNat F)), .val (.int (Int32.ofNat Ln)), .val (.int (Int32.ofNat J)), .unset, .unset, .unset, .unset] [(.int (Int32.ofNat Ln)), (.int (Int32.ofNat J))]))
  have inA : ¬ (Int32.ofNat (A + J) < 0) ∧ Int32.ofNat (A + J) < (20 : Int32) := ⟨nlt32 (b := 0) (by omega) (by omega), lt32 (b := 20) (by decide) (by omega)⟩
  have inN : (Int32.ofNat (A + J)).toNatClampNeg = A + J := n32 (by omega)
  have inL : A + J < ((ascL A F Ln J).map Value.int).length := by rw [List.length_map, asc_len]; omega
  by_cases h1 : J < Ln
  ·
    refine Go.by (fun t => XS.icmpYes X0.here hx rfl (pc0 := 3) (pc' := 7) rfl (hb hby d3_3) rfl (tlt (lt32 (by omega) h1 : (Int32.ofNat J) < (Int32.ofNat Ln))).1 (by decide) (by decide)) ?_
    show Go p e below _ (s₁.setTop (mkF m 7 #[.val (.ref a1), .val (.int (Int32.ofNat A)), .val (.int (Int32.ofNat F)), .val (.int (Int32.ofNat Ln)), .val (.int (Int32.ofNat J)), .unset, .unset, .unset, .unset] []))
    show Go p e below _ (s₁.setTop (mkF m 7 #[.val (.ref a1), .val (.int (Int32.ofNat A)), .val (.int (Int32.ofNat F)), .val (.int (Int32.ofNat Ln)), .val (.int (Int32.ofNat J)), .unset, .unset, .unset, .unset] []))
    refine Go.by (fun t => XS.iload X0.here hx rfl (hb hby d3_7) rfl ) ?_
    show Go p e below _ (s₁.setTop (mkF m 9 #[.val (.ref a1), .val (.int (Int32.ofNat A)), .val (.int (Int32.ofNat F)), .val (.int (Int32.ofNat Ln)), .val (.int (Int32.ofNat J)), .unset, .unset, .unset, .unset] [(.int (Int32.ofNat J))]))
    refine Go.by (fun t => XS.iloadN X0.here hx rfl (hb hby d3_9) rfl ) ?_
    show Go p e below _ (s₁.setTop (mkF m 10 #[.val (.ref a1), .val (.int (Int32.ofNat A)), .val (.int (Int32.ofNat F)), .val (.int (Int32.ofNat Ln)), .val (.int (Int32.ofNat J)), .unset, .unset, .unset, .unset] [(.int (Int32.ofNat Ln)), (.int (Int32.ofNat J))]))
    refine Go.by (fun t => XS.iconst X0.here hx rfl (hb hby d3_10)) ?_
    show Go p e below _ (s₁.setTop (mkF m 11 #[.val (.ref a1), .val (.int (Int32.ofNat A)), .val (.int (Int32.ofNat F)), .val (.int (Int32.ofNat Ln)), .val (.int (Int32.ofNat J)), .unset, .unset, .unset, .unset] [(.int (2 : Int32)), (.int (Int32.ofNat Ln)), (.int (Int32.ofNat J))]))
    refine Go.by (fun t => XS.isub X0.here hx rfl (hb hby d3_11) rfl) ?_
    show Go p e below _ (s₁.setTop (mkF m 12 #[.val (.ref a1), .val (.int (Int32.ofNat A)), .val (.int (Int32.ofNat F)), .val (.int (Int32.ofNat Ln)), .val (.int (Int32.ofNat J)), .unset, .unset, .unset, .unset] [(.int ((Int32.ofNat Ln) - (2 : Int32))), (.int (Int32.ofNat J))]))
    rw [sub2 (n := Ln) (by omega)]
    show Go p e below _ (s₁.setTop (mkF m 12 #[.val (.ref a1), .val (.int (Int32.ofNat A)), .val (.int (Int32.ofNat F)), .val (.int (Int32.ofNat Ln)), .val (.int (Int32.ofNat J)), .unset, .unset, .unset, .unset] [(.int (Int32.ofNat (Ln - 2))), (.int (Int32.ofNat J))]))
    by_cases h2 : J = Ln - 2
    ·
      refine Go.by (fun t => XS.icmpNo X0.here hx rfl (hb hby d3_12) rfl (teq (congrArg Int32.ofNat h2 : (Int32.ofNat J) = (Int32.ofNat (Ln - 2)))).2) ?_
      show Go p e below _ (s₁.setTop (mkF m 15 #[.val (.ref a1), .val (.int (Int32.ofNat A)), .val (.int (Int32.ofNat F)), .val (.int (Int32.ofNat Ln)), .val (.int (Int32.ofNat J)), .unset, .unset, .unset, .unset] []))
      show Go p e below _ (s₁.setTop (mkF m 15 #[.val (.ref a1), .val (.int (Int32.ofNat A)), .val (.int (Int32.ofNat F)), .val (.int (Int32.ofNat Ln)), .val (.int (Int32.ofNat J)), .unset, .unset, .unset, .unset] []))
      refine Go.by (fun t => XS.aloadN X0.here hx rfl (hb hby d3_15) rfl rfl) ?_
      show Go p e below _ (s₁.setTop (mkF m 16 #[.val (.ref a1), .val (.int (Int32.ofNat A)), .val (.int (Int32.ofNat F)), .val (.int (Int32.ofNat Ln)), .val (.int (Int32.ofNat J)), .unset, .unset, .unset, .unset] [(.ref a1)]))
      refine Go.by (fun t => XS.iloadN X0.here hx rfl (hb hby d3_16) rfl ) ?_
      show Go p e below _ (s₁.setTop (mkF m 17 #[.val (.ref a1), .val (.int (Int32.ofNat A)), .val (.int (Int32.ofNat F)), .val (.int (Int32.ofNat Ln)), .val (.int (Int32.ofNat J)), .unset, .unset, .unset, .unset] [(.int (Int32.ofNat A)), (.ref a1)]))
      refine Go.by (fun t => XS.iload X0.here hx rfl (hb hby d3_17) rfl ) ?_
      show Go p e below _ (s₁.setTop (mkF m 19 #[.val (.ref a1), .val (.int (Int32.ofNat A)), .val (.int (Int32.ofNat F)), .val (.int (Int32.ofNat Ln)), .val (.int (Int32.ofNat J)), .unset, .unset, .unset, .unset] [(.int (Int32.ofNat J)), (.int (Int32.ofNat A)), (.ref a1)]))
      refine Go.by (fun t => XS.iadd X0.here hx rfl (hb hby d3_19) rfl) ?_
      show Go p e below _ (s₁.setTop (mkF m 20 #[.val (.ref a1), .val (.int (Int32.ofNat A)), .val (.int (Int32.ofNat F)), .val (.int (Int32.ofNat Ln)), .val (.int (Int32.ofNat J)), .unset, .unset, .unset, .unset] [(.int ((Int32.ofNat A) + (Int32.ofNat J))), (.ref a1)]))
      rw [add32n A J]
      show Go p e below _ (s₁.setTop (mkF m 20 #[.val (.ref a1), .val (.int (Int32.ofNat A)), .val (.int (Int32.ofNat F)), .val (.int (Int32.ofNat Ln)), .val (.int (Int32.ofNat J)), .unset, .unset, .unset, .unset] [(.int (Int32.ofNat (A + J))), (.ref a1)]))
      show Go p e below _ (s₁.setTop (mkF m 20 #[.val (.ref a1), .val (.int (Int32.ofNat A)), .val (.int (Int32.ofNat F)), .val (.int (Int32.ofNat Ln)), .val (.int (Int32.ofNat J)), .unset, .unset, .unset, .unset] [(.int (Int32.ofNat (A + J))), (.ref a1)]))
      refine Go.by (fun t => XS.bipush X0.here hx rfl (hb hby d3_20)) ?_
      show Go p e below _ (s₁.setTop (mkF m 22 #[.val (.ref a1), .val (.int (Int32.ofNat A)), .val (.int (Int32.ofNat F)), .val (.int (Int32.ofNat Ln)), .val (.int (Int32.ofNat J)), .unset, .unset, .unset, .unset] [(.int (46 : Int32)), (.int (Int32.ofNat (A + J))), (.ref a1)]))
      obtain ⟨cl_101, Ar_101, q_101, S_101, M_101, H_101, G_101⟩ := id V_a1
      obtain ⟨T101, h101, X101, e101, W101, st101⟩ := stC X0 hx hZ e0 Ar_101 (j := (Int32.ofNat (A + J))) (inb_of S_101 inA) (g := (mkF m 22 #[.val (.ref a1), .val (.int (Int32.ofNat A)), .val (.int (Int32.ofNat F)), .val (.int (Int32.ofNat Ln)), .val (.int (Int32.ofNat J)), .unset, .unset, .unset, .unset] [(.int (46 : Int32)), (.int (Int32.ofNat (A + J))), (.ref a1)])) rfl rfl (hb hby d3_22)
      refine Go.by (fun t => st101 t) ?_
      replace V_a1 := Arv.set Ar_101 q_101 S_101 M_101 H_101 G_101 (fits_nar_char _) W101 (A + J) inN inL
      replace Z0 := Nat.le_trans Z0 (Keep.of_wr W101).1
      replace K0 := K0.wr W101 (Or.inl (List.mem_of_getElem? (i := 0) rfl))
      have N101 := Fr.snoc X101 N0 g_a1
      show Go p e below _ (T101.setTop (mkF m 23 #[.val (.ref a1), .val (.int (Int32.ofNat A)), .val (.int (Int32.ofNat F)), .val (.int (Int32.ofNat Ln)), .val (.int (Int32.ofNat J)), .unset, .unset, .unset, .unset] []))
      rw [show nar .char (46 : Int32) = Int32.ofNat 46 from rfl] at V_a1
      have e46 : 46 = gch A F Ln (A + J) := by unfold gch; rw [if_pos (by omega)]
      rw [e46, asc_set hA hJ h1] at V_a1
      show Go p e below _ (T101.setTop (mkF m 23 #[.val (.ref a1), .val (.int (Int32.ofNat A)), .val (.int (Int32.ofNat F)), .val (.int (Int32.ofNat Ln)), .val (.int (Int32.ofNat J)), .unset, .unset, .unset, .unset] []))
      exact Go.ret0 X101 hx Bd.returns Bd.notSynchronized (hb hby d3_23) (by decide) (by decide) (by first | (rw [e101]; exact ⟨rfl, N101, K0, V_a1⟩) | exact ⟨rfl, N101, K0, V_a1⟩)
    ·
      refine Go.by (fun t => XS.icmpYes X0.here hx rfl (pc0 := 12) (pc' := 24) rfl (hb hby d3_12) rfl (feq (ne32 (by omega) (by omega) h2 : ¬ ((Int32.ofNat J) = (Int32.ofNat (Ln - 2))))).2 (by decide) (by decide)) ?_
      show Go p e below _ (s₁.setTop (mkF m 24 #[.val (.ref a1), .val (.int (Int32.ofNat A)), .val (.int (Int32.ofNat F)), .val (.int (Int32.ofNat Ln)), .val (.int (Int32.ofNat J)), .unset, .unset, .unset, .unset] []))
      show Go p e below _ (s₁.setTop (mkF m 24 #[.val (.ref a1), .val (.int (Int32.ofNat A)), .val (.int (Int32.ofNat F)), .val (.int (Int32.ofNat Ln)), .val (.int (Int32.ofNat J)), .unset, .unset, .unset, .unset] []))
      refine Go.by (fun t => XS.iload X0.here hx rfl (hb hby d3_24) rfl ) ?_
      show Go p e below _ (s₁.setTop (mkF m 26 #[.val (.ref a1), .val (.int (Int32.ofNat A)), .val (.int (Int32.ofNat F)), .val (.int (Int32.ofNat Ln)), .val (.int (Int32.ofNat J)), .unset, .unset, .unset, .unset] [(.int (Int32.ofNat J))]))
      refine Go.by (fun t => XS.iloadN X0.here hx rfl (hb hby d3_26) rfl ) ?_
      show Go p e below _ (s₁.setTop (mkF m 27 #[.val (.ref a1), .val (.int (Int32.ofNat A)), .val (.int (Int32.ofNat F)), .val (.int (Int32.ofNat Ln)), .val (.int (Int32.ofNat J)), .unset, .unset, .unset, .unset] [(.int (Int32.ofNat Ln)), (.int (Int32.ofNat J))]))
      refine Go.by (fun t => XS.iconst X0.here hx rfl (hb hby d3_27)) ?_
      show Go p e below _ (s₁.setTop (mkF m 28 #[.val (.ref a1), .val (.int (Int32.ofNat A)), .val (.int (Int32.ofNat F)), .val (.int (Int32.ofNat Ln)), .val (.int (Int32.ofNat J)), .unset, .unset, .unset, .unset] [(.int (1 : Int32)), (.int (Int32.ofNat Ln)), (.int (Int32.ofNat J))]))
      refine Go.by (fun t => XS.isub X0.here hx rfl (hb hby d3_28) rfl) ?_
      show Go p e below _ (s₁.setTop (mkF m 29 #[.val (.ref a1), .val (.int (Int32.ofNat A)), .val (.int (Int32.ofNat F)), .val (.int (Int32.ofNat Ln)), .val (.int (Int32.ofNat J)), .unset, .unset, .unset, .unset] [(.int ((Int32.ofNat Ln) - (1 : Int32))), (.int (Int32.ofNat J))]))
      rw [sub1 (n := Ln) (by omega)]
      show Go p e below _ (s₁.setTop (mkF m 29 #[.val (.ref a1), .val (.int (Int32.ofNat A)), .val (.int (Int32.ofNat F)), .val (.int (Int32.ofNat Ln)), .val (.int (Int32.ofNat J)), .unset, .unset, .unset, .unset] [(.int (Int32.ofNat (Ln - 1))), (.int (Int32.ofNat J))]))
      have t42 : ∀ E : Nat, E < 10 → 48 + F / 10 ^ E % 10 = gch A F Ln (A + J) → Go p e below (End (fun v h L => v = none ∧ Fr n0 L ∧ Keep h0 h [a1] ∧ Arv Z h a1 kc .char (20 : Int32) ((ascL A F Ln (J + 1)).map Value.int) (.int (0 : Int32))) s 1 10) (s₁.setTop (mkF m 42 #[.val (.ref a1), .val (.int (Int32.ofNat A)), .val (.int (Int32.ofNat F)), .val (.int (Int32.ofNat Ln)), .val (.int (Int32.ofNat J)), .unset, .unset, .unset, .unset] [(.int (Int32.ofNat E))])) := by
        intro E hE hg
        show Go p e below _ (s₁.setTop (mkF m 42 #[.val (.ref a1), .val (.int (Int32.ofNat A)), .val (.int (Int32.ofNat F)), .val (.int (Int32.ofNat Ln)), .val (.int (Int32.ofNat J)), .unset, .unset, .unset, .unset] [(.int (Int32.ofNat E))]))
        refine Go.by (fun t => XS.istore X0.here hx rfl (hb hby d3_42) rfl (l' := #[.val (.ref a1), .val (.int (Int32.ofNat A)), .val (.int (Int32.ofNat F)), .val (.int (Int32.ofNat Ln)), .val (.int (Int32.ofNat J)), .val (.int (Int32.ofNat E)), .unset, .unset, .unset]) rfl) ?_
        show Go p e below _ (s₁.setTop (mkF m 44 #[.val (.ref a1), .val (.int (Int32.ofNat A)), .val (.int (Int32.ofNat F)), .val (.int (Int32.ofNat Ln)), .val (.int (Int32.ofNat J)), .val (.int (Int32.ofNat E)), .unset, .unset, .unset] []))
        refine Go.by (fun t => XS.bipush X0.here hx rfl (hb hby d3_44)) ?_
        show Go p e below _ (s₁.setTop (mkF m 46 #[.val (.ref a1), .val (.int (Int32.ofNat A)), .val (.int (Int32.ofNat F)), .val (.int (Int32.ofNat Ln)), .val (.int (Int32.ofNat J)), .val (.int (Int32.ofNat E)), .unset, .unset, .unset] [(.int (10 : Int32))]))
        obtain ⟨T102, h102, k102, X102, e102, E102, A102, st102⟩ := newP X0 hx hZ (hw _ (List.mem_of_getElem? (i := 13) rfl)) e0 (g := (mkF m 46 #[.val (.ref a1), .val (.int (Int32.ofNat A)), .val (.int (Int32.ofNat F)), .val (.int (Int32.ofNat Ln)), .val (.int (Int32.ofNat J)), .val (.int (Int32.ofNat E)), .unset, .unset, .unset] [(.int (10 : Int32))])) rfl (hb hby d3_46) rfl (by decide) (cap := 10) (by decide) (by decide) (by decide) (by decide)
        obtain ⟨pw, g102⟩ : ∃ z, z = h0.size := ⟨_, rfl⟩
        rw [← g102] at A102 st102
        refine Go.by (fun t => st102 t) ?_
        have g_pw : n0 ≤ pw := Nat.le_trans Z0 (Nat.le_of_eq g102.symm)
        have sz_pw : h0.size ≤ pw := Nat.le_trans K0.1 (Nat.le_of_eq g102.symm)
        have ne_a1_pw : a1 ≠ pw := Nat.ne_of_lt (Nat.lt_of_lt_of_le V_a1.lt (Nat.le_of_eq g102.symm))
        replace V_a1 := V_a1.ext E102
        replace Z0 := Nat.le_trans Z0 E102.1
        replace K0 := K0.ext E102
        have V_pw : Arv Z h102 pw k102 .long (10 : Int32) [(.long (0 : Int64)), (.long (0 : Int64)), (.long (0 : Int64)), (.long (0 : Int64)), (.long (0 : Int64)), (.long (0 : Int64)), (.long (0 : Int64)), (.long (0 : Int64)), (.long (0 : Int64)), (.long (0 : Int64))] (.long (0 : Int64)) := (Arv.new A102 (by decide)).pad (pad_rep [] (.long (0 : Int64)) 10)
        show Go p e below _ (T102.setTop (mkF m 48 #[.val (.ref a1), .val (.int (Int32.ofNat A)), .val (.int (Int32.ofNat F)), .val (.int (Int32.ofNat Ln)), .val (.int (Int32.ofNat J)), .val (.int (Int32.ofNat E)), .unset, .unset, .unset] [(.ref pw)]))
        show Go p e below _ (T102.setTop (mkF m 48 #[.val (.ref a1), .val (.int (Int32.ofNat A)), .val (.int (Int32.ofNat F)), .val (.int (Int32.ofNat Ln)), .val (.int (Int32.ofNat J)), .val (.int (Int32.ofNat E)), .unset, .unset, .unset] [(.ref pw)]))
        refine Go.by (fun t => XS.dup X102.here hx rfl (hb hby d3_48) rfl rfl) ?_
        show Go p e below _ (T102.setTop (mkF m 49 #[.val (.ref a1), .val (.int (Int32.ofNat A)), .val (.int (Int32.ofNat F)), .val (.int (Int32.ofNat Ln)), .val (.int (Int32.ofNat J)), .val (.int (Int32.ofNat E)), .unset, .unset, .unset] [(.ref pw), (.ref pw)]))
        refine Go.by (fun t => XS.iconst X102.here hx rfl (hb hby d3_49)) ?_
        show Go p e below _ (T102.setTop (mkF m 50 #[.val (.ref a1), .val (.int (Int32.ofNat A)), .val (.int (Int32.ofNat F)), .val (.int (Int32.ofNat Ln)), .val (.int (Int32.ofNat J)), .val (.int (Int32.ofNat E)), .unset, .unset, .unset] [(.int (0 : Int32)), (.ref pw), (.ref pw)]))
        refine Go.by (fun t => XS.lconst X102.here hx rfl (hb hby d3_50)) ?_
        show Go p e below _ (T102.setTop (mkF m 51 #[.val (.ref a1), .val (.int (Int32.ofNat A)), .val (.int (Int32.ofNat F)), .val (.int (Int32.ofNat Ln)), .val (.int (Int32.ofNat J)), .val (.int (Int32.ofNat E)), .unset, .unset, .unset] [(.long (1 : Int64)), (.int (0 : Int32)), (.ref pw), (.ref pw)]))
        obtain ⟨cl_103, Ar_103, q_103, S_103, M_103, H_103, G_103⟩ := id V_pw
        obtain ⟨T103, h103, X103, e103, W103, st103⟩ := stJ X102 hx hZ e102 Ar_103 (j := (0 : Int32)) (inb_of S_103 ⟨by decide, by decide⟩) (g := (mkF m 51 #[.val (.ref a1), .val (.int (Int32.ofNat A)), .val (.int (Int32.ofNat F)), .val (.int (Int32.ofNat Ln)), .val (.int (Int32.ofNat J)), .val (.int (Int32.ofNat E)), .unset, .unset, .unset] [(.long (1 : Int64)), (.int (0 : Int32)), (.ref pw), (.ref pw)])) rfl rfl (hb hby d3_51)
        refine Go.by (fun t => st103 t) ?_
        replace V_pw := Arv.set Ar_103 q_103 S_103 M_103 H_103 G_103 rfl W103 0 rfl (Nat.le_of_ble_eq_true rfl)
        replace V_pw : Arv Z h103 pw k102 .long (10 : Int32) [(.long (1 : Int64)), (.long (0 : Int64)), (.long (0 : Int64)), (.long (0 : Int64)), (.long (0 : Int64)), (.long (0 : Int64)), (.long (0 : Int64)), (.long (0 : Int64)), (.long (0 : Int64)), (.long (0 : Int64))] (.long (0 : Int64)) := V_pw
        replace V_a1 := V_a1.other W103 ne_a1_pw
        replace Z0 := Nat.le_trans Z0 (Keep.of_wr W103).1
        replace K0 := K0.wr W103 (Or.inr sz_pw)
        have N103 := Fr.snoc X103 N0 g_pw
        show Go p e below _ (T103.setTop (mkF m 52 #[.val (.ref a1), .val (.int (Int32.ofNat A)), .val (.int (Int32.ofNat F)), .val (.int (Int32.ofNat Ln)), .val (.int (Int32.ofNat J)), .val (.int (Int32.ofNat E)), .unset, .unset, .unset] [(.ref pw)]))
        show Go p e below _ (T103.setTop (mkF m 52 #[.val (.ref a1), .val (.int (Int32.ofNat A)), .val (.int (Int32.ofNat F)), .val (.int (Int32.ofNat Ln)), .val (.int (Int32.ofNat J)), .val (.int (Int32.ofNat E)), .unset, .unset, .unset] [(.ref pw)]))
        refine Go.by (fun t => XS.dup X103.here hx rfl (hb hby d3_52) rfl rfl) ?_
        show Go p e below _ (T103.setTop (mkF m 53 #[.val (.ref a1), .val (.int (Int32.ofNat A)), .val (.int (Int32.ofNat F)), .val (.int (Int32.ofNat Ln)), .val (.int (Int32.ofNat J)), .val (.int (Int32.ofNat E)), .unset, .unset, .unset] [(.ref pw), (.ref pw)]))
        refine Go.by (fun t => XS.iconst X103.here hx rfl (hb hby d3_53)) ?_
        show Go p e below _ (T103.setTop (mkF m 54 #[.val (.ref a1), .val (.int (Int32.ofNat A)), .val (.int (Int32.ofNat F)), .val (.int (Int32.ofNat Ln)), .val (.int (Int32.ofNat J)), .val (.int (Int32.ofNat E)), .unset, .unset, .unset] [(.int (1 : Int32)), (.ref pw), (.ref pw)]))
        refine Go.by (fun t => X103.ldc2Long hx hown (mvT hZ (hw _ (List.mem_of_getElem? (i := 14) rfl))) (g := (mkF m 54 #[.val (.ref a1), .val (.int (Int32.ofNat A)), .val (.int (Int32.ofNat F)), .val (.int (Int32.ofNat Ln)), .val (.int (Int32.ofNat J)), .val (.int (Int32.ofNat E)), .unset, .unset, .unset] [(.int (1 : Int32)), (.ref pw), (.ref pw)])) rfl (hb hby d3_54) t) ?_
        show Go p e below _ (T103.setTop (mkF m 57 #[.val (.ref a1), .val (.int (Int32.ofNat A)), .val (.int (Int32.ofNat F)), .val (.int (Int32.ofNat Ln)), .val (.int (Int32.ofNat J)), .val (.int (Int32.ofNat E)), .unset, .unset, .unset] [(.long (10 : Int64)), (.int (1 : Int32)), (.ref pw), (.ref pw)]))
        obtain ⟨cl_104, Ar_104, q_104, S_104, M_104, H_104, G_104⟩ := id V_pw
        obtain ⟨T104, h104, X104, e104, W104, st104⟩ := stJ X103 hx hZ e103 Ar_104 (j := (1 : Int32)) (inb_of S_104 ⟨by decide, by decide⟩) (g := (mkF m 57 #[.val (.ref a1), .val (.int (Int32.ofNat A)), .val (.int (Int32.ofNat F)), .val (.int (Int32.ofNat Ln)), .val (.int (Int32.ofNat J)), .val (.int (Int32.ofNat E)), .unset, .unset, .unset] [(.long (10 : Int64)), (.int (1 : Int32)), (.ref pw), (.ref pw)])) rfl rfl (hb hby d3_57)
        refine Go.by (fun t => st104 t) ?_
        replace V_pw := Arv.set Ar_104 q_104 S_104 M_104 H_104 G_104 rfl W104 1 rfl (Nat.le_of_ble_eq_true rfl)
        replace V_pw : Arv Z h104 pw k102 .long (10 : Int32) [(.long (1 : Int64)), (.long (10 : Int64)), (.long (0 : Int64)), (.long (0 : Int64)), (.long (0 : Int64)), (.long (0 : Int64)), (.long (0 : Int64)), (.long (0 : Int64)), (.long (0 : Int64)), (.long (0 : Int64))] (.long (0 : Int64)) := V_pw
        replace V_a1 := V_a1.other W104 ne_a1_pw
        replace Z0 := Nat.le_trans Z0 (Keep.of_wr W104).1
        replace K0 := K0.wr W104 (Or.inr sz_pw)
        have N104 := Fr.snoc X104 N103 g_pw
        show Go p e below _ (T104.setTop (mkF m 58 #[.val (.ref a1), .val (.int (Int32.ofNat A)), .val (.int (Int32.ofNat F)), .val (.int (Int32.ofNat Ln)), .val (.int (Int32.ofNat J)), .val (.int (Int32.ofNat E)), .unset, .unset, .unset] [(.ref pw)]))
        show Go p e below _ (T104.setTop (mkF m 58 #[.val (.ref a1), .val (.int (Int32.ofNat A)), .val (.int (Int32.ofNat F)), .val (.int (Int32.ofNat Ln)), .val (.int (Int32.ofNat J)), .val (.int (Int32.ofNat E)), .unset, .unset, .unset] [(.ref pw)]))
        refine Go.by (fun t => XS.dup X104.here hx rfl (hb hby d3_58) rfl rfl) ?_
        show Go p e below _ (T104.setTop (mkF m 59 #[.val (.ref a1), .val (.int (Int32.ofNat A)), .val (.int (Int32.ofNat F)), .val (.int (Int32.ofNat Ln)), .val (.int (Int32.ofNat J)), .val (.int (Int32.ofNat E)), .unset, .unset, .unset] [(.ref pw), (.ref pw)]))
        refine Go.by (fun t => XS.iconst X104.here hx rfl (hb hby d3_59)) ?_
        show Go p e below _ (T104.setTop (mkF m 60 #[.val (.ref a1), .val (.int (Int32.ofNat A)), .val (.int (Int32.ofNat F)), .val (.int (Int32.ofNat Ln)), .val (.int (Int32.ofNat J)), .val (.int (Int32.ofNat E)), .unset, .unset, .unset] [(.int (2 : Int32)), (.ref pw), (.ref pw)]))
        refine Go.by (fun t => X104.ldc2Long hx hown (mvT hZ (hw _ (List.mem_of_getElem? (i := 15) rfl))) (g := (mkF m 60 #[.val (.ref a1), .val (.int (Int32.ofNat A)), .val (.int (Int32.ofNat F)), .val (.int (Int32.ofNat Ln)), .val (.int (Int32.ofNat J)), .val (.int (Int32.ofNat E)), .unset, .unset, .unset] [(.int (2 : Int32)), (.ref pw), (.ref pw)])) rfl (hb hby d3_60) t) ?_
        show Go p e below _ (T104.setTop (mkF m 63 #[.val (.ref a1), .val (.int (Int32.ofNat A)), .val (.int (Int32.ofNat F)), .val (.int (Int32.ofNat Ln)), .val (.int (Int32.ofNat J)), .val (.int (Int32.ofNat E)), .unset, .unset, .unset] [(.long (100 : Int64)), (.int (2 : Int32)), (.ref pw), (.ref pw)]))
        obtain ⟨cl_105, Ar_105, q_105, S_105, M_105, H_105, G_105⟩ := id V_pw
        obtain ⟨T105, h105, X105, e105, W105, st105⟩ := stJ X104 hx hZ e104 Ar_105 (j := (2 : Int32)) (inb_of S_105 ⟨by decide, by decide⟩) (g := (mkF m 63 #[.val (.ref a1), .val (.int (Int32.ofNat A)), .val (.int (Int32.ofNat F)), .val (.int (Int32.ofNat Ln)), .val (.int (Int32.ofNat J)), .val (.int (Int32.ofNat E)), .unset, .unset, .unset] [(.long (100 : Int64)), (.int (2 : Int32)), (.ref pw), (.ref pw)])) rfl rfl (hb hby d3_63)
        refine Go.by (fun t => st105 t) ?_
        replace V_pw := Arv.set Ar_105 q_105 S_105 M_105 H_105 G_105 rfl W105 2 rfl (Nat.le_of_ble_eq_true rfl)
        replace V_pw : Arv Z h105 pw k102 .long (10 : Int32) [(.long (1 : Int64)), (.long (10 : Int64)), (.long (100 : Int64)), (.long (0 : Int64)), (.long (0 : Int64)), (.long (0 : Int64)), (.long (0 : Int64)), (.long (0 : Int64)), (.long (0 : Int64)), (.long (0 : Int64))] (.long (0 : Int64)) := V_pw
        replace V_a1 := V_a1.other W105 ne_a1_pw
        replace Z0 := Nat.le_trans Z0 (Keep.of_wr W105).1
        replace K0 := K0.wr W105 (Or.inr sz_pw)
        have N105 := Fr.snoc X105 N104 g_pw
        show Go p e below _ (T105.setTop (mkF m 64 #[.val (.ref a1), .val (.int (Int32.ofNat A)), .val (.int (Int32.ofNat F)), .val (.int (Int32.ofNat Ln)), .val (.int (Int32.ofNat J)), .val (.int (Int32.ofNat E)), .unset, .unset, .unset] [(.ref pw)]))
        show Go p e below _ (T105.setTop (mkF m 64 #[.val (.ref a1), .val (.int (Int32.ofNat A)), .val (.int (Int32.ofNat F)), .val (.int (Int32.ofNat Ln)), .val (.int (Int32.ofNat J)), .val (.int (Int32.ofNat E)), .unset, .unset, .unset] [(.ref pw)]))
        refine Go.by (fun t => XS.dup X105.here hx rfl (hb hby d3_64) rfl rfl) ?_
        show Go p e below _ (T105.setTop (mkF m 65 #[.val (.ref a1), .val (.int (Int32.ofNat A)), .val (.int (Int32.ofNat F)), .val (.int (Int32.ofNat Ln)), .val (.int (Int32.ofNat J)), .val (.int (Int32.ofNat E)), .unset, .unset, .unset] [(.ref pw), (.ref pw)]))
        refine Go.by (fun t => XS.iconst X105.here hx rfl (hb hby d3_65)) ?_
        show Go p e below _ (T105.setTop (mkF m 66 #[.val (.ref a1), .val (.int (Int32.ofNat A)), .val (.int (Int32.ofNat F)), .val (.int (Int32.ofNat Ln)), .val (.int (Int32.ofNat J)), .val (.int (Int32.ofNat E)), .unset, .unset, .unset] [(.int (3 : Int32)), (.ref pw), (.ref pw)]))
        refine Go.by (fun t => X105.ldc2Long hx hown (mvT hZ (hw _ (List.mem_of_getElem? (i := 16) rfl))) (g := (mkF m 66 #[.val (.ref a1), .val (.int (Int32.ofNat A)), .val (.int (Int32.ofNat F)), .val (.int (Int32.ofNat Ln)), .val (.int (Int32.ofNat J)), .val (.int (Int32.ofNat E)), .unset, .unset, .unset] [(.int (3 : Int32)), (.ref pw), (.ref pw)])) rfl (hb hby d3_66) t) ?_
        show Go p e below _ (T105.setTop (mkF m 69 #[.val (.ref a1), .val (.int (Int32.ofNat A)), .val (.int (Int32.ofNat F)), .val (.int (Int32.ofNat Ln)), .val (.int (Int32.ofNat J)), .val (.int (Int32.ofNat E)), .unset, .unset, .unset] [(.long (1000 : Int64)), (.int (3 : Int32)), (.ref pw), (.ref pw)]))
        obtain ⟨cl_106, Ar_106, q_106, S_106, M_106, H_106, G_106⟩ := id V_pw
        obtain ⟨T106, h106, X106, e106, W106, st106⟩ := stJ X105 hx hZ e105 Ar_106 (j := (3 : Int32)) (inb_of S_106 ⟨by decide, by decide⟩) (g := (mkF m 69 #[.val (.ref a1), .val (.int (Int32.ofNat A)), .val (.int (Int32.ofNat F)), .val (.int (Int32.ofNat Ln)), .val (.int (Int32.ofNat J)), .val (.int (Int32.ofNat E)), .unset, .unset, .unset] [(.long (1000 : Int64)), (.int (3 : Int32)), (.ref pw), (.ref pw)])) rfl rfl (hb hby d3_69)
        refine Go.by (fun t => st106 t) ?_
        replace V_pw := Arv.set Ar_106 q_106 S_106 M_106 H_106 G_106 rfl W106 3 rfl (Nat.le_of_ble_eq_true rfl)
        replace V_pw : Arv Z h106 pw k102 .long (10 : Int32) [(.long (1 : Int64)), (.long (10 : Int64)), (.long (100 : Int64)), (.long (1000 : Int64)), (.long (0 : Int64)), (.long (0 : Int64)), (.long (0 : Int64)), (.long (0 : Int64)), (.long (0 : Int64)), (.long (0 : Int64))] (.long (0 : Int64)) := V_pw
        replace V_a1 := V_a1.other W106 ne_a1_pw
        replace Z0 := Nat.le_trans Z0 (Keep.of_wr W106).1
        replace K0 := K0.wr W106 (Or.inr sz_pw)
        have N106 := Fr.snoc X106 N105 g_pw
        show Go p e below _ (T106.setTop (mkF m 70 #[.val (.ref a1), .val (.int (Int32.ofNat A)), .val (.int (Int32.ofNat F)), .val (.int (Int32.ofNat Ln)), .val (.int (Int32.ofNat J)), .val (.int (Int32.ofNat E)), .unset, .unset, .unset] [(.ref pw)]))
        show Go p e below _ (T106.setTop (mkF m 70 #[.val (.ref a1), .val (.int (Int32.ofNat A)), .val (.int (Int32.ofNat F)), .val (.int (Int32.ofNat Ln)), .val (.int (Int32.ofNat J)), .val (.int (Int32.ofNat E)), .unset, .unset, .unset] [(.ref pw)]))
        refine Go.by (fun t => XS.dup X106.here hx rfl (hb hby d3_70) rfl rfl) ?_
        show Go p e below _ (T106.setTop (mkF m 71 #[.val (.ref a1), .val (.int (Int32.ofNat A)), .val (.int (Int32.ofNat F)), .val (.int (Int32.ofNat Ln)), .val (.int (Int32.ofNat J)), .val (.int (Int32.ofNat E)), .unset, .unset, .unset] [(.ref pw), (.ref pw)]))
        refine Go.by (fun t => XS.iconst X106.here hx rfl (hb hby d3_71)) ?_
        show Go p e below _ (T106.setTop (mkF m 72 #[.val (.ref a1), .val (.int (Int32.ofNat A)), .val (.int (Int32.ofNat F)), .val (.int (Int32.ofNat Ln)), .val (.int (Int32.ofNat J)), .val (.int (Int32.ofNat E)), .unset, .unset, .unset] [(.int (4 : Int32)), (.ref pw), (.ref pw)]))
        refine Go.by (fun t => X106.ldc2Long hx hown (mvT hZ (hw _ (List.mem_of_getElem? (i := 17) rfl))) (g := (mkF m 72 #[.val (.ref a1), .val (.int (Int32.ofNat A)), .val (.int (Int32.ofNat F)), .val (.int (Int32.ofNat Ln)), .val (.int (Int32.ofNat J)), .val (.int (Int32.ofNat E)), .unset, .unset, .unset] [(.int (4 : Int32)), (.ref pw), (.ref pw)])) rfl (hb hby d3_72) t) ?_
        show Go p e below _ (T106.setTop (mkF m 75 #[.val (.ref a1), .val (.int (Int32.ofNat A)), .val (.int (Int32.ofNat F)), .val (.int (Int32.ofNat Ln)), .val (.int (Int32.ofNat J)), .val (.int (Int32.ofNat E)), .unset, .unset, .unset] [(.long (10000 : Int64)), (.int (4 : Int32)), (.ref pw), (.ref pw)]))
        obtain ⟨cl_107, Ar_107, q_107, S_107, M_107, H_107, G_107⟩ := id V_pw
        obtain ⟨T107, h107, X107, e107, W107, st107⟩ := stJ X106 hx hZ e106 Ar_107 (j := (4 : Int32)) (inb_of S_107 ⟨by decide, by decide⟩) (g := (mkF m 75 #[.val (.ref a1), .val (.int (Int32.ofNat A)), .val (.int (Int32.ofNat F)), .val (.int (Int32.ofNat Ln)), .val (.int (Int32.ofNat J)), .val (.int (Int32.ofNat E)), .unset, .unset, .unset] [(.long (10000 : Int64)), (.int (4 : Int32)), (.ref pw), (.ref pw)])) rfl rfl (hb hby d3_75)
        refine Go.by (fun t => st107 t) ?_
        replace V_pw := Arv.set Ar_107 q_107 S_107 M_107 H_107 G_107 rfl W107 4 rfl (Nat.le_of_ble_eq_true rfl)
        replace V_pw : Arv Z h107 pw k102 .long (10 : Int32) [(.long (1 : Int64)), (.long (10 : Int64)), (.long (100 : Int64)), (.long (1000 : Int64)), (.long (10000 : Int64)), (.long (0 : Int64)), (.long (0 : Int64)), (.long (0 : Int64)), (.long (0 : Int64)), (.long (0 : Int64))] (.long (0 : Int64)) := V_pw
        replace V_a1 := V_a1.other W107 ne_a1_pw
        replace Z0 := Nat.le_trans Z0 (Keep.of_wr W107).1
        replace K0 := K0.wr W107 (Or.inr sz_pw)
        have N107 := Fr.snoc X107 N106 g_pw
        show Go p e below _ (T107.setTop (mkF m 76 #[.val (.ref a1), .val (.int (Int32.ofNat A)), .val (.int (Int32.ofNat F)), .val (.int (Int32.ofNat Ln)), .val (.int (Int32.ofNat J)), .val (.int (Int32.ofNat E)), .unset, .unset, .unset] [(.ref pw)]))
        show Go p e below _ (T107.setTop (mkF m 76 #[.val (.ref a1), .val (.int (Int32.ofNat A)), .val (.int (Int32.ofNat F)), .val (.int (Int32.ofNat Ln)), .val (.int (Int32.ofNat J)), .val (.int (Int32.ofNat E)), .unset, .unset, .unset] [(.ref pw)]))
        refine Go.by (fun t => XS.dup X107.here hx rfl (hb hby d3_76) rfl rfl) ?_
        show Go p e below _ (T107.setTop (mkF m 77 #[.val (.ref a1), .val (.int (Int32.ofNat A)), .val (.int (Int32.ofNat F)), .val (.int (Int32.ofNat Ln)), .val (.int (Int32.ofNat J)), .val (.int (Int32.ofNat E)), .unset, .unset, .unset] [(.ref pw), (.ref pw)]))
        refine Go.by (fun t => XS.iconst X107.here hx rfl (hb hby d3_77)) ?_
        show Go p e below _ (T107.setTop (mkF m 78 #[.val (.ref a1), .val (.int (Int32.ofNat A)), .val (.int (Int32.ofNat F)), .val (.int (Int32.ofNat Ln)), .val (.int (Int32.ofNat J)), .val (.int (Int32.ofNat E)), .unset, .unset, .unset] [(.int (5 : Int32)), (.ref pw), (.ref pw)]))
        refine Go.by (fun t => X107.ldc2Long hx hown (mvT hZ (hw _ (List.mem_of_getElem? (i := 18) rfl))) (g := (mkF m 78 #[.val (.ref a1), .val (.int (Int32.ofNat A)), .val (.int (Int32.ofNat F)), .val (.int (Int32.ofNat Ln)), .val (.int (Int32.ofNat J)), .val (.int (Int32.ofNat E)), .unset, .unset, .unset] [(.int (5 : Int32)), (.ref pw), (.ref pw)])) rfl (hb hby d3_78) t) ?_
        show Go p e below _ (T107.setTop (mkF m 81 #[.val (.ref a1), .val (.int (Int32.ofNat A)), .val (.int (Int32.ofNat F)), .val (.int (Int32.ofNat Ln)), .val (.int (Int32.ofNat J)), .val (.int (Int32.ofNat E)), .unset, .unset, .unset] [(.long (100000 : Int64)), (.int (5 : Int32)), (.ref pw), (.ref pw)]))
        obtain ⟨cl_108, Ar_108, q_108, S_108, M_108, H_108, G_108⟩ := id V_pw
        obtain ⟨T108, h108, X108, e108, W108, st108⟩ := stJ X107 hx hZ e107 Ar_108 (j := (5 : Int32)) (inb_of S_108 ⟨by decide, by decide⟩) (g := (mkF m 81 #[.val (.ref a1), .val (.int (Int32.ofNat A)), .val (.int (Int32.ofNat F)), .val (.int (Int32.ofNat Ln)), .val (.int (Int32.ofNat J)), .val (.int (Int32.ofNat E)), .unset, .unset, .unset] [(.long (100000 : Int64)), (.int (5 : Int32)), (.ref pw), (.ref pw)])) rfl rfl (hb hby d3_81)
        refine Go.by (fun t => st108 t) ?_
        replace V_pw := Arv.set Ar_108 q_108 S_108 M_108 H_108 G_108 rfl W108 5 rfl (Nat.le_of_ble_eq_true rfl)
        replace V_pw : Arv Z h108 pw k102 .long (10 : Int32) [(.long (1 : Int64)), (.long (10 : Int64)), (.long (100 : Int64)), (.long (1000 : Int64)), (.long (10000 : Int64)), (.long (100000 : Int64)), (.long (0 : Int64)), (.long (0 : Int64)), (.long (0 : Int64)), (.long (0 : Int64))] (.long (0 : Int64)) := V_pw
        replace V_a1 := V_a1.other W108 ne_a1_pw
        replace Z0 := Nat.le_trans Z0 (Keep.of_wr W108).1
        replace K0 := K0.wr W108 (Or.inr sz_pw)
        have N108 := Fr.snoc X108 N107 g_pw
        show Go p e below _ (T108.setTop (mkF m 82 #[.val (.ref a1), .val (.int (Int32.ofNat A)), .val (.int (Int32.ofNat F)), .val (.int (Int32.ofNat Ln)), .val (.int (Int32.ofNat J)), .val (.int (Int32.ofNat E)), .unset, .unset, .unset] [(.ref pw)]))
        show Go p e below _ (T108.setTop (mkF m 82 #[.val (.ref a1), .val (.int (Int32.ofNat A)), .val (.int (Int32.ofNat F)), .val (.int (Int32.ofNat Ln)), .val (.int (Int32.ofNat J)), .val (.int (Int32.ofNat E)), .unset, .unset, .unset] [(.ref pw)]))
        refine Go.by (fun t => XS.dup X108.here hx rfl (hb hby d3_82) rfl rfl) ?_
        show Go p e below _ (T108.setTop (mkF m 83 #[.val (.ref a1), .val (.int (Int32.ofNat A)), .val (.int (Int32.ofNat F)), .val (.int (Int32.ofNat Ln)), .val (.int (Int32.ofNat J)), .val (.int (Int32.ofNat E)), .unset, .unset, .unset] [(.ref pw), (.ref pw)]))
        refine Go.by (fun t => XS.bipush X108.here hx rfl (hb hby d3_83)) ?_
        show Go p e below _ (T108.setTop (mkF m 85 #[.val (.ref a1), .val (.int (Int32.ofNat A)), .val (.int (Int32.ofNat F)), .val (.int (Int32.ofNat Ln)), .val (.int (Int32.ofNat J)), .val (.int (Int32.ofNat E)), .unset, .unset, .unset] [(.int (6 : Int32)), (.ref pw), (.ref pw)]))
        refine Go.by (fun t => X108.ldc2Long hx hown (mvT hZ (hw _ (List.mem_of_getElem? (i := 19) rfl))) (g := (mkF m 85 #[.val (.ref a1), .val (.int (Int32.ofNat A)), .val (.int (Int32.ofNat F)), .val (.int (Int32.ofNat Ln)), .val (.int (Int32.ofNat J)), .val (.int (Int32.ofNat E)), .unset, .unset, .unset] [(.int (6 : Int32)), (.ref pw), (.ref pw)])) rfl (hb hby d3_85) t) ?_
        show Go p e below _ (T108.setTop (mkF m 88 #[.val (.ref a1), .val (.int (Int32.ofNat A)), .val (.int (Int32.ofNat F)), .val (.int (Int32.ofNat Ln)), .val (.int (Int32.ofNat J)), .val (.int (Int32.ofNat E)), .unset, .unset, .unset] [(.long (1000000 : Int64)), (.int (6 : Int32)), (.ref pw), (.ref pw)]))
        obtain ⟨cl_109, Ar_109, q_109, S_109, M_109, H_109, G_109⟩ := id V_pw
        obtain ⟨T109, h109, X109, e109, W109, st109⟩ := stJ X108 hx hZ e108 Ar_109 (j := (6 : Int32)) (inb_of S_109 ⟨by decide, by decide⟩) (g := (mkF m 88 #[.val (.ref a1), .val (.int (Int32.ofNat A)), .val (.int (Int32.ofNat F)), .val (.int (Int32.ofNat Ln)), .val (.int (Int32.ofNat J)), .val (.int (Int32.ofNat E)), .unset, .unset, .unset] [(.long (1000000 : Int64)), (.int (6 : Int32)), (.ref pw), (.ref pw)])) rfl rfl (hb hby d3_88)
        refine Go.by (fun t => st109 t) ?_
        replace V_pw := Arv.set Ar_109 q_109 S_109 M_109 H_109 G_109 rfl W109 6 rfl (Nat.le_of_ble_eq_true rfl)
        replace V_pw : Arv Z h109 pw k102 .long (10 : Int32) [(.long (1 : Int64)), (.long (10 : Int64)), (.long (100 : Int64)), (.long (1000 : Int64)), (.long (10000 : Int64)), (.long (100000 : Int64)), (.long (1000000 : Int64)), (.long (0 : Int64)), (.long (0 : Int64)), (.long (0 : Int64))] (.long (0 : Int64)) := V_pw
        replace V_a1 := V_a1.other W109 ne_a1_pw
        replace Z0 := Nat.le_trans Z0 (Keep.of_wr W109).1
        replace K0 := K0.wr W109 (Or.inr sz_pw)
        have N109 := Fr.snoc X109 N108 g_pw
        show Go p e below _ (T109.setTop (mkF m 89 #[.val (.ref a1), .val (.int (Int32.ofNat A)), .val (.int (Int32.ofNat F)), .val (.int (Int32.ofNat Ln)), .val (.int (Int32.ofNat J)), .val (.int (Int32.ofNat E)), .unset, .unset, .unset] [(.ref pw)]))
        show Go p e below _ (T109.setTop (mkF m 89 #[.val (.ref a1), .val (.int (Int32.ofNat A)), .val (.int (Int32.ofNat F)), .val (.int (Int32.ofNat Ln)), .val (.int (Int32.ofNat J)), .val (.int (Int32.ofNat E)), .unset, .unset, .unset] [(.ref pw)]))
        refine Go.by (fun t => XS.dup X109.here hx rfl (hb hby d3_89) rfl rfl) ?_
        show Go p e below _ (T109.setTop (mkF m 90 #[.val (.ref a1), .val (.int (Int32.ofNat A)), .val (.int (Int32.ofNat F)), .val (.int (Int32.ofNat Ln)), .val (.int (Int32.ofNat J)), .val (.int (Int32.ofNat E)), .unset, .unset, .unset] [(.ref pw), (.ref pw)]))
        refine Go.by (fun t => XS.bipush X109.here hx rfl (hb hby d3_90)) ?_
        show Go p e below _ (T109.setTop (mkF m 92 #[.val (.ref a1), .val (.int (Int32.ofNat A)), .val (.int (Int32.ofNat F)), .val (.int (Int32.ofNat Ln)), .val (.int (Int32.ofNat J)), .val (.int (Int32.ofNat E)), .unset, .unset, .unset] [(.int (7 : Int32)), (.ref pw), (.ref pw)]))
        refine Go.by (fun t => X109.ldc2Long hx hown (mvT hZ (hw _ (List.mem_of_getElem? (i := 20) rfl))) (g := (mkF m 92 #[.val (.ref a1), .val (.int (Int32.ofNat A)), .val (.int (Int32.ofNat F)), .val (.int (Int32.ofNat Ln)), .val (.int (Int32.ofNat J)), .val (.int (Int32.ofNat E)), .unset, .unset, .unset] [(.int (7 : Int32)), (.ref pw), (.ref pw)])) rfl (hb hby d3_92) t) ?_
        show Go p e below _ (T109.setTop (mkF m 95 #[.val (.ref a1), .val (.int (Int32.ofNat A)), .val (.int (Int32.ofNat F)), .val (.int (Int32.ofNat Ln)), .val (.int (Int32.ofNat J)), .val (.int (Int32.ofNat E)), .unset, .unset, .unset] [(.long (10000000 : Int64)), (.int (7 : Int32)), (.ref pw), (.ref pw)]))
        obtain ⟨cl_110, Ar_110, q_110, S_110, M_110, H_110, G_110⟩ := id V_pw
        obtain ⟨T110, h110, X110, e110, W110, st110⟩ := stJ X109 hx hZ e109 Ar_110 (j := (7 : Int32)) (inb_of S_110 ⟨by decide, by decide⟩) (g := (mkF m 95 #[.val (.ref a1), .val (.int (Int32.ofNat A)), .val (.int (Int32.ofNat F)), .val (.int (Int32.ofNat Ln)), .val (.int (Int32.ofNat J)), .val (.int (Int32.ofNat E)), .unset, .unset, .unset] [(.long (10000000 : Int64)), (.int (7 : Int32)), (.ref pw), (.ref pw)])) rfl rfl (hb hby d3_95)
        refine Go.by (fun t => st110 t) ?_
        replace V_pw := Arv.set Ar_110 q_110 S_110 M_110 H_110 G_110 rfl W110 7 rfl (Nat.le_of_ble_eq_true rfl)
        replace V_pw : Arv Z h110 pw k102 .long (10 : Int32) [(.long (1 : Int64)), (.long (10 : Int64)), (.long (100 : Int64)), (.long (1000 : Int64)), (.long (10000 : Int64)), (.long (100000 : Int64)), (.long (1000000 : Int64)), (.long (10000000 : Int64)), (.long (0 : Int64)), (.long (0 : Int64))] (.long (0 : Int64)) := V_pw
        replace V_a1 := V_a1.other W110 ne_a1_pw
        replace Z0 := Nat.le_trans Z0 (Keep.of_wr W110).1
        replace K0 := K0.wr W110 (Or.inr sz_pw)
        have N110 := Fr.snoc X110 N109 g_pw
        show Go p e below _ (T110.setTop (mkF m 96 #[.val (.ref a1), .val (.int (Int32.ofNat A)), .val (.int (Int32.ofNat F)), .val (.int (Int32.ofNat Ln)), .val (.int (Int32.ofNat J)), .val (.int (Int32.ofNat E)), .unset, .unset, .unset] [(.ref pw)]))
        show Go p e below _ (T110.setTop (mkF m 96 #[.val (.ref a1), .val (.int (Int32.ofNat A)), .val (.int (Int32.ofNat F)), .val (.int (Int32.ofNat Ln)), .val (.int (Int32.ofNat J)), .val (.int (Int32.ofNat E)), .unset, .unset, .unset] [(.ref pw)]))
        refine Go.by (fun t => XS.dup X110.here hx rfl (hb hby d3_96) rfl rfl) ?_
        show Go p e below _ (T110.setTop (mkF m 97 #[.val (.ref a1), .val (.int (Int32.ofNat A)), .val (.int (Int32.ofNat F)), .val (.int (Int32.ofNat Ln)), .val (.int (Int32.ofNat J)), .val (.int (Int32.ofNat E)), .unset, .unset, .unset] [(.ref pw), (.ref pw)]))
        refine Go.by (fun t => XS.bipush X110.here hx rfl (hb hby d3_97)) ?_
        show Go p e below _ (T110.setTop (mkF m 99 #[.val (.ref a1), .val (.int (Int32.ofNat A)), .val (.int (Int32.ofNat F)), .val (.int (Int32.ofNat Ln)), .val (.int (Int32.ofNat J)), .val (.int (Int32.ofNat E)), .unset, .unset, .unset] [(.int (8 : Int32)), (.ref pw), (.ref pw)]))
        refine Go.by (fun t => X110.ldc2Long hx hown (mvT hZ (hw _ (List.mem_of_getElem? (i := 21) rfl))) (g := (mkF m 99 #[.val (.ref a1), .val (.int (Int32.ofNat A)), .val (.int (Int32.ofNat F)), .val (.int (Int32.ofNat Ln)), .val (.int (Int32.ofNat J)), .val (.int (Int32.ofNat E)), .unset, .unset, .unset] [(.int (8 : Int32)), (.ref pw), (.ref pw)])) rfl (hb hby d3_99) t) ?_
        show Go p e below _ (T110.setTop (mkF m 102 #[.val (.ref a1), .val (.int (Int32.ofNat A)), .val (.int (Int32.ofNat F)), .val (.int (Int32.ofNat Ln)), .val (.int (Int32.ofNat J)), .val (.int (Int32.ofNat E)), .unset, .unset, .unset] [(.long (100000000 : Int64)), (.int (8 : Int32)), (.ref pw), (.ref pw)]))
        obtain ⟨cl_111, Ar_111, q_111, S_111, M_111, H_111, G_111⟩ := id V_pw
        obtain ⟨T111, h111, X111, e111, W111, st111⟩ := stJ X110 hx hZ e110 Ar_111 (j := (8 : Int32)) (inb_of S_111 ⟨by decide, by decide⟩) (g := (mkF m 102 #[.val (.ref a1), .val (.int (Int32.ofNat A)), .val (.int (Int32.ofNat F)), .val (.int (Int32.ofNat Ln)), .val (.int (Int32.ofNat J)), .val (.int (Int32.ofNat E)), .unset, .unset, .unset] [(.long (100000000 : Int64)), (.int (8 : Int32)), (.ref pw), (.ref pw)])) rfl rfl (hb hby d3_102)
        refine Go.by (fun t => st111 t) ?_
        replace V_pw := Arv.set Ar_111 q_111 S_111 M_111 H_111 G_111 rfl W111 8 rfl (Nat.le_of_ble_eq_true rfl)
        replace V_pw : Arv Z h111 pw k102 .long (10 : Int32) [(.long (1 : Int64)), (.long (10 : Int64)), (.long (100 : Int64)), (.long (1000 : Int64)), (.long (10000 : Int64)), (.long (100000 : Int64)), (.long (1000000 : Int64)), (.long (10000000 : Int64)), (.long (100000000 : Int64)), (.long (0 : Int64))] (.long (0 : Int64)) := V_pw
        replace V_a1 := V_a1.other W111 ne_a1_pw
        replace Z0 := Nat.le_trans Z0 (Keep.of_wr W111).1
        replace K0 := K0.wr W111 (Or.inr sz_pw)
        have N111 := Fr.snoc X111 N110 g_pw
        show Go p e below _ (T111.setTop (mkF m 103 #[.val (.ref a1), .val (.int (Int32.ofNat A)), .val (.int (Int32.ofNat F)), .val (.int (Int32.ofNat Ln)), .val (.int (Int32.ofNat J)), .val (.int (Int32.ofNat E)), .unset, .unset, .unset] [(.ref pw)]))
        show Go p e below _ (T111.setTop (mkF m 103 #[.val (.ref a1), .val (.int (Int32.ofNat A)), .val (.int (Int32.ofNat F)), .val (.int (Int32.ofNat Ln)), .val (.int (Int32.ofNat J)), .val (.int (Int32.ofNat E)), .unset, .unset, .unset] [(.ref pw)]))
        refine Go.by (fun t => XS.dup X111.here hx rfl (hb hby d3_103) rfl rfl) ?_
        show Go p e below _ (T111.setTop (mkF m 104 #[.val (.ref a1), .val (.int (Int32.ofNat A)), .val (.int (Int32.ofNat F)), .val (.int (Int32.ofNat Ln)), .val (.int (Int32.ofNat J)), .val (.int (Int32.ofNat E)), .unset, .unset, .unset] [(.ref pw), (.ref pw)]))
        refine Go.by (fun t => XS.bipush X111.here hx rfl (hb hby d3_104)) ?_
        show Go p e below _ (T111.setTop (mkF m 106 #[.val (.ref a1), .val (.int (Int32.ofNat A)), .val (.int (Int32.ofNat F)), .val (.int (Int32.ofNat Ln)), .val (.int (Int32.ofNat J)), .val (.int (Int32.ofNat E)), .unset, .unset, .unset] [(.int (9 : Int32)), (.ref pw), (.ref pw)]))
        refine Go.by (fun t => X111.ldc2Long hx hown (mvT hZ (hw _ (List.mem_of_getElem? (i := 22) rfl))) (g := (mkF m 106 #[.val (.ref a1), .val (.int (Int32.ofNat A)), .val (.int (Int32.ofNat F)), .val (.int (Int32.ofNat Ln)), .val (.int (Int32.ofNat J)), .val (.int (Int32.ofNat E)), .unset, .unset, .unset] [(.int (9 : Int32)), (.ref pw), (.ref pw)])) rfl (hb hby d3_106) t) ?_
        show Go p e below _ (T111.setTop (mkF m 109 #[.val (.ref a1), .val (.int (Int32.ofNat A)), .val (.int (Int32.ofNat F)), .val (.int (Int32.ofNat Ln)), .val (.int (Int32.ofNat J)), .val (.int (Int32.ofNat E)), .unset, .unset, .unset] [(.long (1000000000 : Int64)), (.int (9 : Int32)), (.ref pw), (.ref pw)]))
        obtain ⟨cl_112, Ar_112, q_112, S_112, M_112, H_112, G_112⟩ := id V_pw
        obtain ⟨T112, h112, X112, e112, W112, st112⟩ := stJ X111 hx hZ e111 Ar_112 (j := (9 : Int32)) (inb_of S_112 ⟨by decide, by decide⟩) (g := (mkF m 109 #[.val (.ref a1), .val (.int (Int32.ofNat A)), .val (.int (Int32.ofNat F)), .val (.int (Int32.ofNat Ln)), .val (.int (Int32.ofNat J)), .val (.int (Int32.ofNat E)), .unset, .unset, .unset] [(.long (1000000000 : Int64)), (.int (9 : Int32)), (.ref pw), (.ref pw)])) rfl rfl (hb hby d3_109)
        refine Go.by (fun t => st112 t) ?_
        replace V_pw := Arv.set Ar_112 q_112 S_112 M_112 H_112 G_112 rfl W112 9 rfl (Nat.le_of_ble_eq_true rfl)
        replace V_pw : Arv Z h112 pw k102 .long (10 : Int32) [(.long (1 : Int64)), (.long (10 : Int64)), (.long (100 : Int64)), (.long (1000 : Int64)), (.long (10000 : Int64)), (.long (100000 : Int64)), (.long (1000000 : Int64)), (.long (10000000 : Int64)), (.long (100000000 : Int64)), (.long (1000000000 : Int64))] (.long (0 : Int64)) := V_pw
        replace V_a1 := V_a1.other W112 ne_a1_pw
        replace Z0 := Nat.le_trans Z0 (Keep.of_wr W112).1
        replace K0 := K0.wr W112 (Or.inr sz_pw)
        have N112 := Fr.snoc X112 N111 g_pw
        show Go p e below _ (T112.setTop (mkF m 110 #[.val (.ref a1), .val (.int (Int32.ofNat A)), .val (.int (Int32.ofNat F)), .val (.int (Int32.ofNat Ln)), .val (.int (Int32.ofNat J)), .val (.int (Int32.ofNat E)), .unset, .unset, .unset] [(.ref pw)]))
        show Go p e below _ (T112.setTop (mkF m 110 #[.val (.ref a1), .val (.int (Int32.ofNat A)), .val (.int (Int32.ofNat F)), .val (.int (Int32.ofNat Ln)), .val (.int (Int32.ofNat J)), .val (.int (Int32.ofNat E)), .unset, .unset, .unset] [(.ref pw)]))
        show Go p e below _ (T112.setTop (mkF m 110 #[.val (.ref a1), .val (.int (Int32.ofNat A)), .val (.int (Int32.ofNat F)), .val (.int (Int32.ofNat Ln)), .val (.int (Int32.ofNat J)), .val (.int (Int32.ofNat E)), .unset, .unset, .unset] [(.ref pw)]))
        refine Go.by (fun t => XS.astore X112.here hx rfl (hb hby d3_110) rfl rfl (l' := #[.val (.ref a1), .val (.int (Int32.ofNat A)), .val (.int (Int32.ofNat F)), .val (.int (Int32.ofNat Ln)), .val (.int (Int32.ofNat J)), .val (.int (Int32.ofNat E)), .val (.ref pw), .unset, .unset]) rfl) ?_
        show Go p e below _ (T112.setTop (mkF m 112 #[.val (.ref a1), .val (.int (Int32.ofNat A)), .val (.int (Int32.ofNat F)), .val (.int (Int32.ofNat Ln)), .val (.int (Int32.ofNat J)), .val (.int (Int32.ofNat E)), .val (.ref pw), .unset, .unset] []))
        refine Go.by (fun t => XS.aload X112.here hx rfl (hb hby d3_112) rfl rfl) ?_
        show Go p e below _ (T112.setTop (mkF m 114 #[.val (.ref a1), .val (.int (Int32.ofNat A)), .val (.int (Int32.ofNat F)), .val (.int (Int32.ofNat Ln)), .val (.int (Int32.ofNat J)), .val (.int (Int32.ofNat E)), .val (.ref pw), .unset, .unset] [(.ref pw)]))
        refine Go.by (fun t => XS.iload X112.here hx rfl (hb hby d3_114) rfl ) ?_
        show Go p e below _ (T112.setTop (mkF m 116 #[.val (.ref a1), .val (.int (Int32.ofNat A)), .val (.int (Int32.ofNat F)), .val (.int (Int32.ofNat Ln)), .val (.int (Int32.ofNat J)), .val (.int (Int32.ofNat E)), .val (.ref pw), .unset, .unset] [(.int (Int32.ofNat E)), (.ref pw)]))
        obtain ⟨hp1, hp2⟩ := pow_b ⟨E, hE⟩
        dsimp only at hp1 hp2
        have hnz := L_ne hp2 hp1
        obtain ⟨cl_113, Ar_113, q_113, S_113, M_113, H_113, G_113⟩ := id V_pw
        have in_113 := inb_of S_113 (j := (Int32.ofNat E)) ⟨nlt32 (b := 0) (by omega) (by omega), lt32 (b := 10) (by decide) (by omega)⟩
        refine Go.by (fun t => X112.laload hx (j := (Int32.ofNat E)) (v := (.long (Int64.ofNat (10 ^ E)))) (by rw [e112]; exact Ar_113.1) (State.isArrayOf_alike hZ.alike Ar_113.2.1) Ar_113.2.2 in_113 (H_113.at in_113 (pow_at ⟨E, hE⟩)) (g := (mkF m 116 #[.val (.ref a1), .val (.int (Int32.ofNat A)), .val (.int (Int32.ofNat F)), .val (.int (Int32.ofNat Ln)), .val (.int (Int32.ofNat J)), .val (.int (Int32.ofNat E)), .val (.ref pw), .unset, .unset] [(.int (Int32.ofNat E)), (.ref pw)])) rfl rfl (hb hby d3_116) t) ?_
        show Go p e below _ (T112.setTop (mkF m 117 #[.val (.ref a1), .val (.int (Int32.ofNat A)), .val (.int (Int32.ofNat F)), .val (.int (Int32.ofNat Ln)), .val (.int (Int32.ofNat J)), .val (.int (Int32.ofNat E)), .val (.ref pw), .unset, .unset] [(.long (Int64.ofNat (10 ^ E)))]))
        show Go p e below _ (T112.setTop (mkF m 117 #[.val (.ref a1), .val (.int (Int32.ofNat A)), .val (.int (Int32.ofNat F)), .val (.int (Int32.ofNat Ln)), .val (.int (Int32.ofNat J)), .val (.int (Int32.ofNat E)), .val (.ref pw), .unset, .unset] [(.long (Int64.ofNat (10 ^ E)))]))
        refine Go.by (fun t => XS.lstore X112.here hx rfl (hb hby d3_117) rfl (l' := #[.val (.ref a1), .val (.int (Int32.ofNat A)), .val (.int (Int32.ofNat F)), .val (.int (Int32.ofNat Ln)), .val (.int (Int32.ofNat J)), .val (.int (Int32.ofNat E)), .val (.ref pw), .val (.long (Int64.ofNat (10 ^ E))), .second]) rfl) ?_
        show Go p e below _ (T112.setTop (mkF m 119 #[.val (.ref a1), .val (.int (Int32.ofNat A)), .val (.int (Int32.ofNat F)), .val (.int (Int32.ofNat Ln)), .val (.int (Int32.ofNat J)), .val (.int (Int32.ofNat E)), .val (.ref pw), .val (.long (Int64.ofNat (10 ^ E))), .second] []))
        refine Go.by (fun t => XS.aloadN X112.here hx rfl (hb hby d3_119) rfl rfl) ?_
        show Go p e below _ (T112.setTop (mkF m 120 #[.val (.ref a1), .val (.int (Int32.ofNat A)), .val (.int (Int32.ofNat F)), .val (.int (Int32.ofNat Ln)), .val (.int (Int32.ofNat J)), .val (.int (Int32.ofNat E)), .val (.ref pw), .val (.long (Int64.ofNat (10 ^ E))), .second] [(.ref a1)]))
        refine Go.by (fun t => XS.iloadN X112.here hx rfl (hb hby d3_120) rfl ) ?_
        show Go p e below _ (T112.setTop (mkF m 121 #[.val (.ref a1), .val (.int (Int32.ofNat A)), .val (.int (Int32.ofNat F)), .val (.int (Int32.ofNat Ln)), .val (.int (Int32.ofNat J)), .val (.int (Int32.ofNat E)), .val (.ref pw), .val (.long (Int64.ofNat (10 ^ E))), .second] [(.int (Int32.ofNat A)), (.ref a1)]))
        refine Go.by (fun t => XS.iload X112.here hx rfl (hb hby d3_121) rfl ) ?_
        show Go p e below _ (T112.setTop (mkF m 123 #[.val (.ref a1), .val (.int (Int32.ofNat A)), .val (.int (Int32.ofNat F)), .val (.int (Int32.ofNat Ln)), .val (.int (Int32.ofNat J)), .val (.int (Int32.ofNat E)), .val (.ref pw), .val (.long (Int64.ofNat (10 ^ E))), .second] [(.int (Int32.ofNat J)), (.int (Int32.ofNat A)), (.ref a1)]))
        refine Go.by (fun t => XS.iadd X112.here hx rfl (hb hby d3_123) rfl) ?_
        show Go p e below _ (T112.setTop (mkF m 124 #[.val (.ref a1), .val (.int (Int32.ofNat A)), .val (.int (Int32.ofNat F)), .val (.int (Int32.ofNat Ln)), .val (.int (Int32.ofNat J)), .val (.int (Int32.ofNat E)), .val (.ref pw), .val (.long (Int64.ofNat (10 ^ E))), .second] [(.int ((Int32.ofNat A) + (Int32.ofNat J))), (.ref a1)]))
        rw [add32n A J]
        show Go p e below _ (T112.setTop (mkF m 124 #[.val (.ref a1), .val (.int (Int32.ofNat A)), .val (.int (Int32.ofNat F)), .val (.int (Int32.ofNat Ln)), .val (.int (Int32.ofNat J)), .val (.int (Int32.ofNat E)), .val (.ref pw), .val (.long (Int64.ofNat (10 ^ E))), .second] [(.int (Int32.ofNat (A + J))), (.ref a1)]))
        show Go p e below _ (T112.setTop (mkF m 124 #[.val (.ref a1), .val (.int (Int32.ofNat A)), .val (.int (Int32.ofNat F)), .val (.int (Int32.ofNat Ln)), .val (.int (Int32.ofNat J)), .val (.int (Int32.ofNat E)), .val (.ref pw), .val (.long (Int64.ofNat (10 ^ E))), .second] [(.int (Int32.ofNat (A + J))), (.ref a1)]))
        refine Go.by (fun t => XS.bipush X112.here hx rfl (hb hby d3_124)) ?_
        show Go p e below _ (T112.setTop (mkF m 126 #[.val (.ref a1), .val (.int (Int32.ofNat A)), .val (.int (Int32.ofNat F)), .val (.int (Int32.ofNat Ln)), .val (.int (Int32.ofNat J)), .val (.int (Int32.ofNat E)), .val (.ref pw), .val (.long (Int64.ofNat (10 ^ E))), .second] [(.int (48 : Int32)), (.int (Int32.ofNat (A + J))), (.ref a1)]))
        refine Go.by (fun t => XS.iloadN X112.here hx rfl (hb hby d3_126) rfl ) ?_
        show Go p e below _ (T112.setTop (mkF m 127 #[.val (.ref a1), .val (.int (Int32.ofNat A)), .val (.int (Int32.ofNat F)), .val (.int (Int32.ofNat Ln)), .val (.int (Int32.ofNat J)), .val (.int (Int32.ofNat E)), .val (.ref pw), .val (.long (Int64.ofNat (10 ^ E))), .second] [(.int (Int32.ofNat F)), (.int (48 : Int32)), (.int (Int32.ofNat (A + J))), (.ref a1)]))
        refine Go.by (fun t => XS.i2l X112.here hx rfl (hb hby d3_127) rfl) ?_
        show Go p e below _ (T112.setTop (mkF m 128 #[.val (.ref a1), .val (.int (Int32.ofNat A)), .val (.int (Int32.ofNat F)), .val (.int (Int32.ofNat Ln)), .val (.int (Int32.ofNat J)), .val (.int (Int32.ofNat E)), .val (.ref pw), .val (.long (Int64.ofNat (10 ^ E))), .second] [(.long ((Int32.ofNat F).toInt64)), (.int (48 : Int32)), (.int (Int32.ofNat (A + J))), (.ref a1)]))
        rw [l_of hF]
        show Go p e below _ (T112.setTop (mkF m 128 #[.val (.ref a1), .val (.int (Int32.ofNat A)), .val (.int (Int32.ofNat F)), .val (.int (Int32.ofNat Ln)), .val (.int (Int32.ofNat J)), .val (.int (Int32.ofNat E)), .val (.ref pw), .val (.long (Int64.ofNat (10 ^ E))), .second] [(.long (Int64.ofNat F)), (.int (48 : Int32)), (.int (Int32.ofNat (A + J))), (.ref a1)]))
        show Go p e below _ (T112.setTop (mkF m 128 #[.val (.ref a1), .val (.int (Int32.ofNat A)), .val (.int (Int32.ofNat F)), .val (.int (Int32.ofNat Ln)), .val (.int (Int32.ofNat J)), .val (.int (Int32.ofNat E)), .val (.ref pw), .val (.long (Int64.ofNat (10 ^ E))), .second] [(.long (Int64.ofNat F)), (.int (48 : Int32)), (.int (Int32.ofNat (A + J))), (.ref a1)]))
        refine Go.by (fun t => XS.lload X112.here hx rfl (hb hby d3_128) rfl ) ?_
        show Go p e below _ (T112.setTop (mkF m 130 #[.val (.ref a1), .val (.int (Int32.ofNat A)), .val (.int (Int32.ofNat F)), .val (.int (Int32.ofNat Ln)), .val (.int (Int32.ofNat J)), .val (.int (Int32.ofNat E)), .val (.ref pw), .val (.long (Int64.ofNat (10 ^ E))), .second] [(.long (Int64.ofNat (10 ^ E))), (.long (Int64.ofNat F)), (.int (48 : Int32)), (.int (Int32.ofNat (A + J))), (.ref a1)]))
        refine Go.by (fun t => XS.ldiv X112.here hx rfl (hb hby d3_130) rfl (by first | assumption | decide)) ?_
        show Go p e below _ (T112.setTop (mkF m 131 #[.val (.ref a1), .val (.int (Int32.ofNat A)), .val (.int (Int32.ofNat F)), .val (.int (Int32.ofNat Ln)), .val (.int (Int32.ofNat J)), .val (.int (Int32.ofNat E)), .val (.ref pw), .val (.long (Int64.ofNat (10 ^ E))), .second] [(.long ((Int64.ofNat F) / (Int64.ofNat (10 ^ E)))), (.int (48 : Int32)), (.int (Int32.ofNat (A + J))), (.ref a1)]))
        rw [L_div hF hp2]
        show Go p e below _ (T112.setTop (mkF m 131 #[.val (.ref a1), .val (.int (Int32.ofNat A)), .val (.int (Int32.ofNat F)), .val (.int (Int32.ofNat Ln)), .val (.int (Int32.ofNat J)), .val (.int (Int32.ofNat E)), .val (.ref pw), .val (.long (Int64.ofNat (10 ^ E))), .second] [(.long (Int64.ofNat (F / 10 ^ E))), (.int (48 : Int32)), (.int (Int32.ofNat (A + J))), (.ref a1)]))
        refine Go.by (fun t => X112.ldc2Long hx hown (mvT hZ (hw _ (List.mem_of_getElem? (i := 14) rfl))) (g := (mkF m 131 #[.val (.ref a1), .val (.int (Int32.ofNat A)), .val (.int (Int32.ofNat F)), .val (.int (Int32.ofNat Ln)), .val (.int (Int32.ofNat J)), .val (.int (Int32.ofNat E)), .val (.ref pw), .val (.long (Int64.ofNat (10 ^ E))), .second] [(.long (Int64.ofNat (F / 10 ^ E))), (.int (48 : Int32)), (.int (Int32.ofNat (A + J))), (.ref a1)])) rfl (hb hby d3_131) t) ?_
        show Go p e below _ (T112.setTop (mkF m 134 #[.val (.ref a1), .val (.int (Int32.ofNat A)), .val (.int (Int32.ofNat F)), .val (.int (Int32.ofNat Ln)), .val (.int (Int32.ofNat J)), .val (.int (Int32.ofNat E)), .val (.ref pw), .val (.long (Int64.ofNat (10 ^ E))), .second] [(.long (10 : Int64)), (.long (Int64.ofNat (F / 10 ^ E))), (.int (48 : Int32)), (.int (Int32.ofNat (A + J))), (.ref a1)]))
        have hFd : F / 10 ^ E < 2147483648 := Nat.lt_of_le_of_lt (Nat.div_le_self _ _) hF
        show Go p e below _ (T112.setTop (mkF m 134 #[.val (.ref a1), .val (.int (Int32.ofNat A)), .val (.int (Int32.ofNat F)), .val (.int (Int32.ofNat Ln)), .val (.int (Int32.ofNat J)), .val (.int (Int32.ofNat E)), .val (.ref pw), .val (.long (Int64.ofNat (10 ^ E))), .second] [(.long (10 : Int64)), (.long (Int64.ofNat (F / 10 ^ E))), (.int (48 : Int32)), (.int (Int32.ofNat (A + J))), (.ref a1)]))
        refine Go.by (fun t => XS.lrem X112.here hx rfl (hb hby d3_134) rfl (by first | assumption | decide)) ?_
        show Go p e below _ (T112.setTop (mkF m 135 #[.val (.ref a1), .val (.int (Int32.ofNat A)), .val (.int (Int32.ofNat F)), .val (.int (Int32.ofNat Ln)), .val (.int (Int32.ofNat J)), .val (.int (Int32.ofNat E)), .val (.ref pw), .val (.long (Int64.ofNat (10 ^ E))), .second] [(.long ((Int64.ofNat (F / 10 ^ E)) - ((Int64.ofNat (F / 10 ^ E)) / (10 : Int64)) * (10 : Int64))), (.int (48 : Int32)), (.int (Int32.ofNat (A + J))), (.ref a1)]))
        rw [lrem_mod]
        show Go p e below _ (T112.setTop (mkF m 135 #[.val (.ref a1), .val (.int (Int32.ofNat A)), .val (.int (Int32.ofNat F)), .val (.int (Int32.ofNat Ln)), .val (.int (Int32.ofNat J)), .val (.int (Int32.ofNat E)), .val (.ref pw), .val (.long (Int64.ofNat (10 ^ E))), .second] [(.long ((Int64.ofNat (F / 10 ^ E)) % (10 : Int64))), (.int (48 : Int32)), (.int (Int32.ofNat (A + J))), (.ref a1)]))
        rw [L_rem10 hFd]
        show Go p e below _ (T112.setTop (mkF m 135 #[.val (.ref a1), .val (.int (Int32.ofNat A)), .val (.int (Int32.ofNat F)), .val (.int (Int32.ofNat Ln)), .val (.int (Int32.ofNat J)), .val (.int (Int32.ofNat E)), .val (.ref pw), .val (.long (Int64.ofNat (10 ^ E))), .second] [(.long (Int64.ofNat (F / 10 ^ E % 10))), (.int (48 : Int32)), (.int (Int32.ofNat (A + J))), (.ref a1)]))
        show Go p e below _ (T112.setTop (mkF m 135 #[.val (.ref a1), .val (.int (Int32.ofNat A)), .val (.int (Int32.ofNat F)), .val (.int (Int32.ofNat Ln)), .val (.int (Int32.ofNat J)), .val (.int (Int32.ofNat E)), .val (.ref pw), .val (.long (Int64.ofNat (10 ^ E))), .second] [(.long (Int64.ofNat (F / 10 ^ E % 10))), (.int (48 : Int32)), (.int (Int32.ofNat (A + J))), (.ref a1)]))
        refine Go.by (fun t => XS.l2i X112.here hx rfl (hb hby d3_135) rfl) ?_
        show Go p e below _ (T112.setTop (mkF m 136 #[.val (.ref a1), .val (.int (Int32.ofNat A)), .val (.int (Int32.ofNat F)), .val (.int (Int32.ofNat Ln)), .val (.int (Int32.ofNat J)), .val (.int (Int32.ofNat E)), .val (.ref pw), .val (.long (Int64.ofNat (10 ^ E))), .second] [(.int ((Int64.ofNat (F / 10 ^ E % 10)).toInt32)), (.int (48 : Int32)), (.int (Int32.ofNat (A + J))), (.ref a1)]))
        rw [L_int (by omega)]
        show Go p e below _ (T112.setTop (mkF m 136 #[.val (.ref a1), .val (.int (Int32.ofNat A)), .val (.int (Int32.ofNat F)), .val (.int (Int32.ofNat Ln)), .val (.int (Int32.ofNat J)), .val (.int (Int32.ofNat E)), .val (.ref pw), .val (.long (Int64.ofNat (10 ^ E))), .second] [(.int (Int32.ofNat (F / 10 ^ E % 10))), (.int (48 : Int32)), (.int (Int32.ofNat (A + J))), (.ref a1)]))
        show Go p e below _ (T112.setTop (mkF m 136 #[.val (.ref a1), .val (.int (Int32.ofNat A)), .val (.int (Int32.ofNat F)), .val (.int (Int32.ofNat Ln)), .val (.int (Int32.ofNat J)), .val (.int (Int32.ofNat E)), .val (.ref pw), .val (.long (Int64.ofNat (10 ^ E))), .second] [(.int (Int32.ofNat (F / 10 ^ E % 10))), (.int (48 : Int32)), (.int (Int32.ofNat (A + J))), (.ref a1)]))
        refine Go.by (fun t => XS.iadd X112.here hx rfl (hb hby d3_136) rfl) ?_
        show Go p e below _ (T112.setTop (mkF m 137 #[.val (.ref a1), .val (.int (Int32.ofNat A)), .val (.int (Int32.ofNat F)), .val (.int (Int32.ofNat Ln)), .val (.int (Int32.ofNat J)), .val (.int (Int32.ofNat E)), .val (.ref pw), .val (.long (Int64.ofNat (10 ^ E))), .second] [(.int ((48 : Int32) + (Int32.ofNat (F / 10 ^ E % 10)))), (.int (Int32.ofNat (A + J))), (.ref a1)]))
        rw [I_48]
        show Go p e below _ (T112.setTop (mkF m 137 #[.val (.ref a1), .val (.int (Int32.ofNat A)), .val (.int (Int32.ofNat F)), .val (.int (Int32.ofNat Ln)), .val (.int (Int32.ofNat J)), .val (.int (Int32.ofNat E)), .val (.ref pw), .val (.long (Int64.ofNat (10 ^ E))), .second] [(.int (Int32.ofNat (48 + F / 10 ^ E % 10))), (.int (Int32.ofNat (A + J))), (.ref a1)]))
        show Go p e below _ (T112.setTop (mkF m 137 #[.val (.ref a1), .val (.int (Int32.ofNat A)), .val (.int (Int32.ofNat F)), .val (.int (Int32.ofNat Ln)), .val (.int (Int32.ofNat J)), .val (.int (Int32.ofNat E)), .val (.ref pw), .val (.long (Int64.ofNat (10 ^ E))), .second] [(.int (Int32.ofNat (48 + F / 10 ^ E % 10))), (.int (Int32.ofNat (A + J))), (.ref a1)]))
        refine Go.by (fun t => XS.i2c X112.here hx rfl (hb hby d3_137) rfl) ?_
        show Go p e below _ (T112.setTop (mkF m 138 #[.val (.ref a1), .val (.int (Int32.ofNat A)), .val (.int (Int32.ofNat F)), .val (.int (Int32.ofNat Ln)), .val (.int (Int32.ofNat J)), .val (.int (Int32.ofNat E)), .val (.ref pw), .val (.long (Int64.ofNat (10 ^ E))), .second] [(.int ((Int32.ofNat (48 + F / 10 ^ E % 10)).toUInt32.toUInt16.toUInt32.toInt32)), (.int (Int32.ofNat (A + J))), (.ref a1)]))
        obtain ⟨cl_114, Ar_114, q_114, S_114, M_114, H_114, G_114⟩ := id V_a1
        obtain ⟨T114, h114, X114, e114, W114, st114⟩ := stC X112 hx hZ e112 Ar_114 (j := (Int32.ofNat (A + J))) (inb_of S_114 inA) (g := (mkF m 138 #[.val (.ref a1), .val (.int (Int32.ofNat A)), .val (.int (Int32.ofNat F)), .val (.int (Int32.ofNat Ln)), .val (.int (Int32.ofNat J)), .val (.int (Int32.ofNat E)), .val (.ref pw), .val (.long (Int64.ofNat (10 ^ E))), .second] [(.int ((Int32.ofNat (48 + F / 10 ^ E % 10)).toUInt32.toUInt16.toUInt32.toInt32)), (.int (Int32.ofNat (A + J))), (.ref a1)])) rfl rfl (hb hby d3_138)
        refine Go.by (fun t => st114 t) ?_
        replace V_a1 := Arv.set Ar_114 q_114 S_114 M_114 H_114 G_114 (fits_nar_char _) W114 (A + J) inN inL
        replace V_pw := V_pw.other W114 (Ne.symm ne_a1_pw)
        replace Z0 := Nat.le_trans Z0 (Keep.of_wr W114).1
        replace K0 := K0.wr W114 (Or.inl (List.mem_of_getElem? (i := 0) rfl))
        have N114 := Fr.snoc X114 N112 g_a1
        show Go p e below _ (T114.setTop (mkF m 139 #[.val (.ref a1), .val (.int (Int32.ofNat A)), .val (.int (Int32.ofNat F)), .val (.int (Int32.ofNat Ln)), .val (.int (Int32.ofNat J)), .val (.int (Int32.ofNat E)), .val (.ref pw), .val (.long (Int64.ofNat (10 ^ E))), .second] []))
        rw [ch_of (k := 48 + F / 10 ^ E % 10) (by omega)] at V_a1
        have e46 : 48 + F / 10 ^ E % 10 = gch A F Ln (A + J) := hg
        rw [e46, asc_set hA hJ h1] at V_a1
        show Go p e below _ (T114.setTop (mkF m 139 #[.val (.ref a1), .val (.int (Int32.ofNat A)), .val (.int (Int32.ofNat F)), .val (.int (Int32.ofNat Ln)), .val (.int (Int32.ofNat J)), .val (.int (Int32.ofNat E)), .val (.ref pw), .val (.long (Int64.ofNat (10 ^ E))), .second] []))
        exact Go.ret0 X114 hx Bd.returns Bd.notSynchronized (hb hby d3_139) (by decide) (by decide) (by first | (rw [e114]; exact ⟨rfl, N114, K0, V_a1⟩) | exact ⟨rfl, N114, K0, V_a1⟩)
      by_cases h3 : J = Ln - 1
      ·
        refine Go.by (fun t => XS.icmpNo X0.here hx rfl (hb hby d3_29) rfl (teq (congrArg Int32.ofNat h3 : (Int32.ofNat J) = (Int32.ofNat (Ln - 1)))).2) ?_
        show Go p e below _ (s₁.setTop (mkF m 32 #[.val (.ref a1), .val (.int (Int32.ofNat A)), .val (.int (Int32.ofNat F)), .val (.int (Int32.ofNat Ln)), .val (.int (Int32.ofNat J)), .unset, .unset, .unset, .unset] []))
        show Go p e below _ (s₁.setTop (mkF m 32 #[.val (.ref a1), .val (.int (Int32.ofNat A)), .val (.int (Int32.ofNat F)), .val (.int (Int32.ofNat Ln)), .val (.int (Int32.ofNat J)), .unset, .unset, .unset, .unset] []))
        refine Go.by (fun t => XS.iconst X0.here hx rfl (hb hby d3_32)) ?_
        show Go p e below _ (s₁.setTop (mkF m 33 #[.val (.ref a1), .val (.int (Int32.ofNat A)), .val (.int (Int32.ofNat F)), .val (.int (Int32.ofNat Ln)), .val (.int (Int32.ofNat J)), .unset, .unset, .unset, .unset] [(.int (0 : Int32))]))
        refine Go.by (fun t => XS.goto X0.here hx rfl (pc0 := 33) (pc' := 42) rfl (hb hby d3_33) (by decide) (by decide)) ?_
        show Go p e below _ (s₁.setTop (mkF m 42 #[.val (.ref a1), .val (.int (Int32.ofNat A)), .val (.int (Int32.ofNat F)), .val (.int (Int32.ofNat Ln)), .val (.int (Int32.ofNat J)), .unset, .unset, .unset, .unset] [(.int (0 : Int32))]))
        exact t42 0 (by omega) (by unfold gch; rw [if_neg (by omega), if_pos (by omega), Nat.pow_zero, Nat.div_one])
      ·
        refine Go.by (fun t => XS.icmpYes X0.here hx rfl (pc0 := 29) (pc' := 36) rfl (hb hby d3_29) rfl (feq (ne32 (by omega) (by omega) h3 : ¬ ((Int32.ofNat J) = (Int32.ofNat (Ln - 1))))).2 (by decide) (by decide)) ?_
        show Go p e below _ (s₁.setTop (mkF m 36 #[.val (.ref a1), .val (.int (Int32.ofNat A)), .val (.int (Int32.ofNat F)), .val (.int (Int32.ofNat Ln)), .val (.int (Int32.ofNat J)), .unset, .unset, .unset, .unset] []))
        show Go p e below _ (s₁.setTop (mkF m 36 #[.val (.ref a1), .val (.int (Int32.ofNat A)), .val (.int (Int32.ofNat F)), .val (.int (Int32.ofNat Ln)), .val (.int (Int32.ofNat J)), .unset, .unset, .unset, .unset] []))
        refine Go.by (fun t => XS.iloadN X0.here hx rfl (hb hby d3_36) rfl ) ?_
        show Go p e below _ (s₁.setTop (mkF m 37 #[.val (.ref a1), .val (.int (Int32.ofNat A)), .val (.int (Int32.ofNat F)), .val (.int (Int32.ofNat Ln)), .val (.int (Int32.ofNat J)), .unset, .unset, .unset, .unset] [(.int (Int32.ofNat Ln))]))
        refine Go.by (fun t => XS.iconst X0.here hx rfl (hb hby d3_37)) ?_
        show Go p e below _ (s₁.setTop (mkF m 38 #[.val (.ref a1), .val (.int (Int32.ofNat A)), .val (.int (Int32.ofNat F)), .val (.int (Int32.ofNat Ln)), .val (.int (Int32.ofNat J)), .unset, .unset, .unset, .unset] [(.int (2 : Int32)), (.int (Int32.ofNat Ln))]))
        refine Go.by (fun t => XS.isub X0.here hx rfl (hb hby d3_38) rfl) ?_
        show Go p e below _ (s₁.setTop (mkF m 39 #[.val (.ref a1), .val (.int (Int32.ofNat A)), .val (.int (Int32.ofNat F)), .val (.int (Int32.ofNat Ln)), .val (.int (Int32.ofNat J)), .unset, .unset, .unset, .unset] [(.int ((Int32.ofNat Ln) - (2 : Int32)))]))
        rw [sub2 (n := Ln) (by omega)]
        show Go p e below _ (s₁.setTop (mkF m 39 #[.val (.ref a1), .val (.int (Int32.ofNat A)), .val (.int (Int32.ofNat F)), .val (.int (Int32.ofNat Ln)), .val (.int (Int32.ofNat J)), .unset, .unset, .unset, .unset] [(.int (Int32.ofNat (Ln - 2)))]))
        show Go p e below _ (s₁.setTop (mkF m 39 #[.val (.ref a1), .val (.int (Int32.ofNat A)), .val (.int (Int32.ofNat F)), .val (.int (Int32.ofNat Ln)), .val (.int (Int32.ofNat J)), .unset, .unset, .unset, .unset] [(.int (Int32.ofNat (Ln - 2)))]))
        refine Go.by (fun t => XS.iload X0.here hx rfl (hb hby d3_39) rfl ) ?_
        show Go p e below _ (s₁.setTop (mkF m 41 #[.val (.ref a1), .val (.int (Int32.ofNat A)), .val (.int (Int32.ofNat F)), .val (.int (Int32.ofNat Ln)), .val (.int (Int32.ofNat J)), .unset, .unset, .unset, .unset] [(.int (Int32.ofNat J)), (.int (Int32.ofNat (Ln - 2)))]))
        refine Go.by (fun t => XS.isub X0.here hx rfl (hb hby d3_41) rfl) ?_
        show Go p e below _ (s₁.setTop (mkF m 42 #[.val (.ref a1), .val (.int (Int32.ofNat A)), .val (.int (Int32.ofNat F)), .val (.int (Int32.ofNat Ln)), .val (.int (Int32.ofNat J)), .unset, .unset, .unset, .unset] [(.int ((Int32.ofNat (Ln - 2)) - (Int32.ofNat J)))]))
        rw [sub32n (a := Ln - 2) (b := J) (by omega)]
        show Go p e below _ (s₁.setTop (mkF m 42 #[.val (.ref a1), .val (.int (Int32.ofNat A)), .val (.int (Int32.ofNat F)), .val (.int (Int32.ofNat Ln)), .val (.int (Int32.ofNat J)), .unset, .unset, .unset, .unset] [(.int (Int32.ofNat (Ln - 2 - J)))]))
        exact t42 (Ln - 2 - J) (by omega) (by unfold gch; rw [if_neg (by omega), if_neg (by omega), show A + Ln - 2 - (A + J) = Ln - 2 - J by omega])
  ·
    refine Go.by (fun t => XS.icmpNo X0.here hx rfl (hb hby d3_3) rfl (flt (nlt32 (by omega) (Nat.le_of_not_lt h1) : ¬ ((Int32.ofNat J) < (Int32.ofNat Ln)))).1) ?_
    show Go p e below _ (s₁.setTop (mkF m 6 #[.val (.ref a1), .val (.int (Int32.ofNat A)), .val (.int (Int32.ofNat F)), .val (.int (Int32.ofNat Ln)), .val (.int (Int32.ofNat J)), .unset, .unset, .unset, .unset] []))
    show Go p e below _ (s₁.setTop (mkF m 6 #[.val (.ref a1), .val (.int (Int32.ofNat A)), .val (.int (Int32.ofNat F)), .val (.int (Int32.ofNat Ln)), .val (.int (Int32.ofNat J)), .unset, .unset, .unset, .unset] []))
    exact Go.ret0 X0 hx Bd.returns Bd.notSynchronized (hb hby d3_6) (by decide) (by decide) (by first | (rw [e0]; exact ⟨rfl, N0, K0, by rw [asc_same (Nat.le_of_not_lt h1)]; exact V_a1⟩) | exact ⟨rfl, N0, K0, by rw [asc_same (Nat.le_of_not_lt h1)]; exact V_a1⟩)
def Q_rm4 (Z : State) (a1 : Addr) (kc : ClassId) (A F Ln : Nat) (h0 : Heap) (n0 : Nat) : Option Value → Heap → List Loc → Prop := fun v h L => v = some (.int (Int32.ofNat (A + Ln))) ∧ Fr n0 L ∧ Keep h0 h [a1] ∧ Arv Z h a1 kc .char (20 : Int32) ((desL A F Ln 0).map Value.int) (.int (0 : Int32))
set_option maxRecDepth 65536 in
set_option maxHeartbeats 40000000 in
theorem rm4 (l : Launch) (Z : State) (a0 : Array Value) (hw : ∀ d ∈ tables_1, d.before a0 Z = true) (ws : List Jvm.Cond) (a1 : Addr) (kc : ClassId) (A F Ln : Nat) (h0 : Heap) (n0 : Nat) (hA : A < 8) (hF : F < 2147483648) (hLn : Ln = 2 + nd (F / 10 / 10) + 1) (hL' : Ln ≤ 11) (Od : Old Z n0 h0) (g_a1 : n0 ≤ a1) (V_a1 : Arv Z h0 a1 kc .char (20 : Int32) ((desL A F Ln Ln).map Value.int) (.int (0 : Int32))) (S_UF : Sta Z Z.heap "com/example/oneiros/oneiros/cli/FrameTime" "UNITS_PER_FRAME" "J" (.long (1 : Int64))) (S_US : Sta Z Z.heap "com/example/oneiros/oneiros/cli/FrameTime" "UNITS_PER_SECOND" "I" (.int (10 : Int32))) :
    MetFree l (⟨"com/example/oneiros/oneiros/cli/FrameTime", "writeSeconds", "([CII)I"⟩ : MethodName) (head1 (Jvm.Cond.code (⟨"com/example/oneiros/oneiros/cli/FrameTime", "writeSeconds", "([CII)I"⟩ : MethodName) prog_32_method_3_code 11 (some .int) :: ws) ({ frames := 0, cells := 0, slots := 0, locals := 0 } : Room)) (fun a U => a = #[(.ref a1), (.int (Int32.ofNat A)), (.int (Int32.ofNat F))] ∧ Z.Warmed39 U.vm ∧ U.heap = h0) (fun _ _ _ _ _ => True) (fun _ U o U' => ∃ v L, o = .returned v ∧ Q_rm4 Z a1 kc A F Ln h0 n0 v U'.heap L ∧ FrameEnd U o U' L ({ frames := 0, cells := 0, slots := 0, locals := 0 } : Room).cells ({ frames := 0, cells := 0, slots := 0, locals := 0 } : Room).slots) := by
  refine MetFree.of_bodySF (plainFor_of_name pn_1) hisR ?_
  intro p e s m args below meth c s₁ Bd hml0 hP hK
  obtain ⟨rfl, hZ, hh⟩ := hP
  have hx := Bd.exec
  have hby := Bd.bytes
  have hml : c.maxLocals = 11 := hml0
  have hown : s.vm.findClass "com/example/oneiros/oneiros/cli/FrameTime" = some m.cls := findClass_of_methodNamed Bd.named
  have hnm := (name_of_methodNamed Bd.named Bd.method).1
  have X0 : Stand p l e ({ frames := 0, cells := 0, slots := 0, locals := 0 } : Room) s m #[(.ref a1), (.int (Int32.ofNat A)), (.int (Int32.ofNat F))] below meth c s₁ [] 0 0 := Stand.of_body Bd
  have e0 : s₁.heap = h0 := by rw [← hh, Bd.state]; rfl
  have N0 := Fr.nil n0
  have hL : 3 ≤ Ln := by omega
  have loop2 : ∀ (k : Nat) (T : State) (locs : List Loc) (h : Heap) (r : Nat) (X : Stand p l e ({ frames := 0, cells := 0, slots := 0, locals := 0 } : Room) s m #[(.ref a1), (.int (Int32.ofNat A)), (.int (Int32.ofNat F))] below meth c T locs 0 0) (eT : T.heap = h) (N : Fr n0 locs) (K : Keep h0 h [a1]) (V : Arv Z h a1 kc .char (20 : Int32) ((desL A F Ln k).map Value.int) (.int (0 : Int32))) (hk : k ≤ Ln) (hr : r < 2147483648) (hrr : (k = Ln → r = F) ∧ (k + 1 = Ln → r = F / 10) ∧ (k + 1 < Ln → r = F / 10 ^ (Ln - 1 - k))), Go p e below (End (fun v h L => v = some (.int (Int32.ofNat (A + Ln))) ∧ Fr n0 L ∧ Keep h0 h [a1] ∧ Arv Z h a1 kc .char (20 : Int32) ((desL A F Ln 0).map Value.int) (.int (0 : Int32))) s 0 0) (T.setTop (mkF m 69 #[.val (.ref a1), .val (.int (Int32.ofNat A)), .val (.int (Int32.ofNat F)), .val (.long (Int64.ofNat F)), .second, .val (.int (Int32.ofNat Ln)), .val (.int (Int32.ofNat (A + Ln))), .val (.int (Int32.ofNat (A + Ln - 2))), .val (.long (Int64.ofNat r)), .second, .val (.int (Int32.ofNat (A + k) - (1 : Int32)))] [])) := by
    intro k
    induction k with
    | zero =>
      intro T locs h r X eT N K V hk hr hrr
      show Go p e below _ (T.setTop (mkF m 69 #[.val (.ref a1), .val (.int (Int32.ofNat A)), .val (.int (Int32.ofNat F)), .val (.long (Int64.ofNat F)), .second, .val (.int (Int32.ofNat Ln)), .val (.int (Int32.ofNat (A + Ln))), .val (.int (Int32.ofNat (A + Ln - 2))), .val (.long (Int64.ofNat r)), .second, .val (.int (Int32.ofNat (A + 0) - (1 : Int32)))] []))
      refine Go.by (fun t => XS.iload X.here hx rfl (hb hby d4_69) rfl ) ?_
      show Go p e below _ (T.setTop (mkF m 71 #[.val (.ref a1), .val (.int (Int32.ofNat A)), .val (.int (Int32.ofNat F)), .val (.long (Int64.ofNat F)), .second, .val (.int (Int32.ofNat Ln)), .val (.int (Int32.ofNat (A + Ln))), .val (.int (Int32.ofNat (A + Ln - 2))), .val (.long (Int64.ofNat r)), .second, .val (.int (Int32.ofNat (A + 0) - (1 : Int32)))] [(.int (Int32.ofNat (A + 0) - (1 : Int32)))]))
      refine Go.by (fun t => XS.iloadN X.here hx rfl (hb hby d4_71) rfl ) ?_
      show Go p e below _ (T.setTop (mkF m 72 #[.val (.ref a1), .val (.int (Int32.ofNat A)), .val (.int (Int32.ofNat F)), .val (.long (Int64.ofNat F)), .second, .val (.int (Int32.ofNat Ln)), .val (.int (Int32.ofNat (A + Ln))), .val (.int (Int32.ofNat (A + Ln - 2))), .val (.long (Int64.ofNat r)), .second, .val (.int (Int32.ofNat (A + 0) - (1 : Int32)))] [(.int (Int32.ofNat A)), (.int (Int32.ofNat (A + 0) - (1 : Int32)))]))
      have hlt : Int32.ofNat (A + 0) - (1 : Int32) < Int32.ofNat A := last_lt A hA
      refine Go.by (fun t => XS.icmpYes X.here hx rfl (pc0 := 72) (pc' := 121) rfl (hb hby d4_72) rfl (tlt (hlt : (Int32.ofNat (A + 0) - (1 : Int32)) < (Int32.ofNat A))).1 (by decide) (by decide)) ?_
      show Go p e below _ (T.setTop (mkF m 121 #[.val (.ref a1), .val (.int (Int32.ofNat A)), .val (.int (Int32.ofNat F)), .val (.long (Int64.ofNat F)), .second, .val (.int (Int32.ofNat Ln)), .val (.int (Int32.ofNat (A + Ln))), .val (.int (Int32.ofNat (A + Ln - 2))), .val (.long (Int64.ofNat r)), .second, .val (.int (Int32.ofNat (A + 0) - (1 : Int32)))] []))
      show Go p e below _ (T.setTop (mkF m 121 #[.val (.ref a1), .val (.int (Int32.ofNat A)), .val (.int (Int32.ofNat F)), .val (.long (Int64.ofNat F)), .second, .val (.int (Int32.ofNat Ln)), .val (.int (Int32.ofNat (A + Ln))), .val (.int (Int32.ofNat (A + Ln - 2))), .val (.long (Int64.ofNat r)), .second, .val (.int (Int32.ofNat (A + 0) - (1 : Int32)))] []))
      refine Go.by (fun t => XS.iload X.here hx rfl (hb hby d4_121) rfl ) ?_
      show Go p e below _ (T.setTop (mkF m 123 #[.val (.ref a1), .val (.int (Int32.ofNat A)), .val (.int (Int32.ofNat F)), .val (.long (Int64.ofNat F)), .second, .val (.int (Int32.ofNat Ln)), .val (.int (Int32.ofNat (A + Ln))), .val (.int (Int32.ofNat (A + Ln - 2))), .val (.long (Int64.ofNat r)), .second, .val (.int (Int32.ofNat (A + 0) - (1 : Int32)))] [(.int (Int32.ofNat (A + Ln)))]))
      exact Go.ret1 X hx Bd.returns Bd.notSynchronized rfl (Or.inl ⟨rfl, by simp, _, rfl⟩) (hb hby d4_123) (by decide) (by decide) (by first | (rw [eT]; exact ⟨rfl, N, K, V⟩) | exact ⟨rfl, N, K, V⟩)
    | succ k ih =>
      intro T locs h r X eT N K V hk hr hrr
      have ep : Int32.ofNat (A + (k + 1)) - (1 : Int32) = Int32.ofNat (A + k) := sub1 (n := A + (k + 1)) (by omega)
      show Go p e below _ (T.setTop (mkF m 69 #[.val (.ref a1), .val (.int (Int32.ofNat A)), .val (.int (Int32.ofNat F)), .val (.long (Int64.ofNat F)), .second, .val (.int (Int32.ofNat Ln)), .val (.int (Int32.ofNat (A + Ln))), .val (.int (Int32.ofNat (A + Ln - 2))), .val (.long (Int64.ofNat r)), .second, .val (.int (Int32.ofNat (A + (k + 1)) - (1 : Int32)))] []))
      rw [ep]
      show Go p e below _ (T.setTop (mkF m 69 #[.val (.ref a1), .val (.int (Int32.ofNat A)), .val (.int (Int32.ofNat F)), .val (.long (Int64.ofNat F)), .second, .val (.int (Int32.ofNat Ln)), .val (.int (Int32.ofNat (A + Ln))), .val (.int (Int32.ofNat (A + Ln - 2))), .val (.long (Int64.ofNat r)), .second, .val (.int (Int32.ofNat (A + k)))] []))
      show Go p e below _ (T.setTop (mkF m 69 #[.val (.ref a1), .val (.int (Int32.ofNat A)), .val (.int (Int32.ofNat F)), .val (.long (Int64.ofNat F)), .second, .val (.int (Int32.ofNat Ln)), .val (.int (Int32.ofNat (A + Ln))), .val (.int (Int32.ofNat (A + Ln - 2))), .val (.long (Int64.ofNat r)), .second, .val (.int (Int32.ofNat (A + k)))] []))
      refine Go.by (fun t => XS.iload X.here hx rfl (hb hby d4_69) rfl ) ?_
      show Go p e below _ (T.setTop (mkF m 71 #[.val (.ref a1), .val (.int (Int32.ofNat A)), .val (.int (Int32.ofNat F)), .val (.long (Int64.ofNat F)), .second, .val (.int (Int32.ofNat Ln)), .val (.int (Int32.ofNat (A + Ln))), .val (.int (Int32.ofNat (A + Ln - 2))), .val (.long (Int64.ofNat r)), .second, .val (.int (Int32.ofNat (A + k)))] [(.int (Int32.ofNat (A + k)))]))
      refine Go.by (fun t => XS.iloadN X.here hx rfl (hb hby d4_71) rfl ) ?_
      show Go p e below _ (T.setTop (mkF m 72 #[.val (.ref a1), .val (.int (Int32.ofNat A)), .val (.int (Int32.ofNat F)), .val (.long (Int64.ofNat F)), .second, .val (.int (Int32.ofNat Ln)), .val (.int (Int32.ofNat (A + Ln))), .val (.int (Int32.ofNat (A + Ln - 2))), .val (.long (Int64.ofNat r)), .second, .val (.int (Int32.ofNat (A + k)))] [(.int (Int32.ofNat A)), (.int (Int32.ofNat (A + k)))]))
      refine Go.by (fun t => XS.icmpNo X.here hx rfl (hb hby d4_72) rfl (flt (nlt32 (by omega) (by omega) : ¬ ((Int32.ofNat (A + k)) < (Int32.ofNat A)))).1) ?_
      show Go p e below _ (T.setTop (mkF m 75 #[.val (.ref a1), .val (.int (Int32.ofNat A)), .val (.int (Int32.ofNat F)), .val (.long (Int64.ofNat F)), .second, .val (.int (Int32.ofNat Ln)), .val (.int (Int32.ofNat (A + Ln))), .val (.int (Int32.ofNat (A + Ln - 2))), .val (.long (Int64.ofNat r)), .second, .val (.int (Int32.ofNat (A + k)))] []))
      show Go p e below _ (T.setTop (mkF m 75 #[.val (.ref a1), .val (.int (Int32.ofNat A)), .val (.int (Int32.ofNat F)), .val (.long (Int64.ofNat F)), .second, .val (.int (Int32.ofNat Ln)), .val (.int (Int32.ofNat (A + Ln))), .val (.int (Int32.ofNat (A + Ln - 2))), .val (.long (Int64.ofNat r)), .second, .val (.int (Int32.ofNat (A + k)))] []))
      refine Go.by (fun t => XS.iload X.here hx rfl (hb hby d4_75) rfl ) ?_
      show Go p e below _ (T.setTop (mkF m 77 #[.val (.ref a1), .val (.int (Int32.ofNat A)), .val (.int (Int32.ofNat F)), .val (.long (Int64.ofNat F)), .second, .val (.int (Int32.ofNat Ln)), .val (.int (Int32.ofNat (A + Ln))), .val (.int (Int32.ofNat (A + Ln - 2))), .val (.long (Int64.ofNat r)), .second, .val (.int (Int32.ofNat (A + k)))] [(.int (Int32.ofNat (A + k)))]))
      refine Go.by (fun t => XS.iload X.here hx rfl (hb hby d4_77) rfl ) ?_
      show Go p e below _ (T.setTop (mkF m 79 #[.val (.ref a1), .val (.int (Int32.ofNat A)), .val (.int (Int32.ofNat F)), .val (.long (Int64.ofNat F)), .second, .val (.int (Int32.ofNat Ln)), .val (.int (Int32.ofNat (A + Ln))), .val (.int (Int32.ofNat (A + Ln - 2))), .val (.long (Int64.ofNat r)), .second, .val (.int (Int32.ofNat (A + k)))] [(.int (Int32.ofNat (A + Ln - 2))), (.int (Int32.ofNat (A + k)))]))
      have inA : ¬ (Int32.ofNat (A + k) < 0) ∧ Int32.ofNat (A + k) < (20 : Int32) := ⟨nlt32 (b := 0) (by omega) (by omega), lt32 (b := 20) (by decide) (by omega)⟩
      have inN : (Int32.ofNat (A + k)).toNatClampNeg = A + k := n32 (by omega)
      have inL : A + k < ((desL A F Ln (k + 1)).map Value.int).length := by rw [List.length_map, des_len]; omega
      by_cases h2 : k = Ln - 2
      ·
        refine Go.by (fun t => XS.icmpNo X.here hx rfl (hb hby d4_79) rfl (teq (congrArg Int32.ofNat (by omega : A + k = A + Ln - 2) : (Int32.ofNat (A + k)) = (Int32.ofNat (A + Ln - 2)))).2) ?_
        show Go p e below _ (T.setTop (mkF m 82 #[.val (.ref a1), .val (.int (Int32.ofNat A)), .val (.int (Int32.ofNat F)), .val (.long (Int64.ofNat F)), .second, .val (.int (Int32.ofNat Ln)), .val (.int (Int32.ofNat (A + Ln))), .val (.int (Int32.ofNat (A + Ln - 2))), .val (.long (Int64.ofNat r)), .second, .val (.int (Int32.ofNat (A + k)))] []))
        show Go p e below _ (T.setTop (mkF m 82 #[.val (.ref a1), .val (.int (Int32.ofNat A)), .val (.int (Int32.ofNat F)), .val (.long (Int64.ofNat F)), .second, .val (.int (Int32.ofNat Ln)), .val (.int (Int32.ofNat (A + Ln))), .val (.int (Int32.ofNat (A + Ln - 2))), .val (.long (Int64.ofNat r)), .second, .val (.int (Int32.ofNat (A + k)))] []))
        refine Go.by (fun t => XS.aloadN X.here hx rfl (hb hby d4_82) rfl rfl) ?_
        show Go p e below _ (T.setTop (mkF m 83 #[.val (.ref a1), .val (.int (Int32.ofNat A)), .val (.int (Int32.ofNat F)), .val (.long (Int64.ofNat F)), .second, .val (.int (Int32.ofNat Ln)), .val (.int (Int32.ofNat (A + Ln))), .val (.int (Int32.ofNat (A + Ln - 2))), .val (.long (Int64.ofNat r)), .second, .val (.int (Int32.ofNat (A + k)))] [(.ref a1)]))
        refine Go.by (fun t => XS.iload X.here hx rfl (hb hby d4_83) rfl ) ?_
        show Go p e below _ (T.setTop (mkF m 85 #[.val (.ref a1), .val (.int (Int32.ofNat A)), .val (.int (Int32.ofNat F)), .val (.long (Int64.ofNat F)), .second, .val (.int (Int32.ofNat Ln)), .val (.int (Int32.ofNat (A + Ln))), .val (.int (Int32.ofNat (A + Ln - 2))), .val (.long (Int64.ofNat r)), .second, .val (.int (Int32.ofNat (A + k)))] [(.int (Int32.ofNat (A + k))), (.ref a1)]))
        refine Go.by (fun t => XS.bipush X.here hx rfl (hb hby d4_85)) ?_
        show Go p e below _ (T.setTop (mkF m 87 #[.val (.ref a1), .val (.int (Int32.ofNat A)), .val (.int (Int32.ofNat F)), .val (.long (Int64.ofNat F)), .second, .val (.int (Int32.ofNat Ln)), .val (.int (Int32.ofNat (A + Ln))), .val (.int (Int32.ofNat (A + Ln - 2))), .val (.long (Int64.ofNat r)), .second, .val (.int (Int32.ofNat (A + k)))] [(.int (46 : Int32)), (.int (Int32.ofNat (A + k))), (.ref a1)]))
        obtain ⟨cl_115, Ar_115, q_115, S_115, M_115, H_115, G_115⟩ := id V
        obtain ⟨T115, h115, X115, e115, W115, st115⟩ := stC X hx hZ eT Ar_115 (j := (Int32.ofNat (A + k))) (inb_of S_115 inA) (g := (mkF m 87 #[.val (.ref a1), .val (.int (Int32.ofNat A)), .val (.int (Int32.ofNat F)), .val (.long (Int64.ofNat F)), .second, .val (.int (Int32.ofNat Ln)), .val (.int (Int32.ofNat (A + Ln))), .val (.int (Int32.ofNat (A + Ln - 2))), .val (.long (Int64.ofNat r)), .second, .val (.int (Int32.ofNat (A + k)))] [(.int (46 : Int32)), (.int (Int32.ofNat (A + k))), (.ref a1)])) rfl rfl (hb hby d4_87)
        refine Go.by (fun t => st115 t) ?_
        replace V := Arv.set Ar_115 q_115 S_115 M_115 H_115 G_115 (fits_nar_char _) W115 (A + k) inN inL
        replace K := K.wr W115 (Or.inl (List.mem_of_getElem? (i := 0) rfl))
        have N115 := Fr.snoc X115 N g_a1
        show Go p e below _ (T115.setTop (mkF m 88 #[.val (.ref a1), .val (.int (Int32.ofNat A)), .val (.int (Int32.ofNat F)), .val (.long (Int64.ofNat F)), .second, .val (.int (Int32.ofNat Ln)), .val (.int (Int32.ofNat (A + Ln))), .val (.int (Int32.ofNat (A + Ln - 2))), .val (.long (Int64.ofNat r)), .second, .val (.int (Int32.ofNat (A + k)))] []))
        rw [show nar .char (46 : Int32) = Int32.ofNat 46 from rfl] at V
        have e46 : 46 = gch A F Ln (A + k) := by unfold gch; rw [if_pos (by omega)]
        rw [e46, des_set hA (by omega) hL'] at V
        show Go p e below _ (T115.setTop (mkF m 88 #[.val (.ref a1), .val (.int (Int32.ofNat A)), .val (.int (Int32.ofNat F)), .val (.long (Int64.ofNat F)), .second, .val (.int (Int32.ofNat Ln)), .val (.int (Int32.ofNat (A + Ln))), .val (.int (Int32.ofNat (A + Ln - 2))), .val (.long (Int64.ofNat r)), .second, .val (.int (Int32.ofNat (A + k)))] []))
        refine Go.by (fun t => XS.goto X115.here hx rfl (pc0 := 88) (pc' := 115) rfl (hb hby d4_88) (by decide) (by decide)) ?_
        show Go p e below _ (T115.setTop (mkF m 115 #[.val (.ref a1), .val (.int (Int32.ofNat A)), .val (.int (Int32.ofNat F)), .val (.long (Int64.ofNat F)), .second, .val (.int (Int32.ofNat Ln)), .val (.int (Int32.ofNat (A + Ln))), .val (.int (Int32.ofNat (A + Ln - 2))), .val (.long (Int64.ofNat r)), .second, .val (.int (Int32.ofNat (A + k)))] []))
        refine Go.by (fun t => XS.iinc X115.here hx rfl (hb hby d4_115) rfl (l' := #[.val (.ref a1), .val (.int (Int32.ofNat A)), .val (.int (Int32.ofNat F)), .val (.long (Int64.ofNat F)), .second, .val (.int (Int32.ofNat Ln)), .val (.int (Int32.ofNat (A + Ln))), .val (.int (Int32.ofNat (A + Ln - 2))), .val (.long (Int64.ofNat r)), .second, .val (.int ((Int32.ofNat (A + k)) + (-1 : Int32)))]) rfl) ?_
        show Go p e below _ (T115.setTop (mkF m 118 #[.val (.ref a1), .val (.int (Int32.ofNat A)), .val (.int (Int32.ofNat F)), .val (.long (Int64.ofNat F)), .second, .val (.int (Int32.ofNat Ln)), .val (.int (Int32.ofNat (A + Ln))), .val (.int (Int32.ofNat (A + Ln - 2))), .val (.long (Int64.ofNat r)), .second, .val (.int ((Int32.ofNat (A + k)) + (-1 : Int32)))] []))
        rw [show Int32.ofNat (A + k) + (-1 : Int32) = Int32.ofNat (A + k) - (1 : Int32) by rw [Int32.sub_eq_add_neg]]
        show Go p e below _ (T115.setTop (mkF m 118 #[.val (.ref a1), .val (.int (Int32.ofNat A)), .val (.int (Int32.ofNat F)), .val (.long (Int64.ofNat F)), .second, .val (.int (Int32.ofNat Ln)), .val (.int (Int32.ofNat (A + Ln))), .val (.int (Int32.ofNat (A + Ln - 2))), .val (.long (Int64.ofNat r)), .second, .val (.int (Int32.ofNat (A + k) - (1 : Int32)))] []))
        show Go p e below _ (T115.setTop (mkF m 118 #[.val (.ref a1), .val (.int (Int32.ofNat A)), .val (.int (Int32.ofNat F)), .val (.long (Int64.ofNat F)), .second, .val (.int (Int32.ofNat Ln)), .val (.int (Int32.ofNat (A + Ln))), .val (.int (Int32.ofNat (A + Ln - 2))), .val (.long (Int64.ofNat r)), .second, .val (.int (Int32.ofNat (A + k) - (1 : Int32)))] []))
        refine Go.by (fun t => XS.goto X115.here hx rfl (pc0 := 118) (pc' := 69) rfl (hb hby d4_118) (by decide) (by decide)) ?_
        show Go p e below _ (T115.setTop (mkF m 69 #[.val (.ref a1), .val (.int (Int32.ofNat A)), .val (.int (Int32.ofNat F)), .val (.long (Int64.ofNat F)), .second, .val (.int (Int32.ofNat Ln)), .val (.int (Int32.ofNat (A + Ln))), .val (.int (Int32.ofNat (A + Ln - 2))), .val (.long (Int64.ofNat r)), .second, .val (.int (Int32.ofNat (A + k) - (1 : Int32)))] []))
        exact ih _ _ _ r X115 e115 N115 K V (by omega) hr ⟨fun q => absurd q (by omega), fun q => absurd q (by omega), fun q => by rw [hrr.2.1 (by omega), show Ln - 1 - k = 1 by omega, Nat.pow_one]⟩
      ·
        refine Go.by (fun t => XS.icmpYes X.here hx rfl (pc0 := 79) (pc' := 91) rfl (hb hby d4_79) rfl (feq (ne32 (by omega) (by omega) (by omega : A + k ≠ A + Ln - 2) : ¬ ((Int32.ofNat (A + k)) = (Int32.ofNat (A + Ln - 2))))).2 (by decide) (by decide)) ?_
        show Go p e below _ (T.setTop (mkF m 91 #[.val (.ref a1), .val (.int (Int32.ofNat A)), .val (.int (Int32.ofNat F)), .val (.long (Int64.ofNat F)), .second, .val (.int (Int32.ofNat Ln)), .val (.int (Int32.ofNat (A + Ln))), .val (.int (Int32.ofNat (A + Ln - 2))), .val (.long (Int64.ofNat r)), .second, .val (.int (Int32.ofNat (A + k)))] []))
        show Go p e below _ (T.setTop (mkF m 91 #[.val (.ref a1), .val (.int (Int32.ofNat A)), .val (.int (Int32.ofNat F)), .val (.long (Int64.ofNat F)), .second, .val (.int (Int32.ofNat Ln)), .val (.int (Int32.ofNat (A + Ln))), .val (.int (Int32.ofNat (A + Ln - 2))), .val (.long (Int64.ofNat r)), .second, .val (.int (Int32.ofNat (A + k)))] []))
        refine Go.by (fun t => XS.aloadN X.here hx rfl (hb hby d4_91) rfl rfl) ?_
        show Go p e below _ (T.setTop (mkF m 92 #[.val (.ref a1), .val (.int (Int32.ofNat A)), .val (.int (Int32.ofNat F)), .val (.long (Int64.ofNat F)), .second, .val (.int (Int32.ofNat Ln)), .val (.int (Int32.ofNat (A + Ln))), .val (.int (Int32.ofNat (A + Ln - 2))), .val (.long (Int64.ofNat r)), .second, .val (.int (Int32.ofNat (A + k)))] [(.ref a1)]))
        refine Go.by (fun t => XS.iload X.here hx rfl (hb hby d4_92) rfl ) ?_
        show Go p e below _ (T.setTop (mkF m 94 #[.val (.ref a1), .val (.int (Int32.ofNat A)), .val (.int (Int32.ofNat F)), .val (.long (Int64.ofNat F)), .second, .val (.int (Int32.ofNat Ln)), .val (.int (Int32.ofNat (A + Ln))), .val (.int (Int32.ofNat (A + Ln - 2))), .val (.long (Int64.ofNat r)), .second, .val (.int (Int32.ofNat (A + k)))] [(.int (Int32.ofNat (A + k))), (.ref a1)]))
        refine Go.by (fun t => X.ldc2Long hx hown (mvT hZ (hw _ (List.mem_of_getElem? (i := 32) rfl))) (g := (mkF m 94 #[.val (.ref a1), .val (.int (Int32.ofNat A)), .val (.int (Int32.ofNat F)), .val (.long (Int64.ofNat F)), .second, .val (.int (Int32.ofNat Ln)), .val (.int (Int32.ofNat (A + Ln))), .val (.int (Int32.ofNat (A + Ln - 2))), .val (.long (Int64.ofNat r)), .second, .val (.int (Int32.ofNat (A + k)))] [(.int (Int32.ofNat (A + k))), (.ref a1)])) rfl (hb hby d4_94) t) ?_
        show Go p e below _ (T.setTop (mkF m 97 #[.val (.ref a1), .val (.int (Int32.ofNat A)), .val (.int (Int32.ofNat F)), .val (.long (Int64.ofNat F)), .second, .val (.int (Int32.ofNat Ln)), .val (.int (Int32.ofNat (A + Ln))), .val (.int (Int32.ofNat (A + Ln - 2))), .val (.long (Int64.ofNat r)), .second, .val (.int (Int32.ofNat (A + k)))] [(.long (48 : Int64)), (.int (Int32.ofNat (A + k))), (.ref a1)]))
        show Go p e below _ (T.setTop (mkF m 97 #[.val (.ref a1), .val (.int (Int32.ofNat A)), .val (.int (Int32.ofNat F)), .val (.long (Int64.ofNat F)), .second, .val (.int (Int32.ofNat Ln)), .val (.int (Int32.ofNat (A + Ln))), .val (.int (Int32.ofNat (A + Ln - 2))), .val (.long (Int64.ofNat r)), .second, .val (.int (Int32.ofNat (A + k)))] [(.long (48 : Int64)), (.int (Int32.ofNat (A + k))), (.ref a1)]))
        refine Go.by (fun t => XS.lload X.here hx rfl (hb hby d4_97) rfl ) ?_
        show Go p e below _ (T.setTop (mkF m 99 #[.val (.ref a1), .val (.int (Int32.ofNat A)), .val (.int (Int32.ofNat F)), .val (.long (Int64.ofNat F)), .second, .val (.int (Int32.ofNat Ln)), .val (.int (Int32.ofNat (A + Ln))), .val (.int (Int32.ofNat (A + Ln - 2))), .val (.long (Int64.ofNat r)), .second, .val (.int (Int32.ofNat (A + k)))] [(.long (Int64.ofNat r)), (.long (48 : Int64)), (.int (Int32.ofNat (A + k))), (.ref a1)]))
        refine Go.by (fun t => X.ldc2Long hx hown (mvT hZ (hw _ (List.mem_of_getElem? (i := 31) rfl))) (g := (mkF m 99 #[.val (.ref a1), .val (.int (Int32.ofNat A)), .val (.int (Int32.ofNat F)), .val (.long (Int64.ofNat F)), .second, .val (.int (Int32.ofNat Ln)), .val (.int (Int32.ofNat (A + Ln))), .val (.int (Int32.ofNat (A + Ln - 2))), .val (.long (Int64.ofNat r)), .second, .val (.int (Int32.ofNat (A + k)))] [(.long (Int64.ofNat r)), (.long (48 : Int64)), (.int (Int32.ofNat (A + k))), (.ref a1)])) rfl (hb hby d4_99) t) ?_
        show Go p e below _ (T.setTop (mkF m 102 #[.val (.ref a1), .val (.int (Int32.ofNat A)), .val (.int (Int32.ofNat F)), .val (.long (Int64.ofNat F)), .second, .val (.int (Int32.ofNat Ln)), .val (.int (Int32.ofNat (A + Ln))), .val (.int (Int32.ofNat (A + Ln - 2))), .val (.long (Int64.ofNat r)), .second, .val (.int (Int32.ofNat (A + k)))] [(.long (10 : Int64)), (.long (Int64.ofNat r)), (.long (48 : Int64)), (.int (Int32.ofNat (A + k))), (.ref a1)]))
        show Go p e below _ (T.setTop (mkF m 102 #[.val (.ref a1), .val (.int (Int32.ofNat A)), .val (.int (Int32.ofNat F)), .val (.long (Int64.ofNat F)), .second, .val (.int (Int32.ofNat Ln)), .val (.int (Int32.ofNat (A + Ln))), .val (.int (Int32.ofNat (A + Ln - 2))), .val (.long (Int64.ofNat r)), .second, .val (.int (Int32.ofNat (A + k)))] [(.long (10 : Int64)), (.long (Int64.ofNat r)), (.long (48 : Int64)), (.int (Int32.ofNat (A + k))), (.ref a1)]))
        refine Go.by (fun t => XS.lrem X.here hx rfl (hb hby d4_102) rfl (by first | assumption | decide)) ?_
        show Go p e below _ (T.setTop (mkF m 103 #[.val (.ref a1), .val (.int (Int32.ofNat A)), .val (.int (Int32.ofNat F)), .val (.long (Int64.ofNat F)), .second, .val (.int (Int32.ofNat Ln)), .val (.int (Int32.ofNat (A + Ln))), .val (.int (Int32.ofNat (A + Ln - 2))), .val (.long (Int64.ofNat r)), .second, .val (.int (Int32.ofNat (A + k)))] [(.long ((Int64.ofNat r) - ((Int64.ofNat r) / (10 : Int64)) * (10 : Int64))), (.long (48 : Int64)), (.int (Int32.ofNat (A + k))), (.ref a1)]))
        rw [lrem_mod]
        show Go p e below _ (T.setTop (mkF m 103 #[.val (.ref a1), .val (.int (Int32.ofNat A)), .val (.int (Int32.ofNat F)), .val (.long (Int64.ofNat F)), .second, .val (.int (Int32.ofNat Ln)), .val (.int (Int32.ofNat (A + Ln))), .val (.int (Int32.ofNat (A + Ln - 2))), .val (.long (Int64.ofNat r)), .second, .val (.int (Int32.ofNat (A + k)))] [(.long ((Int64.ofNat r) % (10 : Int64))), (.long (48 : Int64)), (.int (Int32.ofNat (A + k))), (.ref a1)]))
        rw [L_rem10 hr]
        show Go p e below _ (T.setTop (mkF m 103 #[.val (.ref a1), .val (.int (Int32.ofNat A)), .val (.int (Int32.ofNat F)), .val (.long (Int64.ofNat F)), .second, .val (.int (Int32.ofNat Ln)), .val (.int (Int32.ofNat (A + Ln))), .val (.int (Int32.ofNat (A + Ln - 2))), .val (.long (Int64.ofNat r)), .second, .val (.int (Int32.ofNat (A + k)))] [(.long (Int64.ofNat (r % 10))), (.long (48 : Int64)), (.int (Int32.ofNat (A + k))), (.ref a1)]))
        show Go p e below _ (T.setTop (mkF m 103 #[.val (.ref a1), .val (.int (Int32.ofNat A)), .val (.int (Int32.ofNat F)), .val (.long (Int64.ofNat F)), .second, .val (.int (Int32.ofNat Ln)), .val (.int (Int32.ofNat (A + Ln))), .val (.int (Int32.ofNat (A + Ln - 2))), .val (.long (Int64.ofNat r)), .second, .val (.int (Int32.ofNat (A + k)))] [(.long (Int64.ofNat (r % 10))), (.long (48 : Int64)), (.int (Int32.ofNat (A + k))), (.ref a1)]))
        refine Go.by (fun t => XS.ladd X.here hx rfl (hb hby d4_103) rfl) ?_
        show Go p e below _ (T.setTop (mkF m 104 #[.val (.ref a1), .val (.int (Int32.ofNat A)), .val (.int (Int32.ofNat F)), .val (.long (Int64.ofNat F)), .second, .val (.int (Int32.ofNat Ln)), .val (.int (Int32.ofNat (A + Ln))), .val (.int (Int32.ofNat (A + Ln - 2))), .val (.long (Int64.ofNat r)), .second, .val (.int (Int32.ofNat (A + k)))] [(.long ((48 : Int64) + (Int64.ofNat (r % 10)))), (.int (Int32.ofNat (A + k))), (.ref a1)]))
        rw [L_48 (r % 10) (by omega)]
        show Go p e below _ (T.setTop (mkF m 104 #[.val (.ref a1), .val (.int (Int32.ofNat A)), .val (.int (Int32.ofNat F)), .val (.long (Int64.ofNat F)), .second, .val (.int (Int32.ofNat Ln)), .val (.int (Int32.ofNat (A + Ln))), .val (.int (Int32.ofNat (A + Ln - 2))), .val (.long (Int64.ofNat r)), .second, .val (.int (Int32.ofNat (A + k)))] [(.long (Int64.ofNat (48 + r % 10))), (.int (Int32.ofNat (A + k))), (.ref a1)]))
        show Go p e below _ (T.setTop (mkF m 104 #[.val (.ref a1), .val (.int (Int32.ofNat A)), .val (.int (Int32.ofNat F)), .val (.long (Int64.ofNat F)), .second, .val (.int (Int32.ofNat Ln)), .val (.int (Int32.ofNat (A + Ln))), .val (.int (Int32.ofNat (A + Ln - 2))), .val (.long (Int64.ofNat r)), .second, .val (.int (Int32.ofNat (A + k)))] [(.long (Int64.ofNat (48 + r % 10))), (.int (Int32.ofNat (A + k))), (.ref a1)]))
        refine Go.by (fun t => XS.l2i X.here hx rfl (hb hby d4_104) rfl) ?_
        show Go p e below _ (T.setTop (mkF m 105 #[.val (.ref a1), .val (.int (Int32.ofNat A)), .val (.int (Int32.ofNat F)), .val (.long (Int64.ofNat F)), .second, .val (.int (Int32.ofNat Ln)), .val (.int (Int32.ofNat (A + Ln))), .val (.int (Int32.ofNat (A + Ln - 2))), .val (.long (Int64.ofNat r)), .second, .val (.int (Int32.ofNat (A + k)))] [(.int ((Int64.ofNat (48 + r % 10)).toInt32)), (.int (Int32.ofNat (A + k))), (.ref a1)]))
        rw [L_int (a := 48 + r % 10) (by omega)]
        show Go p e below _ (T.setTop (mkF m 105 #[.val (.ref a1), .val (.int (Int32.ofNat A)), .val (.int (Int32.ofNat F)), .val (.long (Int64.ofNat F)), .second, .val (.int (Int32.ofNat Ln)), .val (.int (Int32.ofNat (A + Ln))), .val (.int (Int32.ofNat (A + Ln - 2))), .val (.long (Int64.ofNat r)), .second, .val (.int (Int32.ofNat (A + k)))] [(.int (Int32.ofNat (48 + r % 10))), (.int (Int32.ofNat (A + k))), (.ref a1)]))
        show Go p e below _ (T.setTop (mkF m 105 #[.val (.ref a1), .val (.int (Int32.ofNat A)), .val (.int (Int32.ofNat F)), .val (.long (Int64.ofNat F)), .second, .val (.int (Int32.ofNat Ln)), .val (.int (Int32.ofNat (A + Ln))), .val (.int (Int32.ofNat (A + Ln - 2))), .val (.long (Int64.ofNat r)), .second, .val (.int (Int32.ofNat (A + k)))] [(.int (Int32.ofNat (48 + r % 10))), (.int (Int32.ofNat (A + k))), (.ref a1)]))
        refine Go.by (fun t => XS.i2c X.here hx rfl (hb hby d4_105) rfl) ?_
        show Go p e below _ (T.setTop (mkF m 106 #[.val (.ref a1), .val (.int (Int32.ofNat A)), .val (.int (Int32.ofNat F)), .val (.long (Int64.ofNat F)), .second, .val (.int (Int32.ofNat Ln)), .val (.int (Int32.ofNat (A + Ln))), .val (.int (Int32.ofNat (A + Ln - 2))), .val (.long (Int64.ofNat r)), .second, .val (.int (Int32.ofNat (A + k)))] [(.int ((Int32.ofNat (48 + r % 10)).toUInt32.toUInt16.toUInt32.toInt32)), (.int (Int32.ofNat (A + k))), (.ref a1)]))
        obtain ⟨cl_116, Ar_116, q_116, S_116, M_116, H_116, G_116⟩ := id V
        obtain ⟨T116, h116, X116, e116, W116, st116⟩ := stC X hx hZ eT Ar_116 (j := (Int32.ofNat (A + k))) (inb_of S_116 inA) (g := (mkF m 106 #[.val (.ref a1), .val (.int (Int32.ofNat A)), .val (.int (Int32.ofNat F)), .val (.long (Int64.ofNat F)), .second, .val (.int (Int32.ofNat Ln)), .val (.int (Int32.ofNat (A + Ln))), .val (.int (Int32.ofNat (A + Ln - 2))), .val (.long (Int64.ofNat r)), .second, .val (.int (Int32.ofNat (A + k)))] [(.int ((Int32.ofNat (48 + r % 10)).toUInt32.toUInt16.toUInt32.toInt32)), (.int (Int32.ofNat (A + k))), (.ref a1)])) rfl rfl (hb hby d4_106)
        refine Go.by (fun t => st116 t) ?_
        replace V := Arv.set Ar_116 q_116 S_116 M_116 H_116 G_116 (fits_nar_char _) W116 (A + k) inN inL
        replace K := K.wr W116 (Or.inl (List.mem_of_getElem? (i := 0) rfl))
        have N116 := Fr.snoc X116 N g_a1
        show Go p e below _ (T116.setTop (mkF m 107 #[.val (.ref a1), .val (.int (Int32.ofNat A)), .val (.int (Int32.ofNat F)), .val (.long (Int64.ofNat F)), .second, .val (.int (Int32.ofNat Ln)), .val (.int (Int32.ofNat (A + Ln))), .val (.int (Int32.ofNat (A + Ln - 2))), .val (.long (Int64.ofNat r)), .second, .val (.int (Int32.ofNat (A + k)))] []))
        rw [ch_of (k := 48 + r % 10) (by omega)] at V
        have e46 : 48 + r % 10 = gch A F Ln (A + k) := sign_of hL h2 (by omega) hrr
        rw [e46, des_set hA (by omega) hL'] at V
        show Go p e below _ (T116.setTop (mkF m 107 #[.val (.ref a1), .val (.int (Int32.ofNat A)), .val (.int (Int32.ofNat F)), .val (.long (Int64.ofNat F)), .second, .val (.int (Int32.ofNat Ln)), .val (.int (Int32.ofNat (A + Ln))), .val (.int (Int32.ofNat (A + Ln - 2))), .val (.long (Int64.ofNat r)), .second, .val (.int (Int32.ofNat (A + k)))] []))
        refine Go.by (fun t => XS.lload X116.here hx rfl (hb hby d4_107) rfl ) ?_
        show Go p e below _ (T116.setTop (mkF m 109 #[.val (.ref a1), .val (.int (Int32.ofNat A)), .val (.int (Int32.ofNat F)), .val (.long (Int64.ofNat F)), .second, .val (.int (Int32.ofNat Ln)), .val (.int (Int32.ofNat (A + Ln))), .val (.int (Int32.ofNat (A + Ln - 2))), .val (.long (Int64.ofNat r)), .second, .val (.int (Int32.ofNat (A + k)))] [(.long (Int64.ofNat r))]))
        refine Go.by (fun t => X116.ldc2Long hx hown (mvT hZ (hw _ (List.mem_of_getElem? (i := 31) rfl))) (g := (mkF m 109 #[.val (.ref a1), .val (.int (Int32.ofNat A)), .val (.int (Int32.ofNat F)), .val (.long (Int64.ofNat F)), .second, .val (.int (Int32.ofNat Ln)), .val (.int (Int32.ofNat (A + Ln))), .val (.int (Int32.ofNat (A + Ln - 2))), .val (.long (Int64.ofNat r)), .second, .val (.int (Int32.ofNat (A + k)))] [(.long (Int64.ofNat r))])) rfl (hb hby d4_109) t) ?_
        show Go p e below _ (T116.setTop (mkF m 112 #[.val (.ref a1), .val (.int (Int32.ofNat A)), .val (.int (Int32.ofNat F)), .val (.long (Int64.ofNat F)), .second, .val (.int (Int32.ofNat Ln)), .val (.int (Int32.ofNat (A + Ln))), .val (.int (Int32.ofNat (A + Ln - 2))), .val (.long (Int64.ofNat r)), .second, .val (.int (Int32.ofNat (A + k)))] [(.long (10 : Int64)), (.long (Int64.ofNat r))]))
        show Go p e below _ (T116.setTop (mkF m 112 #[.val (.ref a1), .val (.int (Int32.ofNat A)), .val (.int (Int32.ofNat F)), .val (.long (Int64.ofNat F)), .second, .val (.int (Int32.ofNat Ln)), .val (.int (Int32.ofNat (A + Ln))), .val (.int (Int32.ofNat (A + Ln - 2))), .val (.long (Int64.ofNat r)), .second, .val (.int (Int32.ofNat (A + k)))] [(.long (10 : Int64)), (.long (Int64.ofNat r))]))
        refine Go.by (fun t => XS.ldiv X116.here hx rfl (hb hby d4_112) rfl (by first | assumption | decide)) ?_
        show Go p e below _ (T116.setTop (mkF m 113 #[.val (.ref a1), .val (.int (Int32.ofNat A)), .val (.int (Int32.ofNat F)), .val (.long (Int64.ofNat F)), .second, .val (.int (Int32.ofNat Ln)), .val (.int (Int32.ofNat (A + Ln))), .val (.int (Int32.ofNat (A + Ln - 2))), .val (.long (Int64.ofNat r)), .second, .val (.int (Int32.ofNat (A + k)))] [(.long ((Int64.ofNat r) / (10 : Int64)))]))
        rw [L_div10 hr]
        show Go p e below _ (T116.setTop (mkF m 113 #[.val (.ref a1), .val (.int (Int32.ofNat A)), .val (.int (Int32.ofNat F)), .val (.long (Int64.ofNat F)), .second, .val (.int (Int32.ofNat Ln)), .val (.int (Int32.ofNat (A + Ln))), .val (.int (Int32.ofNat (A + Ln - 2))), .val (.long (Int64.ofNat r)), .second, .val (.int (Int32.ofNat (A + k)))] [(.long (Int64.ofNat (r / 10)))]))
        show Go p e below _ (T116.setTop (mkF m 113 #[.val (.ref a1), .val (.int (Int32.ofNat A)), .val (.int (Int32.ofNat F)), .val (.long (Int64.ofNat F)), .second, .val (.int (Int32.ofNat Ln)), .val (.int (Int32.ofNat (A + Ln))), .val (.int (Int32.ofNat (A + Ln - 2))), .val (.long (Int64.ofNat r)), .second, .val (.int (Int32.ofNat (A + k)))] [(.long (Int64.ofNat (r / 10)))]))
        refine Go.by (fun t => XS.lstore X116.here hx rfl (hb hby d4_113) rfl (l' := #[.val (.ref a1), .val (.int (Int32.ofNat A)), .val (.int (Int32.ofNat F)), .val (.long (Int64.ofNat F)), .second, .val (.int (Int32.ofNat Ln)), .val (.int (Int32.ofNat (A + Ln))), .val (.int (Int32.ofNat (A + Ln - 2))), .val (.long (Int64.ofNat (r / 10))), .second, .val (.int (Int32.ofNat (A + k)))]) rfl) ?_
        show Go p e below _ (T116.setTop (mkF m 115 #[.val (.ref a1), .val (.int (Int32.ofNat A)), .val (.int (Int32.ofNat F)), .val (.long (Int64.ofNat F)), .second, .val (.int (Int32.ofNat Ln)), .val (.int (Int32.ofNat (A + Ln))), .val (.int (Int32.ofNat (A + Ln - 2))), .val (.long (Int64.ofNat (r / 10))), .second, .val (.int (Int32.ofNat (A + k)))] []))
        refine Go.by (fun t => XS.iinc X116.here hx rfl (hb hby d4_115) rfl (l' := #[.val (.ref a1), .val (.int (Int32.ofNat A)), .val (.int (Int32.ofNat F)), .val (.long (Int64.ofNat F)), .second, .val (.int (Int32.ofNat Ln)), .val (.int (Int32.ofNat (A + Ln))), .val (.int (Int32.ofNat (A + Ln - 2))), .val (.long (Int64.ofNat (r / 10))), .second, .val (.int ((Int32.ofNat (A + k)) + (-1 : Int32)))]) rfl) ?_
        show Go p e below _ (T116.setTop (mkF m 118 #[.val (.ref a1), .val (.int (Int32.ofNat A)), .val (.int (Int32.ofNat F)), .val (.long (Int64.ofNat F)), .second, .val (.int (Int32.ofNat Ln)), .val (.int (Int32.ofNat (A + Ln))), .val (.int (Int32.ofNat (A + Ln - 2))), .val (.long (Int64.ofNat (r / 10))), .second, .val (.int ((Int32.ofNat (A + k)) + (-1 : Int32)))] []))
        rw [show Int32.ofNat (A + k) + (-1 : Int32) = Int32.ofNat (A + k) - (1 : Int32) by rw [Int32.sub_eq_add_neg]]
        show Go p e below _ (T116.setTop (mkF m 118 #[.val (.ref a1), .val (.int (Int32.ofNat A)), .val (.int (Int32.ofNat F)), .val (.long (Int64.ofNat F)), .second, .val (.int (Int32.ofNat Ln)), .val (.int (Int32.ofNat (A + Ln))), .val (.int (Int32.ofNat (A + Ln - 2))), .val (.long (Int64.ofNat (r / 10))), .second, .val (.int (Int32.ofNat (A + k) - (1 : Int32)))] []))
        show Go p e below _ (T116.setTop (mkF m 118 #[.val (.ref a1), .val (.int (Int32.ofNat A)), .val (.int (Int32.ofNat F)), .val (.long (Int64.ofNat F)), .second, .val (.int (Int32.ofNat Ln)), .val (.int (Int32.ofNat (A + Ln))), .val (.int (Int32.ofNat (A + Ln - 2))), .val (.long (Int64.ofNat (r / 10))), .second, .val (.int (Int32.ofNat (A + k) - (1 : Int32)))] []))
        refine Go.by (fun t => XS.goto X116.here hx rfl (pc0 := 118) (pc' := 69) rfl (hb hby d4_118) (by decide) (by decide)) ?_
        show Go p e below _ (T116.setTop (mkF m 69 #[.val (.ref a1), .val (.int (Int32.ofNat A)), .val (.int (Int32.ofNat F)), .val (.long (Int64.ofNat F)), .second, .val (.int (Int32.ofNat Ln)), .val (.int (Int32.ofNat (A + Ln))), .val (.int (Int32.ofNat (A + Ln - 2))), .val (.long (Int64.ofNat (r / 10))), .second, .val (.int (Int32.ofNat (A + k) - (1 : Int32)))] []))
        exact ih _ _ _ (r / 10) X116 e116 N116 K V (by omega) (by omega) (rem_of hL h2 (by omega) hrr)
  have ef : entryFrame m #[(.ref a1), (.int (Int32.ofNat A)), (.int (Int32.ofNat F))] 11 = (mkF m 0 #[.val (.ref a1), .val (.int (Int32.ofNat A)), .val (.int (Int32.ofNat F)), .unset, .unset, .unset, .unset, .unset, .unset, .unset, .unset] []) := by first | rfl | (simp [entryFrame, mkF, argsToLocals, Value.category, maxLocals]; done)
  show Go p e below (End (fun v h L => v = some (.int (Int32.ofNat (A + Ln))) ∧ Fr n0 L ∧ Keep h0 h [a1] ∧ Arv Z h a1 kc .char (20 : Int32) ((desL A F Ln 0).map Value.int) (.int (0 : Int32))) s 0 0) (s₁.setTop (entryFrame m #[(.ref a1), (.int (Int32.ofNat A)), (.int (Int32.ofNat F))] 11))
  rw [ef]
  show Go p e below _ (s₁.setTop (mkF m 0 #[.val (.ref a1), .val (.int (Int32.ofNat A)), .val (.int (Int32.ofNat F)), .unset, .unset, .unset, .unset, .unset, .unset, .unset, .unset] []))
  show Go p e below _ (s₁.setTop (mkF m 0 #[.val (.ref a1), .val (.int (Int32.ofNat A)), .val (.int (Int32.ofNat F)), .unset, .unset, .unset, .unset, .unset, .unset, .unset, .unset] []))
  refine Go.by (fun t => XS.iloadN X0.here hx rfl (hb hby d4_0) rfl ) ?_
  show Go p e below _ (s₁.setTop (mkF m 1 #[.val (.ref a1), .val (.int (Int32.ofNat A)), .val (.int (Int32.ofNat F)), .unset, .unset, .unset, .unset, .unset, .unset, .unset, .unset] [(.int (Int32.ofNat F))]))
  refine Go.by (fun t => XS.i2l X0.here hx rfl (hb hby d4_1) rfl) ?_
  show Go p e below _ (s₁.setTop (mkF m 2 #[.val (.ref a1), .val (.int (Int32.ofNat A)), .val (.int (Int32.ofNat F)), .unset, .unset, .unset, .unset, .unset, .unset, .unset, .unset] [(.long ((Int32.ofNat F).toInt64))]))
  rw [l_of hF]
  show Go p e below _ (s₁.setTop (mkF m 2 #[.val (.ref a1), .val (.int (Int32.ofNat A)), .val (.int (Int32.ofNat F)), .unset, .unset, .unset, .unset, .unset, .unset, .unset, .unset] [(.long (Int64.ofNat F))]))
  obtain ⟨T117, X117, e117, st117⟩ := getS2 X0 hx hZ hown (host := "") (Or.inl (hw _ (List.mem_of_getElem? (i := 27) rfl))) Via.refl e0 (S_UF.ext Od.2) (g := (mkF m 2 #[.val (.ref a1), .val (.int (Int32.ofNat A)), .val (.int (Int32.ofNat F)), .unset, .unset, .unset, .unset, .unset, .unset, .unset, .unset] [(.long (Int64.ofNat F))])) rfl (hb hby d4_2)
  refine Go.by (fun t => st117 t) ?_
  show Go p e below _ (T117.setTop (mkF m 5 #[.val (.ref a1), .val (.int (Int32.ofNat A)), .val (.int (Int32.ofNat F)), .unset, .unset, .unset, .unset, .unset, .unset, .unset, .unset] [(.long (1 : Int64)), (.long (Int64.ofNat F))]))
  show Go p e below _ (T117.setTop (mkF m 5 #[.val (.ref a1), .val (.int (Int32.ofNat A)), .val (.int (Int32.ofNat F)), .unset, .unset, .unset, .unset, .unset, .unset, .unset, .unset] [(.long (1 : Int64)), (.long (Int64.ofNat F))]))
  refine Go.by (fun t => XS.lmul X117.here hx rfl (hb hby d4_5) rfl) ?_
  show Go p e below _ (T117.setTop (mkF m 6 #[.val (.ref a1), .val (.int (Int32.ofNat A)), .val (.int (Int32.ofNat F)), .unset, .unset, .unset, .unset, .unset, .unset, .unset, .unset] [(.long ((Int64.ofNat F) * (1 : Int64)))]))
  rw [Int64.mul_one]
  show Go p e below _ (T117.setTop (mkF m 6 #[.val (.ref a1), .val (.int (Int32.ofNat A)), .val (.int (Int32.ofNat F)), .unset, .unset, .unset, .unset, .unset, .unset, .unset, .unset] [(.long (Int64.ofNat F))]))
  show Go p e below _ (T117.setTop (mkF m 6 #[.val (.ref a1), .val (.int (Int32.ofNat A)), .val (.int (Int32.ofNat F)), .unset, .unset, .unset, .unset, .unset, .unset, .unset, .unset] [(.long (Int64.ofNat F))]))
  refine Go.by (fun t => XS.lstoreN X117.here hx rfl (hb hby d4_6) rfl (l' := #[.val (.ref a1), .val (.int (Int32.ofNat A)), .val (.int (Int32.ofNat F)), .val (.long (Int64.ofNat F)), .second, .unset, .unset, .unset, .unset, .unset, .unset]) rfl) ?_
  show Go p e below _ (T117.setTop (mkF m 7 #[.val (.ref a1), .val (.int (Int32.ofNat A)), .val (.int (Int32.ofNat F)), .val (.long (Int64.ofNat F)), .second, .unset, .unset, .unset, .unset, .unset, .unset] []))
  refine Go.by (fun t => XS.iconst X117.here hx rfl (hb hby d4_7)) ?_
  show Go p e below _ (T117.setTop (mkF m 8 #[.val (.ref a1), .val (.int (Int32.ofNat A)), .val (.int (Int32.ofNat F)), .val (.long (Int64.ofNat F)), .second, .unset, .unset, .unset, .unset, .unset, .unset] [(.int (2 : Int32))]))
  refine Go.by (fun t => XS.istore X117.here hx rfl (hb hby d4_8) rfl (l' := #[.val (.ref a1), .val (.int (Int32.ofNat A)), .val (.int (Int32.ofNat F)), .val (.long (Int64.ofNat F)), .second, .val (.int (2 : Int32)), .unset, .unset, .unset, .unset, .unset]) rfl) ?_
  show Go p e below _ (T117.setTop (mkF m 10 #[.val (.ref a1), .val (.int (Int32.ofNat A)), .val (.int (Int32.ofNat F)), .val (.long (Int64.ofNat F)), .second, .val (.int (2 : Int32)), .unset, .unset, .unset, .unset, .unset] []))
  refine Go.by (fun t => XS.lloadN X117.here hx rfl (hb hby d4_10) rfl ) ?_
  show Go p e below _ (T117.setTop (mkF m 11 #[.val (.ref a1), .val (.int (Int32.ofNat A)), .val (.int (Int32.ofNat F)), .val (.long (Int64.ofNat F)), .second, .val (.int (2 : Int32)), .unset, .unset, .unset, .unset, .unset] [(.long (Int64.ofNat F))]))
  obtain ⟨T118, X118, e118, st118⟩ := getS2 X117 hx hZ hown (host := "") (Or.inl (hw _ (List.mem_of_getElem? (i := 29) rfl))) Via.refl e117 (S_US.ext Od.2) (g := (mkF m 11 #[.val (.ref a1), .val (.int (Int32.ofNat A)), .val (.int (Int32.ofNat F)), .val (.long (Int64.ofNat F)), .second, .val (.int (2 : Int32)), .unset, .unset, .unset, .unset, .unset] [(.long (Int64.ofNat F))])) rfl (hb hby d4_11)
  refine Go.by (fun t => st118 t) ?_
  show Go p e below _ (T118.setTop (mkF m 14 #[.val (.ref a1), .val (.int (Int32.ofNat A)), .val (.int (Int32.ofNat F)), .val (.long (Int64.ofNat F)), .second, .val (.int (2 : Int32)), .unset, .unset, .unset, .unset, .unset] [(.int (10 : Int32)), (.long (Int64.ofNat F))]))
  show Go p e below _ (T118.setTop (mkF m 14 #[.val (.ref a1), .val (.int (Int32.ofNat A)), .val (.int (Int32.ofNat F)), .val (.long (Int64.ofNat F)), .second, .val (.int (2 : Int32)), .unset, .unset, .unset, .unset, .unset] [(.int (10 : Int32)), (.long (Int64.ofNat F))]))
  refine Go.by (fun t => XS.i2l X118.here hx rfl (hb hby d4_14) rfl) ?_
  show Go p e below _ (T118.setTop (mkF m 15 #[.val (.ref a1), .val (.int (Int32.ofNat A)), .val (.int (Int32.ofNat F)), .val (.long (Int64.ofNat F)), .second, .val (.int (2 : Int32)), .unset, .unset, .unset, .unset, .unset] [(.long ((10 : Int32).toInt64)), (.long (Int64.ofNat F))]))
  rw [show (10 : Int32).toInt64 = (10 : Int64) from rfl]
  show Go p e below _ (T118.setTop (mkF m 15 #[.val (.ref a1), .val (.int (Int32.ofNat A)), .val (.int (Int32.ofNat F)), .val (.long (Int64.ofNat F)), .second, .val (.int (2 : Int32)), .unset, .unset, .unset, .unset, .unset] [(.long (10 : Int64)), (.long (Int64.ofNat F))]))
  show Go p e below _ (T118.setTop (mkF m 15 #[.val (.ref a1), .val (.int (Int32.ofNat A)), .val (.int (Int32.ofNat F)), .val (.long (Int64.ofNat F)), .second, .val (.int (2 : Int32)), .unset, .unset, .unset, .unset, .unset] [(.long (10 : Int64)), (.long (Int64.ofNat F))]))
  refine Go.by (fun t => XS.ldiv X118.here hx rfl (hb hby d4_15) rfl (by first | assumption | decide)) ?_
  show Go p e below _ (T118.setTop (mkF m 16 #[.val (.ref a1), .val (.int (Int32.ofNat A)), .val (.int (Int32.ofNat F)), .val (.long (Int64.ofNat F)), .second, .val (.int (2 : Int32)), .unset, .unset, .unset, .unset, .unset] [(.long ((Int64.ofNat F) / (10 : Int64)))]))
  rw [L_div10 hF]
  show Go p e below _ (T118.setTop (mkF m 16 #[.val (.ref a1), .val (.int (Int32.ofNat A)), .val (.int (Int32.ofNat F)), .val (.long (Int64.ofNat F)), .second, .val (.int (2 : Int32)), .unset, .unset, .unset, .unset, .unset] [(.long (Int64.ofNat (F / 10)))]))
  refine Go.by (fun t => X118.ldc2Long hx hown (mvT hZ (hw _ (List.mem_of_getElem? (i := 31) rfl))) (g := (mkF m 16 #[.val (.ref a1), .val (.int (Int32.ofNat A)), .val (.int (Int32.ofNat F)), .val (.long (Int64.ofNat F)), .second, .val (.int (2 : Int32)), .unset, .unset, .unset, .unset, .unset] [(.long (Int64.ofNat (F / 10)))])) rfl (hb hby d4_16) t) ?_
  show Go p e below _ (T118.setTop (mkF m 19 #[.val (.ref a1), .val (.int (Int32.ofNat A)), .val (.int (Int32.ofNat F)), .val (.long (Int64.ofNat F)), .second, .val (.int (2 : Int32)), .unset, .unset, .unset, .unset, .unset] [(.long (10 : Int64)), (.long (Int64.ofNat (F / 10)))]))
  show Go p e below _ (T118.setTop (mkF m 19 #[.val (.ref a1), .val (.int (Int32.ofNat A)), .val (.int (Int32.ofNat F)), .val (.long (Int64.ofNat F)), .second, .val (.int (2 : Int32)), .unset, .unset, .unset, .unset, .unset] [(.long (10 : Int64)), (.long (Int64.ofNat (F / 10)))]))
  refine Go.by (fun t => XS.ldiv X118.here hx rfl (hb hby d4_19) rfl (by first | assumption | decide)) ?_
  show Go p e below _ (T118.setTop (mkF m 20 #[.val (.ref a1), .val (.int (Int32.ofNat A)), .val (.int (Int32.ofNat F)), .val (.long (Int64.ofNat F)), .second, .val (.int (2 : Int32)), .unset, .unset, .unset, .unset, .unset] [(.long ((Int64.ofNat (F / 10)) / (10 : Int64)))]))
  rw [L_div10 (by omega)]
  show Go p e below _ (T118.setTop (mkF m 20 #[.val (.ref a1), .val (.int (Int32.ofNat A)), .val (.int (Int32.ofNat F)), .val (.long (Int64.ofNat F)), .second, .val (.int (2 : Int32)), .unset, .unset, .unset, .unset, .unset] [(.long (Int64.ofNat (F / 10 / 10)))]))
  show Go p e below _ (T118.setTop (mkF m 20 #[.val (.ref a1), .val (.int (Int32.ofNat A)), .val (.int (Int32.ofNat F)), .val (.long (Int64.ofNat F)), .second, .val (.int (2 : Int32)), .unset, .unset, .unset, .unset, .unset] [(.long (Int64.ofNat (F / 10 / 10)))]))
  refine Go.by (fun t => XS.lstore X118.here hx rfl (hb hby d4_20) rfl (l' := #[.val (.ref a1), .val (.int (Int32.ofNat A)), .val (.int (Int32.ofNat F)), .val (.long (Int64.ofNat F)), .second, .val (.int (2 : Int32)), .val (.long (Int64.ofNat (F / 10 / 10))), .second, .unset, .unset, .unset]) rfl) ?_
  show Go p e below _ (T118.setTop (mkF m 22 #[.val (.ref a1), .val (.int (Int32.ofNat A)), .val (.int (Int32.ofNat F)), .val (.long (Int64.ofNat F)), .second, .val (.int (2 : Int32)), .val (.long (Int64.ofNat (F / 10 / 10))), .second, .unset, .unset, .unset] []))
  have loop1 : ∀ (b q d : Nat) (hq : q ≤ b) (hq' : q < 2147483648) (hend : Go p e below (End (fun v h L => v = some (.int (Int32.ofNat (A + Ln))) ∧ Fr n0 L ∧ Keep h0 h [a1] ∧ Arv Z h a1 kc .char (20 : Int32) ((desL A F Ln 0).map Value.int) (.int (0 : Int32))) s 0 0) (T118.setTop (mkF m 43 #[.val (.ref a1), .val (.int (Int32.ofNat A)), .val (.int (Int32.ofNat F)), .val (.long (Int64.ofNat F)), .second, .val (.int (Int32.ofNat (d + nd q))), .val (.long (Int64.ofNat 0)), .second, .unset, .unset, .unset] []))), Go p e below (End (fun v h L => v = some (.int (Int32.ofNat (A + Ln))) ∧ Fr n0 L ∧ Keep h0 h [a1] ∧ Arv Z h a1 kc .char (20 : Int32) ((desL A F Ln 0).map Value.int) (.int (0 : Int32))) s 0 0) (T118.setTop (mkF m 22 #[.val (.ref a1), .val (.int (Int32.ofNat A)), .val (.int (Int32.ofNat F)), .val (.long (Int64.ofNat F)), .second, .val (.int (Int32.ofNat d)), .val (.long (Int64.ofNat q)), .second, .unset, .unset, .unset] [])) := by
    intro b
    induction b with
    | zero =>
      intro q d hq hq' hend
      by_cases h0 : q = 0
      ·
        subst h0
        rw [nd_0] at hend
        show Go p e below _ (T118.setTop (mkF m 22 #[.val (.ref a1), .val (.int (Int32.ofNat A)), .val (.int (Int32.ofNat F)), .val (.long (Int64.ofNat F)), .second, .val (.int (Int32.ofNat d)), .val (.long (Int64.ofNat 0)), .second, .unset, .unset, .unset] []))
        refine Go.by (fun t => XS.lload X118.here hx rfl (hb hby d4_22) rfl ) ?_
        show Go p e below _ (T118.setTop (mkF m 24 #[.val (.ref a1), .val (.int (Int32.ofNat A)), .val (.int (Int32.ofNat F)), .val (.long (Int64.ofNat F)), .second, .val (.int (Int32.ofNat d)), .val (.long (Int64.ofNat 0)), .second, .unset, .unset, .unset] [(.long (Int64.ofNat 0))]))
        refine Go.by (fun t => XS.lconst X118.here hx rfl (hb hby d4_24)) ?_
        show Go p e below _ (T118.setTop (mkF m 25 #[.val (.ref a1), .val (.int (Int32.ofNat A)), .val (.int (Int32.ofNat F)), .val (.long (Int64.ofNat F)), .second, .val (.int (Int32.ofNat d)), .val (.long (Int64.ofNat 0)), .second, .unset, .unset, .unset] [(.long (0 : Int64)), (.long (Int64.ofNat 0))]))
        refine Go.by (fun t => XS.lcmp X118.here hx rfl (hb hby d4_25) rfl) ?_
        show Go p e below _ (T118.setTop (mkF m 26 #[.val (.ref a1), .val (.int (Int32.ofNat A)), .val (.int (Int32.ofNat F)), .val (.long (Int64.ofNat F)), .second, .val (.int (Int32.ofNat d)), .val (.long (Int64.ofNat 0)), .second, .unset, .unset, .unset] [(.int (lcmpW (Int64.ofNat 0) (0 : Int64)))]))
        refine Go.by (fun t => XS.ifYes X118.here hx rfl (pc0 := 26) (pc' := 43) rfl (hb hby d4_26) rfl ((if0 _ _).trans (flt (by decide : ¬ ((0 : Int32) < (lcmpW (Int64.ofNat 0) (0 : Int64))))).2.2.2) (by decide) (by decide)) ?_
        show Go p e below _ (T118.setTop (mkF m 43 #[.val (.ref a1), .val (.int (Int32.ofNat A)), .val (.int (Int32.ofNat F)), .val (.long (Int64.ofNat F)), .second, .val (.int (Int32.ofNat d)), .val (.long (Int64.ofNat 0)), .second, .unset, .unset, .unset] []))
        exact hend
      ·
        exact absurd hq (by omega)
    | succ b ih =>
      intro q d hq hq' hend
      by_cases h0 : q = 0
      ·
        subst h0
        rw [nd_0] at hend
        show Go p e below _ (T118.setTop (mkF m 22 #[.val (.ref a1), .val (.int (Int32.ofNat A)), .val (.int (Int32.ofNat F)), .val (.long (Int64.ofNat F)), .second, .val (.int (Int32.ofNat d)), .val (.long (Int64.ofNat 0)), .second, .unset, .unset, .unset] []))
        refine Go.by (fun t => XS.lload X118.here hx rfl (hb hby d4_22) rfl ) ?_
        show Go p e below _ (T118.setTop (mkF m 24 #[.val (.ref a1), .val (.int (Int32.ofNat A)), .val (.int (Int32.ofNat F)), .val (.long (Int64.ofNat F)), .second, .val (.int (Int32.ofNat d)), .val (.long (Int64.ofNat 0)), .second, .unset, .unset, .unset] [(.long (Int64.ofNat 0))]))
        refine Go.by (fun t => XS.lconst X118.here hx rfl (hb hby d4_24)) ?_
        show Go p e below _ (T118.setTop (mkF m 25 #[.val (.ref a1), .val (.int (Int32.ofNat A)), .val (.int (Int32.ofNat F)), .val (.long (Int64.ofNat F)), .second, .val (.int (Int32.ofNat d)), .val (.long (Int64.ofNat 0)), .second, .unset, .unset, .unset] [(.long (0 : Int64)), (.long (Int64.ofNat 0))]))
        refine Go.by (fun t => XS.lcmp X118.here hx rfl (hb hby d4_25) rfl) ?_
        show Go p e below _ (T118.setTop (mkF m 26 #[.val (.ref a1), .val (.int (Int32.ofNat A)), .val (.int (Int32.ofNat F)), .val (.long (Int64.ofNat F)), .second, .val (.int (Int32.ofNat d)), .val (.long (Int64.ofNat 0)), .second, .unset, .unset, .unset] [(.int (lcmpW (Int64.ofNat 0) (0 : Int64)))]))
        refine Go.by (fun t => XS.ifYes X118.here hx rfl (pc0 := 26) (pc' := 43) rfl (hb hby d4_26) rfl ((if0 _ _).trans (flt (by decide : ¬ ((0 : Int32) < (lcmpW (Int64.ofNat 0) (0 : Int64))))).2.2.2) (by decide) (by decide)) ?_
        show Go p e below _ (T118.setTop (mkF m 43 #[.val (.ref a1), .val (.int (Int32.ofNat A)), .val (.int (Int32.ofNat F)), .val (.long (Int64.ofNat F)), .second, .val (.int (Int32.ofNat d)), .val (.long (Int64.ofNat 0)), .second, .unset, .unset, .unset] []))
        exact hend
      ·
        show Go p e below _ (T118.setTop (mkF m 22 #[.val (.ref a1), .val (.int (Int32.ofNat A)), .val (.int (Int32.ofNat F)), .val (.long (Int64.ofNat F)), .second, .val (.int (Int32.ofNat d)), .val (.long (Int64.ofNat q)), .second, .unset, .unset, .unset] []))
        refine Go.by (fun t => XS.lload X118.here hx rfl (hb hby d4_22) rfl ) ?_
        show Go p e below _ (T118.setTop (mkF m 24 #[.val (.ref a1), .val (.int (Int32.ofNat A)), .val (.int (Int32.ofNat F)), .val (.long (Int64.ofNat F)), .second, .val (.int (Int32.ofNat d)), .val (.long (Int64.ofNat q)), .second, .unset, .unset, .unset] [(.long (Int64.ofNat q))]))
        refine Go.by (fun t => XS.lconst X118.here hx rfl (hb hby d4_24)) ?_
        show Go p e below _ (T118.setTop (mkF m 25 #[.val (.ref a1), .val (.int (Int32.ofNat A)), .val (.int (Int32.ofNat F)), .val (.long (Int64.ofNat F)), .second, .val (.int (Int32.ofNat d)), .val (.long (Int64.ofNat q)), .second, .unset, .unset, .unset] [(.long (0 : Int64)), (.long (Int64.ofNat q))]))
        refine Go.by (fun t => XS.lcmp X118.here hx rfl (hb hby d4_25) rfl) ?_
        show Go p e below _ (T118.setTop (mkF m 26 #[.val (.ref a1), .val (.int (Int32.ofNat A)), .val (.int (Int32.ofNat F)), .val (.long (Int64.ofNat F)), .second, .val (.int (Int32.ofNat d)), .val (.long (Int64.ofNat q)), .second, .unset, .unset, .unset] [(.int (lcmpW (Int64.ofNat q) (0 : Int64)))]))
        refine Go.by (fun t => XS.ifNo X118.here hx rfl (hb hby d4_26) rfl ((if0 _ _).trans (tlt ((lw_gt _ _).mpr (L_gt hq' (by omega)) : (0 : Int32) < (lcmpW (Int64.ofNat q) (0 : Int64)))).2.2.2)) ?_
        show Go p e below _ (T118.setTop (mkF m 29 #[.val (.ref a1), .val (.int (Int32.ofNat A)), .val (.int (Int32.ofNat F)), .val (.long (Int64.ofNat F)), .second, .val (.int (Int32.ofNat d)), .val (.long (Int64.ofNat q)), .second, .unset, .unset, .unset] []))
        show Go p e below _ (T118.setTop (mkF m 29 #[.val (.ref a1), .val (.int (Int32.ofNat A)), .val (.int (Int32.ofNat F)), .val (.long (Int64.ofNat F)), .second, .val (.int (Int32.ofNat d)), .val (.long (Int64.ofNat q)), .second, .unset, .unset, .unset] []))
        refine Go.by (fun t => XS.iinc X118.here hx rfl (hb hby d4_29) rfl (l' := #[.val (.ref a1), .val (.int (Int32.ofNat A)), .val (.int (Int32.ofNat F)), .val (.long (Int64.ofNat F)), .second, .val (.int ((Int32.ofNat d) + (1 : Int32))), .val (.long (Int64.ofNat q)), .second, .unset, .unset, .unset]) rfl) ?_
        show Go p e below _ (T118.setTop (mkF m 32 #[.val (.ref a1), .val (.int (Int32.ofNat A)), .val (.int (Int32.ofNat F)), .val (.long (Int64.ofNat F)), .second, .val (.int ((Int32.ofNat d) + (1 : Int32))), .val (.long (Int64.ofNat q)), .second, .unset, .unset, .unset] []))
        rw [show Int32.ofNat d + (1 : Int32) = Int32.ofNat (d + 1) from add32n d 1]
        show Go p e below _ (T118.setTop (mkF m 32 #[.val (.ref a1), .val (.int (Int32.ofNat A)), .val (.int (Int32.ofNat F)), .val (.long (Int64.ofNat F)), .second, .val (.int (Int32.ofNat (d + 1))), .val (.long (Int64.ofNat q)), .second, .unset, .unset, .unset] []))
        show Go p e below _ (T118.setTop (mkF m 32 #[.val (.ref a1), .val (.int (Int32.ofNat A)), .val (.int (Int32.ofNat F)), .val (.long (Int64.ofNat F)), .second, .val (.int (Int32.ofNat (d + 1))), .val (.long (Int64.ofNat q)), .second, .unset, .unset, .unset] []))
        refine Go.by (fun t => XS.lload X118.here hx rfl (hb hby d4_32) rfl ) ?_
        show Go p e below _ (T118.setTop (mkF m 34 #[.val (.ref a1), .val (.int (Int32.ofNat A)), .val (.int (Int32.ofNat F)), .val (.long (Int64.ofNat F)), .second, .val (.int (Int32.ofNat (d + 1))), .val (.long (Int64.ofNat q)), .second, .unset, .unset, .unset] [(.long (Int64.ofNat q))]))
        refine Go.by (fun t => X118.ldc2Long hx hown (mvT hZ (hw _ (List.mem_of_getElem? (i := 31) rfl))) (g := (mkF m 34 #[.val (.ref a1), .val (.int (Int32.ofNat A)), .val (.int (Int32.ofNat F)), .val (.long (Int64.ofNat F)), .second, .val (.int (Int32.ofNat (d + 1))), .val (.long (Int64.ofNat q)), .second, .unset, .unset, .unset] [(.long (Int64.ofNat q))])) rfl (hb hby d4_34) t) ?_
        show Go p e below _ (T118.setTop (mkF m 37 #[.val (.ref a1), .val (.int (Int32.ofNat A)), .val (.int (Int32.ofNat F)), .val (.long (Int64.ofNat F)), .second, .val (.int (Int32.ofNat (d + 1))), .val (.long (Int64.ofNat q)), .second, .unset, .unset, .unset] [(.long (10 : Int64)), (.long (Int64.ofNat q))]))
        show Go p e below _ (T118.setTop (mkF m 37 #[.val (.ref a1), .val (.int (Int32.ofNat A)), .val (.int (Int32.ofNat F)), .val (.long (Int64.ofNat F)), .second, .val (.int (Int32.ofNat (d + 1))), .val (.long (Int64.ofNat q)), .second, .unset, .unset, .unset] [(.long (10 : Int64)), (.long (Int64.ofNat q))]))
        refine Go.by (fun t => XS.ldiv X118.here hx rfl (hb hby d4_37) rfl (by first | assumption | decide)) ?_
        show Go p e below _ (T118.setTop (mkF m 38 #[.val (.ref a1), .val (.int (Int32.ofNat A)), .val (.int (Int32.ofNat F)), .val (.long (Int64.ofNat F)), .second, .val (.int (Int32.ofNat (d + 1))), .val (.long (Int64.ofNat q)), .second, .unset, .unset, .unset] [(.long ((Int64.ofNat q) / (10 : Int64)))]))
        rw [L_div10 hq']
        show Go p e below _ (T118.setTop (mkF m 38 #[.val (.ref a1), .val (.int (Int32.ofNat A)), .val (.int (Int32.ofNat F)), .val (.long (Int64.ofNat F)), .second, .val (.int (Int32.ofNat (d + 1))), .val (.long (Int64.ofNat q)), .second, .unset, .unset, .unset] [(.long (Int64.ofNat (q / 10)))]))
        show Go p e below _ (T118.setTop (mkF m 38 #[.val (.ref a1), .val (.int (Int32.ofNat A)), .val (.int (Int32.ofNat F)), .val (.long (Int64.ofNat F)), .second, .val (.int (Int32.ofNat (d + 1))), .val (.long (Int64.ofNat q)), .second, .unset, .unset, .unset] [(.long (Int64.ofNat (q / 10)))]))
        refine Go.by (fun t => XS.lstore X118.here hx rfl (hb hby d4_38) rfl (l' := #[.val (.ref a1), .val (.int (Int32.ofNat A)), .val (.int (Int32.ofNat F)), .val (.long (Int64.ofNat F)), .second, .val (.int (Int32.ofNat (d + 1))), .val (.long (Int64.ofNat (q / 10))), .second, .unset, .unset, .unset]) rfl) ?_
        show Go p e below _ (T118.setTop (mkF m 40 #[.val (.ref a1), .val (.int (Int32.ofNat A)), .val (.int (Int32.ofNat F)), .val (.long (Int64.ofNat F)), .second, .val (.int (Int32.ofNat (d + 1))), .val (.long (Int64.ofNat (q / 10))), .second, .unset, .unset, .unset] []))
        show Go p e below _ (T118.setTop (mkF m 40 #[.val (.ref a1), .val (.int (Int32.ofNat A)), .val (.int (Int32.ofNat F)), .val (.long (Int64.ofNat F)), .second, .val (.int (Int32.ofNat (d + 1))), .val (.long (Int64.ofNat (q / 10))), .second, .unset, .unset, .unset] []))
        refine Go.by (fun t => XS.goto X118.here hx rfl (pc0 := 40) (pc' := 22) rfl (hb hby d4_40) (by decide) (by decide)) ?_
        show Go p e below _ (T118.setTop (mkF m 22 #[.val (.ref a1), .val (.int (Int32.ofNat A)), .val (.int (Int32.ofNat F)), .val (.long (Int64.ofNat F)), .second, .val (.int (Int32.ofNat (d + 1))), .val (.long (Int64.ofNat (q / 10))), .second, .unset, .unset, .unset] []))
        exact ih (q / 10) (d + 1) (by omega) (by omega) (by rw [show d + 1 + nd (q / 10) = d + nd q by rw [nd_s (n := q) (by omega)]; omega]; exact hend)
  refine loop1 (F / 10 / 10) (F / 10 / 10) 2 (Nat.le_refl _) (by omega) ?_
  show Go p e below _ (T118.setTop (mkF m 43 #[.val (.ref a1), .val (.int (Int32.ofNat A)), .val (.int (Int32.ofNat F)), .val (.long (Int64.ofNat F)), .second, .val (.int (Int32.ofNat (2 + nd (F / 10 / 10)))), .val (.long (Int64.ofNat 0)), .second, .unset, .unset, .unset] []))
  show Go p e below _ (T118.setTop (mkF m 43 #[.val (.ref a1), .val (.int (Int32.ofNat A)), .val (.int (Int32.ofNat F)), .val (.long (Int64.ofNat F)), .second, .val (.int (Int32.ofNat (2 + nd (F / 10 / 10)))), .val (.long (Int64.ofNat 0)), .second, .unset, .unset, .unset] []))
  refine Go.by (fun t => XS.iinc X118.here hx rfl (hb hby d4_43) rfl (l' := #[.val (.ref a1), .val (.int (Int32.ofNat A)), .val (.int (Int32.ofNat F)), .val (.long (Int64.ofNat F)), .second, .val (.int ((Int32.ofNat (2 + nd (F / 10 / 10))) + (1 : Int32))), .val (.long (Int64.ofNat 0)), .second, .unset, .unset, .unset]) rfl) ?_
  show Go p e below _ (T118.setTop (mkF m 46 #[.val (.ref a1), .val (.int (Int32.ofNat A)), .val (.int (Int32.ofNat F)), .val (.long (Int64.ofNat F)), .second, .val (.int ((Int32.ofNat (2 + nd (F / 10 / 10))) + (1 : Int32))), .val (.long (Int64.ofNat 0)), .second, .unset, .unset, .unset] []))
  rw [show Int32.ofNat (2 + nd (F / 10 / 10)) + (1 : Int32) = Int32.ofNat Ln by rw [hLn]; exact add32n _ 1]
  show Go p e below _ (T118.setTop (mkF m 46 #[.val (.ref a1), .val (.int (Int32.ofNat A)), .val (.int (Int32.ofNat F)), .val (.long (Int64.ofNat F)), .second, .val (.int (Int32.ofNat Ln)), .val (.long (Int64.ofNat 0)), .second, .unset, .unset, .unset] []))
  show Go p e below _ (T118.setTop (mkF m 46 #[.val (.ref a1), .val (.int (Int32.ofNat A)), .val (.int (Int32.ofNat F)), .val (.long (Int64.ofNat F)), .second, .val (.int (Int32.ofNat Ln)), .val (.long (Int64.ofNat 0)), .second, .unset, .unset, .unset] []))
  refine Go.by (fun t => XS.iloadN X118.here hx rfl (hb hby d4_46) rfl ) ?_
  show Go p e below _ (T118.setTop (mkF m 47 #[.val (.ref a1), .val (.int (Int32.ofNat A)), .val (.int (Int32.ofNat F)), .val (.long (Int64.ofNat F)), .second, .val (.int (Int32.ofNat Ln)), .val (.long (Int64.ofNat 0)), .second, .unset, .unset, .unset] [(.int (Int32.ofNat A))]))
  refine Go.by (fun t => XS.iload X118.here hx rfl (hb hby d4_47) rfl ) ?_
  show Go p e below _ (T118.setTop (mkF m 49 #[.val (.ref a1), .val (.int (Int32.ofNat A)), .val (.int (Int32.ofNat F)), .val (.long (Int64.ofNat F)), .second, .val (.int (Int32.ofNat Ln)), .val (.long (Int64.ofNat 0)), .second, .unset, .unset, .unset] [(.int (Int32.ofNat Ln)), (.int (Int32.ofNat A))]))
  refine Go.by (fun t => XS.iadd X118.here hx rfl (hb hby d4_49) rfl) ?_
  show Go p e below _ (T118.setTop (mkF m 50 #[.val (.ref a1), .val (.int (Int32.ofNat A)), .val (.int (Int32.ofNat F)), .val (.long (Int64.ofNat F)), .second, .val (.int (Int32.ofNat Ln)), .val (.long (Int64.ofNat 0)), .second, .unset, .unset, .unset] [(.int ((Int32.ofNat A) + (Int32.ofNat Ln)))]))
  rw [add32n A Ln]
  show Go p e below _ (T118.setTop (mkF m 50 #[.val (.ref a1), .val (.int (Int32.ofNat A)), .val (.int (Int32.ofNat F)), .val (.long (Int64.ofNat F)), .second, .val (.int (Int32.ofNat Ln)), .val (.long (Int64.ofNat 0)), .second, .unset, .unset, .unset] [(.int (Int32.ofNat (A + Ln)))]))
  show Go p e below _ (T118.setTop (mkF m 50 #[.val (.ref a1), .val (.int (Int32.ofNat A)), .val (.int (Int32.ofNat F)), .val (.long (Int64.ofNat F)), .second, .val (.int (Int32.ofNat Ln)), .val (.long (Int64.ofNat 0)), .second, .unset, .unset, .unset] [(.int (Int32.ofNat (A + Ln)))]))
  refine Go.by (fun t => XS.istore X118.here hx rfl (hb hby d4_50) rfl (l' := #[.val (.ref a1), .val (.int (Int32.ofNat A)), .val (.int (Int32.ofNat F)), .val (.long (Int64.ofNat F)), .second, .val (.int (Int32.ofNat Ln)), .val (.int (Int32.ofNat (A + Ln))), .unset, .unset, .unset, .unset]) rfl) ?_
  show Go p e below _ (T118.setTop (mkF m 52 #[.val (.ref a1), .val (.int (Int32.ofNat A)), .val (.int (Int32.ofNat F)), .val (.long (Int64.ofNat F)), .second, .val (.int (Int32.ofNat Ln)), .val (.int (Int32.ofNat (A + Ln))), .unset, .unset, .unset, .unset] []))
  refine Go.by (fun t => XS.iload X118.here hx rfl (hb hby d4_52) rfl ) ?_
  show Go p e below _ (T118.setTop (mkF m 54 #[.val (.ref a1), .val (.int (Int32.ofNat A)), .val (.int (Int32.ofNat F)), .val (.long (Int64.ofNat F)), .second, .val (.int (Int32.ofNat Ln)), .val (.int (Int32.ofNat (A + Ln))), .unset, .unset, .unset, .unset] [(.int (Int32.ofNat (A + Ln)))]))
  refine Go.by (fun t => XS.iconst X118.here hx rfl (hb hby d4_54)) ?_
  show Go p e below _ (T118.setTop (mkF m 55 #[.val (.ref a1), .val (.int (Int32.ofNat A)), .val (.int (Int32.ofNat F)), .val (.long (Int64.ofNat F)), .second, .val (.int (Int32.ofNat Ln)), .val (.int (Int32.ofNat (A + Ln))), .unset, .unset, .unset, .unset] [(.int (1 : Int32)), (.int (Int32.ofNat (A + Ln)))]))
  refine Go.by (fun t => XS.isub X118.here hx rfl (hb hby d4_55) rfl) ?_
  show Go p e below _ (T118.setTop (mkF m 56 #[.val (.ref a1), .val (.int (Int32.ofNat A)), .val (.int (Int32.ofNat F)), .val (.long (Int64.ofNat F)), .second, .val (.int (Int32.ofNat Ln)), .val (.int (Int32.ofNat (A + Ln))), .unset, .unset, .unset, .unset] [(.int ((Int32.ofNat (A + Ln)) - (1 : Int32)))]))
  rw [sub1 (n := A + Ln) (by omega)]
  show Go p e below _ (T118.setTop (mkF m 56 #[.val (.ref a1), .val (.int (Int32.ofNat A)), .val (.int (Int32.ofNat F)), .val (.long (Int64.ofNat F)), .second, .val (.int (Int32.ofNat Ln)), .val (.int (Int32.ofNat (A + Ln))), .unset, .unset, .unset, .unset] [(.int (Int32.ofNat (A + Ln - 1)))]))
  show Go p e below _ (T118.setTop (mkF m 56 #[.val (.ref a1), .val (.int (Int32.ofNat A)), .val (.int (Int32.ofNat F)), .val (.long (Int64.ofNat F)), .second, .val (.int (Int32.ofNat Ln)), .val (.int (Int32.ofNat (A + Ln))), .unset, .unset, .unset, .unset] [(.int (Int32.ofNat (A + Ln - 1)))]))
  refine Go.by (fun t => XS.iconst X118.here hx rfl (hb hby d4_56)) ?_
  show Go p e below _ (T118.setTop (mkF m 57 #[.val (.ref a1), .val (.int (Int32.ofNat A)), .val (.int (Int32.ofNat F)), .val (.long (Int64.ofNat F)), .second, .val (.int (Int32.ofNat Ln)), .val (.int (Int32.ofNat (A + Ln))), .unset, .unset, .unset, .unset] [(.int (1 : Int32)), (.int (Int32.ofNat (A + Ln - 1)))]))
  refine Go.by (fun t => XS.isub X118.here hx rfl (hb hby d4_57) rfl) ?_
  show Go p e below _ (T118.setTop (mkF m 58 #[.val (.ref a1), .val (.int (Int32.ofNat A)), .val (.int (Int32.ofNat F)), .val (.long (Int64.ofNat F)), .second, .val (.int (Int32.ofNat Ln)), .val (.int (Int32.ofNat (A + Ln))), .unset, .unset, .unset, .unset] [(.int ((Int32.ofNat (A + Ln - 1)) - (1 : Int32)))]))
  rw [show Int32.ofNat (A + Ln - 1) - (1 : Int32) = Int32.ofNat (A + Ln - 2) from sub1 (n := A + Ln - 1) (by omega)]
  show Go p e below _ (T118.setTop (mkF m 58 #[.val (.ref a1), .val (.int (Int32.ofNat A)), .val (.int (Int32.ofNat F)), .val (.long (Int64.ofNat F)), .second, .val (.int (Int32.ofNat Ln)), .val (.int (Int32.ofNat (A + Ln))), .unset, .unset, .unset, .unset] [(.int (Int32.ofNat (A + Ln - 2)))]))
  show Go p e below _ (T118.setTop (mkF m 58 #[.val (.ref a1), .val (.int (Int32.ofNat A)), .val (.int (Int32.ofNat F)), .val (.long (Int64.ofNat F)), .second, .val (.int (Int32.ofNat Ln)), .val (.int (Int32.ofNat (A + Ln))), .unset, .unset, .unset, .unset] [(.int (Int32.ofNat (A + Ln - 2)))]))
  refine Go.by (fun t => XS.istore X118.here hx rfl (hb hby d4_58) rfl (l' := #[.val (.ref a1), .val (.int (Int32.ofNat A)), .val (.int (Int32.ofNat F)), .val (.long (Int64.ofNat F)), .second, .val (.int (Int32.ofNat Ln)), .val (.int (Int32.ofNat (A + Ln))), .val (.int (Int32.ofNat (A + Ln - 2))), .unset, .unset, .unset]) rfl) ?_
  show Go p e below _ (T118.setTop (mkF m 60 #[.val (.ref a1), .val (.int (Int32.ofNat A)), .val (.int (Int32.ofNat F)), .val (.long (Int64.ofNat F)), .second, .val (.int (Int32.ofNat Ln)), .val (.int (Int32.ofNat (A + Ln))), .val (.int (Int32.ofNat (A + Ln - 2))), .unset, .unset, .unset] []))
  refine Go.by (fun t => XS.lloadN X118.here hx rfl (hb hby d4_60) rfl ) ?_
  show Go p e below _ (T118.setTop (mkF m 61 #[.val (.ref a1), .val (.int (Int32.ofNat A)), .val (.int (Int32.ofNat F)), .val (.long (Int64.ofNat F)), .second, .val (.int (Int32.ofNat Ln)), .val (.int (Int32.ofNat (A + Ln))), .val (.int (Int32.ofNat (A + Ln - 2))), .unset, .unset, .unset] [(.long (Int64.ofNat F))]))
  refine Go.by (fun t => XS.lstore X118.here hx rfl (hb hby d4_61) rfl (l' := #[.val (.ref a1), .val (.int (Int32.ofNat A)), .val (.int (Int32.ofNat F)), .val (.long (Int64.ofNat F)), .second, .val (.int (Int32.ofNat Ln)), .val (.int (Int32.ofNat (A + Ln))), .val (.int (Int32.ofNat (A + Ln - 2))), .val (.long (Int64.ofNat F)), .second, .unset]) rfl) ?_
  show Go p e below _ (T118.setTop (mkF m 63 #[.val (.ref a1), .val (.int (Int32.ofNat A)), .val (.int (Int32.ofNat F)), .val (.long (Int64.ofNat F)), .second, .val (.int (Int32.ofNat Ln)), .val (.int (Int32.ofNat (A + Ln))), .val (.int (Int32.ofNat (A + Ln - 2))), .val (.long (Int64.ofNat F)), .second, .unset] []))
  refine Go.by (fun t => XS.iload X118.here hx rfl (hb hby d4_63) rfl ) ?_
  show Go p e below _ (T118.setTop (mkF m 65 #[.val (.ref a1), .val (.int (Int32.ofNat A)), .val (.int (Int32.ofNat F)), .val (.long (Int64.ofNat F)), .second, .val (.int (Int32.ofNat Ln)), .val (.int (Int32.ofNat (A + Ln))), .val (.int (Int32.ofNat (A + Ln - 2))), .val (.long (Int64.ofNat F)), .second, .unset] [(.int (Int32.ofNat (A + Ln)))]))
  refine Go.by (fun t => XS.iconst X118.here hx rfl (hb hby d4_65)) ?_
  show Go p e below _ (T118.setTop (mkF m 66 #[.val (.ref a1), .val (.int (Int32.ofNat A)), .val (.int (Int32.ofNat F)), .val (.long (Int64.ofNat F)), .second, .val (.int (Int32.ofNat Ln)), .val (.int (Int32.ofNat (A + Ln))), .val (.int (Int32.ofNat (A + Ln - 2))), .val (.long (Int64.ofNat F)), .second, .unset] [(.int (1 : Int32)), (.int (Int32.ofNat (A + Ln)))]))
  refine Go.by (fun t => XS.isub X118.here hx rfl (hb hby d4_66) rfl) ?_
  show Go p e below _ (T118.setTop (mkF m 67 #[.val (.ref a1), .val (.int (Int32.ofNat A)), .val (.int (Int32.ofNat F)), .val (.long (Int64.ofNat F)), .second, .val (.int (Int32.ofNat Ln)), .val (.int (Int32.ofNat (A + Ln))), .val (.int (Int32.ofNat (A + Ln - 2))), .val (.long (Int64.ofNat F)), .second, .unset] [(.int ((Int32.ofNat (A + Ln)) - (1 : Int32)))]))
  refine Go.by (fun t => XS.istore X118.here hx rfl (hb hby d4_67) rfl (l' := #[.val (.ref a1), .val (.int (Int32.ofNat A)), .val (.int (Int32.ofNat F)), .val (.long (Int64.ofNat F)), .second, .val (.int (Int32.ofNat Ln)), .val (.int (Int32.ofNat (A + Ln))), .val (.int (Int32.ofNat (A + Ln - 2))), .val (.long (Int64.ofNat F)), .second, .val (.int ((Int32.ofNat (A + Ln)) - (1 : Int32)))]) rfl) ?_
  show Go p e below _ (T118.setTop (mkF m 69 #[.val (.ref a1), .val (.int (Int32.ofNat A)), .val (.int (Int32.ofNat F)), .val (.long (Int64.ofNat F)), .second, .val (.int (Int32.ofNat Ln)), .val (.int (Int32.ofNat (A + Ln))), .val (.int (Int32.ofNat (A + Ln - 2))), .val (.long (Int64.ofNat F)), .second, .val (.int ((Int32.ofNat (A + Ln)) - (1 : Int32)))] []))
  exact loop2 Ln _ _ _ F X118 e118 N0 (Keep.refl _ _) V_a1 (Nat.le_refl _) hF ⟨fun _ => rfl, fun q => absurd q (by omega), fun q => absurd q (by omega)⟩
def Q_rm0 (Z : State) (p0 p1 G1 : Int32) (h0 : Heap) (n0 : Nat) : Option Value → Heap → List Loc → Prop := fun v _ L => v = some (.int 1) ∧ Fr n0 L
set_option maxRecDepth 65536 in
set_option maxHeartbeats 40000000 in
theorem rm0 (l : Launch) (Z : State) (a0 : Array Value) (hw : ∀ d ∈ tables_1, d.before a0 Z = true) (ws : List Jvm.Cond) (p0 p1 G1 : Int32) (h0 : Heap) (n0 : Nat) (Z0 : n0 ≤ h0.size) (Od : Old Z n0 h0) (O2 : Sta Z Z.heap "java/lang/String" "COMPACT_STRINGS" "Z" (.int G1)) (P5 : ¬ (G1 = (0 : Int32))) (S_UF : Sta Z Z.heap "com/example/oneiros/oneiros/cli/FrameTime" "UNITS_PER_FRAME" "J" (.long (1 : Int64))) (S_US : Sta Z Z.heap "com/example/oneiros/oneiros/cli/FrameTime" "UNITS_PER_SECOND" "I" (.int (10 : Int32))) :
    MetFree l x (head1 (Jvm.Cond.code x code maxLocals ret :: ws) room_1) (fun a U => a = #[(.int p0), (.int p1)] ∧ Z.Warmed39 U.vm ∧ U.heap = h0) (fun _ _ _ _ _ => True) (fun _ U o U' => ∃ v L, o = .returned v ∧ Q_rm0 Z p0 p1 G1 h0 n0 v U'.heap L ∧ FrameEnd U o U' L room_1.cells room_1.slots) := by
  refine MetFree.of_bodySF (plainFor_of_name pn_0) hisR ?_
  intro p e s m args below meth c s₁ Bd hml0 hP hK
  obtain ⟨rfl, hZ, hh⟩ := hP
  have hx := Bd.exec
  have hby := Bd.bytes
  have hml : c.maxLocals = 8 := hml0
  have hown : s.vm.findClass "com/example/oneiros/oneiros/cli/FrameTimeWriteSecondsPinLaw" = some m.cls := findClass_of_methodNamed Bd.named
  have hnm := (name_of_methodNamed Bd.named Bd.method).1
  have X0 : Stand p l e room_1 s m #[(.int p0), (.int p1)] below meth c s₁ [] 0 0 := Stand.of_body Bd
  have e0 : s₁.heap = h0 := by rw [← hh, Bd.state]; rfl
  have N0 := Fr.nil n0
  have hws : ∀ d ∈ StrChars.Road.words, d.before a0 Z = true := fun d hd => hw d ((by decide +kernel : ∀ d ∈ StrChars.Road.words, d ∈ tables_1) d hd)
  have heq : ∀ d ∈ StrChars.Road.wordsEq, d.before a0 Z = true := fun d hd => hw d ((by decide +kernel : ∀ d ∈ StrChars.Road.wordsEq, d ∈ tables_1) d hd)
  have ef : entryFrame m #[(.int p0), (.int p1)] maxLocals = (mkF m 0 #[.val (.int p0), .val (.int p1), .unset, .unset, .unset, .unset, .unset, .unset] []) := by first | rfl | (simp [entryFrame, mkF, argsToLocals, Value.category, maxLocals]; done)
  show Go p e below (End (fun v _ L => v = some (.int 1) ∧ Fr n0 L) s 40 448) (s₁.setTop (entryFrame m #[(.int p0), (.int p1)] maxLocals))
  rw [ef]
  show Go p e below _ (s₁.setTop (mkF m 0 #[.val (.int p0), .val (.int p1), .unset, .unset, .unset, .unset, .unset, .unset] []))
  show Go p e below _ (s₁.setTop (mkF m 0 #[.val (.int p0), .val (.int p1), .unset, .unset, .unset, .unset, .unset, .unset] []))
  refine Go.by (fun t => XS.iloadN X0.here hx rfl (hb hby at_0) rfl ) ?_
  show Go p e below _ (s₁.setTop (mkF m 1 #[.val (.int p0), .val (.int p1), .unset, .unset, .unset, .unset, .unset, .unset] [(.int p0)]))
  refine Go.by (fun t => X0.ldcInt hx hown (mvT hZ (hw _ (List.mem_of_getElem? (i := 0) rfl))) (g := (mkF m 1 #[.val (.int p0), .val (.int p1), .unset, .unset, .unset, .unset, .unset, .unset] [(.int p0)])) rfl (hb hby at_1) t) ?_
  show Go p e below _ (s₁.setTop (mkF m 3 #[.val (.int p0), .val (.int p1), .unset, .unset, .unset, .unset, .unset, .unset] [(.int (2147483647 : Int32)), (.int p0)]))
  obtain ⟨F, hF, eF⟩ := mask31 p0
  obtain ⟨A, hA, eA⟩ := mask7 p1
  show Go p e below _ (s₁.setTop (mkF m 3 #[.val (.int p0), .val (.int p1), .unset, .unset, .unset, .unset, .unset, .unset] [(.int (2147483647 : Int32)), (.int p0)]))
  refine Go.by (fun t => XS.iand X0.here hx rfl (hb hby at_3) rfl) ?_
  show Go p e below _ (s₁.setTop (mkF m 4 #[.val (.int p0), .val (.int p1), .unset, .unset, .unset, .unset, .unset, .unset] [(.int (p0 &&& (2147483647 : Int32)))]))
  rw [eF]
  show Go p e below _ (s₁.setTop (mkF m 4 #[.val (.int p0), .val (.int p1), .unset, .unset, .unset, .unset, .unset, .unset] [(.int (Int32.ofNat F))]))
  show Go p e below _ (s₁.setTop (mkF m 4 #[.val (.int p0), .val (.int p1), .unset, .unset, .unset, .unset, .unset, .unset] [(.int (Int32.ofNat F))]))
  refine Go.by (fun t => XS.istoreN X0.here hx rfl (hb hby at_4) rfl (l' := #[.val (.int p0), .val (.int p1), .val (.int (Int32.ofNat F)), .unset, .unset, .unset, .unset, .unset]) rfl) ?_
  show Go p e below _ (s₁.setTop (mkF m 5 #[.val (.int p0), .val (.int p1), .val (.int (Int32.ofNat F)), .unset, .unset, .unset, .unset, .unset] []))
  refine Go.by (fun t => XS.iloadN X0.here hx rfl (hb hby at_5) rfl ) ?_
  show Go p e below _ (s₁.setTop (mkF m 6 #[.val (.int p0), .val (.int p1), .val (.int (Int32.ofNat F)), .unset, .unset, .unset, .unset, .unset] [(.int p1)]))
  refine Go.by (fun t => XS.bipush X0.here hx rfl (hb hby at_6)) ?_
  show Go p e below _ (s₁.setTop (mkF m 8 #[.val (.int p0), .val (.int p1), .val (.int (Int32.ofNat F)), .unset, .unset, .unset, .unset, .unset] [(.int (7 : Int32)), (.int p1)]))
  refine Go.by (fun t => XS.iand X0.here hx rfl (hb hby at_8) rfl) ?_
  show Go p e below _ (s₁.setTop (mkF m 9 #[.val (.int p0), .val (.int p1), .val (.int (Int32.ofNat F)), .unset, .unset, .unset, .unset, .unset] [(.int (p1 &&& (7 : Int32)))]))
  rw [eA]
  show Go p e below _ (s₁.setTop (mkF m 9 #[.val (.int p0), .val (.int p1), .val (.int (Int32.ofNat F)), .unset, .unset, .unset, .unset, .unset] [(.int (Int32.ofNat A))]))
  show Go p e below _ (s₁.setTop (mkF m 9 #[.val (.int p0), .val (.int p1), .val (.int (Int32.ofNat F)), .unset, .unset, .unset, .unset, .unset] [(.int (Int32.ofNat A))]))
  refine Go.by (fun t => XS.istoreN X0.here hx rfl (hb hby at_9) rfl (l' := #[.val (.int p0), .val (.int p1), .val (.int (Int32.ofNat F)), .val (.int (Int32.ofNat A)), .unset, .unset, .unset, .unset]) rfl) ?_
  show Go p e below _ (s₁.setTop (mkF m 10 #[.val (.int p0), .val (.int p1), .val (.int (Int32.ofNat F)), .val (.int (Int32.ofNat A)), .unset, .unset, .unset, .unset] []))
  refine Go.by (fun t => XS.bipush X0.here hx rfl (hb hby at_10)) ?_
  show Go p e below _ (s₁.setTop (mkF m 12 #[.val (.int p0), .val (.int p1), .val (.int (Int32.ofNat F)), .val (.int (Int32.ofNat A)), .unset, .unset, .unset, .unset] [(.int (20 : Int32))]))
  obtain ⟨T119, h119, k119, X119, e119, E119, A119, st119⟩ := newP X0 hx hZ (hw _ (List.mem_of_getElem? (i := 1) rfl)) e0 (g := (mkF m 12 #[.val (.int p0), .val (.int p1), .val (.int (Int32.ofNat F)), .val (.int (Int32.ofNat A)), .unset, .unset, .unset, .unset] [(.int (20 : Int32))])) rfl (hb hby at_12) rfl (by decide) (cap := 20) (by decide) (by decide) (by decide) (by decide)
  obtain ⟨row, g119⟩ : ∃ z, z = h0.size := ⟨_, rfl⟩
  rw [← g119] at A119 st119
  refine Go.by (fun t => st119 t) ?_
  have g_row : n0 ≤ row := Nat.le_trans Z0 (Nat.le_of_eq g119.symm)
  replace Od := Od.ext E119
  replace Z0 := Nat.le_trans Z0 E119.1
  have V_row : Arv Z h119 row k119 .char (20 : Int32) [(.int (0 : Int32)), (.int (0 : Int32)), (.int (0 : Int32)), (.int (0 : Int32)), (.int (0 : Int32)), (.int (0 : Int32)), (.int (0 : Int32)), (.int (0 : Int32)), (.int (0 : Int32)), (.int (0 : Int32)), (.int (0 : Int32)), (.int (0 : Int32)), (.int (0 : Int32)), (.int (0 : Int32)), (.int (0 : Int32)), (.int (0 : Int32)), (.int (0 : Int32)), (.int (0 : Int32)), (.int (0 : Int32)), (.int (0 : Int32))] (.int (0 : Int32)) := (Arv.new A119 (by decide)).pad (pad_rep [] (.int (0 : Int32)) 20)
  show Go p e below _ (T119.setTop (mkF m 14 #[.val (.int p0), .val (.int p1), .val (.int (Int32.ofNat F)), .val (.int (Int32.ofNat A)), .unset, .unset, .unset, .unset] [(.ref row)]))
  show Go p e below _ (T119.setTop (mkF m 14 #[.val (.int p0), .val (.int p1), .val (.int (Int32.ofNat F)), .val (.int (Int32.ofNat A)), .unset, .unset, .unset, .unset] [(.ref row)]))
  refine Go.by (fun t => XS.astore X119.here hx rfl (hb hby at_14) rfl rfl (l' := #[.val (.int p0), .val (.int p1), .val (.int (Int32.ofNat F)), .val (.int (Int32.ofNat A)), .val (.ref row), .unset, .unset, .unset]) rfl) ?_
  show Go p e below _ (T119.setTop (mkF m 16 #[.val (.int p0), .val (.int p1), .val (.int (Int32.ofNat F)), .val (.int (Int32.ofNat A)), .val (.ref row), .unset, .unset, .unset] []))
  refine Go.by (fun t => XS.bipush X119.here hx rfl (hb hby at_16)) ?_
  show Go p e below _ (T119.setTop (mkF m 18 #[.val (.int p0), .val (.int p1), .val (.int (Int32.ofNat F)), .val (.int (Int32.ofNat A)), .val (.ref row), .unset, .unset, .unset] [(.int (20 : Int32))]))
  obtain ⟨T120, h120, k120, X120, e120, E120, A120, st120⟩ := newP X119 hx hZ (hw _ (List.mem_of_getElem? (i := 1) rfl)) e119 (g := (mkF m 18 #[.val (.int p0), .val (.int p1), .val (.int (Int32.ofNat F)), .val (.int (Int32.ofNat A)), .val (.ref row), .unset, .unset, .unset] [(.int (20 : Int32))])) rfl (hb hby at_18) rfl (by decide) (cap := 20) (by decide) (by decide) (by decide) (by decide)
  obtain ⟨exp, g120⟩ : ∃ z, z = h119.size := ⟨_, rfl⟩
  rw [← g120] at A120 st120
  refine Go.by (fun t => st120 t) ?_
  have g_exp : n0 ≤ exp := Nat.le_trans Z0 (Nat.le_of_eq g120.symm)
  have ne_row_exp : row ≠ exp := Nat.ne_of_lt (Nat.lt_of_lt_of_le V_row.lt (Nat.le_of_eq g120.symm))
  replace Od := Od.ext E120
  replace V_row := V_row.ext E120
  replace Z0 := Nat.le_trans Z0 E120.1
  have V_exp : Arv Z h120 exp k120 .char (20 : Int32) [(.int (0 : Int32)), (.int (0 : Int32)), (.int (0 : Int32)), (.int (0 : Int32)), (.int (0 : Int32)), (.int (0 : Int32)), (.int (0 : Int32)), (.int (0 : Int32)), (.int (0 : Int32)), (.int (0 : Int32)), (.int (0 : Int32)), (.int (0 : Int32)), (.int (0 : Int32)), (.int (0 : Int32)), (.int (0 : Int32)), (.int (0 : Int32)), (.int (0 : Int32)), (.int (0 : Int32)), (.int (0 : Int32)), (.int (0 : Int32))] (.int (0 : Int32)) := (Arv.new A120 (by decide)).pad (pad_rep [] (.int (0 : Int32)) 20)
  show Go p e below _ (T120.setTop (mkF m 20 #[.val (.int p0), .val (.int p1), .val (.int (Int32.ofNat F)), .val (.int (Int32.ofNat A)), .val (.ref row), .unset, .unset, .unset] [(.ref exp)]))
  show Go p e below _ (T120.setTop (mkF m 20 #[.val (.int p0), .val (.int p1), .val (.int (Int32.ofNat F)), .val (.int (Int32.ofNat A)), .val (.ref row), .unset, .unset, .unset] [(.ref exp)]))
  refine Go.by (fun t => XS.astore X120.here hx rfl (hb hby at_20) rfl rfl (l' := #[.val (.int p0), .val (.int p1), .val (.int (Int32.ofNat F)), .val (.int (Int32.ofNat A)), .val (.ref row), .val (.ref exp), .unset, .unset]) rfl) ?_
  show Go p e below _ (T120.setTop (mkF m 22 #[.val (.int p0), .val (.int p1), .val (.int (Int32.ofNat F)), .val (.int (Int32.ofNat A)), .val (.ref row), .val (.ref exp), .unset, .unset] []))
  refine Go.by (fun t => XS.iloadN X120.here hx rfl (hb hby at_22) rfl ) ?_
  show Go p e below _ (T120.setTop (mkF m 23 #[.val (.int p0), .val (.int p1), .val (.int (Int32.ofNat F)), .val (.int (Int32.ofNat A)), .val (.ref row), .val (.ref exp), .unset, .unset] [(.int (Int32.ofNat F))]))
  obtain ⟨_, _, ⟨T121, L121, k121, n121⟩, -, X121, ⟨Lc121, hQ121, l121, y121, z121⟩, st121⟩ := Jvm.LawKit.callS X120 hx (y := (⟨"com/example/oneiros/oneiros/cli/FrameTimeWriteSecondsPinLaw", "digits", "(I)I"⟩ : MethodName)) hown (mvT hZ (hw _ (List.mem_of_getElem? (i := 2) rfl))) (mvT hZ (hw _ (List.mem_of_getElem? (i := 3) rfl))) (mvT hZ (hw _ (List.mem_of_getElem? (i := 4) rfl))) (mvT hZ (hw _ (List.mem_of_getElem? (i := 5) rfl))) (by decide) (backOf (W := 0) (rm1 l Z a0 hw [] (Int32.ofNat F) h120 n0) hZ (hw _ (List.mem_of_getElem? (i := 5) rfl)) (hw _ (List.mem_of_getElem? (i := 4) rfl)) (by decide) (by decide)) (g := (mkF m 23 #[.val (.int p0), .val (.int p1), .val (.int (Int32.ofNat F)), .val (.int (Int32.ofNat A)), .val (.ref row), .val (.ref exp), .unset, .unset] [(.int (Int32.ofNat F))])) rfl (by rw [hml]; rfl) (argsL := [(.int (Int32.ofNat F))]) (rest := []) (lenOf pd_0 rfl) rfl (by show 2 * 0 + _ ≤ _; exact Nat.le_of_eq rfl) (hb hby at_23) (fun _ _ => ⟨rfl, e120, (by decide : 2 + 0 ≤ _), (by decide : 40 + 0 ≤ _)⟩)
  dsimp only [Pt.U, Pt.locs, Pt.cells, Pt.slots] at X121 l121 y121 z121 st121 hQ121
  subst l121 y121 z121
  obtain ⟨rfl, Nq121, e121⟩ := hQ121
  have N121 := Fr.app N0 Nq121
  refine Go.by (fun t => st121 t) ?_
  show Go p e below _ (T121.setTop (mkF m 26 #[.val (.int p0), .val (.int p1), .val (.int (Int32.ofNat F)), .val (.int (Int32.ofNat A)), .val (.ref row), .val (.ref exp), .unset, .unset] [(.int (digI (Int32.ofNat F)))]))
  rw [dig_nat hF]
  show Go p e below _ (T121.setTop (mkF m 26 #[.val (.int p0), .val (.int p1), .val (.int (Int32.ofNat F)), .val (.int (Int32.ofNat A)), .val (.ref row), .val (.ref exp), .unset, .unset] [(.int (Int32.ofNat (dig F)))]))
  show Go p e below _ (T121.setTop (mkF m 26 #[.val (.int p0), .val (.int p1), .val (.int (Int32.ofNat F)), .val (.int (Int32.ofNat A)), .val (.ref row), .val (.ref exp), .unset, .unset] [(.int (Int32.ofNat (dig F)))]))
  refine Go.by (fun t => XS.iconst X121.here hx rfl (hb hby at_26)) ?_
  show Go p e below _ (T121.setTop (mkF m 27 #[.val (.int p0), .val (.int p1), .val (.int (Int32.ofNat F)), .val (.int (Int32.ofNat A)), .val (.ref row), .val (.ref exp), .unset, .unset] [(.int (2 : Int32)), (.int (Int32.ofNat (dig F)))]))
  obtain ⟨_, _, ⟨T122, L122, k122, n122⟩, -, X122, ⟨Lc122, hQ122, l122, y122, z122⟩, st122⟩ := Jvm.LawKit.callS X121 hx (y := (⟨"java/lang/Math", "max", "(II)I"⟩ : MethodName)) hown (mvT hZ (hw _ (List.mem_of_getElem? (i := 6) rfl))) (mvT hZ (hw _ (List.mem_of_getElem? (i := 7) rfl))) (mvT hZ (hw _ (List.mem_of_getElem? (i := 8) rfl))) (mvT hZ (hw _ (List.mem_of_getElem? (i := 9) rfl))) (by decide) (backOf (W := 0) (rm2 l Z a0 hw [] (Int32.ofNat (dig F)) 2 h120 n0) hZ (hw _ (List.mem_of_getElem? (i := 9) rfl)) (hw _ (List.mem_of_getElem? (i := 8) rfl)) (by decide) (by decide)) (g := (mkF m 27 #[.val (.int p0), .val (.int p1), .val (.int (Int32.ofNat F)), .val (.int (Int32.ofNat A)), .val (.ref row), .val (.ref exp), .unset, .unset] [(.int (2 : Int32)), (.int (Int32.ofNat (dig F)))])) rfl (by rw [hml]; rfl) (argsL := [(.int (Int32.ofNat (dig F))), (.int (2 : Int32))]) (rest := []) (lenOf pd_1 rfl) rfl (by show 2 * 0 + _ ≤ _; exact Nat.le_of_eq rfl) (hb hby at_27) (fun _ _ => ⟨rfl, e121, (by decide : 2 + 0 ≤ _), (by decide : 40 + 0 ≤ _)⟩)
  dsimp only [Pt.U, Pt.locs, Pt.cells, Pt.slots] at X122 l122 y122 z122 st122 hQ122
  subst l122 y122 z122
  obtain ⟨rfl, Nq122, e122⟩ := hQ122
  have N122 := Fr.app N121 Nq122
  refine Go.by (fun t => st122 t) ?_
  show Go p e below _ (T122.setTop (mkF m 30 #[.val (.int p0), .val (.int p1), .val (.int (Int32.ofNat F)), .val (.int (Int32.ofNat A)), .val (.ref row), .val (.ref exp), .unset, .unset] [(.int (if Int32.ofNat (dig F) < 2 then 2 else Int32.ofNat (dig F)))]))
  rw [max_nat (dig_b F).2]
  show Go p e below _ (T122.setTop (mkF m 30 #[.val (.int p0), .val (.int p1), .val (.int (Int32.ofNat F)), .val (.int (Int32.ofNat A)), .val (.ref row), .val (.ref exp), .unset, .unset] [(.int (Int32.ofNat (max (dig F) 2)))]))
  obtain ⟨Ln, hLn⟩ : ∃ Ln, Ln = 2 + nd (F / 10 / 10) + 1 := ⟨_, rfl⟩
  have hmx : Ln = max (dig F) 2 + 1 := by rw [hLn, nd_dig hF]
  have hdb := dig_b F
  have hL : 3 ≤ Ln := by omega
  have hL' : Ln ≤ 11 := by omega
  show Go p e below _ (T122.setTop (mkF m 30 #[.val (.int p0), .val (.int p1), .val (.int (Int32.ofNat F)), .val (.int (Int32.ofNat A)), .val (.ref row), .val (.ref exp), .unset, .unset] [(.int (Int32.ofNat (max (dig F) 2)))]))
  refine Go.by (fun t => XS.iconst X122.here hx rfl (hb hby at_30)) ?_
  show Go p e below _ (T122.setTop (mkF m 31 #[.val (.int p0), .val (.int p1), .val (.int (Int32.ofNat F)), .val (.int (Int32.ofNat A)), .val (.ref row), .val (.ref exp), .unset, .unset] [(.int (1 : Int32)), (.int (Int32.ofNat (max (dig F) 2)))]))
  refine Go.by (fun t => XS.iadd X122.here hx rfl (hb hby at_31) rfl) ?_
  show Go p e below _ (T122.setTop (mkF m 32 #[.val (.int p0), .val (.int p1), .val (.int (Int32.ofNat F)), .val (.int (Int32.ofNat A)), .val (.ref row), .val (.ref exp), .unset, .unset] [(.int ((Int32.ofNat (max (dig F) 2)) + (1 : Int32)))]))
  rw [show Int32.ofNat (max (dig F) 2) + (1 : Int32) = Int32.ofNat Ln by rw [hmx]; exact add32n _ 1]
  show Go p e below _ (T122.setTop (mkF m 32 #[.val (.int p0), .val (.int p1), .val (.int (Int32.ofNat F)), .val (.int (Int32.ofNat A)), .val (.ref row), .val (.ref exp), .unset, .unset] [(.int (Int32.ofNat Ln))]))
  replace V_exp : Arv Z h120 exp k120 .char (20 : Int32) ((ascL A F Ln 0).map Value.int) (.int (0 : Int32)) := by rw [asc_0]; exact V_exp
  replace V_row : Arv Z h120 row k119 .char (20 : Int32) ((desL A F Ln Ln).map Value.int) (.int (0 : Int32)) := by rw [des_0]; exact V_row
  show Go p e below _ (T122.setTop (mkF m 32 #[.val (.int p0), .val (.int p1), .val (.int (Int32.ofNat F)), .val (.int (Int32.ofNat A)), .val (.ref row), .val (.ref exp), .unset, .unset] [(.int (Int32.ofNat Ln))]))
  refine Go.by (fun t => XS.istore X122.here hx rfl (hb hby at_32) rfl (l' := #[.val (.int p0), .val (.int p1), .val (.int (Int32.ofNat F)), .val (.int (Int32.ofNat A)), .val (.ref row), .val (.ref exp), .val (.int (Int32.ofNat Ln)), .unset]) rfl) ?_
  show Go p e below _ (T122.setTop (mkF m 34 #[.val (.int p0), .val (.int p1), .val (.int (Int32.ofNat F)), .val (.int (Int32.ofNat A)), .val (.ref row), .val (.ref exp), .val (.int (Int32.ofNat Ln)), .unset] []))
  refine Go.by (fun t => XS.aload X122.here hx rfl (hb hby at_34) rfl rfl) ?_
  show Go p e below _ (T122.setTop (mkF m 36 #[.val (.int p0), .val (.int p1), .val (.int (Int32.ofNat F)), .val (.int (Int32.ofNat A)), .val (.ref row), .val (.ref exp), .val (.int (Int32.ofNat Ln)), .unset] [(.ref exp)]))
  refine Go.by (fun t => XS.iloadN X122.here hx rfl (hb hby at_36) rfl ) ?_
  show Go p e below _ (T122.setTop (mkF m 37 #[.val (.int p0), .val (.int p1), .val (.int (Int32.ofNat F)), .val (.int (Int32.ofNat A)), .val (.ref row), .val (.ref exp), .val (.int (Int32.ofNat Ln)), .unset] [(.int (Int32.ofNat A)), (.ref exp)]))
  refine Go.by (fun t => XS.iloadN X122.here hx rfl (hb hby at_37) rfl ) ?_
  show Go p e below _ (T122.setTop (mkF m 38 #[.val (.int p0), .val (.int p1), .val (.int (Int32.ofNat F)), .val (.int (Int32.ofNat A)), .val (.ref row), .val (.ref exp), .val (.int (Int32.ofNat Ln)), .unset] [(.int (Int32.ofNat F)), (.int (Int32.ofNat A)), (.ref exp)]))
  refine Go.by (fun t => XS.iload X122.here hx rfl (hb hby at_38) rfl ) ?_
  show Go p e below _ (T122.setTop (mkF m 40 #[.val (.int p0), .val (.int p1), .val (.int (Int32.ofNat F)), .val (.int (Int32.ofNat A)), .val (.ref row), .val (.ref exp), .val (.int (Int32.ofNat Ln)), .unset] [(.int (Int32.ofNat Ln)), (.int (Int32.ofNat F)), (.int (Int32.ofNat A)), (.ref exp)]))
  refine Go.by (fun t => XS.iconst X122.here hx rfl (hb hby at_40)) ?_
  show Go p e below _ (T122.setTop (mkF m 41 #[.val (.int p0), .val (.int p1), .val (.int (Int32.ofNat F)), .val (.int (Int32.ofNat A)), .val (.ref row), .val (.ref exp), .val (.int (Int32.ofNat Ln)), .unset] [(.int (0 : Int32)), (.int (Int32.ofNat Ln)), (.int (Int32.ofNat F)), (.int (Int32.ofNat A)), (.ref exp)]))
  obtain ⟨_, _, ⟨T123, L123, k123, n123⟩, -, X123, ⟨Lc123, hQ123, l123, y123, z123⟩, st123⟩ := Jvm.LawKit.callS X122 hx (y := (⟨"com/example/oneiros/oneiros/cli/FrameTimeWriteSecondsPinLaw", "put", "([CIIII)V"⟩ : MethodName)) hown (mvT hZ (hw _ (List.mem_of_getElem? (i := 10) rfl))) (mvT hZ (hw _ (List.mem_of_getElem? (i := 11) rfl))) (mvT hZ (hw _ (List.mem_of_getElem? (i := 4) rfl))) (mvT hZ (hw _ (List.mem_of_getElem? (i := 12) rfl))) (by decide) (backOf (W := 0) (rm3 l Z a0 hw [] exp _ A F Ln 0 h120 n0 hA hF hL hL' (by decide) Z0 g_exp V_exp) hZ (hw _ (List.mem_of_getElem? (i := 12) rfl)) (hw _ (List.mem_of_getElem? (i := 4) rfl)) (by decide) (by decide)) (g := (mkF m 41 #[.val (.int p0), .val (.int p1), .val (.int (Int32.ofNat F)), .val (.int (Int32.ofNat A)), .val (.ref row), .val (.ref exp), .val (.int (Int32.ofNat Ln)), .unset] [(.int (0 : Int32)), (.int (Int32.ofNat Ln)), (.int (Int32.ofNat F)), (.int (Int32.ofNat A)), (.ref exp)])) rfl (by rw [hml]; rfl) (argsL := [(.ref exp), (.int (Int32.ofNat A)), (.int (Int32.ofNat F)), (.int (Int32.ofNat Ln)), (.int (0 : Int32))]) (rest := []) (lenOf pd_2 rfl) rfl (by show 2 * 0 + _ ≤ _; exact Nat.le_of_eq rfl) (hb hby at_41) (fun _ _ => ⟨rfl, e122, (by decide : 2 + 1 ≤ _), (by decide : 40 + 10 ≤ _)⟩)
  dsimp only [Pt.U, Pt.locs, Pt.cells, Pt.slots] at X123 l123 y123 z123 st123 hQ123
  subst l123 y123 z123
  obtain ⟨rfl, Nq123, K123, V_expn⟩ := hQ123
  have N123 := Fr.app N122 Nq123
  refine Go.by (fun t => st123 t) ?_
  replace Od := Od.keep K123 (allS g_exp all0)
  replace V_row := V_row.keep K123 (ninS ne_row_exp nin0)
  replace Z0 := Nat.le_trans Z0 K123.1
  show Go p e below _ (T123.setTop (mkF m 44 #[.val (.int p0), .val (.int p1), .val (.int (Int32.ofNat F)), .val (.int (Int32.ofNat A)), .val (.ref row), .val (.ref exp), .val (.int (Int32.ofNat Ln)), .unset] []))
  clear V_exp
  have V_exp := V_expn
  clear V_expn
  show Go p e below _ (T123.setTop (mkF m 44 #[.val (.int p0), .val (.int p1), .val (.int (Int32.ofNat F)), .val (.int (Int32.ofNat A)), .val (.ref row), .val (.ref exp), .val (.int (Int32.ofNat Ln)), .unset] []))
  refine Go.by (fun t => XS.aload X123.here hx rfl (hb hby at_44) rfl rfl) ?_
  show Go p e below _ (T123.setTop (mkF m 46 #[.val (.int p0), .val (.int p1), .val (.int (Int32.ofNat F)), .val (.int (Int32.ofNat A)), .val (.ref row), .val (.ref exp), .val (.int (Int32.ofNat Ln)), .unset] [(.ref exp)]))
  refine Go.by (fun t => XS.iloadN X123.here hx rfl (hb hby at_46) rfl ) ?_
  show Go p e below _ (T123.setTop (mkF m 47 #[.val (.int p0), .val (.int p1), .val (.int (Int32.ofNat F)), .val (.int (Int32.ofNat A)), .val (.ref row), .val (.ref exp), .val (.int (Int32.ofNat Ln)), .unset] [(.int (Int32.ofNat A)), (.ref exp)]))
  refine Go.by (fun t => XS.iloadN X123.here hx rfl (hb hby at_47) rfl ) ?_
  show Go p e below _ (T123.setTop (mkF m 48 #[.val (.int p0), .val (.int p1), .val (.int (Int32.ofNat F)), .val (.int (Int32.ofNat A)), .val (.ref row), .val (.ref exp), .val (.int (Int32.ofNat Ln)), .unset] [(.int (Int32.ofNat F)), (.int (Int32.ofNat A)), (.ref exp)]))
  refine Go.by (fun t => XS.iload X123.here hx rfl (hb hby at_48) rfl ) ?_
  show Go p e below _ (T123.setTop (mkF m 50 #[.val (.int p0), .val (.int p1), .val (.int (Int32.ofNat F)), .val (.int (Int32.ofNat A)), .val (.ref row), .val (.ref exp), .val (.int (Int32.ofNat Ln)), .unset] [(.int (Int32.ofNat Ln)), (.int (Int32.ofNat F)), (.int (Int32.ofNat A)), (.ref exp)]))
  refine Go.by (fun t => XS.iconst X123.here hx rfl (hb hby at_50)) ?_
  show Go p e below _ (T123.setTop (mkF m 51 #[.val (.int p0), .val (.int p1), .val (.int (Int32.ofNat F)), .val (.int (Int32.ofNat A)), .val (.ref row), .val (.ref exp), .val (.int (Int32.ofNat Ln)), .unset] [(.int (1 : Int32)), (.int (Int32.ofNat Ln)), (.int (Int32.ofNat F)), (.int (Int32.ofNat A)), (.ref exp)]))
  obtain ⟨_, _, ⟨T124, L124, k124, n124⟩, -, X124, ⟨Lc124, hQ124, l124, y124, z124⟩, st124⟩ := Jvm.LawKit.callS X123 hx (y := (⟨"com/example/oneiros/oneiros/cli/FrameTimeWriteSecondsPinLaw", "put", "([CIIII)V"⟩ : MethodName)) hown (mvT hZ (hw _ (List.mem_of_getElem? (i := 10) rfl))) (mvT hZ (hw _ (List.mem_of_getElem? (i := 11) rfl))) (mvT hZ (hw _ (List.mem_of_getElem? (i := 4) rfl))) (mvT hZ (hw _ (List.mem_of_getElem? (i := 12) rfl))) (by decide) (backOf (W := 0) (rm3 l Z a0 hw [] exp _ A F Ln 1 T123.heap n0 hA hF hL hL' (by decide) Z0 g_exp V_exp) hZ (hw _ (List.mem_of_getElem? (i := 12) rfl)) (hw _ (List.mem_of_getElem? (i := 4) rfl)) (by decide) (by decide)) (g := (mkF m 51 #[.val (.int p0), .val (.int p1), .val (.int (Int32.ofNat F)), .val (.int (Int32.ofNat A)), .val (.ref row), .val (.ref exp), .val (.int (Int32.ofNat Ln)), .unset] [(.int (1 : Int32)), (.int (Int32.ofNat Ln)), (.int (Int32.ofNat F)), (.int (Int32.ofNat A)), (.ref exp)])) rfl (by rw [hml]; rfl) (argsL := [(.ref exp), (.int (Int32.ofNat A)), (.int (Int32.ofNat F)), (.int (Int32.ofNat Ln)), (.int (1 : Int32))]) (rest := []) (lenOf pd_2 rfl) rfl (by show 2 * 0 + _ ≤ _; exact Nat.le_of_eq rfl) (hb hby at_51) (fun _ _ => ⟨rfl, rfl, (by decide : 3 + 1 ≤ _), (by decide : 50 + 10 ≤ _)⟩)
  dsimp only [Pt.U, Pt.locs, Pt.cells, Pt.slots] at X124 l124 y124 z124 st124 hQ124
  subst l124 y124 z124
  obtain ⟨rfl, Nq124, K124, V_expn⟩ := hQ124
  have N124 := Fr.app N123 Nq124
  refine Go.by (fun t => st124 t) ?_
  replace Od := Od.keep K124 (allS g_exp all0)
  replace V_row := V_row.keep K124 (ninS ne_row_exp nin0)
  replace Z0 := Nat.le_trans Z0 K124.1
  show Go p e below _ (T124.setTop (mkF m 54 #[.val (.int p0), .val (.int p1), .val (.int (Int32.ofNat F)), .val (.int (Int32.ofNat A)), .val (.ref row), .val (.ref exp), .val (.int (Int32.ofNat Ln)), .unset] []))
  clear V_exp
  have V_exp := V_expn
  clear V_expn
  show Go p e below _ (T124.setTop (mkF m 54 #[.val (.int p0), .val (.int p1), .val (.int (Int32.ofNat F)), .val (.int (Int32.ofNat A)), .val (.ref row), .val (.ref exp), .val (.int (Int32.ofNat Ln)), .unset] []))
  refine Go.by (fun t => XS.aload X124.here hx rfl (hb hby at_54) rfl rfl) ?_
  show Go p e below _ (T124.setTop (mkF m 56 #[.val (.int p0), .val (.int p1), .val (.int (Int32.ofNat F)), .val (.int (Int32.ofNat A)), .val (.ref row), .val (.ref exp), .val (.int (Int32.ofNat Ln)), .unset] [(.ref exp)]))
  refine Go.by (fun t => XS.iloadN X124.here hx rfl (hb hby at_56) rfl ) ?_
  show Go p e below _ (T124.setTop (mkF m 57 #[.val (.int p0), .val (.int p1), .val (.int (Int32.ofNat F)), .val (.int (Int32.ofNat A)), .val (.ref row), .val (.ref exp), .val (.int (Int32.ofNat Ln)), .unset] [(.int (Int32.ofNat A)), (.ref exp)]))
  refine Go.by (fun t => XS.iloadN X124.here hx rfl (hb hby at_57) rfl ) ?_
  show Go p e below _ (T124.setTop (mkF m 58 #[.val (.int p0), .val (.int p1), .val (.int (Int32.ofNat F)), .val (.int (Int32.ofNat A)), .val (.ref row), .val (.ref exp), .val (.int (Int32.ofNat Ln)), .unset] [(.int (Int32.ofNat F)), (.int (Int32.ofNat A)), (.ref exp)]))
  refine Go.by (fun t => XS.iload X124.here hx rfl (hb hby at_58) rfl ) ?_
  show Go p e below _ (T124.setTop (mkF m 60 #[.val (.int p0), .val (.int p1), .val (.int (Int32.ofNat F)), .val (.int (Int32.ofNat A)), .val (.ref row), .val (.ref exp), .val (.int (Int32.ofNat Ln)), .unset] [(.int (Int32.ofNat Ln)), (.int (Int32.ofNat F)), (.int (Int32.ofNat A)), (.ref exp)]))
  refine Go.by (fun t => XS.iconst X124.here hx rfl (hb hby at_60)) ?_
  show Go p e below _ (T124.setTop (mkF m 61 #[.val (.int p0), .val (.int p1), .val (.int (Int32.ofNat F)), .val (.int (Int32.ofNat A)), .val (.ref row), .val (.ref exp), .val (.int (Int32.ofNat Ln)), .unset] [(.int (2 : Int32)), (.int (Int32.ofNat Ln)), (.int (Int32.ofNat F)), (.int (Int32.ofNat A)), (.ref exp)]))
  obtain ⟨_, _, ⟨T125, L125, k125, n125⟩, -, X125, ⟨Lc125, hQ125, l125, y125, z125⟩, st125⟩ := Jvm.LawKit.callS X124 hx (y := (⟨"com/example/oneiros/oneiros/cli/FrameTimeWriteSecondsPinLaw", "put", "([CIIII)V"⟩ : MethodName)) hown (mvT hZ (hw _ (List.mem_of_getElem? (i := 10) rfl))) (mvT hZ (hw _ (List.mem_of_getElem? (i := 11) rfl))) (mvT hZ (hw _ (List.mem_of_getElem? (i := 4) rfl))) (mvT hZ (hw _ (List.mem_of_getElem? (i := 12) rfl))) (by decide) (backOf (W := 0) (rm3 l Z a0 hw [] exp _ A F Ln 2 T124.heap n0 hA hF hL hL' (by decide) Z0 g_exp V_exp) hZ (hw _ (List.mem_of_getElem? (i := 12) rfl)) (hw _ (List.mem_of_getElem? (i := 4) rfl)) (by decide) (by decide)) (g := (mkF m 61 #[.val (.int p0), .val (.int p1), .val (.int (Int32.ofNat F)), .val (.int (Int32.ofNat A)), .val (.ref row), .val (.ref exp), .val (.int (Int32.ofNat Ln)), .unset] [(.int (2 : Int32)), (.int (Int32.ofNat Ln)), (.int (Int32.ofNat F)), (.int (Int32.ofNat A)), (.ref exp)])) rfl (by rw [hml]; rfl) (argsL := [(.ref exp), (.int (Int32.ofNat A)), (.int (Int32.ofNat F)), (.int (Int32.ofNat Ln)), (.int (2 : Int32))]) (rest := []) (lenOf pd_2 rfl) rfl (by show 2 * 0 + _ ≤ _; exact Nat.le_of_eq rfl) (hb hby at_61) (fun _ _ => ⟨rfl, rfl, (by decide : 4 + 1 ≤ _), (by decide : 60 + 10 ≤ _)⟩)
  dsimp only [Pt.U, Pt.locs, Pt.cells, Pt.slots] at X125 l125 y125 z125 st125 hQ125
  subst l125 y125 z125
  obtain ⟨rfl, Nq125, K125, V_expn⟩ := hQ125
  have N125 := Fr.app N124 Nq125
  refine Go.by (fun t => st125 t) ?_
  replace Od := Od.keep K125 (allS g_exp all0)
  replace V_row := V_row.keep K125 (ninS ne_row_exp nin0)
  replace Z0 := Nat.le_trans Z0 K125.1
  show Go p e below _ (T125.setTop (mkF m 64 #[.val (.int p0), .val (.int p1), .val (.int (Int32.ofNat F)), .val (.int (Int32.ofNat A)), .val (.ref row), .val (.ref exp), .val (.int (Int32.ofNat Ln)), .unset] []))
  clear V_exp
  have V_exp := V_expn
  clear V_expn
  show Go p e below _ (T125.setTop (mkF m 64 #[.val (.int p0), .val (.int p1), .val (.int (Int32.ofNat F)), .val (.int (Int32.ofNat A)), .val (.ref row), .val (.ref exp), .val (.int (Int32.ofNat Ln)), .unset] []))
  refine Go.by (fun t => XS.aload X125.here hx rfl (hb hby at_64) rfl rfl) ?_
  show Go p e below _ (T125.setTop (mkF m 66 #[.val (.int p0), .val (.int p1), .val (.int (Int32.ofNat F)), .val (.int (Int32.ofNat A)), .val (.ref row), .val (.ref exp), .val (.int (Int32.ofNat Ln)), .unset] [(.ref exp)]))
  refine Go.by (fun t => XS.iloadN X125.here hx rfl (hb hby at_66) rfl ) ?_
  show Go p e below _ (T125.setTop (mkF m 67 #[.val (.int p0), .val (.int p1), .val (.int (Int32.ofNat F)), .val (.int (Int32.ofNat A)), .val (.ref row), .val (.ref exp), .val (.int (Int32.ofNat Ln)), .unset] [(.int (Int32.ofNat A)), (.ref exp)]))
  refine Go.by (fun t => XS.iloadN X125.here hx rfl (hb hby at_67) rfl ) ?_
  show Go p e below _ (T125.setTop (mkF m 68 #[.val (.int p0), .val (.int p1), .val (.int (Int32.ofNat F)), .val (.int (Int32.ofNat A)), .val (.ref row), .val (.ref exp), .val (.int (Int32.ofNat Ln)), .unset] [(.int (Int32.ofNat F)), (.int (Int32.ofNat A)), (.ref exp)]))
  refine Go.by (fun t => XS.iload X125.here hx rfl (hb hby at_68) rfl ) ?_
  show Go p e below _ (T125.setTop (mkF m 70 #[.val (.int p0), .val (.int p1), .val (.int (Int32.ofNat F)), .val (.int (Int32.ofNat A)), .val (.ref row), .val (.ref exp), .val (.int (Int32.ofNat Ln)), .unset] [(.int (Int32.ofNat Ln)), (.int (Int32.ofNat F)), (.int (Int32.ofNat A)), (.ref exp)]))
  refine Go.by (fun t => XS.iconst X125.here hx rfl (hb hby at_70)) ?_
  show Go p e below _ (T125.setTop (mkF m 71 #[.val (.int p0), .val (.int p1), .val (.int (Int32.ofNat F)), .val (.int (Int32.ofNat A)), .val (.ref row), .val (.ref exp), .val (.int (Int32.ofNat Ln)), .unset] [(.int (3 : Int32)), (.int (Int32.ofNat Ln)), (.int (Int32.ofNat F)), (.int (Int32.ofNat A)), (.ref exp)]))
  obtain ⟨_, _, ⟨T126, L126, k126, n126⟩, -, X126, ⟨Lc126, hQ126, l126, y126, z126⟩, st126⟩ := Jvm.LawKit.callS X125 hx (y := (⟨"com/example/oneiros/oneiros/cli/FrameTimeWriteSecondsPinLaw", "put", "([CIIII)V"⟩ : MethodName)) hown (mvT hZ (hw _ (List.mem_of_getElem? (i := 10) rfl))) (mvT hZ (hw _ (List.mem_of_getElem? (i := 11) rfl))) (mvT hZ (hw _ (List.mem_of_getElem? (i := 4) rfl))) (mvT hZ (hw _ (List.mem_of_getElem? (i := 12) rfl))) (by decide) (backOf (W := 0) (rm3 l Z a0 hw [] exp _ A F Ln 3 T125.heap n0 hA hF hL hL' (by decide) Z0 g_exp V_exp) hZ (hw _ (List.mem_of_getElem? (i := 12) rfl)) (hw _ (List.mem_of_getElem? (i := 4) rfl)) (by decide) (by decide)) (g := (mkF m 71 #[.val (.int p0), .val (.int p1), .val (.int (Int32.ofNat F)), .val (.int (Int32.ofNat A)), .val (.ref row), .val (.ref exp), .val (.int (Int32.ofNat Ln)), .unset] [(.int (3 : Int32)), (.int (Int32.ofNat Ln)), (.int (Int32.ofNat F)), (.int (Int32.ofNat A)), (.ref exp)])) rfl (by rw [hml]; rfl) (argsL := [(.ref exp), (.int (Int32.ofNat A)), (.int (Int32.ofNat F)), (.int (Int32.ofNat Ln)), (.int (3 : Int32))]) (rest := []) (lenOf pd_2 rfl) rfl (by show 2 * 0 + _ ≤ _; exact Nat.le_of_eq rfl) (hb hby at_71) (fun _ _ => ⟨rfl, rfl, (by decide : 5 + 1 ≤ _), (by decide : 70 + 10 ≤ _)⟩)
  dsimp only [Pt.U, Pt.locs, Pt.cells, Pt.slots] at X126 l126 y126 z126 st126 hQ126
  subst l126 y126 z126
  obtain ⟨rfl, Nq126, K126, V_expn⟩ := hQ126
  have N126 := Fr.app N125 Nq126
  refine Go.by (fun t => st126 t) ?_
  replace Od := Od.keep K126 (allS g_exp all0)
  replace V_row := V_row.keep K126 (ninS ne_row_exp nin0)
  replace Z0 := Nat.le_trans Z0 K126.1
  show Go p e below _ (T126.setTop (mkF m 74 #[.val (.int p0), .val (.int p1), .val (.int (Int32.ofNat F)), .val (.int (Int32.ofNat A)), .val (.ref row), .val (.ref exp), .val (.int (Int32.ofNat Ln)), .unset] []))
  clear V_exp
  have V_exp := V_expn
  clear V_expn
  show Go p e below _ (T126.setTop (mkF m 74 #[.val (.int p0), .val (.int p1), .val (.int (Int32.ofNat F)), .val (.int (Int32.ofNat A)), .val (.ref row), .val (.ref exp), .val (.int (Int32.ofNat Ln)), .unset] []))
  refine Go.by (fun t => XS.aload X126.here hx rfl (hb hby at_74) rfl rfl) ?_
  show Go p e below _ (T126.setTop (mkF m 76 #[.val (.int p0), .val (.int p1), .val (.int (Int32.ofNat F)), .val (.int (Int32.ofNat A)), .val (.ref row), .val (.ref exp), .val (.int (Int32.ofNat Ln)), .unset] [(.ref exp)]))
  refine Go.by (fun t => XS.iloadN X126.here hx rfl (hb hby at_76) rfl ) ?_
  show Go p e below _ (T126.setTop (mkF m 77 #[.val (.int p0), .val (.int p1), .val (.int (Int32.ofNat F)), .val (.int (Int32.ofNat A)), .val (.ref row), .val (.ref exp), .val (.int (Int32.ofNat Ln)), .unset] [(.int (Int32.ofNat A)), (.ref exp)]))
  refine Go.by (fun t => XS.iloadN X126.here hx rfl (hb hby at_77) rfl ) ?_
  show Go p e below _ (T126.setTop (mkF m 78 #[.val (.int p0), .val (.int p1), .val (.int (Int32.ofNat F)), .val (.int (Int32.ofNat A)), .val (.ref row), .val (.ref exp), .val (.int (Int32.ofNat Ln)), .unset] [(.int (Int32.ofNat F)), (.int (Int32.ofNat A)), (.ref exp)]))
  refine Go.by (fun t => XS.iload X126.here hx rfl (hb hby at_78) rfl ) ?_
  show Go p e below _ (T126.setTop (mkF m 80 #[.val (.int p0), .val (.int p1), .val (.int (Int32.ofNat F)), .val (.int (Int32.ofNat A)), .val (.ref row), .val (.ref exp), .val (.int (Int32.ofNat Ln)), .unset] [(.int (Int32.ofNat Ln)), (.int (Int32.ofNat F)), (.int (Int32.ofNat A)), (.ref exp)]))
  refine Go.by (fun t => XS.iconst X126.here hx rfl (hb hby at_80)) ?_
  show Go p e below _ (T126.setTop (mkF m 81 #[.val (.int p0), .val (.int p1), .val (.int (Int32.ofNat F)), .val (.int (Int32.ofNat A)), .val (.ref row), .val (.ref exp), .val (.int (Int32.ofNat Ln)), .unset] [(.int (4 : Int32)), (.int (Int32.ofNat Ln)), (.int (Int32.ofNat F)), (.int (Int32.ofNat A)), (.ref exp)]))
  obtain ⟨_, _, ⟨T127, L127, k127, n127⟩, -, X127, ⟨Lc127, hQ127, l127, y127, z127⟩, st127⟩ := Jvm.LawKit.callS X126 hx (y := (⟨"com/example/oneiros/oneiros/cli/FrameTimeWriteSecondsPinLaw", "put", "([CIIII)V"⟩ : MethodName)) hown (mvT hZ (hw _ (List.mem_of_getElem? (i := 10) rfl))) (mvT hZ (hw _ (List.mem_of_getElem? (i := 11) rfl))) (mvT hZ (hw _ (List.mem_of_getElem? (i := 4) rfl))) (mvT hZ (hw _ (List.mem_of_getElem? (i := 12) rfl))) (by decide) (backOf (W := 0) (rm3 l Z a0 hw [] exp _ A F Ln 4 T126.heap n0 hA hF hL hL' (by decide) Z0 g_exp V_exp) hZ (hw _ (List.mem_of_getElem? (i := 12) rfl)) (hw _ (List.mem_of_getElem? (i := 4) rfl)) (by decide) (by decide)) (g := (mkF m 81 #[.val (.int p0), .val (.int p1), .val (.int (Int32.ofNat F)), .val (.int (Int32.ofNat A)), .val (.ref row), .val (.ref exp), .val (.int (Int32.ofNat Ln)), .unset] [(.int (4 : Int32)), (.int (Int32.ofNat Ln)), (.int (Int32.ofNat F)), (.int (Int32.ofNat A)), (.ref exp)])) rfl (by rw [hml]; rfl) (argsL := [(.ref exp), (.int (Int32.ofNat A)), (.int (Int32.ofNat F)), (.int (Int32.ofNat Ln)), (.int (4 : Int32))]) (rest := []) (lenOf pd_2 rfl) rfl (by show 2 * 0 + _ ≤ _; exact Nat.le_of_eq rfl) (hb hby at_81) (fun _ _ => ⟨rfl, rfl, (by decide : 6 + 1 ≤ _), (by decide : 80 + 10 ≤ _)⟩)
  dsimp only [Pt.U, Pt.locs, Pt.cells, Pt.slots] at X127 l127 y127 z127 st127 hQ127
  subst l127 y127 z127
  obtain ⟨rfl, Nq127, K127, V_expn⟩ := hQ127
  have N127 := Fr.app N126 Nq127
  refine Go.by (fun t => st127 t) ?_
  replace Od := Od.keep K127 (allS g_exp all0)
  replace V_row := V_row.keep K127 (ninS ne_row_exp nin0)
  replace Z0 := Nat.le_trans Z0 K127.1
  show Go p e below _ (T127.setTop (mkF m 84 #[.val (.int p0), .val (.int p1), .val (.int (Int32.ofNat F)), .val (.int (Int32.ofNat A)), .val (.ref row), .val (.ref exp), .val (.int (Int32.ofNat Ln)), .unset] []))
  clear V_exp
  have V_exp := V_expn
  clear V_expn
  show Go p e below _ (T127.setTop (mkF m 84 #[.val (.int p0), .val (.int p1), .val (.int (Int32.ofNat F)), .val (.int (Int32.ofNat A)), .val (.ref row), .val (.ref exp), .val (.int (Int32.ofNat Ln)), .unset] []))
  refine Go.by (fun t => XS.aload X127.here hx rfl (hb hby at_84) rfl rfl) ?_
  show Go p e below _ (T127.setTop (mkF m 86 #[.val (.int p0), .val (.int p1), .val (.int (Int32.ofNat F)), .val (.int (Int32.ofNat A)), .val (.ref row), .val (.ref exp), .val (.int (Int32.ofNat Ln)), .unset] [(.ref exp)]))
  refine Go.by (fun t => XS.iloadN X127.here hx rfl (hb hby at_86) rfl ) ?_
  show Go p e below _ (T127.setTop (mkF m 87 #[.val (.int p0), .val (.int p1), .val (.int (Int32.ofNat F)), .val (.int (Int32.ofNat A)), .val (.ref row), .val (.ref exp), .val (.int (Int32.ofNat Ln)), .unset] [(.int (Int32.ofNat A)), (.ref exp)]))
  refine Go.by (fun t => XS.iloadN X127.here hx rfl (hb hby at_87) rfl ) ?_
  show Go p e below _ (T127.setTop (mkF m 88 #[.val (.int p0), .val (.int p1), .val (.int (Int32.ofNat F)), .val (.int (Int32.ofNat A)), .val (.ref row), .val (.ref exp), .val (.int (Int32.ofNat Ln)), .unset] [(.int (Int32.ofNat F)), (.int (Int32.ofNat A)), (.ref exp)]))
  refine Go.by (fun t => XS.iload X127.here hx rfl (hb hby at_88) rfl ) ?_
  show Go p e below _ (T127.setTop (mkF m 90 #[.val (.int p0), .val (.int p1), .val (.int (Int32.ofNat F)), .val (.int (Int32.ofNat A)), .val (.ref row), .val (.ref exp), .val (.int (Int32.ofNat Ln)), .unset] [(.int (Int32.ofNat Ln)), (.int (Int32.ofNat F)), (.int (Int32.ofNat A)), (.ref exp)]))
  refine Go.by (fun t => XS.iconst X127.here hx rfl (hb hby at_90)) ?_
  show Go p e below _ (T127.setTop (mkF m 91 #[.val (.int p0), .val (.int p1), .val (.int (Int32.ofNat F)), .val (.int (Int32.ofNat A)), .val (.ref row), .val (.ref exp), .val (.int (Int32.ofNat Ln)), .unset] [(.int (5 : Int32)), (.int (Int32.ofNat Ln)), (.int (Int32.ofNat F)), (.int (Int32.ofNat A)), (.ref exp)]))
  obtain ⟨_, _, ⟨T128, L128, k128, n128⟩, -, X128, ⟨Lc128, hQ128, l128, y128, z128⟩, st128⟩ := Jvm.LawKit.callS X127 hx (y := (⟨"com/example/oneiros/oneiros/cli/FrameTimeWriteSecondsPinLaw", "put", "([CIIII)V"⟩ : MethodName)) hown (mvT hZ (hw _ (List.mem_of_getElem? (i := 10) rfl))) (mvT hZ (hw _ (List.mem_of_getElem? (i := 11) rfl))) (mvT hZ (hw _ (List.mem_of_getElem? (i := 4) rfl))) (mvT hZ (hw _ (List.mem_of_getElem? (i := 12) rfl))) (by decide) (backOf (W := 0) (rm3 l Z a0 hw [] exp _ A F Ln 5 T127.heap n0 hA hF hL hL' (by decide) Z0 g_exp V_exp) hZ (hw _ (List.mem_of_getElem? (i := 12) rfl)) (hw _ (List.mem_of_getElem? (i := 4) rfl)) (by decide) (by decide)) (g := (mkF m 91 #[.val (.int p0), .val (.int p1), .val (.int (Int32.ofNat F)), .val (.int (Int32.ofNat A)), .val (.ref row), .val (.ref exp), .val (.int (Int32.ofNat Ln)), .unset] [(.int (5 : Int32)), (.int (Int32.ofNat Ln)), (.int (Int32.ofNat F)), (.int (Int32.ofNat A)), (.ref exp)])) rfl (by rw [hml]; rfl) (argsL := [(.ref exp), (.int (Int32.ofNat A)), (.int (Int32.ofNat F)), (.int (Int32.ofNat Ln)), (.int (5 : Int32))]) (rest := []) (lenOf pd_2 rfl) rfl (by show 2 * 0 + _ ≤ _; exact Nat.le_of_eq rfl) (hb hby at_91) (fun _ _ => ⟨rfl, rfl, (by decide : 7 + 1 ≤ _), (by decide : 90 + 10 ≤ _)⟩)
  dsimp only [Pt.U, Pt.locs, Pt.cells, Pt.slots] at X128 l128 y128 z128 st128 hQ128
  subst l128 y128 z128
  obtain ⟨rfl, Nq128, K128, V_expn⟩ := hQ128
  have N128 := Fr.app N127 Nq128
  refine Go.by (fun t => st128 t) ?_
  replace Od := Od.keep K128 (allS g_exp all0)
  replace V_row := V_row.keep K128 (ninS ne_row_exp nin0)
  replace Z0 := Nat.le_trans Z0 K128.1
  show Go p e below _ (T128.setTop (mkF m 94 #[.val (.int p0), .val (.int p1), .val (.int (Int32.ofNat F)), .val (.int (Int32.ofNat A)), .val (.ref row), .val (.ref exp), .val (.int (Int32.ofNat Ln)), .unset] []))
  clear V_exp
  have V_exp := V_expn
  clear V_expn
  show Go p e below _ (T128.setTop (mkF m 94 #[.val (.int p0), .val (.int p1), .val (.int (Int32.ofNat F)), .val (.int (Int32.ofNat A)), .val (.ref row), .val (.ref exp), .val (.int (Int32.ofNat Ln)), .unset] []))
  refine Go.by (fun t => XS.aload X128.here hx rfl (hb hby at_94) rfl rfl) ?_
  show Go p e below _ (T128.setTop (mkF m 96 #[.val (.int p0), .val (.int p1), .val (.int (Int32.ofNat F)), .val (.int (Int32.ofNat A)), .val (.ref row), .val (.ref exp), .val (.int (Int32.ofNat Ln)), .unset] [(.ref exp)]))
  refine Go.by (fun t => XS.iloadN X128.here hx rfl (hb hby at_96) rfl ) ?_
  show Go p e below _ (T128.setTop (mkF m 97 #[.val (.int p0), .val (.int p1), .val (.int (Int32.ofNat F)), .val (.int (Int32.ofNat A)), .val (.ref row), .val (.ref exp), .val (.int (Int32.ofNat Ln)), .unset] [(.int (Int32.ofNat A)), (.ref exp)]))
  refine Go.by (fun t => XS.iloadN X128.here hx rfl (hb hby at_97) rfl ) ?_
  show Go p e below _ (T128.setTop (mkF m 98 #[.val (.int p0), .val (.int p1), .val (.int (Int32.ofNat F)), .val (.int (Int32.ofNat A)), .val (.ref row), .val (.ref exp), .val (.int (Int32.ofNat Ln)), .unset] [(.int (Int32.ofNat F)), (.int (Int32.ofNat A)), (.ref exp)]))
  refine Go.by (fun t => XS.iload X128.here hx rfl (hb hby at_98) rfl ) ?_
  show Go p e below _ (T128.setTop (mkF m 100 #[.val (.int p0), .val (.int p1), .val (.int (Int32.ofNat F)), .val (.int (Int32.ofNat A)), .val (.ref row), .val (.ref exp), .val (.int (Int32.ofNat Ln)), .unset] [(.int (Int32.ofNat Ln)), (.int (Int32.ofNat F)), (.int (Int32.ofNat A)), (.ref exp)]))
  refine Go.by (fun t => XS.bipush X128.here hx rfl (hb hby at_100)) ?_
  show Go p e below _ (T128.setTop (mkF m 102 #[.val (.int p0), .val (.int p1), .val (.int (Int32.ofNat F)), .val (.int (Int32.ofNat A)), .val (.ref row), .val (.ref exp), .val (.int (Int32.ofNat Ln)), .unset] [(.int (6 : Int32)), (.int (Int32.ofNat Ln)), (.int (Int32.ofNat F)), (.int (Int32.ofNat A)), (.ref exp)]))
  obtain ⟨_, _, ⟨T129, L129, k129, n129⟩, -, X129, ⟨Lc129, hQ129, l129, y129, z129⟩, st129⟩ := Jvm.LawKit.callS X128 hx (y := (⟨"com/example/oneiros/oneiros/cli/FrameTimeWriteSecondsPinLaw", "put", "([CIIII)V"⟩ : MethodName)) hown (mvT hZ (hw _ (List.mem_of_getElem? (i := 10) rfl))) (mvT hZ (hw _ (List.mem_of_getElem? (i := 11) rfl))) (mvT hZ (hw _ (List.mem_of_getElem? (i := 4) rfl))) (mvT hZ (hw _ (List.mem_of_getElem? (i := 12) rfl))) (by decide) (backOf (W := 0) (rm3 l Z a0 hw [] exp _ A F Ln 6 T128.heap n0 hA hF hL hL' (by decide) Z0 g_exp V_exp) hZ (hw _ (List.mem_of_getElem? (i := 12) rfl)) (hw _ (List.mem_of_getElem? (i := 4) rfl)) (by decide) (by decide)) (g := (mkF m 102 #[.val (.int p0), .val (.int p1), .val (.int (Int32.ofNat F)), .val (.int (Int32.ofNat A)), .val (.ref row), .val (.ref exp), .val (.int (Int32.ofNat Ln)), .unset] [(.int (6 : Int32)), (.int (Int32.ofNat Ln)), (.int (Int32.ofNat F)), (.int (Int32.ofNat A)), (.ref exp)])) rfl (by rw [hml]; rfl) (argsL := [(.ref exp), (.int (Int32.ofNat A)), (.int (Int32.ofNat F)), (.int (Int32.ofNat Ln)), (.int (6 : Int32))]) (rest := []) (lenOf pd_2 rfl) rfl (by show 2 * 0 + _ ≤ _; exact Nat.le_of_eq rfl) (hb hby at_102) (fun _ _ => ⟨rfl, rfl, (by decide : 8 + 1 ≤ _), (by decide : 100 + 10 ≤ _)⟩)
  dsimp only [Pt.U, Pt.locs, Pt.cells, Pt.slots] at X129 l129 y129 z129 st129 hQ129
  subst l129 y129 z129
  obtain ⟨rfl, Nq129, K129, V_expn⟩ := hQ129
  have N129 := Fr.app N128 Nq129
  refine Go.by (fun t => st129 t) ?_
  replace Od := Od.keep K129 (allS g_exp all0)
  replace V_row := V_row.keep K129 (ninS ne_row_exp nin0)
  replace Z0 := Nat.le_trans Z0 K129.1
  show Go p e below _ (T129.setTop (mkF m 105 #[.val (.int p0), .val (.int p1), .val (.int (Int32.ofNat F)), .val (.int (Int32.ofNat A)), .val (.ref row), .val (.ref exp), .val (.int (Int32.ofNat Ln)), .unset] []))
  clear V_exp
  have V_exp := V_expn
  clear V_expn
  show Go p e below _ (T129.setTop (mkF m 105 #[.val (.int p0), .val (.int p1), .val (.int (Int32.ofNat F)), .val (.int (Int32.ofNat A)), .val (.ref row), .val (.ref exp), .val (.int (Int32.ofNat Ln)), .unset] []))
  refine Go.by (fun t => XS.aload X129.here hx rfl (hb hby at_105) rfl rfl) ?_
  show Go p e below _ (T129.setTop (mkF m 107 #[.val (.int p0), .val (.int p1), .val (.int (Int32.ofNat F)), .val (.int (Int32.ofNat A)), .val (.ref row), .val (.ref exp), .val (.int (Int32.ofNat Ln)), .unset] [(.ref exp)]))
  refine Go.by (fun t => XS.iloadN X129.here hx rfl (hb hby at_107) rfl ) ?_
  show Go p e below _ (T129.setTop (mkF m 108 #[.val (.int p0), .val (.int p1), .val (.int (Int32.ofNat F)), .val (.int (Int32.ofNat A)), .val (.ref row), .val (.ref exp), .val (.int (Int32.ofNat Ln)), .unset] [(.int (Int32.ofNat A)), (.ref exp)]))
  refine Go.by (fun t => XS.iloadN X129.here hx rfl (hb hby at_108) rfl ) ?_
  show Go p e below _ (T129.setTop (mkF m 109 #[.val (.int p0), .val (.int p1), .val (.int (Int32.ofNat F)), .val (.int (Int32.ofNat A)), .val (.ref row), .val (.ref exp), .val (.int (Int32.ofNat Ln)), .unset] [(.int (Int32.ofNat F)), (.int (Int32.ofNat A)), (.ref exp)]))
  refine Go.by (fun t => XS.iload X129.here hx rfl (hb hby at_109) rfl ) ?_
  show Go p e below _ (T129.setTop (mkF m 111 #[.val (.int p0), .val (.int p1), .val (.int (Int32.ofNat F)), .val (.int (Int32.ofNat A)), .val (.ref row), .val (.ref exp), .val (.int (Int32.ofNat Ln)), .unset] [(.int (Int32.ofNat Ln)), (.int (Int32.ofNat F)), (.int (Int32.ofNat A)), (.ref exp)]))
  refine Go.by (fun t => XS.bipush X129.here hx rfl (hb hby at_111)) ?_
  show Go p e below _ (T129.setTop (mkF m 113 #[.val (.int p0), .val (.int p1), .val (.int (Int32.ofNat F)), .val (.int (Int32.ofNat A)), .val (.ref row), .val (.ref exp), .val (.int (Int32.ofNat Ln)), .unset] [(.int (7 : Int32)), (.int (Int32.ofNat Ln)), (.int (Int32.ofNat F)), (.int (Int32.ofNat A)), (.ref exp)]))
  obtain ⟨_, _, ⟨T130, L130, k130, n130⟩, -, X130, ⟨Lc130, hQ130, l130, y130, z130⟩, st130⟩ := Jvm.LawKit.callS X129 hx (y := (⟨"com/example/oneiros/oneiros/cli/FrameTimeWriteSecondsPinLaw", "put", "([CIIII)V"⟩ : MethodName)) hown (mvT hZ (hw _ (List.mem_of_getElem? (i := 10) rfl))) (mvT hZ (hw _ (List.mem_of_getElem? (i := 11) rfl))) (mvT hZ (hw _ (List.mem_of_getElem? (i := 4) rfl))) (mvT hZ (hw _ (List.mem_of_getElem? (i := 12) rfl))) (by decide) (backOf (W := 0) (rm3 l Z a0 hw [] exp _ A F Ln 7 T129.heap n0 hA hF hL hL' (by decide) Z0 g_exp V_exp) hZ (hw _ (List.mem_of_getElem? (i := 12) rfl)) (hw _ (List.mem_of_getElem? (i := 4) rfl)) (by decide) (by decide)) (g := (mkF m 113 #[.val (.int p0), .val (.int p1), .val (.int (Int32.ofNat F)), .val (.int (Int32.ofNat A)), .val (.ref row), .val (.ref exp), .val (.int (Int32.ofNat Ln)), .unset] [(.int (7 : Int32)), (.int (Int32.ofNat Ln)), (.int (Int32.ofNat F)), (.int (Int32.ofNat A)), (.ref exp)])) rfl (by rw [hml]; rfl) (argsL := [(.ref exp), (.int (Int32.ofNat A)), (.int (Int32.ofNat F)), (.int (Int32.ofNat Ln)), (.int (7 : Int32))]) (rest := []) (lenOf pd_2 rfl) rfl (by show 2 * 0 + _ ≤ _; exact Nat.le_of_eq rfl) (hb hby at_113) (fun _ _ => ⟨rfl, rfl, (by decide : 9 + 1 ≤ _), (by decide : 110 + 10 ≤ _)⟩)
  dsimp only [Pt.U, Pt.locs, Pt.cells, Pt.slots] at X130 l130 y130 z130 st130 hQ130
  subst l130 y130 z130
  obtain ⟨rfl, Nq130, K130, V_expn⟩ := hQ130
  have N130 := Fr.app N129 Nq130
  refine Go.by (fun t => st130 t) ?_
  replace Od := Od.keep K130 (allS g_exp all0)
  replace V_row := V_row.keep K130 (ninS ne_row_exp nin0)
  replace Z0 := Nat.le_trans Z0 K130.1
  show Go p e below _ (T130.setTop (mkF m 116 #[.val (.int p0), .val (.int p1), .val (.int (Int32.ofNat F)), .val (.int (Int32.ofNat A)), .val (.ref row), .val (.ref exp), .val (.int (Int32.ofNat Ln)), .unset] []))
  clear V_exp
  have V_exp := V_expn
  clear V_expn
  show Go p e below _ (T130.setTop (mkF m 116 #[.val (.int p0), .val (.int p1), .val (.int (Int32.ofNat F)), .val (.int (Int32.ofNat A)), .val (.ref row), .val (.ref exp), .val (.int (Int32.ofNat Ln)), .unset] []))
  refine Go.by (fun t => XS.aload X130.here hx rfl (hb hby at_116) rfl rfl) ?_
  show Go p e below _ (T130.setTop (mkF m 118 #[.val (.int p0), .val (.int p1), .val (.int (Int32.ofNat F)), .val (.int (Int32.ofNat A)), .val (.ref row), .val (.ref exp), .val (.int (Int32.ofNat Ln)), .unset] [(.ref exp)]))
  refine Go.by (fun t => XS.iloadN X130.here hx rfl (hb hby at_118) rfl ) ?_
  show Go p e below _ (T130.setTop (mkF m 119 #[.val (.int p0), .val (.int p1), .val (.int (Int32.ofNat F)), .val (.int (Int32.ofNat A)), .val (.ref row), .val (.ref exp), .val (.int (Int32.ofNat Ln)), .unset] [(.int (Int32.ofNat A)), (.ref exp)]))
  refine Go.by (fun t => XS.iloadN X130.here hx rfl (hb hby at_119) rfl ) ?_
  show Go p e below _ (T130.setTop (mkF m 120 #[.val (.int p0), .val (.int p1), .val (.int (Int32.ofNat F)), .val (.int (Int32.ofNat A)), .val (.ref row), .val (.ref exp), .val (.int (Int32.ofNat Ln)), .unset] [(.int (Int32.ofNat F)), (.int (Int32.ofNat A)), (.ref exp)]))
  refine Go.by (fun t => XS.iload X130.here hx rfl (hb hby at_120) rfl ) ?_
  show Go p e below _ (T130.setTop (mkF m 122 #[.val (.int p0), .val (.int p1), .val (.int (Int32.ofNat F)), .val (.int (Int32.ofNat A)), .val (.ref row), .val (.ref exp), .val (.int (Int32.ofNat Ln)), .unset] [(.int (Int32.ofNat Ln)), (.int (Int32.ofNat F)), (.int (Int32.ofNat A)), (.ref exp)]))
  refine Go.by (fun t => XS.bipush X130.here hx rfl (hb hby at_122)) ?_
  show Go p e below _ (T130.setTop (mkF m 124 #[.val (.int p0), .val (.int p1), .val (.int (Int32.ofNat F)), .val (.int (Int32.ofNat A)), .val (.ref row), .val (.ref exp), .val (.int (Int32.ofNat Ln)), .unset] [(.int (8 : Int32)), (.int (Int32.ofNat Ln)), (.int (Int32.ofNat F)), (.int (Int32.ofNat A)), (.ref exp)]))
  obtain ⟨_, _, ⟨T131, L131, k131, n131⟩, -, X131, ⟨Lc131, hQ131, l131, y131, z131⟩, st131⟩ := Jvm.LawKit.callS X130 hx (y := (⟨"com/example/oneiros/oneiros/cli/FrameTimeWriteSecondsPinLaw", "put", "([CIIII)V"⟩ : MethodName)) hown (mvT hZ (hw _ (List.mem_of_getElem? (i := 10) rfl))) (mvT hZ (hw _ (List.mem_of_getElem? (i := 11) rfl))) (mvT hZ (hw _ (List.mem_of_getElem? (i := 4) rfl))) (mvT hZ (hw _ (List.mem_of_getElem? (i := 12) rfl))) (by decide) (backOf (W := 0) (rm3 l Z a0 hw [] exp _ A F Ln 8 T130.heap n0 hA hF hL hL' (by decide) Z0 g_exp V_exp) hZ (hw _ (List.mem_of_getElem? (i := 12) rfl)) (hw _ (List.mem_of_getElem? (i := 4) rfl)) (by decide) (by decide)) (g := (mkF m 124 #[.val (.int p0), .val (.int p1), .val (.int (Int32.ofNat F)), .val (.int (Int32.ofNat A)), .val (.ref row), .val (.ref exp), .val (.int (Int32.ofNat Ln)), .unset] [(.int (8 : Int32)), (.int (Int32.ofNat Ln)), (.int (Int32.ofNat F)), (.int (Int32.ofNat A)), (.ref exp)])) rfl (by rw [hml]; rfl) (argsL := [(.ref exp), (.int (Int32.ofNat A)), (.int (Int32.ofNat F)), (.int (Int32.ofNat Ln)), (.int (8 : Int32))]) (rest := []) (lenOf pd_2 rfl) rfl (by show 2 * 0 + _ ≤ _; exact Nat.le_of_eq rfl) (hb hby at_124) (fun _ _ => ⟨rfl, rfl, (by decide : 10 + 1 ≤ _), (by decide : 120 + 10 ≤ _)⟩)
  dsimp only [Pt.U, Pt.locs, Pt.cells, Pt.slots] at X131 l131 y131 z131 st131 hQ131
  subst l131 y131 z131
  obtain ⟨rfl, Nq131, K131, V_expn⟩ := hQ131
  have N131 := Fr.app N130 Nq131
  refine Go.by (fun t => st131 t) ?_
  replace Od := Od.keep K131 (allS g_exp all0)
  replace V_row := V_row.keep K131 (ninS ne_row_exp nin0)
  replace Z0 := Nat.le_trans Z0 K131.1
  show Go p e below _ (T131.setTop (mkF m 127 #[.val (.int p0), .val (.int p1), .val (.int (Int32.ofNat F)), .val (.int (Int32.ofNat A)), .val (.ref row), .val (.ref exp), .val (.int (Int32.ofNat Ln)), .unset] []))
  clear V_exp
  have V_exp := V_expn
  clear V_expn
  show Go p e below _ (T131.setTop (mkF m 127 #[.val (.int p0), .val (.int p1), .val (.int (Int32.ofNat F)), .val (.int (Int32.ofNat A)), .val (.ref row), .val (.ref exp), .val (.int (Int32.ofNat Ln)), .unset] []))
  refine Go.by (fun t => XS.aload X131.here hx rfl (hb hby at_127) rfl rfl) ?_
  show Go p e below _ (T131.setTop (mkF m 129 #[.val (.int p0), .val (.int p1), .val (.int (Int32.ofNat F)), .val (.int (Int32.ofNat A)), .val (.ref row), .val (.ref exp), .val (.int (Int32.ofNat Ln)), .unset] [(.ref exp)]))
  refine Go.by (fun t => XS.iloadN X131.here hx rfl (hb hby at_129) rfl ) ?_
  show Go p e below _ (T131.setTop (mkF m 130 #[.val (.int p0), .val (.int p1), .val (.int (Int32.ofNat F)), .val (.int (Int32.ofNat A)), .val (.ref row), .val (.ref exp), .val (.int (Int32.ofNat Ln)), .unset] [(.int (Int32.ofNat A)), (.ref exp)]))
  refine Go.by (fun t => XS.iloadN X131.here hx rfl (hb hby at_130) rfl ) ?_
  show Go p e below _ (T131.setTop (mkF m 131 #[.val (.int p0), .val (.int p1), .val (.int (Int32.ofNat F)), .val (.int (Int32.ofNat A)), .val (.ref row), .val (.ref exp), .val (.int (Int32.ofNat Ln)), .unset] [(.int (Int32.ofNat F)), (.int (Int32.ofNat A)), (.ref exp)]))
  refine Go.by (fun t => XS.iload X131.here hx rfl (hb hby at_131) rfl ) ?_
  show Go p e below _ (T131.setTop (mkF m 133 #[.val (.int p0), .val (.int p1), .val (.int (Int32.ofNat F)), .val (.int (Int32.ofNat A)), .val (.ref row), .val (.ref exp), .val (.int (Int32.ofNat Ln)), .unset] [(.int (Int32.ofNat Ln)), (.int (Int32.ofNat F)), (.int (Int32.ofNat A)), (.ref exp)]))
  refine Go.by (fun t => XS.bipush X131.here hx rfl (hb hby at_133)) ?_
  show Go p e below _ (T131.setTop (mkF m 135 #[.val (.int p0), .val (.int p1), .val (.int (Int32.ofNat F)), .val (.int (Int32.ofNat A)), .val (.ref row), .val (.ref exp), .val (.int (Int32.ofNat Ln)), .unset] [(.int (9 : Int32)), (.int (Int32.ofNat Ln)), (.int (Int32.ofNat F)), (.int (Int32.ofNat A)), (.ref exp)]))
  obtain ⟨_, _, ⟨T132, L132, k132, n132⟩, -, X132, ⟨Lc132, hQ132, l132, y132, z132⟩, st132⟩ := Jvm.LawKit.callS X131 hx (y := (⟨"com/example/oneiros/oneiros/cli/FrameTimeWriteSecondsPinLaw", "put", "([CIIII)V"⟩ : MethodName)) hown (mvT hZ (hw _ (List.mem_of_getElem? (i := 10) rfl))) (mvT hZ (hw _ (List.mem_of_getElem? (i := 11) rfl))) (mvT hZ (hw _ (List.mem_of_getElem? (i := 4) rfl))) (mvT hZ (hw _ (List.mem_of_getElem? (i := 12) rfl))) (by decide) (backOf (W := 0) (rm3 l Z a0 hw [] exp _ A F Ln 9 T131.heap n0 hA hF hL hL' (by decide) Z0 g_exp V_exp) hZ (hw _ (List.mem_of_getElem? (i := 12) rfl)) (hw _ (List.mem_of_getElem? (i := 4) rfl)) (by decide) (by decide)) (g := (mkF m 135 #[.val (.int p0), .val (.int p1), .val (.int (Int32.ofNat F)), .val (.int (Int32.ofNat A)), .val (.ref row), .val (.ref exp), .val (.int (Int32.ofNat Ln)), .unset] [(.int (9 : Int32)), (.int (Int32.ofNat Ln)), (.int (Int32.ofNat F)), (.int (Int32.ofNat A)), (.ref exp)])) rfl (by rw [hml]; rfl) (argsL := [(.ref exp), (.int (Int32.ofNat A)), (.int (Int32.ofNat F)), (.int (Int32.ofNat Ln)), (.int (9 : Int32))]) (rest := []) (lenOf pd_2 rfl) rfl (by show 2 * 0 + _ ≤ _; exact Nat.le_of_eq rfl) (hb hby at_135) (fun _ _ => ⟨rfl, rfl, (by decide : 11 + 1 ≤ _), (by decide : 130 + 10 ≤ _)⟩)
  dsimp only [Pt.U, Pt.locs, Pt.cells, Pt.slots] at X132 l132 y132 z132 st132 hQ132
  subst l132 y132 z132
  obtain ⟨rfl, Nq132, K132, V_expn⟩ := hQ132
  have N132 := Fr.app N131 Nq132
  refine Go.by (fun t => st132 t) ?_
  replace Od := Od.keep K132 (allS g_exp all0)
  replace V_row := V_row.keep K132 (ninS ne_row_exp nin0)
  replace Z0 := Nat.le_trans Z0 K132.1
  show Go p e below _ (T132.setTop (mkF m 138 #[.val (.int p0), .val (.int p1), .val (.int (Int32.ofNat F)), .val (.int (Int32.ofNat A)), .val (.ref row), .val (.ref exp), .val (.int (Int32.ofNat Ln)), .unset] []))
  clear V_exp
  have V_exp := V_expn
  clear V_expn
  show Go p e below _ (T132.setTop (mkF m 138 #[.val (.int p0), .val (.int p1), .val (.int (Int32.ofNat F)), .val (.int (Int32.ofNat A)), .val (.ref row), .val (.ref exp), .val (.int (Int32.ofNat Ln)), .unset] []))
  refine Go.by (fun t => XS.aload X132.here hx rfl (hb hby at_138) rfl rfl) ?_
  show Go p e below _ (T132.setTop (mkF m 140 #[.val (.int p0), .val (.int p1), .val (.int (Int32.ofNat F)), .val (.int (Int32.ofNat A)), .val (.ref row), .val (.ref exp), .val (.int (Int32.ofNat Ln)), .unset] [(.ref exp)]))
  refine Go.by (fun t => XS.iloadN X132.here hx rfl (hb hby at_140) rfl ) ?_
  show Go p e below _ (T132.setTop (mkF m 141 #[.val (.int p0), .val (.int p1), .val (.int (Int32.ofNat F)), .val (.int (Int32.ofNat A)), .val (.ref row), .val (.ref exp), .val (.int (Int32.ofNat Ln)), .unset] [(.int (Int32.ofNat A)), (.ref exp)]))
  refine Go.by (fun t => XS.iloadN X132.here hx rfl (hb hby at_141) rfl ) ?_
  show Go p e below _ (T132.setTop (mkF m 142 #[.val (.int p0), .val (.int p1), .val (.int (Int32.ofNat F)), .val (.int (Int32.ofNat A)), .val (.ref row), .val (.ref exp), .val (.int (Int32.ofNat Ln)), .unset] [(.int (Int32.ofNat F)), (.int (Int32.ofNat A)), (.ref exp)]))
  refine Go.by (fun t => XS.iload X132.here hx rfl (hb hby at_142) rfl ) ?_
  show Go p e below _ (T132.setTop (mkF m 144 #[.val (.int p0), .val (.int p1), .val (.int (Int32.ofNat F)), .val (.int (Int32.ofNat A)), .val (.ref row), .val (.ref exp), .val (.int (Int32.ofNat Ln)), .unset] [(.int (Int32.ofNat Ln)), (.int (Int32.ofNat F)), (.int (Int32.ofNat A)), (.ref exp)]))
  refine Go.by (fun t => XS.bipush X132.here hx rfl (hb hby at_144)) ?_
  show Go p e below _ (T132.setTop (mkF m 146 #[.val (.int p0), .val (.int p1), .val (.int (Int32.ofNat F)), .val (.int (Int32.ofNat A)), .val (.ref row), .val (.ref exp), .val (.int (Int32.ofNat Ln)), .unset] [(.int (10 : Int32)), (.int (Int32.ofNat Ln)), (.int (Int32.ofNat F)), (.int (Int32.ofNat A)), (.ref exp)]))
  obtain ⟨_, _, ⟨T133, L133, k133, n133⟩, -, X133, ⟨Lc133, hQ133, l133, y133, z133⟩, st133⟩ := Jvm.LawKit.callS X132 hx (y := (⟨"com/example/oneiros/oneiros/cli/FrameTimeWriteSecondsPinLaw", "put", "([CIIII)V"⟩ : MethodName)) hown (mvT hZ (hw _ (List.mem_of_getElem? (i := 10) rfl))) (mvT hZ (hw _ (List.mem_of_getElem? (i := 11) rfl))) (mvT hZ (hw _ (List.mem_of_getElem? (i := 4) rfl))) (mvT hZ (hw _ (List.mem_of_getElem? (i := 12) rfl))) (by decide) (backOf (W := 0) (rm3 l Z a0 hw [] exp _ A F Ln 10 T132.heap n0 hA hF hL hL' (by decide) Z0 g_exp V_exp) hZ (hw _ (List.mem_of_getElem? (i := 12) rfl)) (hw _ (List.mem_of_getElem? (i := 4) rfl)) (by decide) (by decide)) (g := (mkF m 146 #[.val (.int p0), .val (.int p1), .val (.int (Int32.ofNat F)), .val (.int (Int32.ofNat A)), .val (.ref row), .val (.ref exp), .val (.int (Int32.ofNat Ln)), .unset] [(.int (10 : Int32)), (.int (Int32.ofNat Ln)), (.int (Int32.ofNat F)), (.int (Int32.ofNat A)), (.ref exp)])) rfl (by rw [hml]; rfl) (argsL := [(.ref exp), (.int (Int32.ofNat A)), (.int (Int32.ofNat F)), (.int (Int32.ofNat Ln)), (.int (10 : Int32))]) (rest := []) (lenOf pd_2 rfl) rfl (by show 2 * 0 + _ ≤ _; exact Nat.le_of_eq rfl) (hb hby at_146) (fun _ _ => ⟨rfl, rfl, (by decide : 12 + 1 ≤ _), (by decide : 140 + 10 ≤ _)⟩)
  dsimp only [Pt.U, Pt.locs, Pt.cells, Pt.slots] at X133 l133 y133 z133 st133 hQ133
  subst l133 y133 z133
  obtain ⟨rfl, Nq133, K133, V_expn⟩ := hQ133
  have N133 := Fr.app N132 Nq133
  refine Go.by (fun t => st133 t) ?_
  replace Od := Od.keep K133 (allS g_exp all0)
  replace V_row := V_row.keep K133 (ninS ne_row_exp nin0)
  replace Z0 := Nat.le_trans Z0 K133.1
  show Go p e below _ (T133.setTop (mkF m 149 #[.val (.int p0), .val (.int p1), .val (.int (Int32.ofNat F)), .val (.int (Int32.ofNat A)), .val (.ref row), .val (.ref exp), .val (.int (Int32.ofNat Ln)), .unset] []))
  clear V_exp
  have V_exp := V_expn
  clear V_expn
  show Go p e below _ (T133.setTop (mkF m 149 #[.val (.int p0), .val (.int p1), .val (.int (Int32.ofNat F)), .val (.int (Int32.ofNat A)), .val (.ref row), .val (.ref exp), .val (.int (Int32.ofNat Ln)), .unset] []))
  refine Go.by (fun t => XS.aload X133.here hx rfl (hb hby at_149) rfl rfl) ?_
  show Go p e below _ (T133.setTop (mkF m 151 #[.val (.int p0), .val (.int p1), .val (.int (Int32.ofNat F)), .val (.int (Int32.ofNat A)), .val (.ref row), .val (.ref exp), .val (.int (Int32.ofNat Ln)), .unset] [(.ref row)]))
  refine Go.by (fun t => XS.iloadN X133.here hx rfl (hb hby at_151) rfl ) ?_
  show Go p e below _ (T133.setTop (mkF m 152 #[.val (.int p0), .val (.int p1), .val (.int (Int32.ofNat F)), .val (.int (Int32.ofNat A)), .val (.ref row), .val (.ref exp), .val (.int (Int32.ofNat Ln)), .unset] [(.int (Int32.ofNat A)), (.ref row)]))
  refine Go.by (fun t => XS.iloadN X133.here hx rfl (hb hby at_152) rfl ) ?_
  show Go p e below _ (T133.setTop (mkF m 153 #[.val (.int p0), .val (.int p1), .val (.int (Int32.ofNat F)), .val (.int (Int32.ofNat A)), .val (.ref row), .val (.ref exp), .val (.int (Int32.ofNat Ln)), .unset] [(.int (Int32.ofNat F)), (.int (Int32.ofNat A)), (.ref row)]))
  obtain ⟨_, _, ⟨T134, L134, k134, n134⟩, -, X134, ⟨Lc134, hQ134, l134, y134, z134⟩, st134⟩ := Jvm.LawKit.callS X133 hx (y := (⟨"com/example/oneiros/oneiros/cli/FrameTime", "writeSeconds", "([CII)I"⟩ : MethodName)) hown (mvT hZ (hw _ (List.mem_of_getElem? (i := 23) rfl))) (mvT hZ (hw _ (List.mem_of_getElem? (i := 24) rfl))) (mvT hZ (hw _ (List.mem_of_getElem? (i := 25) rfl))) (mvT hZ (hw _ (List.mem_of_getElem? (i := 26) rfl))) (by decide) (backOf (W := 0) (rm4 l Z a0 hw [] row _ A F Ln T133.heap n0 hA hF hLn hL' Od g_row V_row S_UF S_US) hZ (hw _ (List.mem_of_getElem? (i := 26) rfl)) (hw _ (List.mem_of_getElem? (i := 25) rfl)) (by decide) (by decide)) (g := (mkF m 153 #[.val (.int p0), .val (.int p1), .val (.int (Int32.ofNat F)), .val (.int (Int32.ofNat A)), .val (.ref row), .val (.ref exp), .val (.int (Int32.ofNat Ln)), .unset] [(.int (Int32.ofNat F)), (.int (Int32.ofNat A)), (.ref row)])) rfl (by rw [hml]; rfl) (argsL := [(.ref row), (.int (Int32.ofNat A)), (.int (Int32.ofNat F))]) (rest := []) (lenOf pd_3 rfl) rfl (by show 2 * 0 + _ ≤ _; exact Nat.le_of_eq rfl) (hb hby at_153) (fun _ _ => ⟨rfl, rfl, (by decide : 13 + 0 ≤ _), (by decide : 150 + 0 ≤ _)⟩)
  dsimp only [Pt.U, Pt.locs, Pt.cells, Pt.slots] at X134 l134 y134 z134 st134 hQ134
  subst l134 y134 z134
  obtain ⟨rfl, Nq134, K134, V_rown⟩ := hQ134
  have N134 := Fr.app N133 Nq134
  refine Go.by (fun t => st134 t) ?_
  replace Od := Od.keep K134 (allS g_row all0)
  replace V_exp := V_exp.keep K134 (ninS (Ne.symm ne_row_exp) nin0)
  replace Z0 := Nat.le_trans Z0 K134.1
  show Go p e below _ (T134.setTop (mkF m 156 #[.val (.int p0), .val (.int p1), .val (.int (Int32.ofNat F)), .val (.int (Int32.ofNat A)), .val (.ref row), .val (.ref exp), .val (.int (Int32.ofNat Ln)), .unset] [(.int (Int32.ofNat (A + Ln)))]))
  clear V_row
  have V_row := V_rown
  clear V_rown
  rw [asc_des hL'] at V_exp
  show Go p e below _ (T134.setTop (mkF m 156 #[.val (.int p0), .val (.int p1), .val (.int (Int32.ofNat F)), .val (.int (Int32.ofNat A)), .val (.ref row), .val (.ref exp), .val (.int (Int32.ofNat Ln)), .unset] [(.int (Int32.ofNat (A + Ln)))]))
  refine Go.by (fun t => XS.istore X134.here hx rfl (hb hby at_156) rfl (l' := #[.val (.int p0), .val (.int p1), .val (.int (Int32.ofNat F)), .val (.int (Int32.ofNat A)), .val (.ref row), .val (.ref exp), .val (.int (Int32.ofNat Ln)), .val (.int (Int32.ofNat (A + Ln)))]) rfl) ?_
  show Go p e below _ (T134.setTop (mkF m 158 #[.val (.int p0), .val (.int p1), .val (.int (Int32.ofNat F)), .val (.int (Int32.ofNat A)), .val (.ref row), .val (.ref exp), .val (.int (Int32.ofNat Ln)), .val (.int (Int32.ofNat (A + Ln)))] []))
  refine Go.by (fun t => XS.iload X134.here hx rfl (hb hby at_158) rfl ) ?_
  show Go p e below _ (T134.setTop (mkF m 160 #[.val (.int p0), .val (.int p1), .val (.int (Int32.ofNat F)), .val (.int (Int32.ofNat A)), .val (.ref row), .val (.ref exp), .val (.int (Int32.ofNat Ln)), .val (.int (Int32.ofNat (A + Ln)))] [(.int (Int32.ofNat (A + Ln)))]))
  refine Go.by (fun t => XS.iloadN X134.here hx rfl (hb hby at_160) rfl ) ?_
  show Go p e below _ (T134.setTop (mkF m 161 #[.val (.int p0), .val (.int p1), .val (.int (Int32.ofNat F)), .val (.int (Int32.ofNat A)), .val (.ref row), .val (.ref exp), .val (.int (Int32.ofNat Ln)), .val (.int (Int32.ofNat (A + Ln)))] [(.int (Int32.ofNat A)), (.int (Int32.ofNat (A + Ln)))]))
  refine Go.by (fun t => XS.iload X134.here hx rfl (hb hby at_161) rfl ) ?_
  show Go p e below _ (T134.setTop (mkF m 163 #[.val (.int p0), .val (.int p1), .val (.int (Int32.ofNat F)), .val (.int (Int32.ofNat A)), .val (.ref row), .val (.ref exp), .val (.int (Int32.ofNat Ln)), .val (.int (Int32.ofNat (A + Ln)))] [(.int (Int32.ofNat Ln)), (.int (Int32.ofNat A)), (.int (Int32.ofNat (A + Ln)))]))
  refine Go.by (fun t => XS.iadd X134.here hx rfl (hb hby at_163) rfl) ?_
  show Go p e below _ (T134.setTop (mkF m 164 #[.val (.int p0), .val (.int p1), .val (.int (Int32.ofNat F)), .val (.int (Int32.ofNat A)), .val (.ref row), .val (.ref exp), .val (.int (Int32.ofNat Ln)), .val (.int (Int32.ofNat (A + Ln)))] [(.int ((Int32.ofNat A) + (Int32.ofNat Ln))), (.int (Int32.ofNat (A + Ln)))]))
  rw [add32n A Ln]
  show Go p e below _ (T134.setTop (mkF m 164 #[.val (.int p0), .val (.int p1), .val (.int (Int32.ofNat F)), .val (.int (Int32.ofNat A)), .val (.ref row), .val (.ref exp), .val (.int (Int32.ofNat Ln)), .val (.int (Int32.ofNat (A + Ln)))] [(.int (Int32.ofNat (A + Ln))), (.int (Int32.ofNat (A + Ln)))]))
  refine Go.by (fun t => XS.icmpNo X134.here hx rfl (hb hby at_164) rfl (teq (rfl : (Int32.ofNat (A + Ln)) = (Int32.ofNat (A + Ln)))).2) ?_
  show Go p e below _ (T134.setTop (mkF m 167 #[.val (.int p0), .val (.int p1), .val (.int (Int32.ofNat F)), .val (.int (Int32.ofNat A)), .val (.ref row), .val (.ref exp), .val (.int (Int32.ofNat Ln)), .val (.int (Int32.ofNat (A + Ln)))] []))
  show Go p e below _ (T134.setTop (mkF m 167 #[.val (.int p0), .val (.int p1), .val (.int (Int32.ofNat F)), .val (.int (Int32.ofNat A)), .val (.ref row), .val (.ref exp), .val (.int (Int32.ofNat Ln)), .val (.int (Int32.ofNat (A + Ln)))] []))
  obtain ⟨T135, h135, X135, e135, E135, A135, D135, -, st135⟩ := newO X134 hx hZ hown (hw _ (List.mem_of_getElem? (i := 33) rfl)) (hw _ (List.mem_of_getElem? (i := 34) rfl)) (hw _ (List.mem_of_getElem? (i := 35) rfl)) rfl (g := (mkF m 167 #[.val (.int p0), .val (.int p1), .val (.int (Int32.ofNat F)), .val (.int (Int32.ofNat A)), .val (.ref row), .val (.ref exp), .val (.int (Int32.ofNat Ln)), .val (.int (Int32.ofNat (A + Ln)))] [])) rfl (hb hby at_167) (by decide) (by decide)
  obtain ⟨sa, g135⟩ : ∃ z, z = T134.heap.size := ⟨_, rfl⟩
  rw [← g135] at A135 D135 st135
  refine Go.by (fun t => st135 t) ?_
  have g_sa : n0 ≤ sa := Nat.le_trans Z0 (Nat.le_of_eq g135.symm)
  have ne_exp_sa : exp ≠ sa := Nat.ne_of_lt (Nat.lt_of_lt_of_le V_exp.lt (Nat.le_of_eq g135.symm))
  have ne_row_sa : row ≠ sa := Nat.ne_of_lt (Nat.lt_of_lt_of_le V_row.lt (Nat.le_of_eq g135.symm))
  replace Od := Od.ext E135
  replace V_exp := V_exp.ext E135
  replace V_row := V_row.ext E135
  replace Z0 := Nat.le_trans Z0 E135.1
  have E_sa := A135
  have F_coder_sa : Fld Z h135 sa "java/lang/String" "coder" "B" (.int (0 : Int32)) := D135 (Or.inr (hw _ (List.mem_of_getElem? (i := 59) rfl))) (ty := .byte) (by decide)
  have F_value_sa : Fld Z h135 sa "java/lang/String" "value" "[B" .null := D135 (Or.inr (hw _ (List.mem_of_getElem? (i := 61) rfl))) (ty := (.array .byte)) (by decide)
  show Go p e below _ (T135.setTop (mkF m 170 #[.val (.int p0), .val (.int p1), .val (.int (Int32.ofNat F)), .val (.int (Int32.ofNat A)), .val (.ref row), .val (.ref exp), .val (.int (Int32.ofNat Ln)), .val (.int (Int32.ofNat (A + Ln)))] [(.ref sa)]))
  show Go p e below _ (T135.setTop (mkF m 170 #[.val (.int p0), .val (.int p1), .val (.int (Int32.ofNat F)), .val (.int (Int32.ofNat A)), .val (.ref row), .val (.ref exp), .val (.int (Int32.ofNat Ln)), .val (.int (Int32.ofNat (A + Ln)))] [(.ref sa)]))
  refine Go.by (fun t => XS.dup X135.here hx rfl (hb hby at_170) rfl rfl) ?_
  show Go p e below _ (T135.setTop (mkF m 171 #[.val (.int p0), .val (.int p1), .val (.int (Int32.ofNat F)), .val (.int (Int32.ofNat A)), .val (.ref row), .val (.ref exp), .val (.int (Int32.ofNat Ln)), .val (.int (Int32.ofNat (A + Ln)))] [(.ref sa), (.ref sa)]))
  refine Go.by (fun t => XS.aload X135.here hx rfl (hb hby at_171) rfl rfl) ?_
  show Go p e below _ (T135.setTop (mkF m 173 #[.val (.int p0), .val (.int p1), .val (.int (Int32.ofNat F)), .val (.int (Int32.ofNat A)), .val (.ref row), .val (.ref exp), .val (.int (Int32.ofNat Ln)), .val (.int (Int32.ofNat (A + Ln)))] [(.ref row), (.ref sa), (.ref sa)]))
  obtain ⟨_, _, ⟨T136, L136, k136, n136⟩, -, X136, ⟨Lc136, hQ136, l136, y136, z136⟩, st136⟩ := X135.specialBack hx (y := (⟨"java/lang/String", "<init>", "([C)V"⟩ : MethodName)) rfl hown (mvT hZ (hw _ (List.mem_of_getElem? (i := 36) rfl))) (mvT hZ (hw _ (List.mem_of_getElem? (i := 37) rfl))) (mvT hZ (hw _ (List.mem_of_getElem? (i := 38) rfl))) (by decide) (StrChars.Road.backV (W := 1) hZ hws (kI := 4) (hw _ (List.mem_of_getElem? (i := 34) rfl)) (cs := (desL A F Ln 0)) (bs := ((desL A F Ln 0)).map (fun c => c.toInt8.toInt32)) (n := 20) g_sa Z0 E_sa F_value_sa F_coder_sa V_row (O2.ext Od.2) P5 (des_len A F Ln 0) rfl (by decide) (by decide) (des_p A F Ln 0) rfl (by decide) (by decide)) (g := (mkF m 173 #[.val (.int p0), .val (.int p1), .val (.int (Int32.ofNat F)), .val (.int (Int32.ofNat A)), .val (.ref row), .val (.ref exp), .val (.int (Int32.ofNat Ln)), .val (.int (Int32.ofNat (A + Ln)))] [(.ref row), (.ref sa), (.ref sa)])) rfl (by rw [hml]; rfl) (Steps.refl _) (a := sa) (argsL := [(.ref row)]) (rest := [(.ref sa)]) (lenOf pd_4 rfl) rfl (by show 2 * 0 + _ ≤ _; exact Nat.le_of_eq rfl) (hb hby at_173) (fun _ _ => ⟨rfl, e135, (by decide : 14 + 1 ≤ _), (by decide : 154 + 20 ≤ _)⟩)
  dsimp only [Pt.U, Pt.locs, Pt.cells, Pt.slots] at X136 l136 y136 z136 st136 hQ136
  subst l136 y136 z136
  obtain ⟨rfl, N136q, K136, E136n, F_coder_sa, t_sa, kb_sa, g_t_sa, sz_t_sa, ne_t_sa_sa, F_value_sa, V_t_sa⟩ := hQ136
  have ne_exp_t_sa : exp ≠ t_sa := Nat.ne_of_lt (Nat.lt_of_lt_of_le V_exp.lt sz_t_sa)
  have ne_row_t_sa : row ≠ t_sa := Nat.ne_of_lt (Nat.lt_of_lt_of_le V_row.lt sz_t_sa)
  have N136 := Fr.app N134 N136q
  refine Go.by (fun t => st136.trans) ?_
  replace Od := Od.keep K136 (allS g_sa all0)
  replace V_exp := V_exp.keep K136 (ninS ne_exp_sa nin0)
  replace V_row := V_row.keep K136 (ninS ne_row_sa nin0)
  replace E_sa := E_sa.keep K136
  replace Z0 := Nat.le_trans Z0 K136.1
  show Go p e below _ (T136.setTop (mkF m 176 #[.val (.int p0), .val (.int p1), .val (.int (Int32.ofNat F)), .val (.int (Int32.ofNat A)), .val (.ref row), .val (.ref exp), .val (.int (Int32.ofNat Ln)), .val (.int (Int32.ofNat (A + Ln)))] [(.ref sa)]))
  have S_sa : StrAt Z T136.heap sa (desL A F Ln 0) := ⟨t_sa, kb_sa, _, _, E_sa, F_value_sa, F_coder_sa, V_t_sa, StrChars.Road.codOf (n := 20) (des_len A F Ln 0) (fun c hc => ((des_p A F Ln 0) c hc).2), up _ (des_p A F Ln 0), (by rw [des_len]; decide)⟩
  show Go p e below _ (T136.setTop (mkF m 176 #[.val (.int p0), .val (.int p1), .val (.int (Int32.ofNat F)), .val (.int (Int32.ofNat A)), .val (.ref row), .val (.ref exp), .val (.int (Int32.ofNat Ln)), .val (.int (Int32.ofNat (A + Ln)))] [(.ref sa)]))
  obtain ⟨T137, h137, X137, e137, E137, A137, D137, -, st137⟩ := newO X136 hx hZ hown (hw _ (List.mem_of_getElem? (i := 33) rfl)) (hw _ (List.mem_of_getElem? (i := 34) rfl)) (hw _ (List.mem_of_getElem? (i := 35) rfl)) rfl (g := (mkF m 176 #[.val (.int p0), .val (.int p1), .val (.int (Int32.ofNat F)), .val (.int (Int32.ofNat A)), .val (.ref row), .val (.ref exp), .val (.int (Int32.ofNat Ln)), .val (.int (Int32.ofNat (A + Ln)))] [(.ref sa)])) rfl (hb hby at_176) (by decide) (by decide)
  obtain ⟨sb, g137⟩ : ∃ z, z = T136.heap.size := ⟨_, rfl⟩
  rw [← g137] at A137 D137 st137
  refine Go.by (fun t => st137 t) ?_
  have g_sb : n0 ≤ sb := Nat.le_trans Z0 (Nat.le_of_eq g137.symm)
  have ne_exp_sb : exp ≠ sb := Nat.ne_of_lt (Nat.lt_of_lt_of_le V_exp.lt (Nat.le_of_eq g137.symm))
  have ne_row_sb : row ≠ sb := Nat.ne_of_lt (Nat.lt_of_lt_of_le V_row.lt (Nat.le_of_eq g137.symm))
  have ne_sa_sb : sa ≠ sb := Nat.ne_of_lt (Nat.lt_of_lt_of_le S_sa.lt (Nat.le_of_eq g137.symm))
  replace Od := Od.ext E137
  replace V_exp := V_exp.ext E137
  replace V_row := V_row.ext E137
  replace S_sa := S_sa.ext E137
  replace Z0 := Nat.le_trans Z0 E137.1
  have E_sb := A137
  have F_coder_sb : Fld Z h137 sb "java/lang/String" "coder" "B" (.int (0 : Int32)) := D137 (Or.inr (hw _ (List.mem_of_getElem? (i := 59) rfl))) (ty := .byte) (by decide)
  have F_value_sb : Fld Z h137 sb "java/lang/String" "value" "[B" .null := D137 (Or.inr (hw _ (List.mem_of_getElem? (i := 61) rfl))) (ty := (.array .byte)) (by decide)
  show Go p e below _ (T137.setTop (mkF m 179 #[.val (.int p0), .val (.int p1), .val (.int (Int32.ofNat F)), .val (.int (Int32.ofNat A)), .val (.ref row), .val (.ref exp), .val (.int (Int32.ofNat Ln)), .val (.int (Int32.ofNat (A + Ln)))] [(.ref sb), (.ref sa)]))
  show Go p e below _ (T137.setTop (mkF m 179 #[.val (.int p0), .val (.int p1), .val (.int (Int32.ofNat F)), .val (.int (Int32.ofNat A)), .val (.ref row), .val (.ref exp), .val (.int (Int32.ofNat Ln)), .val (.int (Int32.ofNat (A + Ln)))] [(.ref sb), (.ref sa)]))
  refine Go.by (fun t => XS.dup X137.here hx rfl (hb hby at_179) rfl rfl) ?_
  show Go p e below _ (T137.setTop (mkF m 180 #[.val (.int p0), .val (.int p1), .val (.int (Int32.ofNat F)), .val (.int (Int32.ofNat A)), .val (.ref row), .val (.ref exp), .val (.int (Int32.ofNat Ln)), .val (.int (Int32.ofNat (A + Ln)))] [(.ref sb), (.ref sb), (.ref sa)]))
  refine Go.by (fun t => XS.aload X137.here hx rfl (hb hby at_180) rfl rfl) ?_
  show Go p e below _ (T137.setTop (mkF m 182 #[.val (.int p0), .val (.int p1), .val (.int (Int32.ofNat F)), .val (.int (Int32.ofNat A)), .val (.ref row), .val (.ref exp), .val (.int (Int32.ofNat Ln)), .val (.int (Int32.ofNat (A + Ln)))] [(.ref exp), (.ref sb), (.ref sb), (.ref sa)]))
  obtain ⟨_, _, ⟨T138, L138, k138, n138⟩, -, X138, ⟨Lc138, hQ138, l138, y138, z138⟩, st138⟩ := X137.specialBack hx (y := (⟨"java/lang/String", "<init>", "([C)V"⟩ : MethodName)) rfl hown (mvT hZ (hw _ (List.mem_of_getElem? (i := 36) rfl))) (mvT hZ (hw _ (List.mem_of_getElem? (i := 37) rfl))) (mvT hZ (hw _ (List.mem_of_getElem? (i := 38) rfl))) (by decide) (StrChars.Road.backV (W := 2) hZ hws (kI := 4) (hw _ (List.mem_of_getElem? (i := 34) rfl)) (cs := (desL A F Ln 0)) (bs := ((desL A F Ln 0)).map (fun c => c.toInt8.toInt32)) (n := 20) g_sb Z0 E_sb F_value_sb F_coder_sb V_exp (O2.ext Od.2) P5 (des_len A F Ln 0) rfl (by decide) (by decide) (des_p A F Ln 0) rfl (by decide) (by decide)) (g := (mkF m 182 #[.val (.int p0), .val (.int p1), .val (.int (Int32.ofNat F)), .val (.int (Int32.ofNat A)), .val (.ref row), .val (.ref exp), .val (.int (Int32.ofNat Ln)), .val (.int (Int32.ofNat (A + Ln)))] [(.ref exp), (.ref sb), (.ref sb), (.ref sa)])) rfl (by rw [hml]; rfl) (Steps.refl _) (a := sb) (argsL := [(.ref exp)]) (rest := [(.ref sb), (.ref sa)]) (lenOf pd_4 rfl) rfl (by show 2 * 0 + _ ≤ _; exact Nat.le_of_eq rfl) (hb hby at_182) (fun _ _ => ⟨rfl, e137, (by decide : 16 + 1 ≤ _), (by decide : 178 + 20 ≤ _)⟩)
  dsimp only [Pt.U, Pt.locs, Pt.cells, Pt.slots] at X138 l138 y138 z138 st138 hQ138
  subst l138 y138 z138
  obtain ⟨rfl, N138q, K138, E138n, F_coder_sb, t_sb, kb_sb, g_t_sb, sz_t_sb, ne_t_sb_sb, F_value_sb, V_t_sb⟩ := hQ138
  have ne_exp_t_sb : exp ≠ t_sb := Nat.ne_of_lt (Nat.lt_of_lt_of_le V_exp.lt sz_t_sb)
  have ne_row_t_sb : row ≠ t_sb := Nat.ne_of_lt (Nat.lt_of_lt_of_le V_row.lt sz_t_sb)
  have ne_sa_t_sb : sa ≠ t_sb := Nat.ne_of_lt (Nat.lt_of_lt_of_le S_sa.lt sz_t_sb)
  have N138 := Fr.app N136 N138q
  refine Go.by (fun t => st138.trans) ?_
  replace S_sa := S_sa.keep K138 (ninS ne_sa_sb nin0) (fun _ _ _ _ A => (ninS (Ne.symm (Exa.neArv E_sb A (hw _ (List.mem_of_getElem? (i := 34) rfl)))) nin0))
  replace Od := Od.keep K138 (allS g_sb all0)
  replace V_exp := V_exp.keep K138 (ninS ne_exp_sb nin0)
  replace V_row := V_row.keep K138 (ninS ne_row_sb nin0)
  replace E_sb := E_sb.keep K138
  replace Z0 := Nat.le_trans Z0 K138.1
  show Go p e below _ (T138.setTop (mkF m 185 #[.val (.int p0), .val (.int p1), .val (.int (Int32.ofNat F)), .val (.int (Int32.ofNat A)), .val (.ref row), .val (.ref exp), .val (.int (Int32.ofNat Ln)), .val (.int (Int32.ofNat (A + Ln)))] [(.ref sb), (.ref sa)]))
  have S_sb : StrAt Z T138.heap sb (desL A F Ln 0) := ⟨t_sb, kb_sb, _, _, E_sb, F_value_sb, F_coder_sb, V_t_sb, StrChars.Road.codOf (n := 20) (des_len A F Ln 0) (fun c hc => ((des_p A F Ln 0) c hc).2), up _ (des_p A F Ln 0), (by rw [des_len]; decide)⟩
  show Go p e below _ (T138.setTop (mkF m 185 #[.val (.int p0), .val (.int p1), .val (.int (Int32.ofNat F)), .val (.int (Int32.ofNat A)), .val (.ref row), .val (.ref exp), .val (.int (Int32.ofNat Ln)), .val (.int (Int32.ofNat (A + Ln)))] [(.ref sb), (.ref sa)]))
  obtain ⟨cq139, kq139, q139a, q139b, q139c⟩ := isOf hZ rfl S_sa.exa
  obtain ⟨_, _, ⟨T139, L139, k139, n139⟩, -, X139, ⟨Lc139, hQ139, l139, y139, z139⟩, st139⟩ := X138.virtualBack hx (y := (⟨"java/lang/String", "equals", "(Ljava/lang/Object;)Z"⟩ : MethodName)) (z := (⟨"java/lang/String", "equals", "(Ljava/lang/Object;)Z"⟩ : MethodName)) hown (mvT hZ (hw _ (List.mem_of_getElem? (i := 62) rfl))) (mvT hZ (hw _ (List.mem_of_getElem? (i := 63) rfl))) (notFace_of_selects (args := #[]) (mvT hZ (hw _ (List.mem_of_getElem? (i := 65) rfl)))) (mvT hZ (hw _ (List.mem_of_getElem? (i := 65) rfl))) (mvT hZ (hw _ (List.mem_of_getElem? (i := 64) rfl))) (by decide) (eqS (W := 0) hZ heq (hw _ (List.mem_of_getElem? (i := 34) rfl)) S_sa S_sb (O2.ext Od.2) P5 (by decide) (by decide)) q139a q139c (g := (mkF m 185 #[.val (.int p0), .val (.int p1), .val (.int (Int32.ofNat F)), .val (.int (Int32.ofNat A)), .val (.ref row), .val (.ref exp), .val (.int (Int32.ofNat Ln)), .val (.int (Int32.ofNat (A + Ln)))] [(.ref sb), (.ref sa)])) rfl (by rw [hml]; rfl) (Steps.refl _) (argsL := [(.ref sb)]) (rest := []) (lenOf pd_5 rfl) rfl (by show 2 * 0 + _ ≤ _; exact Nat.le_of_eq rfl) (hb hby at_185) (fun _ _ => ⟨rfl, rfl, (by decide : 17 + 0 ≤ _), (by decide : 198 + 0 ≤ _)⟩)
  dsimp only [Pt.U, Pt.locs, Pt.cells, Pt.slots] at X139 l139 y139 z139 st139 hQ139
  subst l139 y139 z139
  obtain ⟨hv139, rfl, e139⟩ := hQ139
  rw [if_pos rfl] at hv139
  subst hv139
  have Nq139 : Fr n0 ([] : List Loc) := Fr.nil n0
  have N139 := Fr.app N138 Nq139
  refine Go.by (fun t => st139.trans) ?_
  show Go p e below _ (T139.setTop (mkF m 188 #[.val (.int p0), .val (.int p1), .val (.int (Int32.ofNat F)), .val (.int (Int32.ofNat A)), .val (.ref row), .val (.ref exp), .val (.int (Int32.ofNat Ln)), .val (.int (Int32.ofNat (A + Ln)))] [(.int (1 : Int32))]))
  refine Go.by (fun t => XS.ifNo X139.here hx rfl (hb hby at_188) rfl ((if0 _ _).trans (feq (by decide : ¬ ((1 : Int32) = (0 : Int32)))).1)) ?_
  show Go p e below _ (T139.setTop (mkF m 191 #[.val (.int p0), .val (.int p1), .val (.int (Int32.ofNat F)), .val (.int (Int32.ofNat A)), .val (.ref row), .val (.ref exp), .val (.int (Int32.ofNat Ln)), .val (.int (Int32.ofNat (A + Ln)))] []))
  show Go p e below _ (T139.setTop (mkF m 191 #[.val (.int p0), .val (.int p1), .val (.int (Int32.ofNat F)), .val (.int (Int32.ofNat A)), .val (.ref row), .val (.ref exp), .val (.int (Int32.ofNat Ln)), .val (.int (Int32.ofNat (A + Ln)))] []))
  refine Go.by (fun t => XS.iconst X139.here hx rfl (hb hby at_191)) ?_
  show Go p e below _ (T139.setTop (mkF m 192 #[.val (.int p0), .val (.int p1), .val (.int (Int32.ofNat F)), .val (.int (Int32.ofNat A)), .val (.ref row), .val (.ref exp), .val (.int (Int32.ofNat Ln)), .val (.int (Int32.ofNat (A + Ln)))] [(.int (1 : Int32))]))
  refine Go.by (fun t => XS.goto X139.here hx rfl (pc0 := 192) (pc' := 196) rfl (hb hby at_192) (by decide) (by decide)) ?_
  show Go p e below _ (T139.setTop (mkF m 196 #[.val (.int p0), .val (.int p1), .val (.int (Int32.ofNat F)), .val (.int (Int32.ofNat A)), .val (.ref row), .val (.ref exp), .val (.int (Int32.ofNat Ln)), .val (.int (Int32.ofNat (A + Ln)))] [(.int (1 : Int32))]))
  exact Go.ret1 X139 hx Bd.returns Bd.notSynchronized (by first | rfl | decide) (Or.inl ⟨rfl, by simp, _, rfl⟩) (hb hby at_196) (by decide) (by decide) (by first | (rw [e139]; exact ⟨rfl, N139⟩) | exact ⟨rfl, N139⟩)
set_option maxRecDepth 65536 in
set_option maxHeartbeats 40000000 in
theorem comes_1 {Post : Tables → Env → Array Value → State → Outcome → State → Prop} (hpost : ∀ tb e args s v u, (limb_1_1.after args s (.returned v) u = true ∧ limb_1_2.after args s (.returned v) u = true ∧ True) → FrameEnd s (.returned v) u (Jvm.fieldLocs frame_1_writes args s ++ Jvm.arrayLocs frame_1_arrays args s ++ Jvm.staticLocs frame_1_statics s) 40 448 → Post tb e args s (.returned v) u) :
    ArmFor flags0 classFile x code maxLocals ret World_1 tables_1 room_1 Calls_1 rest_1 Pre_1 Post := by
  intro l hfl _ _ p e ha hc hk s m args below hf hA hF happ hP
  obtain ⟨hcalls, hrest, hpre⟩ := hP
  obtain ⟨-, -, -, hnamed, -, -, -, hat⟩ := (Spec.applies_iff hf).mp happ
  obtain ⟨hg, hn⟩ := and_e (Cond.before_iff.mp (show (Jvm.Cond.and given_1 narrow_1).before args s = true from hpre))
  obtain ⟨hcount, hgs⟩ := and_e hg
  obtain ⟨w0, w1, rfl⟩ : ∃ w0 w1 : Value, args = #[w0, w1] := by
    have hs : args.size = 2 := by simpa [Cond.value, given_1] using hcount
    obtain ⟨L⟩ := args
    match L, hs with
    | [w0, w1], _ => exact ⟨w0, w1, rfl⟩
  have hw := fun d (hd : d ∈ tables_1) => atoms_spec (ws := Jvm.Cond.code x code maxLocals ret :: tables_1) hat d (List.mem_cons_of_mem _ hd)
  have hfit : Fit s := fun {y c} hc i hi => by
    obtain ⟨ha, rfl⟩ := Array.getElem?_eq_some_iff.mp hc
    have q := List.all_eq_true.mp ((Array.all_eq_true_iff_forall_mem.mp hF) _ (Array.getElem_mem ha)) i (List.mem_range.mpr hi)
    simpa [Array.getElem?_eq_getElem hi] using q
  obtain ⟨ga0, gb0⟩ := and_e hgs
  obtain ⟨i0, ei0⟩ := is_v ga0
  obtain rfl : w0 = (.int i0) := Option.some.inj ei0
  obtain ⟨i1, ei1⟩ := is_v gb0
  obtain rfl : w1 = (.int i1) := Option.some.inj ei1
  obtain ⟨hsets, hown0⟩ := atoms_of _ (rest_1_c_eq ▸ (show rest_1_c.before _ s = true from hrest))
  obtain ⟨G_COMPACT_STRINGS, eG_COMPACT_STRINGS⟩ := is_v (Cond.before_iff.mp (hsets _ (List.mem_of_getElem? (i := 1) rfl)))
  have S_COMPACT_STRINGS : Sta s s.heap "java/lang/String" "COMPACT_STRINGS" "Z" (.int G_COMPACT_STRINGS) := Sta.start eG_COMPACT_STRINGS (Or.inl (hsets _ (List.mem_of_getElem? (i := 0) rfl)))
  have n_CS := not_v (Cond.before_iff.mp (hsets _ (List.mem_of_getElem? (i := 2) rfl)))
  have c_CS : ¬ (G_COMPACT_STRINGS = (0 : Int32)) := gotF (Cond.eq_ints eG_COMPACT_STRINGS (Term.int_eval (0))) n_CS
  obtain ⟨hn1, hn2⟩ := and_e hn
  obtain ⟨xa, ya, ea, fa, -⟩ := cmp_v (Or.inl hn1)
  obtain ⟨xb, yb, eb, fb, -⟩ := cmp_v (Or.inl hn2)
  have S_UF : Sta s s.heap "com/example/oneiros/oneiros/cli/FrameTime" "UNITS_PER_FRAME" "J" (.long (1 : Int64)) := Sta.start (sta_eqL hn1) (Or.inr ⟨(hw _ (List.mem_of_getElem? (i := 25) rfl)), (hw _ (List.mem_of_getElem? (i := 28) rfl))⟩)
  have S_US : Sta s s.heap "com/example/oneiros/oneiros/cli/FrameTime" "UNITS_PER_SECOND" "I" (.int (10 : Int32)) := Sta.start (sta_eqI hn2) (Or.inr ⟨(hw _ (List.mem_of_getElem? (i := 25) rfl)), (hw _ (List.mem_of_getElem? (i := 30) rfl))⟩)
  obtain ⟨n, o, h1, h2, h3, _, L, rfl, ⟨rfl, N⟩, hq⟩ := rm0 l s _ hw tables_1 i0 i1 G_COMPACT_STRINGS s.heap s.heap.size (Nat.le_refl _) (Old.start s) S_COMPACT_STRINGS c_CS S_UF S_US p e ha hc hk s m _ below hf ((Spec.applies_iff_loose hf).mp happ).1 ⟨rfl, State.Warmed39.refl s, rfl⟩ trivial
  refine ⟨n, _, h1, h2, h3, hpost _ _ _ _ _ _ ⟨Cond.after_iff.mpr rfl, Cond.after_iff.mpr (eq_i res_at (Term.int_eval (1)) rfl), trivial⟩ ⟨hq.1, hq.2.1, (hq.2.2.sift fun y hy => Or.inr (N y hy)).mono (by decide) (by decide)⟩⟩
theorem main_1_1 : Claimed_1_1 := comes_1 fun _ _ _ _ _ _ h hF => ⟨h.1, hF⟩
theorem main_1_2 : Claimed_1_2 := comes_1 fun _ _ _ _ _ _ h hF => ⟨h.2.1, hF⟩
end Jvm.Pilot.@@N@@
namespace Jvm.Pilot.@@N@@
open Jvm Jvm.ClassFile Sem Op Lib Jvm.Free Jvm.Stand Jvm.Pilot.@@N@@.Jvm.D
/-! MADE BY PROGRAM (witnessworld.py) out of the Statement's table words and the real class files: 23 classes; the members and pool entries that the words name. The judged class is class 1, her method 1. -/
namespace start1
open Jvm.ClassFile
def u (s : String) : CpInfo := .utf8 (stringToUtf16 s)
/-- a pool by its gaps: so many unusable entries, then the entry; so many at the end -/
def gap : Nat → List CpInfo → List CpInfo
  | 0, r => r
  | n + 1, r => .unusable :: gap n r
def poolList (es : List (Nat × CpInfo)) (last : Nat) : List CpInfo := es.foldr (fun e r => gap e.1 (e.2 :: r)) (gap last [])
def pool (es : List (Nat × CpInfo)) (last : Nat) : Array CpInfo := ⟨poolList es last⟩
def fileOf (pool : Array CpInfo) (this : Nat) (attrs : Array Attribute := #[]) (ms : Array MethodInfo := #[]) (fl : Nat := 33) (sup : Nat := 0) (ifs : Array Nat := #[]) (fds : Array FieldInfo := #[]) : ClassFile where
  minorVersion := 0
  majorVersion := 65
  constantPool := pool
  accessFlags := fl
  thisClass := this
  superClass := sup
  interfaces := ifs
  fields := fds
  methods := ms
  attributes := attrs
def plain (name : String) (sup : Option ClassId) : Class where
  name := name
  kind := .ordinary
  loader := none
  accessFlags := 33
  super := sup
  interfaces := #[]
  cf := none
  fields := #[]
  methods := #[]
  instanceTypes := #[]
  staticTypes := #[]
  resolved := #[]
  callSites := []
  init := .initialized
  statics := none
  mirror := none

def pool0 : Array CpInfo := pool [(5, u "<init>"), (0, u "()V"), (1, .class_ 10), (1, u "java/lang/Object")] 113

def k0c0 : Code := { maxStack := 0, maxLocals := 1, code := object_method_1_code, exceptionTable := #[], attributes := #[] }
def k0m0 : Method := { name := "<init>", desc := "()V", sig := { parameters := [], returnType := none }, accessFlags := 1, code := some k0c0 }
/-- java/lang/Object -/
def k0 : Class := { plain "java/lang/Object" none with
  accessFlags := 33
  interfaces := #[]
  cf := some (fileOf pool0 8 #[] #[{ accessFlags := 1, nameIndex := 5, descriptorIndex := 6, attributes := #[] }] 33 0 #[] #[])
  fields := #[]
  methods := #[k0m0]
  instanceTypes := #[]
  staticTypes := #[]
  resolved := Array.replicate 124 none
  statics := none }

def pool1 : Array CpInfo := pool [(2, .class_ 4), (1, u "java/lang/Object"), (0, u "<init>"), (0, u "()V"), (0, .integer 2147483647), (0, .methodref 9 10), (0, .class_ 11), (0, .nameAndType 12 13), (0, u "com/example/oneiros/oneiros/cli/FrameTimeWriteSecondsPinLaw"), (0, u "digits"), (0, u "(I)I"), (0, .methodref 15 16), (0, .class_ 17), (0, .nameAndType 18 19), (0, u "java/lang/Math"), (0, u "max"), (0, u "(II)I"), (0, .methodref 9 21), (0, .nameAndType 22 23), (0, u "put"), (0, u "([CIIII)V"), (0, .methodref 25 26), (0, .class_ 27), (0, .nameAndType 28 29), (0, u "com/example/oneiros/oneiros/cli/FrameTime"), (0, u "writeSeconds"), (0, u "([CII)I"), (0, .class_ 31), (0, u "java/lang/String"), (0, .methodref 30 33), (0, .nameAndType 5 34), (0, u "([C)V"), (0, .methodref 30 36), (0, .nameAndType 37 38), (0, u "equals"), (0, u "(Ljava/lang/Object;)Z"), (0, .integer 100000), (0, .integer 1000000), (0, .integer 10000000), (0, .integer 100000000), (0, .integer 1000000000), (0, .long 10), (1, .long 100), (1, .long 1000), (1, .long 10000), (1, .long 100000), (1, .long 1000000), (1, .long 10000000), (1, .long 100000000), (1, .long 1000000000), (3, u "law"), (0, u "(II)Z")] 5

def k1m0 : Method := { name := "<init>", desc := "()V", sig := { parameters := [], returnType := none }, accessFlags := 2, code := none }
def k1c1 : Code := { maxStack := 5, maxLocals := 8, code := code, exceptionTable := #[], attributes := #[] }
def k1m1 : Method := { name := "law", desc := "(II)Z", sig := { parameters := [.int, .int], returnType := some .boolean }, accessFlags := 9, code := some k1c1 }
def k1c2 : Code := { maxStack := 2, maxLocals := 1, code := method_3_code, exceptionTable := #[], attributes := #[] }
def k1m2 : Method := { name := "digits", desc := "(I)I", sig := { parameters := [.int], returnType := some .int }, accessFlags := 10, code := some k1c2 }
def k1c3 : Code := { maxStack := 7, maxLocals := 9, code := method_4_code, exceptionTable := #[], attributes := #[] }
def k1m3 : Method := { name := "put", desc := "([CIIII)V", sig := { parameters := [(.array .char), .int, .int, .int, .int], returnType := none }, accessFlags := 10, code := some k1c3 }
/-- com/example/oneiros/oneiros/cli/FrameTimeWriteSecondsPinLaw -/
def k1 : Class := { plain "com/example/oneiros/oneiros/cli/FrameTimeWriteSecondsPinLaw" (some 0) with
  accessFlags := 49
  interfaces := #[]
  cf := some (fileOf pool1 9 #[] #[{ accessFlags := 2, nameIndex := 5, descriptorIndex := 6, attributes := #[] }, { accessFlags := 9, nameIndex := 64, descriptorIndex := 65, attributes := #[] }, { accessFlags := 10, nameIndex := 12, descriptorIndex := 13, attributes := #[] }, { accessFlags := 10, nameIndex := 22, descriptorIndex := 23, attributes := #[] }] 49 2 #[] #[])
  fields := #[]
  methods := #[k1m0, k1m1, k1m2, k1m3]
  instanceTypes := #[]
  staticTypes := #[]
  resolved := Array.replicate 71 none
  statics := none }

def pool2 : Array CpInfo := pool [(1, .class_ 2), (0, u "java/lang/Math"), (1, .class_ 6), (1, u "java/lang/Object"), (0, u "<init>"), (0, u "()V"), (89, .class_ 100), (1, u "java/lang/Math$RandomNumberGeneratorHolder"), (71, u "negativeZeroFloatBits"), (0, u "J"), (2, u "negativeZeroDoubleBits"), (21, u "max"), (46, u "$assertionsDisabled"), (0, u "Z"), (88, u "(II)I"), (2, u "twoToTheDoubleScaleDown"), (0, u "D"), (4, u "twoToTheDoubleScaleUp"), (9, u "E"), (3, u "PI"), (2, u "TAU"), (2, u "DEGREES_TO_RADIANS"), (0, u "RADIANS_TO_DEGREES")] 94

def k2m0 : Method := { name := "<init>", desc := "()V", sig := { parameters := [], returnType := none }, accessFlags := 2, code := none }
def k2c1 : Code := { maxStack := 2, maxLocals := 2, code := jdk_29_method_65_code, exceptionTable := #[], attributes := #[] }
def k2m1 : Method := { name := "max", desc := "(II)I", sig := { parameters := [.int, .int], returnType := some .int }, accessFlags := 9, code := some k2c1 }
/-- java/lang/Math -/
def k2 : Class := { plain "java/lang/Math" (some 0) with
  accessFlags := 49
  interfaces := #[]
  cf := some (fileOf pool2 1 #[.nestMembers #[98]] #[{ accessFlags := 2, nameIndex := 7, descriptorIndex := 8, attributes := #[] }, { accessFlags := 9, nameIndex := 198, descriptorIndex := 335, attributes := #[] }] 49 4 #[] #[{ accessFlags := 25, nameIndex := 354, descriptorIndex := 339, attributes := #[] }, { accessFlags := 25, nameIndex := 358, descriptorIndex := 339, attributes := #[] }, { accessFlags := 25, nameIndex := 361, descriptorIndex := 339, attributes := #[] }, { accessFlags := 26, nameIndex := 364, descriptorIndex := 339, attributes := #[] }, { accessFlags := 26, nameIndex := 365, descriptorIndex := 339, attributes := #[] }, { accessFlags := 26, nameIndex := 172, descriptorIndex := 173, attributes := #[] }, { accessFlags := 26, nameIndex := 176, descriptorIndex := 173, attributes := #[] }, { accessFlags := 8, nameIndex := 344, descriptorIndex := 339, attributes := #[] }, { accessFlags := 8, nameIndex := 338, descriptorIndex := 339, attributes := #[] }, { accessFlags := 4120, nameIndex := 245, descriptorIndex := 246, attributes := #[] }])
  fields := #[{ name := "E", type := .double, accessFlags := 25, slot := 0, constantValue := 0 }, { name := "PI", type := .double, accessFlags := 25, slot := 1, constantValue := 0 }, { name := "TAU", type := .double, accessFlags := 25, slot := 2, constantValue := 0 }, { name := "DEGREES_TO_RADIANS", type := .double, accessFlags := 26, slot := 3, constantValue := 0 }, { name := "RADIANS_TO_DEGREES", type := .double, accessFlags := 26, slot := 4, constantValue := 0 }, { name := "negativeZeroFloatBits", type := .long, accessFlags := 26, slot := 5, constantValue := 0 }, { name := "negativeZeroDoubleBits", type := .long, accessFlags := 26, slot := 6, constantValue := 0 }, { name := "twoToTheDoubleScaleUp", type := .double, accessFlags := 8, slot := 7, constantValue := 0 }, { name := "twoToTheDoubleScaleDown", type := .double, accessFlags := 8, slot := 8, constantValue := 0 }, { name := "$assertionsDisabled", type := .boolean, accessFlags := 4120, slot := 9, constantValue := 0 }]
  methods := #[k2m0, k2m1]
  instanceTypes := #[]
  staticTypes := #[.double, .double, .double, .double, .double, .long, .long, .double, .double, .boolean]
  resolved := Array.replicate 460 none
  statics := none }

def pool3 : Array CpInfo := pool [(1, .class_ 2), (0, u "com/example/oneiros/oneiros/cli/FrameTime"), (1, .class_ 6), (1, u "java/lang/Object"), (0, u "<init>"), (0, u "()V"), (0, .fieldref 1 10), (0, .nameAndType 11 12), (0, u "UNITS_PER_FRAME"), (0, u "J"), (6, .fieldref 1 20), (0, .nameAndType 21 22), (0, u "UNITS_PER_SECOND"), (0, u "I"), (0, .long 10), (1, .long 48), (53, u "LONGEST"), (0, u "DECIMALS"), (4, u "writeSeconds"), (0, u "([CII)I")] 8

def k3m0 : Method := { name := "<init>", desc := "()V", sig := { parameters := [], returnType := none }, accessFlags := 2, code := none }
def k3c1 : Code := { maxStack := 8, maxLocals := 11, code := prog_32_method_3_code, exceptionTable := #[], attributes := #[] }
def k3m1 : Method := { name := "writeSeconds", desc := "([CII)I", sig := { parameters := [(.array .char), .int, .int], returnType := some .int }, accessFlags := 8, code := some k3c1 }
/-- com/example/oneiros/oneiros/cli/FrameTime -/
def k3 : Class := { plain "com/example/oneiros/oneiros/cli/FrameTime" (some 0) with
  accessFlags := 48
  interfaces := #[]
  cf := some (fileOf pool3 1 #[] #[{ accessFlags := 2, nameIndex := 7, descriptorIndex := 8, attributes := #[] }, { accessFlags := 8, nameIndex := 85, descriptorIndex := 86, attributes := #[] }] 48 4 #[] #[{ accessFlags := 24, nameIndex := 80, descriptorIndex := 22, attributes := #[] }, { accessFlags := 26, nameIndex := 21, descriptorIndex := 22, attributes := #[] }, { accessFlags := 26, nameIndex := 11, descriptorIndex := 12, attributes := #[] }, { accessFlags := 24, nameIndex := 79, descriptorIndex := 22, attributes := #[] }])
  fields := #[{ name := "DECIMALS", type := .int, accessFlags := 24, slot := 0, constantValue := 0 }, { name := "UNITS_PER_SECOND", type := .int, accessFlags := 26, slot := 1, constantValue := 0 }, { name := "UNITS_PER_FRAME", type := .long, accessFlags := 26, slot := 2, constantValue := 0 }, { name := "LONGEST", type := .int, accessFlags := 24, slot := 3, constantValue := 0 }]
  methods := #[k3m0, k3m1]
  instanceTypes := #[]
  staticTypes := #[.int, .int, .long, .int]
  resolved := Array.replicate 95 none
  statics := some 0 }

def pool4 : Array CpInfo := pool [(1, .class_ 2), (0, u "java/io/Serializable"), (0, .class_ 4), (0, u "java/lang/Object")] 2

/-- java/io/Serializable -/
def k4 : Class := { plain "java/io/Serializable" (some 0) with
  accessFlags := 1537
  interfaces := #[]
  cf := some (fileOf pool4 1 #[] #[] 1537 3 #[] #[])
  fields := #[]
  methods := #[]
  instanceTypes := #[]
  staticTypes := #[]
  resolved := Array.replicate 7 none
  statics := none }

def pool5 : Array CpInfo := pool [(1, .class_ 2), (0, u "java/lang/Comparable"), (0, .class_ 4), (0, u "java/lang/Object")] 7

/-- java/lang/Comparable -/
def k5 : Class := { plain "java/lang/Comparable" (some 0) with
  accessFlags := 1537
  interfaces := #[]
  cf := some (fileOf pool5 1 #[] #[] 1537 3 #[] #[])
  fields := #[]
  methods := #[]
  instanceTypes := #[]
  staticTypes := #[]
  resolved := Array.replicate 12 none
  statics := none }

def pool6 : Array CpInfo := pool [(2, .class_ 4), (1, u "java/lang/CharSequence"), (42, .class_ 48), (0, u "java/lang/CharSequence$1CodePointIterator"), (10, .class_ 60), (0, u "java/lang/CharSequence$1CharIterator"), (5, .class_ 67), (0, u "java/lang/Object")] 63

/-- java/lang/CharSequence -/
def k6 : Class := { plain "java/lang/CharSequence" (some 0) with
  accessFlags := 1537
  interfaces := #[]
  cf := some (fileOf pool6 2 #[.nestMembers #[47, 59]] #[] 1537 66 #[] #[])
  fields := #[]
  methods := #[]
  instanceTypes := #[]
  staticTypes := #[]
  resolved := Array.replicate 131 none
  statics := none }

def pool7 : Array CpInfo := pool [(1, .class_ 2), (0, u "java/lang/constant/Constable"), (0, .class_ 4), (0, u "java/lang/Object")] 6

/-- java/lang/constant/Constable -/
def k7 : Class := { plain "java/lang/constant/Constable" (some 0) with
  accessFlags := 1537
  interfaces := #[]
  cf := some (fileOf pool7 1 #[] #[] 1537 3 #[] #[])
  fields := #[]
  methods := #[]
  instanceTypes := #[]
  staticTypes := #[]
  resolved := Array.replicate 11 none
  statics := none }

def pool8 : Array CpInfo := pool [(1, .class_ 2), (0, u "java/lang/constant/ConstantDesc"), (0, .class_ 4), (0, u "java/lang/Object")] 32

/-- java/lang/constant/ConstantDesc -/
def k8 : Class := { plain "java/lang/constant/ConstantDesc" (some 0) with
  accessFlags := 1537
  interfaces := #[]
  cf := some (fileOf pool8 1 #[] #[] 1537 3 #[] #[])
  fields := #[]
  methods := #[]
  instanceTypes := #[]
  staticTypes := #[]
  resolved := Array.replicate 37 none
  statics := none }

def pool9 : Array CpInfo := pool [(1, .methodref 2 3), (0, .class_ 4), (0, .nameAndType 5 6), (0, u "java/lang/Object"), (0, u "<init>"), (0, u "()V"), (2, .fieldref 10 11), (0, .class_ 12), (0, .nameAndType 13 14), (0, u "java/lang/String"), (0, u "value"), (0, u "[B"), (0, .fieldref 10 16), (0, .nameAndType 17 18), (0, u "coder"), (0, u "B"), (2, u "hash"), (0, u "I"), (2, u "hashIsZero"), (0, u "Z"), (0, .methodref 10 28), (0, .nameAndType 5 29), (0, u "([CIILjava/lang/Void;)V"), (8, .fieldref 10 39), (0, .nameAndType 40 26), (0, u "COMPACT_STRINGS"), (1, .class_ 44), (1, u "java/lang/StringUTF16"), (0, u "compress"), (1, .methodref 42 48), (0, .nameAndType 49 50), (0, u "coderFromArrayLen"), (0, u "([BI)B"), (56, .class_ 109), (1, u "java/lang/StringLatin1"), (67, .methodref 42 178), (0, .nameAndType 45 179), (0, u "([CII)[B"), (361, .methodref 107 542), (0, .nameAndType 543 544), (0, u "equals"), (0, u "([B[B)Z"), (28, u "(Ljava/lang/Object;)Z"), (1, .class_ 576), (0, u "java/lang/CharSequence"), (22, u "CASE_INSENSITIVE_ORDER"), (0, u "Ljava/util/Comparator;"), (409, u "([C)V"), (90, u "serialPersistentFields"), (0, u "[Ljava/io/ObjectStreamField;"), (0, .class_ 1104), (0, u "java/lang/String$CaseInsensitiveComparator"), (1, .class_ 1107), (0, u "java/io/Serializable"), (0, .class_ 1109), (0, u "java/lang/Comparable"), (0, .class_ 1111), (0, u "java/lang/constant/Constable"), (0, .class_ 1113), (0, u "java/lang/constant/ConstantDesc"), (2, u "serialVersionUID"), (0, u "J"), (3, u "REPL"), (0, u "C"), (2, u "LATIN1"), (1, u "UTF16")] 323

def k9m0 : Method := { name := "<init>", desc := "()V", sig := { parameters := [], returnType := none }, accessFlags := 1, code := none }
def k9c1 : Code := { maxStack := 5, maxLocals := 2, code := jdk_42_method_3_code, exceptionTable := #[], attributes := #[] }
def k9m1 : Method := { name := "<init>", desc := "([C)V", sig := { parameters := [(.array .char)], returnType := none }, accessFlags := 1, code := some k9c1 }
def k9c2 : Code := { maxStack := 2, maxLocals := 3, code := jdk_42_method_66_code, exceptionTable := #[], attributes := #[] }
def k9m2 : Method := { name := "equals", desc := "(Ljava/lang/Object;)Z", sig := { parameters := [(.object "java/lang/Object")], returnType := some .boolean }, accessFlags := 1, code := some k9c2 }
def k9c3 : Code := { maxStack := 4, maxLocals := 6, code := jdk_42_method_149_code, exceptionTable := #[], attributes := #[] }
def k9m3 : Method := { name := "<init>", desc := "([CIILjava/lang/Void;)V", sig := { parameters := [(.array .char), .int, .int, (.object "java/lang/Void")], returnType := none }, accessFlags := 2, code := some k9c3 }
/-- java/lang/String -/
def k9 : Class := { plain "java/lang/String" (some 0) with
  accessFlags := 49
  interfaces := #[4, 5, 6, 7, 8]
  cf := some (fileOf pool9 10 #[.nestMembers #[1103]] #[{ accessFlags := 1, nameIndex := 5, descriptorIndex := 6, attributes := #[] }, { accessFlags := 1, nameIndex := 5, descriptorIndex := 1010, attributes := #[] }, { accessFlags := 1, nameIndex := 543, descriptorIndex := 573, attributes := #[] }, { accessFlags := 2, nameIndex := 5, descriptorIndex := 29, attributes := #[] }] 49 2 #[1106, 1108, 575, 1110, 1112] #[{ accessFlags := 18, nameIndex := 13, descriptorIndex := 14, attributes := #[] }, { accessFlags := 18, nameIndex := 17, descriptorIndex := 18, attributes := #[] }, { accessFlags := 2, nameIndex := 21, descriptorIndex := 22, attributes := #[] }, { accessFlags := 2, nameIndex := 25, descriptorIndex := 26, attributes := #[] }, { accessFlags := 26, nameIndex := 1116, descriptorIndex := 1117, attributes := #[] }, { accessFlags := 24, nameIndex := 40, descriptorIndex := 26, attributes := #[] }, { accessFlags := 26, nameIndex := 1101, descriptorIndex := 1102, attributes := #[] }, { accessFlags := 26, nameIndex := 1121, descriptorIndex := 1122, attributes := #[] }, { accessFlags := 25, nameIndex := 599, descriptorIndex := 600, attributes := #[] }, { accessFlags := 24, nameIndex := 1125, descriptorIndex := 18, attributes := #[] }, { accessFlags := 24, nameIndex := 1127, descriptorIndex := 18, attributes := #[] }])
  fields := #[{ name := "value", type := (.array .byte), accessFlags := 18, slot := 0, constantValue := 0 }, { name := "coder", type := .byte, accessFlags := 18, slot := 1, constantValue := 0 }, { name := "hash", type := .int, accessFlags := 2, slot := 2, constantValue := 0 }, { name := "hashIsZero", type := .boolean, accessFlags := 2, slot := 3, constantValue := 0 }, { name := "serialVersionUID", type := .long, accessFlags := 26, slot := 0, constantValue := 0 }, { name := "COMPACT_STRINGS", type := .boolean, accessFlags := 24, slot := 1, constantValue := 0 }, { name := "serialPersistentFields", type := (.array (.object "java/io/ObjectStreamField")), accessFlags := 26, slot := 2, constantValue := 0 }, { name := "REPL", type := .char, accessFlags := 26, slot := 3, constantValue := 0 }, { name := "CASE_INSENSITIVE_ORDER", type := (.object "java/util/Comparator"), accessFlags := 25, slot := 4, constantValue := 0 }, { name := "LATIN1", type := .byte, accessFlags := 24, slot := 5, constantValue := 0 }, { name := "UTF16", type := .byte, accessFlags := 24, slot := 6, constantValue := 0 }]
  methods := #[k9m0, k9m1, k9m2, k9m3]
  instanceTypes := #[(.array .byte), .byte, .int, .boolean]
  staticTypes := #[.long, .boolean, (.array (.object "java/io/ObjectStreamField")), .char, (.object "java/util/Comparator"), .byte, .byte]
  resolved := Array.replicate 1451 none
  statics := some 1 }

def pool10 : Array CpInfo := pool [(6, .class_ 8), (1, u "java/lang/Object"), (0, u "<init>"), (0, u "()V"), (1, .class_ 14), (1, u "java/lang/StringUTF16"), (31, u "$assertionsDisabled"), (0, u "Z"), (13, u "HI_BYTE_SHIFT"), (0, u "I"), (2, u "LO_BYTE_SHIFT"), (49, .methodref 12 116), (0, .nameAndType 117 118), (0, u "compress"), (0, u "([CI[BII)I"), (3, u "([CII)[B"), (138, u "coderFromArrayLen"), (0, u "([BI)B"), (106, .class_ 371), (1, u "java/lang/StringUTF16$LinesSpliterator"), (58, u "MAX_LENGTH"), (196, .class_ 628), (0, u "java/lang/StringUTF16$CodePointsSpliterator"), (0, .class_ 630), (0, u "java/lang/StringUTF16$CharsSpliterator")] 4

def k10m0 : Method := { name := "<init>", desc := "()V", sig := { parameters := [], returnType := none }, accessFlags := 0, code := none }
def k10c1 : Code := { maxStack := 2, maxLocals := 2, code := jdk_52_method_15_code, exceptionTable := #[], attributes := #[] }
def k10m1 : Method := { name := "coderFromArrayLen", desc := "([BI)B", sig := { parameters := [(.array .byte), .int], returnType := some .byte }, accessFlags := 8, code := some k10c1 }
def k10c2 : Code := { maxStack := 5, maxLocals := 6, code := jdk_52_method_16_code, exceptionTable := #[], attributes := #[] }
def k10m2 : Method := { name := "compress", desc := "([CII)[B", sig := { parameters := [(.array .char), .int, .int], returnType := some (.array .byte) }, accessFlags := 9, code := some k10c2 }
def k10c3 : Code := { maxStack := 3, maxLocals := 7, code := jdk_52_method_21_code, exceptionTable := #[], attributes := #[] }
def k10m3 : Method := { name := "compress", desc := "([CI[BII)I", sig := { parameters := [(.array .char), .int, (.array .byte), .int, .int], returnType := some .int }, accessFlags := 9, code := some k10c3 }
/-- java/lang/StringUTF16 -/
def k10 : Class := { plain "java/lang/StringUTF16" (some 0) with
  accessFlags := 48
  interfaces := #[]
  cf := some (fileOf pool10 12 #[.nestMembers #[627, 629, 369]] #[{ accessFlags := 0, nameIndex := 9, descriptorIndex := 10, attributes := #[] }, { accessFlags := 8, nameIndex := 261, descriptorIndex := 262, attributes := #[] }, { accessFlags := 9, nameIndex := 117, descriptorIndex := 122, attributes := #[] }, { accessFlags := 9, nameIndex := 117, descriptorIndex := 118, attributes := #[] }] 48 6 #[] #[{ accessFlags := 26, nameIndex := 61, descriptorIndex := 62, attributes := #[] }, { accessFlags := 26, nameIndex := 65, descriptorIndex := 62, attributes := #[] }, { accessFlags := 24, nameIndex := 430, descriptorIndex := 62, attributes := #[] }, { accessFlags := 4120, nameIndex := 46, descriptorIndex := 47, attributes := #[] }])
  fields := #[{ name := "HI_BYTE_SHIFT", type := .int, accessFlags := 26, slot := 0, constantValue := 0 }, { name := "LO_BYTE_SHIFT", type := .int, accessFlags := 26, slot := 1, constantValue := 0 }, { name := "MAX_LENGTH", type := .int, accessFlags := 24, slot := 2, constantValue := 0 }, { name := "$assertionsDisabled", type := .boolean, accessFlags := 4120, slot := 3, constantValue := 0 }]
  methods := #[k10m0, k10m1, k10m2, k10m3]
  instanceTypes := #[]
  staticTypes := #[.int, .int, .int, .boolean]
  resolved := Array.replicate 635 none
  statics := none }

def pool11 : Array CpInfo := pool [(4, .class_ 6), (1, u "java/lang/Object"), (0, u "<init>"), (0, u "()V"), (5, .class_ 16), (1, u "java/lang/StringLatin1"), (104, u "$assertionsDisabled"), (0, u "Z"), (98, .class_ 223), (1, u "java/lang/StringLatin1$LinesSpliterator"), (57, u "equals"), (0, u "([B[B)Z"), (107, .class_ 391), (0, u "java/lang/StringLatin1$CharsSpliterator")] 3

def k11m0 : Method := { name := "<init>", desc := "()V", sig := { parameters := [], returnType := none }, accessFlags := 0, code := none }
def k11c1 : Code := { maxStack := 3, maxLocals := 3, code := jdk_43_method_13_code, exceptionTable := #[], attributes := #[] }
def k11m1 : Method := { name := "equals", desc := "([B[B)Z", sig := { parameters := [(.array .byte), (.array .byte)], returnType := some .boolean }, accessFlags := 9, code := some k11c1 }
/-- java/lang/StringLatin1 -/
def k11 : Class := { plain "java/lang/StringLatin1" (some 0) with
  accessFlags := 48
  interfaces := #[]
  cf := some (fileOf pool11 14 #[.nestMembers #[390, 221]] #[{ accessFlags := 0, nameIndex := 7, descriptorIndex := 8, attributes := #[] }, { accessFlags := 9, nameIndex := 281, descriptorIndex := 282, attributes := #[] }] 48 4 #[] #[{ accessFlags := 4120, nameIndex := 121, descriptorIndex := 122, attributes := #[] }])
  fields := #[{ name := "$assertionsDisabled", type := .boolean, accessFlags := 4120, slot := 0, constantValue := 0 }]
  methods := #[k11m0, k11m1]
  instanceTypes := #[]
  staticTypes := #[.boolean]
  resolved := Array.replicate 395 none
  statics := none }

def pool12 : Array CpInfo := pool [(2, .class_ 4), (1, u "java/lang/Object"), (0, u "<init>"), (0, u "()V"), (17, .class_ 26), (1, u "jdk/internal/util/Preconditions"), (28, .class_ 56), (0, u "jdk/internal/util/Preconditions$4"), (57, .class_ 115), (0, u "jdk/internal/util/Preconditions$1"), (7, u "SIOOBE_FORMATTER"), (0, u "Ljava/util/function/BiFunction;"), (0, .class_ 126), (0, u "jdk/internal/util/Preconditions$2"), (3, u "AIOOBE_FORMATTER"), (0, .class_ 132), (0, u "jdk/internal/util/Preconditions$3"), (3, u "IOOBE_FORMATTER")] 57

def k12m0 : Method := { name := "<init>", desc := "()V", sig := { parameters := [], returnType := none }, accessFlags := 1, code := none }
/-- jdk/internal/util/Preconditions -/
def k12 : Class := { plain "jdk/internal/util/Preconditions" (some 0) with
  accessFlags := 33
  interfaces := #[]
  cf := some (fileOf pool12 24 #[.nestMembers #[55, 131, 125, 114]] #[{ accessFlags := 1, nameIndex := 5, descriptorIndex := 6, attributes := #[] }] 33 2 #[] #[{ accessFlags := 25, nameIndex := 123, descriptorIndex := 124, attributes := #[] }, { accessFlags := 25, nameIndex := 130, descriptorIndex := 124, attributes := #[] }, { accessFlags := 25, nameIndex := 136, descriptorIndex := 124, attributes := #[] }])
  fields := #[{ name := "SIOOBE_FORMATTER", type := (.object "java/util/function/BiFunction"), accessFlags := 25, slot := 0, constantValue := 0 }, { name := "AIOOBE_FORMATTER", type := (.object "java/util/function/BiFunction"), accessFlags := 25, slot := 1, constantValue := 0 }, { name := "IOOBE_FORMATTER", type := (.object "java/util/function/BiFunction"), accessFlags := 25, slot := 2, constantValue := 0 }]
  methods := #[k12m0]
  instanceTypes := #[]
  staticTypes := #[(.object "java/util/function/BiFunction"), (.object "java/util/function/BiFunction"), (.object "java/util/function/BiFunction")]
  resolved := Array.replicate 194 none
  statics := some 2 }

def pool13 : Array CpInfo := pool [(9, u "<init>"), (6, .class_ 18), (1, u "java/lang/Object"), (0, u "()V"), (1, .class_ 23), (1, u "jdk/internal/util/ArraysSupport"), (0, u "LOG2_ARRAY_LONG_INDEX_SCALE"), (0, u "I"), (2, u "U"), (0, u "Ljdk/internal/misc/Unsafe;"), (8, u "BIG_ENDIAN"), (0, u "Z"), (8, u "LOG2_BYTE_BIT_SIZE"), (4, u "LOG2_ARRAY_INT_INDEX_SCALE"), (54, u "JLA"), (0, u "Ljdk/internal/access/JavaLangAccess;"), (11, u "LOG2_ARRAY_BOOLEAN_INDEX_SCALE"), (9, u "LOG2_ARRAY_BYTE_INDEX_SCALE"), (5, u "LOG2_ARRAY_CHAR_INDEX_SCALE"), (5, u "LOG2_ARRAY_SHORT_INDEX_SCALE"), (18, u "LOG2_ARRAY_FLOAT_INDEX_SCALE"), (24, u "LOG2_ARRAY_DOUBLE_INDEX_SCALE"), (89, u "T_BOOLEAN"), (2, u "T_CHAR"), (1, u "T_FLOAT"), (1, u "T_DOUBLE"), (1, u "T_BYTE"), (1, u "T_SHORT"), (1, u "T_INT"), (1, u "T_LONG"), (1, u "SOFT_MAX_ARRAY_LENGTH")] 83

def k13m0 : Method := { name := "<init>", desc := "()V", sig := { parameters := [], returnType := none }, accessFlags := 2, code := none }
/-- jdk/internal/util/ArraysSupport -/
def k13 : Class := { plain "jdk/internal/util/ArraysSupport" (some 0) with
  accessFlags := 33
  interfaces := #[]
  cf := some (fileOf pool13 21 #[] #[{ accessFlags := 2, nameIndex := 9, descriptorIndex := 19, attributes := #[] }] 33 16 #[] #[{ accessFlags := 24, nameIndex := 28, descriptorIndex := 29, attributes := #[] }, { accessFlags := 26, nameIndex := 38, descriptorIndex := 39, attributes := #[] }, { accessFlags := 25, nameIndex := 121, descriptorIndex := 25, attributes := #[] }, { accessFlags := 25, nameIndex := 131, descriptorIndex := 25, attributes := #[] }, { accessFlags := 25, nameIndex := 137, descriptorIndex := 25, attributes := #[] }, { accessFlags := 25, nameIndex := 143, descriptorIndex := 25, attributes := #[] }, { accessFlags := 25, nameIndex := 53, descriptorIndex := 25, attributes := #[] }, { accessFlags := 25, nameIndex := 24, descriptorIndex := 25, attributes := #[] }, { accessFlags := 25, nameIndex := 162, descriptorIndex := 25, attributes := #[] }, { accessFlags := 25, nameIndex := 187, descriptorIndex := 25, attributes := #[] }, { accessFlags := 26, nameIndex := 48, descriptorIndex := 25, attributes := #[] }, { accessFlags := 25, nameIndex := 277, descriptorIndex := 25, attributes := #[] }, { accessFlags := 25, nameIndex := 280, descriptorIndex := 25, attributes := #[] }, { accessFlags := 25, nameIndex := 282, descriptorIndex := 25, attributes := #[] }, { accessFlags := 25, nameIndex := 284, descriptorIndex := 25, attributes := #[] }, { accessFlags := 25, nameIndex := 286, descriptorIndex := 25, attributes := #[] }, { accessFlags := 25, nameIndex := 288, descriptorIndex := 25, attributes := #[] }, { accessFlags := 25, nameIndex := 290, descriptorIndex := 25, attributes := #[] }, { accessFlags := 25, nameIndex := 292, descriptorIndex := 25, attributes := #[] }, { accessFlags := 26, nameIndex := 108, descriptorIndex := 109, attributes := #[] }, { accessFlags := 25, nameIndex := 294, descriptorIndex := 25, attributes := #[] }])
  fields := #[{ name := "U", type := (.object "jdk/internal/misc/Unsafe"), accessFlags := 24, slot := 0, constantValue := 0 }, { name := "BIG_ENDIAN", type := .boolean, accessFlags := 26, slot := 1, constantValue := 0 }, { name := "LOG2_ARRAY_BOOLEAN_INDEX_SCALE", type := .int, accessFlags := 25, slot := 2, constantValue := 0 }, { name := "LOG2_ARRAY_BYTE_INDEX_SCALE", type := .int, accessFlags := 25, slot := 3, constantValue := 0 }, { name := "LOG2_ARRAY_CHAR_INDEX_SCALE", type := .int, accessFlags := 25, slot := 4, constantValue := 0 }, { name := "LOG2_ARRAY_SHORT_INDEX_SCALE", type := .int, accessFlags := 25, slot := 5, constantValue := 0 }, { name := "LOG2_ARRAY_INT_INDEX_SCALE", type := .int, accessFlags := 25, slot := 6, constantValue := 0 }, { name := "LOG2_ARRAY_LONG_INDEX_SCALE", type := .int, accessFlags := 25, slot := 7, constantValue := 0 }, { name := "LOG2_ARRAY_FLOAT_INDEX_SCALE", type := .int, accessFlags := 25, slot := 8, constantValue := 0 }, { name := "LOG2_ARRAY_DOUBLE_INDEX_SCALE", type := .int, accessFlags := 25, slot := 9, constantValue := 0 }, { name := "LOG2_BYTE_BIT_SIZE", type := .int, accessFlags := 26, slot := 10, constantValue := 0 }, { name := "T_BOOLEAN", type := .int, accessFlags := 25, slot := 11, constantValue := 0 }, { name := "T_CHAR", type := .int, accessFlags := 25, slot := 12, constantValue := 0 }, { name := "T_FLOAT", type := .int, accessFlags := 25, slot := 13, constantValue := 0 }, { name := "T_DOUBLE", type := .int, accessFlags := 25, slot := 14, constantValue := 0 }, { name := "T_BYTE", type := .int, accessFlags := 25, slot := 15, constantValue := 0 }, { name := "T_SHORT", type := .int, accessFlags := 25, slot := 16, constantValue := 0 }, { name := "T_INT", type := .int, accessFlags := 25, slot := 17, constantValue := 0 }, { name := "T_LONG", type := .int, accessFlags := 25, slot := 18, constantValue := 0 }, { name := "JLA", type := (.object "jdk/internal/access/JavaLangAccess"), accessFlags := 26, slot := 19, constantValue := 0 }, { name := "SOFT_MAX_ARRAY_LENGTH", type := .int, accessFlags := 25, slot := 20, constantValue := 0 }]
  methods := #[k13m0]
  instanceTypes := #[]
  staticTypes := #[(.object "jdk/internal/misc/Unsafe"), .boolean, .int, .int, .int, .int, .int, .int, .int, .int, .int, .int, .int, .int, .int, .int, .int, .int, .int, (.object "jdk/internal/access/JavaLangAccess"), .int]
  resolved := Array.replicate 378 none
  statics := none }

def pool14 : Array CpInfo := pool [(1, u "java/lang/Cloneable"), (0, .class_ 1), (0, u "java/lang/Object"), (0, .class_ 3)] 3

/-- java/lang/Cloneable -/
def k14 : Class := { plain "java/lang/Cloneable" (some 0) with
  accessFlags := 1537
  interfaces := #[]
  cf := some (fileOf pool14 2 #[] #[] 1537 4 #[] #[])
  fields := #[]
  methods := #[]
  instanceTypes := #[]
  staticTypes := #[]
  resolved := Array.replicate 8 none
  statics := none }

/-- the primitive byte -/
def k15 : Class := { plain "byte" none with kind := .primitive 'B', accessFlags := 0x411 }
/-- [B -/
def k16 : Class := { plain "[B" (some 0) with kind := .array 15 .byte, interfaces := #[14, 4], accessFlags := 1041 }

/-- the primitive char -/
def k17 : Class := { plain "char" none with kind := .primitive 'C', accessFlags := 0x411 }
/-- [C -/
def k18 : Class := { plain "[C" (some 0) with kind := .array 17 .char, interfaces := #[14, 4], accessFlags := 1041 }

/-- the primitive int -/
def k19 : Class := { plain "int" none with kind := .primitive 'I', accessFlags := 0x411 }
/-- [I -/
def k20 : Class := { plain "[I" (some 0) with kind := .array 19 .int, interfaces := #[14, 4], accessFlags := 1041 }

/-- the primitive long -/
def k21 : Class := { plain "long" none with kind := .primitive 'J', accessFlags := 0x411 }
/-- [J -/
def k22 : Class := { plain "[J" (some 0) with kind := .array 21 .long, interfaces := #[14, 4], accessFlags := 1041 }

def heap : Heap := #[{ cls := 3, slots := #[.int 0, .int 10, .long 1, .int 0], vm := .statics 3 },
  { cls := 9, slots := #[.long 0, .int 1, .null, .int 0, .null, .int 0, .int 0], vm := .statics 9 },
  { cls := 12, slots := #[.null, .null, .null], vm := .statics 12 }]
def classes : Array Class := #[k0, k1, k2, k3, k4, k5, k6, k7, k8, k9, k10, k11, k12, k13, k14, k15, k16, k17, k18, k19, k20, k21, k22]
def interned : List (Array UInt16 × Addr) := []
def slotsUsed : Nat := 14
def theMethod : MethodId := ⟨1, 1⟩
def args0 : Array Value := #[.int 5, .int 7]
def aboutOver (below : List Frame) : State where
  vm := { classes := classes, interned := interned.toArray }
  heap := heap
  slotsUsed := slotsUsed
  threads := #[{ frames := .invoking theMethod args0 :: below }]
def below0 : List Frame := [.native { method := ⟨0, 0⟩, args := #[] }]
def about1 : State := aboutOver below0
def p0 : Program := .bare "" "" ""
def e0 : Env := launch0.env 0 0 0
theorem w_frames : about1.frames = Frame.invoking theMethod args0 :: below0 := rfl
set_option maxRecDepth 65536 in
theorem w_args : argsFit about1.vm theMethod args0 = true := by decide +kernel
set_option maxRecDepth 65536 in
theorem w_heap : heapFits about1 = true := by decide +kernel
set_option maxRecDepth 65536 in
theorem w_runnable : about1.curStatus? = some .runnable := by decide +kernel
set_option maxRecDepth 65536 in
theorem w_alone : about1.alone = true := by decide +kernel
set_option maxRecDepth 65536 in
theorem w_named : about1.methodNamed? x = some theMethod := by decide +kernel
set_option maxRecDepth 65536 in
theorem w_hears : about1.hears theMethod below0 = true := by decide +kernel
set_option maxRecDepth 65536 in
theorem w_ripe : about1.ripe theMethod args0 below0 = true := by decide +kernel
theorem w_running : about1.status = .running := rfl
set_option maxRecDepth 65536 in
theorem w_room : about1.hasRoom e0.platform room_1 = true :=
  launch0.hasRoom_least _ room_1 (by decide +kernel) (by decide +kernel) (by decide +kernel) (by decide +kernel) (by decide +kernel) (by decide +kernel)
theorem allAtoms_all (ts : List Jvm.Cond) (a : Array Jvm.Value) (st : Jvm.State) : (allAtoms ts).before a st = ts.all (fun c => c.before a st) := by
  induction ts with
  | nil => rfl
  | cons c t ih =>
    show (Jvm.Cond.and c (allAtoms t)).before a st = _
    rw [Jvm.Cond.before_and, ih, List.all_cons]
def words1 : List Jvm.Cond := Jvm.Cond.code x code maxLocals ret :: tables_1
/-- a 'code' word, met by the world's own term for the bytes: nothing is compared byte by byte -/
theorem code_word {y : MethodName} {bytes : ByteArray} {mx : Nat} {rt : Option FieldType} {a : Array Value} {s : State} {m : MethodId} {meth : Method} {c : Code} (h1 : s.methodNamed? y = some m) (h2 : s.vm.method? m = some meth) (h3 : meth.code = some c) (h4 : c.code = bytes)
    (h5 : (c.maxLocals == mx && c.exceptionTable.isEmpty && decide (c.maxStack ≤ mostOperands) && decide (meth.sig.returnType = rt) && !meth.locks && decide (parseMethodDescriptor y.desc = some meth.sig)) = true) : (Jvm.Cond.code y bytes mx rt).before a s = true := by
  simp only [Bool.and_eq_true, beq_iff_eq, Bool.not_eq_true', decide_eq_true_eq] at h5
  obtain ⟨⟨⟨⟨⟨g1, g2⟩, g3⟩, g4⟩, g5⟩, g6⟩ := h5
  simp [Cond.before, Cond.holds, Cond.value, h1, h2, h3, h4, g1, g2, g3, g4, g5, g6]
def isCode : Jvm.Cond → Bool
  | .code _ _ _ _ => true
  | _ => false
theorem all_split {L : List Jvm.Cond} {P : Jvm.Cond → Bool} (h1 : L.all (fun c => isCode c || P c) = true) (h2 : ∀ c ∈ L.filter isCode, P c = true) : L.all P = true := by
  refine List.all_eq_true.mpr fun c hc => ?_
  have h := List.all_eq_true.mp h1 c hc
  rcases Bool.eq_false_or_eq_true (isCode c) with hi | hi
  · exact h2 c (List.mem_filter.mpr ⟨hc, hi⟩)
  · simpa [hi] using h
set_option maxRecDepth 65536 in
theorem w_c0 : (Jvm.Cond.code x code maxLocals ret).before args0 about1 = true := code_word (m := ⟨1, 1⟩) (meth := k1m1) (c := k1c1) (by decide +kernel) rfl rfl rfl (by decide +kernel)
set_option maxRecDepth 65536 in
theorem w_c1 : (Jvm.Cond.code ({ cls := "com/example/oneiros/oneiros/cli/FrameTimeWriteSecondsPinLaw", name := "digits", desc := "(I)I" } : Jvm.MethodName) method_3_code (1 : Nat) (Option.some Jvm.ClassFile.FieldType.int)).before args0 about1 = true := code_word (m := ⟨1, 2⟩) (meth := k1m2) (c := k1c2) (by decide +kernel) rfl rfl rfl (by decide +kernel)
set_option maxRecDepth 65536 in
theorem w_c2 : (Jvm.Cond.code ({ cls := "java/lang/Math", name := "max", desc := "(II)I" } : Jvm.MethodName) jdk_29_method_65_code (2 : Nat) (Option.some Jvm.ClassFile.FieldType.int)).before args0 about1 = true := code_word (m := ⟨2, 1⟩) (meth := k2m1) (c := k2c1) (by decide +kernel) rfl rfl rfl (by decide +kernel)
set_option maxRecDepth 65536 in
theorem w_c3 : (Jvm.Cond.code ({ cls := "com/example/oneiros/oneiros/cli/FrameTimeWriteSecondsPinLaw", name := "put", desc := "([CIIII)V" } : Jvm.MethodName) method_4_code (9 : Nat) (Option.none : Option Jvm.ClassFile.FieldType)).before args0 about1 = true := code_word (m := ⟨1, 3⟩) (meth := k1m3) (c := k1c3) (by decide +kernel) rfl rfl rfl (by decide +kernel)
set_option maxRecDepth 65536 in
theorem w_c4 : (Jvm.Cond.code ({ cls := "com/example/oneiros/oneiros/cli/FrameTime", name := "writeSeconds", desc := "([CII)I" } : Jvm.MethodName) prog_32_method_3_code (11 : Nat) (Option.some Jvm.ClassFile.FieldType.int)).before args0 about1 = true := code_word (m := ⟨3, 1⟩) (meth := k3m1) (c := k3c1) (by decide +kernel) rfl rfl rfl (by decide +kernel)
set_option maxRecDepth 65536 in
theorem w_c5 : (Jvm.Cond.code ({ cls := "java/lang/String", name := "<init>", desc := "([C)V" } : Jvm.MethodName) jdk_42_method_3_code (2 : Nat) (Option.none : Option Jvm.ClassFile.FieldType)).before args0 about1 = true := code_word (m := ⟨9, 1⟩) (meth := k9m1) (c := k9c1) (by decide +kernel) rfl rfl rfl (by decide +kernel)
set_option maxRecDepth 65536 in
theorem w_c6 : (Jvm.Cond.code ({ cls := "java/lang/String", name := "<init>", desc := "([CIILjava/lang/Void;)V" } : Jvm.MethodName) jdk_42_method_149_code (6 : Nat) (Option.none : Option Jvm.ClassFile.FieldType)).before args0 about1 = true := code_word (m := ⟨9, 3⟩) (meth := k9m3) (c := k9c3) (by decide +kernel) rfl rfl rfl (by decide +kernel)
set_option maxRecDepth 65536 in
theorem w_c7 : (Jvm.Cond.code ({ cls := "java/lang/Object", name := "<init>", desc := "()V" } : Jvm.MethodName) object_method_1_code (1 : Nat) (Option.none : Option Jvm.ClassFile.FieldType)).before args0 about1 = true := code_word (m := ⟨0, 0⟩) (meth := k0m0) (c := k0c0) (by decide +kernel) rfl rfl rfl (by decide +kernel)
set_option maxRecDepth 65536 in
theorem w_c8 : (Jvm.Cond.code ({ cls := "java/lang/StringUTF16", name := "compress", desc := "([CII)[B" } : Jvm.MethodName) jdk_52_method_16_code (6 : Nat) (Option.some (Jvm.ClassFile.FieldType.array Jvm.ClassFile.FieldType.byte))).before args0 about1 = true := code_word (m := ⟨10, 2⟩) (meth := k10m2) (c := k10c2) (by decide +kernel) rfl rfl rfl (by decide +kernel)
set_option maxRecDepth 65536 in
theorem w_c9 : (Jvm.Cond.code ({ cls := "java/lang/StringUTF16", name := "compress", desc := "([CI[BII)I" } : Jvm.MethodName) jdk_52_method_21_code (7 : Nat) (Option.some Jvm.ClassFile.FieldType.int)).before args0 about1 = true := code_word (m := ⟨10, 3⟩) (meth := k10m3) (c := k10c3) (by decide +kernel) rfl rfl rfl (by decide +kernel)
set_option maxRecDepth 65536 in
theorem w_c10 : (Jvm.Cond.code ({ cls := "java/lang/StringUTF16", name := "coderFromArrayLen", desc := "([BI)B" } : Jvm.MethodName) jdk_52_method_15_code (2 : Nat) (Option.some Jvm.ClassFile.FieldType.byte)).before args0 about1 = true := code_word (m := ⟨10, 1⟩) (meth := k10m1) (c := k10c1) (by decide +kernel) rfl rfl rfl (by decide +kernel)
set_option maxRecDepth 65536 in
theorem w_c11 : (Jvm.Cond.code ({ cls := "java/lang/String", name := "equals", desc := "(Ljava/lang/Object;)Z" } : Jvm.MethodName) jdk_42_method_66_code (3 : Nat) (Option.some Jvm.ClassFile.FieldType.boolean)).before args0 about1 = true := code_word (m := ⟨9, 2⟩) (meth := k9m2) (c := k9c2) (by decide +kernel) rfl rfl rfl (by decide +kernel)
set_option maxRecDepth 65536 in
theorem w_c12 : (Jvm.Cond.code ({ cls := "java/lang/StringLatin1", name := "equals", desc := "([B[B)Z" } : Jvm.MethodName) jdk_43_method_13_code (3 : Nat) (Option.some Jvm.ClassFile.FieldType.boolean)).before args0 about1 = true := code_word (m := ⟨11, 1⟩) (meth := k11m1) (c := k11c1) (by decide +kernel) rfl rfl rfl (by decide +kernel)
def codes1 : List Jvm.Cond := [Jvm.Cond.code x code maxLocals ret, Jvm.Cond.code ({ cls := "com/example/oneiros/oneiros/cli/FrameTimeWriteSecondsPinLaw", name := "digits", desc := "(I)I" } : Jvm.MethodName) method_3_code (1 : Nat) (Option.some Jvm.ClassFile.FieldType.int), Jvm.Cond.code ({ cls := "java/lang/Math", name := "max", desc := "(II)I" } : Jvm.MethodName) jdk_29_method_65_code (2 : Nat) (Option.some Jvm.ClassFile.FieldType.int), Jvm.Cond.code ({ cls := "com/example/oneiros/oneiros/cli/FrameTimeWriteSecondsPinLaw", name := "put", desc := "([CIIII)V" } : Jvm.MethodName) method_4_code (9 : Nat) (Option.none : Option Jvm.ClassFile.FieldType), Jvm.Cond.code ({ cls := "com/example/oneiros/oneiros/cli/FrameTime", name := "writeSeconds", desc := "([CII)I" } : Jvm.MethodName) prog_32_method_3_code (11 : Nat) (Option.some Jvm.ClassFile.FieldType.int), Jvm.Cond.code ({ cls := "java/lang/String", name := "<init>", desc := "([C)V" } : Jvm.MethodName) jdk_42_method_3_code (2 : Nat) (Option.none : Option Jvm.ClassFile.FieldType), Jvm.Cond.code ({ cls := "java/lang/String", name := "<init>", desc := "([CIILjava/lang/Void;)V" } : Jvm.MethodName) jdk_42_method_149_code (6 : Nat) (Option.none : Option Jvm.ClassFile.FieldType), Jvm.Cond.code ({ cls := "java/lang/Object", name := "<init>", desc := "()V" } : Jvm.MethodName) object_method_1_code (1 : Nat) (Option.none : Option Jvm.ClassFile.FieldType), Jvm.Cond.code ({ cls := "java/lang/StringUTF16", name := "compress", desc := "([CII)[B" } : Jvm.MethodName) jdk_52_method_16_code (6 : Nat) (Option.some (Jvm.ClassFile.FieldType.array Jvm.ClassFile.FieldType.byte)), Jvm.Cond.code ({ cls := "java/lang/StringUTF16", name := "compress", desc := "([CI[BII)I" } : Jvm.MethodName) jdk_52_method_21_code (7 : Nat) (Option.some Jvm.ClassFile.FieldType.int), Jvm.Cond.code ({ cls := "java/lang/StringUTF16", name := "coderFromArrayLen", desc := "([BI)B" } : Jvm.MethodName) jdk_52_method_15_code (2 : Nat) (Option.some Jvm.ClassFile.FieldType.byte), Jvm.Cond.code ({ cls := "java/lang/String", name := "equals", desc := "(Ljava/lang/Object;)Z" } : Jvm.MethodName) jdk_42_method_66_code (3 : Nat) (Option.some Jvm.ClassFile.FieldType.boolean), Jvm.Cond.code ({ cls := "java/lang/StringLatin1", name := "equals", desc := "([B[B)Z" } : Jvm.MethodName) jdk_43_method_13_code (3 : Nat) (Option.some Jvm.ClassFile.FieldType.boolean)]
set_option maxRecDepth 65536 in
theorem codes_eq : words1.filter isCode = codes1 := rfl
theorem w_codes : ∀ c ∈ words1.filter isCode, c.before args0 about1 = true := by
  rw [codes_eq]
  intro c hc
  simp only [codes1, List.mem_cons, List.not_mem_nil, or_false] at hc
  rcases hc with rfl | rfl | rfl | rfl | rfl | rfl | rfl | rfl | rfl | rfl | rfl | rfl | rfl
  · exact w_c0
  · exact w_c1
  · exact w_c2
  · exact w_c3
  · exact w_c4
  · exact w_c5
  · exact w_c6
  · exact w_c7
  · exact w_c8
  · exact w_c9
  · exact w_c10
  · exact w_c11
  · exact w_c12
set_option maxRecDepth 65536 in
theorem w_t1 : (words1.take 24).all (fun c => isCode c || c.before args0 about1) = true := by decide +kernel
set_option maxRecDepth 65536 in
theorem w_t2 : ((words1.drop 24).take 24).all (fun c => isCode c || c.before args0 about1) = true := by decide +kernel
set_option maxRecDepth 65536 in
theorem w_t3 : (((words1.drop 24).drop 24).take 24).all (fun c => isCode c || c.before args0 about1) = true := by decide +kernel
set_option maxRecDepth 65536 in
theorem w_t4 : (((words1.drop 24).drop 24).drop 24).all (fun c => isCode c || c.before args0 about1) = true := by decide +kernel
theorem w_tables : (allAtoms (Jvm.Cond.code x code maxLocals ret :: tables_1)).before args0 about1 = true := by
  rw [allAtoms_all]
  show words1.all (fun c => c.before args0 about1) = true
  refine all_split ?_ w_codes
  rw [← List.take_append_drop 24 words1, List.all_append, w_t1, ← List.take_append_drop 24 (words1.drop 24), List.all_append, w_t2, ← List.take_append_drop 24 ((words1.drop 24).drop 24), List.all_append, w_t3, w_t4]
  rfl
set_option maxRecDepth 65536 in
theorem w_rest : rest_1_c.before args0 about1 = true := by decide +kernel
set_option maxRecDepth 65536 in
theorem w_case : (Jvm.Cond.and given_1 narrow_1).before args0 about1 = true := by decide +kernel
theorem w_applies : (headSpec (Jvm.Cond.code x code maxLocals ret :: tables_1) room_1).applies x e0.platform about1 = true :=
  (Spec.applies_iff w_frames).mpr ⟨w_running, w_runnable, w_alone, w_named, w_hears, w_ripe, w_room, w_tables⟩
theorem atStart : AtStart classFile x code maxLocals ret World_1 tables_1 room_1 Calls_1 rest_1 Pre_1 launch0 p0 e0 about1 theMethod args0 below0 :=
  ⟨lists_1, trivial, launch0.admits_env _ _ _, launch0.least_env, fairChoices_fair.cas, fairChoices_fair.clock, w_frames, w_args, w_heap, w_applies, trivial, w_rest, w_case⟩
end start1
theorem witness_1 : WitnessClaimed_1 := ⟨start1.p0, start1.e0, start1.about1, start1.theMethod, start1.args0, start1.below0, start1.atStart⟩
end Jvm.Pilot.@@N@@
