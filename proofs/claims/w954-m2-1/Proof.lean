import JvmDerived
import JvmDerived.Pilot.@@N@@Statement
import JvmDerived.Pilot.@@N@@Code
set_option linter.unusedVariables false
set_option linter.unusedSimpArgs false
/- laws to paste: Road.backV, Road.eqW, Road.lenW, Road.codOf (cut by pick.py; bodies as the Statement names them) -/
namespace Jvm.Pilot.@@N@@
namespace StrChars
open Jvm Sem ClassFile Op Lib Jvm.Stand Jvm.Free.XT Jvm.Free.ALB Jvm.Free.JM Jvm.Free
open Jvm.Lib.Cold (StaticIs)
/-- a char array whose places are chars -/
def Ch (a : Addr) (A : Cell) (U : State) : Prop := Arr .char a A U ∧ Typed .char A
theorem Ch.mv {a : Addr} {A : Cell} {U U' : State} (h : Ch a A U) (hal : U.vm.Alike U'.vm) (hh : U'.heap = U.heap) : Ch a A U' := ⟨h.1.mv hal hh, h.2⟩
theorem Ch.keep {a : Addr} {A : Cell} {U U' : State} (h : Ch a A U) (hal : U.vm.Alike U'.vm) (hk : U'.heap[a]? = some A) : Ch a A U' := ⟨h.1.keep hal hk, h.2⟩
/-- what place i of a char[]'s cell holds -/
def cv (A : Cell) (i : Nat) : Int32 := match A.slots[i]? with | some (.int x) => x | _ => 0
theorem Ch.get {a : Addr} {A : Cell} {U : State} (h : Ch a A U) {i : Nat} (hi : i < A.slots.size) : A.slots[i]? = some (.int (cv A i)) := by
  have e := Array.getElem?_eq_getElem hi
  have f := h.2 i _ e
  unfold cv; rw [e]
  generalize A.slots[i] = v at f
  cases v <;> simp [fits] at f ⊢
/-- the byte that i2b leaves of a char -/
def lo8 (x : Int32) : Int32 := x.toInt8.toInt32
theorem fits_lo8 (y : Int32) : fits .byte (.int (lo8 y)) = true := by
  have h1 := y.toInt8.le_toInt
  have h2 := y.toInt8.toInt_lt
  simp only [lo8, fits, Bool.and_eq_true, decide_eq_true_eq, Int32.le_iff_toInt_le, Int8.toInt_toInt32, show (-128 : Int32).toInt = -128 from by decide, show (127 : Int32).toInt = 127 from by decide]
  omega
/-- A' is A but that each place j of lo .. hi - 1 holds f j -/
def Laid (A A' : Cell) (lo hi : Nat) (f : Nat → Value) : Prop := A'.cls = A.cls ∧ A'.vm = A.vm ∧ A'.slots.size = A.slots.size ∧ ∀ i, A'.slots[i]? = if lo ≤ i ∧ i < hi then some (f i) else A.slots[i]?
theorem Laid.zero (A : Cell) (lo : Nat) (f : Nat → Value) : Laid A A lo (lo + 0) f := ⟨rfl, rfl, rfl, fun i => by rw [if_neg (by omega)]⟩
theorem Laid.step {A Ak : Cell} {lo k : Nat} {f : Nat → Value} {v : Value} (h : Laid A Ak lo k f) (hlo : lo ≤ k) (hk : k < Ak.slots.size) (hv : v = f k) : Laid A (Ak.setSlot k v) lo (k + 1) f := by
  refine ⟨h.1, h.2.1, by simpa [Cell.setSlot] using h.2.2.1, fun i => ?_⟩
  by_cases e : k = i
  · subst e; rw [Cell.slots_setSlot_self v hk, if_pos (by omega), hv]
  · rw [Cell.slots_setSlot_ne v e, h.2.2.2 i]
    by_cases q : lo ≤ i ∧ i < k
    · rw [if_pos q, if_pos (by omega)]
    · rw [if_neg q, if_neg (by omega)]
def U16 : String := "java/lang/StringUTF16"
namespace Cmp5
def yN : MethodName := ⟨"java/lang/StringUTF16", "compress", "([CI[BII)I"⟩
abbrev yB : ByteArray := jdk_52_method_21_code
theorem d0 : decode yB 0 = .ok (.iconst 0, 1) := by decide +kernel
theorem d1 : decode yB 1 = .ok (.istore 5, 2) := by decide +kernel
theorem d3 : decode yB 3 = .ok (.iload 5, 2) := by decide +kernel
theorem d5 : decode yB 5 = .ok (.iload 4, 2) := by decide +kernel
theorem d7 : decode yB 7 = .ok (.if_icmp (.ge) 37, 3) := by decide +kernel
theorem d10 : decode yB 10 = .ok (.aload_n 0, 1) := by decide +kernel
theorem d11 : decode yB 11 = .ok (.iload_n 1, 1) := by decide +kernel
theorem d12 : decode yB 12 = .ok (.caload, 1) := by decide +kernel
theorem d13 : decode yB 13 = .ok (.istore 6, 2) := by decide +kernel
theorem d15 : decode yB 15 = .ok (.iload 6, 2) := by decide +kernel
theorem d17 : decode yB 17 = .ok (.sipush 255, 3) := by decide +kernel
theorem d20 : decode yB 20 = .ok (.if_icmp (.le) 6, 3) := by decide +kernel
theorem d26 : decode yB 26 = .ok (.aload_n 2, 1) := by decide +kernel
theorem d27 : decode yB 27 = .ok (.iload_n 3, 1) := by decide +kernel
theorem d28 : decode yB 28 = .ok (.iload 6, 2) := by decide +kernel
theorem d30 : decode yB 30 = .ok (.i2b, 1) := by decide +kernel
theorem d31 : decode yB 31 = .ok (.bastore, 1) := by decide +kernel
theorem d32 : decode yB 32 = .ok (.iinc 1 1, 3) := by decide +kernel
theorem d35 : decode yB 35 = .ok (.iinc 3 1, 3) := by decide +kernel
theorem d38 : decode yB 38 = .ok (.iinc 5 1, 3) := by decide +kernel
theorem d41 : decode yB 41 = .ok (.goto (-38), 3) := by decide +kernel
theorem d44 : decode yB 44 = .ok (.iload 4, 2) := by decide +kernel
theorem d46 : decode yB 46 = .ok (.ireturn, 1) := by decide +kernel
def site : List Cond := []
def tab : Cond := tabOf yN yB 7 (some .int) site
def P (b : Addr) (A : Cell) (d : Addr) (B : Cell) (o q len : Nat) (args : Array Value) (s : State) : Prop := args = #[.ref b, .int (Int32.ofNat o), .ref d, .int (Int32.ofNat q), .int (Int32.ofNat len)] ∧ Ch b A s ∧ Arr .byte d B s ∧ b ≠ d ∧ o + len ≤ A.slots.size ∧ q + len ≤ B.slots.size ∧ ∀ i, i < len → ¬ 255 < cv A (o + i)
def E (b : Addr) (A : Cell) (d : Addr) (B : Cell) (o q len : Nat) (r : Option Value) (s u : State) : Prop := r = some (.int (Int32.ofNat len)) ∧ ∃ B', Put d B' s u ∧ Laid B B' q (q + len) (fun j => Value.int (lo8 (cv A (o + (j - q)))))
/-- no char of the range above 255: len; the places written hold each char's low byte -/
theorem law (l : Launch) (b : Addr) (A : Cell) (d : Addr) (B : Cell) (o q len : Nat) : Law l yN 5 5 0 0 yB 7 (some .int) site (P b A d B o q len) (E b A d B o q len) (copyLocs d q len) 0 0 := by
  refine Law.of_walk (plainFor_of_name (by decide +kernel)) (by decide +kernel) (by decide +kernel) (by decide) (fun _ _ h => by rw [h.1]; rfl) (fun _ U U' hal hh h => ⟨h.1, h.2.1.mv hal hh, h.2.2.1.mv hal hh, h.2.2.2⟩) (fun r U U' V V' h1 hal h2 h => ⟨h.1, h.2.elim fun B' q => ⟨B', q.1.mv h1 h2, q.2⟩⟩) ?_
  intro p e s m args below meth c s₁ X0 hexec hbytes hml hret hlk hnm hown hh0 W hP
  obtain ⟨rfl, hA, hB, hne, l1, l2, hp⟩ := hP
  have c1 : Steps p.tables e below (s₁.setTop (entryFrame m #[.ref b, .int (Int32.ofNat o), .ref d, .int (Int32.ofNat q), .int (Int32.ofNat len)] 7)) (s₁.setTop (mkF m 0 #[.val (.ref b), .val (.int (Int32.ofNat o)), .val (.ref d), .val (.int (Int32.ofNat q)), .val (.int (Int32.ofNat len)), .unset, .unset] [])) := entry rfl
  have hA0 := hA.1.mv X0.warmed.alike hh0
  have hB0 := hB.mv X0.warmed.alike hh0
  have a31 := hA.1.2.2.2
  have c2 : Steps p.tables e below (s₁.setTop (entryFrame m #[.ref b, .int (Int32.ofNat o), .ref d, .int (Int32.ofNat q), .int (Int32.ofNat len)] 7)) (s₁.setTop (mkF m 3 #[.val (.ref b), .val (.int (Int32.ofNat o)), .val (.ref d), .val (.int (Int32.ofNat q)), .val (.int (Int32.ofNat len)), .val (.int 0), .unset] [])) := c1.trans (by
    refine iconstV X0.here hexec rfl 0 (hb hbytes d0) (by decide) ?_
    refine XS.istore X0.here hexec rfl (hb hbytes d1) rfl rfl ?_
    exact Steps.refl _)
  have loop : ∀ (r i : Nat), i + r = len → ∀ (z : Slot), (z = .unset ∨ ∃ w, z = .val w ∧ w.category = 1) → ∀ (Tl : State) (Bk : Cell), Stand p l e { frames := 0, locals := 0, cells := 0, slots := 0 } s m #[.ref b, .int (Int32.ofNat o), .ref d, .int (Int32.ofNat q), .int (Int32.ofNat len)] below meth c Tl ([] ++ copyLocs d q i) 0 0 → Put d Bk s₁ Tl → Laid B Bk q (q + i) (fun j => Value.int (lo8 (cv A (o + (j - q))))) →
      Steps p.tables e below (s₁.setTop (entryFrame m #[.ref b, .int (Int32.ofNat o), .ref d, .int (Int32.ofNat q), .int (Int32.ofNat len)] 7)) (Tl.setTop (mkF m 3 #[.val (.ref b), .val (.int (Int32.ofNat (o + i))), .val (.ref d), .val (.int (Int32.ofNat (q + i))), .val (.int (Int32.ofNat len)), .val (.int (Int32.ofNat i)), z] [])) → ∃ (T' : State) (B' : Cell) (z' : Slot), Stand p l e { frames := 0, locals := 0, cells := 0, slots := 0 } s m #[.ref b, .int (Int32.ofNat o), .ref d, .int (Int32.ofNat q), .int (Int32.ofNat len)] below meth c T' ([] ++ copyLocs d q len) 0 0 ∧ Put d B' s₁ T' ∧ Laid B B' q (q + len) (fun j => Value.int (lo8 (cv A (o + (j - q))))) ∧
      Steps p.tables e below (s₁.setTop (entryFrame m #[.ref b, .int (Int32.ofNat o), .ref d, .int (Int32.ofNat q), .int (Int32.ofNat len)] 7)) (T'.setTop (mkF m 3 #[.val (.ref b), .val (.int (Int32.ofNat (o + len))), .val (.ref d), .val (.int (Int32.ofNat (q + len))), .val (.int (Int32.ofNat len)), .val (.int (Int32.ofNat len)), z'] [])) := by
    intro r
    induction r with
    | zero =>
      intro i hi z hz Tl Bk Xl pl fl cl
      have hil : i = len := by omega
      rw [hil] at Xl fl cl
      exact ⟨Tl, Bk, z, Xl, pl, fl, cl⟩
    | succ r ih =>
      intro i hi z hz Tl Bk Xl pl fl cl
      have all := X0.warmed.alike.symm.trans Xl.warmed.alike
      have hAl := hA0.keep all (pl.other hne hA0.1)
      have hBk := hB0.like all pl.1 fl.1 fl.2.1 fl.2.2.1
      have hlt : q + i < Bk.slots.size := by rw [fl.2.2.1]; omega
      have c3 : Steps p.tables e below (s₁.setTop (entryFrame m #[.ref b, .int (Int32.ofNat o), .ref d, .int (Int32.ofNat q), .int (Int32.ofNat len)] 7)) (Tl.setTop (mkF m 12 #[.val (.ref b), .val (.int (Int32.ofNat (o + i))), .val (.ref d), .val (.int (Int32.ofNat (q + i))), .val (.int (Int32.ofNat len)), .val (.int (Int32.ofNat i)), z] [.int (Int32.ofNat (o + i)), .ref b])) := cl.trans (by
        refine XS.iload Xl.here hexec rfl (hb hbytes d3) rfl ?_
        refine XS.iload Xl.here hexec rfl (hb hbytes d5) rfl ?_
        refine XS.icmpNo Xl.here hexec rfl (hb hbytes d7) rfl (ii_ge_f (lt32 (by omega) (by omega))) ?_
        refine XS.aloadN Xl.here hexec rfl (hb hbytes d10) rfl rfl ?_
        refine XS.iloadN Xl.here hexec rfl (hb hbytes d11) rfl ?_
        exact Steps.refl _)
      have c4 : Steps p.tables e below (s₁.setTop (entryFrame m #[.ref b, .int (Int32.ofNat o), .ref d, .int (Int32.ofNat q), .int (Int32.ofNat len)] 7)) (Tl.setTop (mkF m 13 #[.val (.ref b), .val (.int (Int32.ofNat (o + i))), .val (.ref d), .val (.int (Int32.ofNat (q + i))), .val (.int (Int32.ofNat len)), .val (.int (Int32.ofNat i)), z] [.int (cv A (o + i))])) := c3.trans (by
        refine Xl.aget hexec hAl rfl (hA.get (i := o + i) (by omega)) rfl rfl (hb hbytes d12) ?_
        exact Steps.refl _)
      have c5 : Steps p.tables e below (s₁.setTop (entryFrame m #[.ref b, .int (Int32.ofNat o), .ref d, .int (Int32.ofNat q), .int (Int32.ofNat len)] 7)) (Tl.setTop (mkF m 15 #[.val (.ref b), .val (.int (Int32.ofNat (o + i))), .val (.ref d), .val (.int (Int32.ofNat (q + i))), .val (.int (Int32.ofNat len)), .val (.int (Int32.ofNat i)), .val (.int (cv A (o + i)))] [])) := c4.trans (by
        refine XS.istoreS Xl.here hexec rfl (hb hbytes d13) rfl rfl hz ?_
        exact Steps.refl _)
      have c6 : Steps p.tables e below (s₁.setTop (entryFrame m #[.ref b, .int (Int32.ofNat o), .ref d, .int (Int32.ofNat q), .int (Int32.ofNat len)] 7)) (Tl.setTop (mkF m 31 #[.val (.ref b), .val (.int (Int32.ofNat (o + i))), .val (.ref d), .val (.int (Int32.ofNat (q + i))), .val (.int (Int32.ofNat len)), .val (.int (Int32.ofNat i)), .val (.int (cv A (o + i)))] [.int (lo8 (cv A (o + i))), .int (Int32.ofNat (q + i)), .ref d])) := c5.trans (by
        refine XS.iload Xl.here hexec rfl (hb hbytes d15) rfl ?_
        refine sipushV Xl.here hexec rfl 255 (hb hbytes d17) (by decide) ?_
        refine XS.icmpYes Xl.here hexec rfl (pc0 := 20) rfl (hb hbytes d20) rfl (ii_le_t (hp i (by omega))) (by decide) rfl ?_
        refine XS.aloadN Xl.here hexec rfl (hb hbytes d26) rfl rfl ?_
        refine XS.iloadN Xl.here hexec rfl (hb hbytes d27) rfl ?_
        refine XS.iload Xl.here hexec rfl (hb hbytes d28) rfl ?_
        refine i2b Xl.here hexec rfl (hb hbytes d30) rfl ?_
        exact Steps.refl _)
      obtain ⟨T7, X7, p7, st7⟩ := Xl.aput hexec hBk rfl hlt rfl (fits_lo8 (cv A (o + i))) (g := (mkF m 31 #[.val (.ref b), .val (.int (Int32.ofNat (o + i))), .val (.ref d), .val (.int (Int32.ofNat (q + i))), .val (.int (Int32.ofNat len)), .val (.int (Int32.ofNat i)), .val (.int (cv A (o + i)))] [.int (lo8 (cv A (o + i))), .int (Int32.ofNat (q + i)), .ref d])) rfl (rest := []) rfl (hb hbytes d31)
      have c8 : Steps p.tables e below (s₁.setTop (entryFrame m #[.ref b, .int (Int32.ofNat o), .ref d, .int (Int32.ofNat q), .int (Int32.ofNat len)] 7)) (T7.setTop (mkF m 32 #[.val (.ref b), .val (.int (Int32.ofNat (o + i))), .val (.ref d), .val (.int (Int32.ofNat (q + i))), .val (.int (Int32.ofNat len)), .val (.int (Int32.ofNat i)), .val (.int (cv A (o + i)))] [])) := c6.trans (st7 _ (Steps.refl _))
      have c9 : Steps p.tables e below (s₁.setTop (entryFrame m #[.ref b, .int (Int32.ofNat o), .ref d, .int (Int32.ofNat q), .int (Int32.ofNat len)] 7)) (T7.setTop (mkF m 3 #[.val (.ref b), .val (.int (Int32.ofNat (o + i) + 1)), .val (.ref d), .val (.int (Int32.ofNat (q + i) + 1)), .val (.int (Int32.ofNat len)), .val (.int (Int32.ofNat i + 1)), .val (.int (cv A (o + i)))] [])) := c8.trans (by
        refine iincV X7.here hexec rfl 1 (hb hbytes d32) (by decide) rfl rfl ?_
        refine iincV X7.here hexec rfl 1 (hb hbytes d35) (by decide) rfl rfl ?_
        refine iincV X7.here hexec rfl 1 (hb hbytes d38) (by decide) rfl rfl ?_
        refine XS.goto X7.here hexec rfl (pc0 := 41) rfl (hb hbytes d41) (by decide) rfl ?_
        exact Steps.refl _)
      have c10 : Steps p.tables e below (s₁.setTop (entryFrame m #[.ref b, .int (Int32.ofNat o), .ref d, .int (Int32.ofNat q), .int (Int32.ofNat len)] 7)) (T7.setTop (mkF m 3 #[.val (.ref b), .val (.int (Int32.ofNat (o + (i + 1)))), .val (.ref d), .val (.int (Int32.ofNat (q + (i + 1)))), .val (.int (Int32.ofNat len)), .val (.int (Int32.ofNat (i + 1))), .val (.int (cv A (o + i)))] [])) := by
        have := c9
        rw [succ32, succ32, succ32] at this
        exact this
      exact ih (i + 1) (by omega) _ (Or.inr ⟨_, rfl, rfl⟩) T7 _ (by rw [copyLocs_step, ← List.append_assoc]; exact X7) (pl.trans p7) (fl.step (by omega) hlt (by simp)) c10
  obtain ⟨T9, B9, z9, X9, p9, f9, g9⟩ := loop len 0 (by omega) .unset (Or.inl rfl) s₁ B (by simpa [copyLocs] using X0) ⟨hB0.1, fun _ _ => rfl, rfl⟩ (Laid.zero _ _ _) c2
  have c11 : Steps p.tables e below (s₁.setTop (entryFrame m #[.ref b, .int (Int32.ofNat o), .ref d, .int (Int32.ofNat q), .int (Int32.ofNat len)] 7)) (T9.setTop (mkF m 46 #[.val (.ref b), .val (.int (Int32.ofNat (o + len))), .val (.ref d), .val (.int (Int32.ofNat (q + len))), .val (.int (Int32.ofNat len)), .val (.int (Int32.ofNat len)), z9] [.int (Int32.ofNat len)])) := g9.trans (by
    refine XS.iload X9.here hexec rfl (hb hbytes d3) rfl ?_
    refine XS.iload X9.here hexec rfl (hb hbytes d5) rfl ?_
    refine XS.icmpYes X9.here hexec rfl (pc0 := 7) rfl (hb hbytes d7) rfl (ii_ge_t (nlt32 (by omega) (Nat.le_refl _))) (by decide) rfl ?_
    refine XS.iload X9.here hexec rfl (hb hbytes d44) rfl ?_
    exact Steps.refl _)
  exact ⟨T9, some (.int (Int32.ofNat len)), _, _, _, X9, by simp, rfl, rfl, (fun h => by cases h), ⟨rfl, B9, p9.from hh0, f9⟩, fun fs hl => c11.trans (X9.ireturnOut hexec hret rfl (Or.inl rfl) (hb hbytes d46) hl)⟩
end Cmp5
namespace Cmp3
def yN : MethodName := ⟨"java/lang/StringUTF16", "compress", "([CII)[B"⟩
abbrev yB : ByteArray := jdk_52_method_16_code
theorem d0 : decode yB 0 = .ok (.iload_n 2, 1) := by decide +kernel
theorem d1 : decode yB 1 = .ok (.newarray .byte, 2) := by decide +kernel
theorem d3 : decode yB 3 = .ok (.astore_n 3, 1) := by decide +kernel
theorem d4 : decode yB 4 = .ok (.aload_n 0, 1) := by decide +kernel
theorem d5 : decode yB 5 = .ok (.iload_n 1, 1) := by decide +kernel
theorem d6 : decode yB 6 = .ok (.aload_n 3, 1) := by decide +kernel
theorem d7 : decode yB 7 = .ok (.iconst 0, 1) := by decide +kernel
theorem d8 : decode yB 8 = .ok (.iload_n 2, 1) := by decide +kernel
theorem d9 : decode yB 9 = .ok (.invokestatic 115, 3) := by decide +kernel
theorem d12 : decode yB 12 = .ok (.istore 4, 2) := by decide +kernel
theorem d14 : decode yB 14 = .ok (.iload 4, 2) := by decide +kernel
theorem d16 : decode yB 16 = .ok (.iload_n 2, 1) := by decide +kernel
theorem d17 : decode yB 17 = .ok (.if_icmp (.eq) 40, 3) := by decide +kernel
theorem d57 : decode yB 57 = .ok (.aload_n 3, 1) := by decide +kernel
theorem d58 : decode yB 58 = .ok (.areturn, 1) := by decide +kernel
def site : List Cond := [.arrayClass .byte, Cmp5.tab] ++ staticW U16 115 Cmp5.yN
def tab : Cond := tabOf yN yB 6 (some (.array .byte)) site
def P (b : Addr) (A : Cell) (o len : Nat) (args : Array Value) (s : State) : Prop := args = #[.ref b, .int (Int32.ofNat o), .int (Int32.ofNat len)] ∧ Ch b A s ∧ o + len ≤ A.slots.size ∧ len ≤ 536870912 ∧ ∀ i, i < len → ¬ 255 < cv A (o + i)
def E (b : Addr) (A : Cell) (o len : Nat) (r : Option Value) (s u : State) : Prop := NewArr .byte "[B" len (fun j => .int (lo8 (cv A (o + j)))) r s u ∧ u.heap.size = s.heap.size + 1
/-- no char of the range above 255: a new byte[] of their low bytes -/
theorem law (l : Launch) (b : Addr) (A : Cell) (o len : Nat) : Law l yN 3 3 1 18 yB 6 (some (.array .byte)) site (P b A o len) (E b A o len) [] 1 len := by
  refine Law.of_walk (plainFor_of_name (by decide +kernel)) (by decide +kernel) (by decide +kernel) (by decide) (fun _ _ h => by rw [h.1]; rfl) (fun _ U U' hal hh h => ⟨h.1, h.2.1.mv hal hh, h.2.2⟩) (fun r U U' V V' h1 hal h2 h => ⟨NewArr.mv r U U' V V' h1 hal h2 h.1, by rw [h1, h2]; exact h.2⟩) ?_
  intro p e s m args below meth c s₁ X0 hexec hbytes hml hret hlk hnm hown hh0 W hP
  obtain ⟨rfl, hA, l1, l2, hp⟩ := hP
  have a31 := hA.1.2.2.2
  have c1 : Steps p.tables e below (s₁.setTop (entryFrame m #[.ref b, .int (Int32.ofNat o), .int (Int32.ofNat len)] 6)) (s₁.setTop (mkF m 0 #[.val (.ref b), .val (.int (Int32.ofNat o)), .val (.int (Int32.ofNat len)), .unset, .unset, .unset] [])) := entry rfl
  have c2 : Steps p.tables e below (s₁.setTop (entryFrame m #[.ref b, .int (Int32.ofNat o), .int (Int32.ofNat len)] 6)) (s₁.setTop (mkF m 1 #[.val (.ref b), .val (.int (Int32.ofNat o)), .val (.int (Int32.ofNat len)), .unset, .unset, .unset] [.int (Int32.ofNat len)])) := c1.trans (by
    refine XS.iloadN X0.here hexec rfl (hb hbytes d0) rfl ?_
    exact Steps.refl _)
  obtain ⟨T3, B3, X3, ba3, bs3, bv3, bh3, bf3, st3⟩ := X0.anew hexec (atype := .byte) (wk W (.arrayClass .byte)) rfl (by show len * 1 ≤ _; omega) (by omega) (g := (mkF m 1 #[.val (.ref b), .val (.int (Int32.ofNat o)), .val (.int (Int32.ofNat len)), .unset, .unset, .unset] [.int (Int32.ofNat len)])) rfl (hb hbytes d1) (rest := []) rfl (Nat.le_refl _) (by show 0 + len ≤ len; omega)
  rw [hh0] at ba3 st3
  have kp3 : XT.Kept s T3 := (XT.Kept.of_eq hh0).push bh3
  have hA3 := hA.keep X3.warmed.alike (kp3 _ _ hA.1.1)
  have hne : b ≠ s.heap.size := hA.1.ne
  have c4 : Steps p.tables e below (s₁.setTop (entryFrame m #[.ref b, .int (Int32.ofNat o), .int (Int32.ofNat len)] 6)) (T3.setTop (mkF m 3 #[.val (.ref b), .val (.int (Int32.ofNat o)), .val (.int (Int32.ofNat len)), .unset, .unset, .unset] [.ref s.heap.size])) := c2.trans (st3 _ (Steps.refl _))
  have c5 : Steps p.tables e below (s₁.setTop (entryFrame m #[.ref b, .int (Int32.ofNat o), .int (Int32.ofNat len)] 6)) (T3.setTop (mkF m 9 #[.val (.ref b), .val (.int (Int32.ofNat o)), .val (.int (Int32.ofNat len)), .val (.ref s.heap.size), .unset, .unset] [.int (Int32.ofNat len), .int 0, .ref s.heap.size, .int (Int32.ofNat o), .ref b])) := c4.trans (by
    refine XS.astoreN X3.here hexec rfl (hb hbytes d3) rfl rfl rfl ?_
    refine XS.aloadN X3.here hexec rfl (hb hbytes d4) rfl rfl ?_
    refine XS.iloadN X3.here hexec rfl (hb hbytes d5) rfl ?_
    refine XS.aloadN X3.here hexec rfl (hb hbytes d6) rfl rfl ?_
    refine iconstV X3.here hexec rfl 0 (hb hbytes d7) (by decide) ?_
    refine XS.iloadN X3.here hexec rfl (hb hbytes d8) rfl ?_
    exact Steps.refl _)
  obtain ⟨v6, T6, X6, E6, g6⟩ := X3.callS hexec (Cmp5.law l b A s.heap.size B3 o 0 len) hown (wks W (staticW U16 115 Cmp5.yN)) (wk W Cmp5.tab) (W := 0) (Nat.le_of_ble_eq_true rfl) (Nat.le_of_ble_eq_true rfl) (Nat.le_refl _) (by show 0 + len + 0 ≤ len; omega) (g := (mkF m 9 #[.val (.ref b), .val (.int (Int32.ofNat o)), .val (.int (Int32.ofNat len)), .val (.ref s.heap.size), .unset, .unset] [.int (Int32.ofNat len), .int (Int32.ofNat 0), .ref s.heap.size, .int (Int32.ofNat o), .ref b])) rfl (by rw [hml]; rfl) c5 (argsL := [.ref b, .int (Int32.ofNat o), .ref s.heap.size, .int (Int32.ofNat 0), .int (Int32.ofNat len)]) (rest := []) rfl rfl (by show 2 * 0 + 0 ≤ _; decide) (hb hbytes d9) (⟨rfl, hA3, ba3, hne, l1, by rw [bs3]; simp, hp⟩)
  obtain ⟨rfl, B6, p6, f6⟩ := E6
  have c7 : Steps p.tables e below (s₁.setTop (entryFrame m #[.ref b, .int (Int32.ofNat o), .int (Int32.ofNat len)] 6)) (T6.setTop (mkF m 12 #[.val (.ref b), .val (.int (Int32.ofNat o)), .val (.int (Int32.ofNat len)), .val (.ref s.heap.size), .unset, .unset] [.int (Int32.ofNat len)])) := g6
  have c8 : Steps p.tables e below (s₁.setTop (entryFrame m #[.ref b, .int (Int32.ofNat o), .int (Int32.ofNat len)] 6)) (T6.setTop (mkF m 58 #[.val (.ref b), .val (.int (Int32.ofNat o)), .val (.int (Int32.ofNat len)), .val (.ref s.heap.size), .val (.int (Int32.ofNat len)), .unset] [.ref s.heap.size])) := c7.trans (by
    refine XS.istore X6.here hexec rfl (hb hbytes d12) rfl rfl ?_
    refine XS.iload X6.here hexec rfl (hb hbytes d14) rfl ?_
    refine XS.iloadN X6.here hexec rfl (hb hbytes d16) rfl ?_
    refine XS.icmpYes X6.here hexec rfl (pc0 := 17) rfl (hb hbytes d17) rfl (ii_eq_t rfl) (by decide) rfl ?_
    refine XS.aloadN X6.here hexec rfl (hb hbytes d57) rfl rfl ?_
    exact Steps.refl _)
  have X8 := X6.wide (L' := []) (cells' := 1) (slots' := len) (fun x hx hlt => by
    simp only [List.nil_append, copyLocs, List.mem_map, List.mem_range] at hx
    obtain ⟨i, -, rfl⟩ := hx
    exact absurd hlt (Nat.lt_irrefl _)) (Nat.le_refl _) (by omega)
  exact ⟨T6, some (.ref s.heap.size), _, _, _, X8, rfl, rfl, rfl, (fun h => by cases h), ⟨⟨rfl, B6, ba3.like (X3.warmed.alike.symm.trans X6.warmed.alike) p6.1 f6.1 f6.2.1 f6.2.2.1, f6.2.1.trans bv3, by rw [X6.warmed.alike.findClass, f6.1]; exact bf3, by rw [f6.2.2.1, bs3]; simp, fun j hj => by rw [f6.2.2.2 j, if_pos (by omega)]; rfl, kp3.put p6 (Nat.le_refl _)⟩, by rw [p6.2.2, bh3, hh0]; simp⟩, fun fs hl => c8.trans (X8.areturnOut hexec rfl hret rfl (hb hbytes d58) hl)⟩
end Cmp3
namespace CodL
def yN : MethodName := ⟨"java/lang/StringUTF16", "coderFromArrayLen", "([BI)B"⟩
abbrev yB : ByteArray := jdk_52_method_15_code
theorem d0 : decode yB 0 = .ok (.iload_n 1, 1) := by decide +kernel
theorem d1 : decode yB 1 = .ok (.aload_n 0, 1) := by decide +kernel
theorem d2 : decode yB 2 = .ok (.arraylength, 1) := by decide +kernel
theorem d3 : decode yB 3 = .ok (.isub, 1) := by decide +kernel
theorem d4 : decode yB 4 = .ok (.bipush 31, 2) := by decide +kernel
theorem d6 : decode yB 6 = .ok (.iushr, 1) := by decide +kernel
theorem d7 : decode yB 7 = .ok (.i2b, 1) := by decide +kernel
theorem d8 : decode yB 8 = .ok (.ireturn, 1) := by decide +kernel
def site : List Cond := []
def tab : Cond := tabOf yN yB 2 (some .byte) site
def P (d : Addr) (B : Cell) (args : Array Value) (s : State) : Prop := args = #[.ref d, .int (Int32.ofNat B.slots.size)] ∧ Arr .byte d B s
def E (r : Option Value) (s u : State) : Prop := XT.PureE (some (.int 0)) r s u
/-- an array as long as the number of chars: LATIN1 -/
theorem law (l : Launch) (d : Addr) (B : Cell) : Law l yN 2 2 0 0 yB 2 (some .byte) site (P d B) E [] 0 0 := by
  refine Law.of_walk (plainFor_of_name (by decide +kernel)) (by decide +kernel) (by decide +kernel) (by decide) (fun _ _ h => by rw [h.1]; rfl) (fun _ U U' hal hh h => ⟨h.1, h.2.mv hal hh⟩) (fun r U U' V V' h1 hal h2 h => XT.PureE.mv r U U' V V' h1 hal h2 h) ?_
  intro p e s m args below meth c s₁ X0 hexec hbytes hml hret hlk hnm hown hh0 W hP
  obtain ⟨rfl, hB⟩ := hP
  have hB0 := hB.mv X0.warmed.alike hh0
  have c1 : Steps p.tables e below (s₁.setTop (entryFrame m #[.ref d, .int (Int32.ofNat B.slots.size)] 2)) (s₁.setTop (mkF m 0 #[.val (.ref d), .val (.int (Int32.ofNat B.slots.size))] [])) := entry rfl
  have c2 : Steps p.tables e below (s₁.setTop (entryFrame m #[.ref d, .int (Int32.ofNat B.slots.size)] 2)) (s₁.setTop (mkF m 2 #[.val (.ref d), .val (.int (Int32.ofNat B.slots.size))] [.ref d, .int (Int32.ofNat B.slots.size)])) := c1.trans (by
    refine XS.iloadN X0.here hexec rfl (hb hbytes d0) rfl ?_
    refine XS.aloadN X0.here hexec rfl (hb hbytes d1) rfl rfl ?_
    exact Steps.refl _)
  have c3 : Steps p.tables e below (s₁.setTop (entryFrame m #[.ref d, .int (Int32.ofNat B.slots.size)] 2)) (s₁.setTop (mkF m 8 #[.val (.ref d), .val (.int (Int32.ofNat B.slots.size))] [.int (lo8 (ushr (Int32.ofNat B.slots.size - Int32.ofNat B.slots.size) 31))])) := c2.trans (by
    refine X0.alen hexec hB0 rfl rfl (hb hbytes d2) ?_
    refine XS.isub X0.here hexec rfl (hb hbytes d3) rfl ?_
    refine bipushV X0.here hexec rfl 31 (hb hbytes d4) (by decide) ?_
    refine iushr X0.here hexec rfl (hb hbytes d6) rfl ?_
    refine i2b X0.here hexec rfl (hb hbytes d7) rfl ?_
    exact Steps.refl _)
  have e0 : lo8 (ushr (Int32.ofNat B.slots.size - Int32.ofNat B.slots.size) 31) = 0 := by rw [Int32.sub_self]; decide
  rw [e0] at c3
  exact ⟨s₁, some (.int 0), _, _, _, X0, rfl, rfl, rfl, (fun h => by cases h), ⟨rfl, hh0⟩, fun fs hl => c3.trans (X0.ireturnOut hexec hret rfl (Or.inr (Or.inr (Or.inl rfl))) (hb hbytes d8) hl)⟩
end CodL
/-- the String at a is Latin-1 over a new byte[] (the heap's one new cell): the low bytes of the len chars of A from o on; every cell but a is kept -/
def Got (a : Addr) (D : Cell) (fV fC : Field) (A : Cell) (o len : Nat) (r : Option Value) (s u : State) : Prop := r = none ∧ ∃ D' V : Cell, Blank "java/lang/String" a D' u ∧ Same D D' [fV.slot, fC.slot] ∧ D'.slots[fV.slot]? = some (.ref s.heap.size) ∧ D'.slots[fC.slot]? = some (.int 0) ∧ Arr .byte s.heap.size V u ∧ V.vm = .none ∧ u.vm.findClass "[B" = some V.cls ∧ V.slots.size = len ∧ (∀ j, j < len → V.slots[j]? = some (.int (lo8 (cv A (o + j))))) ∧ (∀ (y : Addr) (c : Cell), y ≠ a → s.heap[y]? = some c → u.heap[y]? = some c) ∧ u.heap.size = s.heap.size + 1
theorem Got.mv {a : Addr} {D A : Cell} {fV fC : Field} {o len : Nat} : ∀ r (U U' V V' : State), U'.heap = U.heap → V.vm.Alike V'.vm → V'.heap = V.heap → Got a D fV fC A o len r U V → Got a D fV fC A o len r U' V' :=
  fun r U U' V V' h1 hal h2 ⟨e0, D', X, a1, a2, a3, a4, a5, a6, a7, a8, a9, a10, a11⟩ => ⟨e0, D', X, a1.mv hal h2, a2, by rw [h1]; exact a3, a4, by rw [h1]; exact a5.mv hal h2, a6, by rw [hal.findClass]; exact a7, a8, a9, by rw [h1, h2]; exact a10, by rw [h1, h2]; exact a11⟩
namespace New4
def yN : MethodName := ⟨"java/lang/String", "<init>", "([CIILjava/lang/Void;)V"⟩
abbrev yB : ByteArray := jdk_42_method_149_code
theorem d0 : decode yB 0 = .ok (.aload_n 0, 1) := by decide +kernel
theorem d1 : decode yB 1 = .ok (.invokespecial 1, 3) := by decide +kernel
theorem d4 : decode yB 4 = .ok (.iload_n 3, 1) := by decide +kernel
theorem d5 : decode yB 5 = .ok (.ifCond (.ne) 22, 3) := by decide +kernel
theorem d27 : decode yB 27 = .ok (.getstatic 38, 3) := by decide +kernel
theorem d30 : decode yB 30 = .ok (.ifCond (.eq) 28, 3) := by decide +kernel
theorem d33 : decode yB 33 = .ok (.aload_n 1, 1) := by decide +kernel
theorem d34 : decode yB 34 = .ok (.iload_n 2, 1) := by decide +kernel
theorem d35 : decode yB 35 = .ok (.iload_n 3, 1) := by decide +kernel
theorem d36 : decode yB 36 = .ok (.invokestatic 177, 3) := by decide +kernel
theorem d39 : decode yB 39 = .ok (.astore 5, 2) := by decide +kernel
theorem d41 : decode yB 41 = .ok (.aload_n 0, 1) := by decide +kernel
theorem d42 : decode yB 42 = .ok (.aload 5, 2) := by decide +kernel
theorem d44 : decode yB 44 = .ok (.iload_n 3, 1) := by decide +kernel
theorem d45 : decode yB 45 = .ok (.invokestatic 47, 3) := by decide +kernel
theorem d48 : decode yB 48 = .ok (.putfield 15, 3) := by decide +kernel
theorem d51 : decode yB 51 = .ok (.aload_n 0, 1) := by decide +kernel
theorem d52 : decode yB 52 = .ok (.aload 5, 2) := by decide +kernel
theorem d54 : decode yB 54 = .ok (.putfield 9, 3) := by decide +kernel
theorem d57 : decode yB 57 = .ok (.return_, 1) := by decide +kernel
def site : List Cond := [.fieldLink "java/lang/String" 38 "java/lang/String" "COMPACT_STRINGS" "Z", Cmp3.tab, CodL.tab, .laysFinal "java/lang/String" "java/lang/String" "value" "[B", .fieldLink "java/lang/String" 9 "java/lang/String" "value" "[B", .laysFinal "java/lang/String" "java/lang/String" "coder" "B", .fieldLink "java/lang/String" 15 "java/lang/String" "coder" "B"] ++ objW "java/lang/String" 1 ++ staticW "java/lang/String" 177 Cmp3.yN ++ staticW "java/lang/String" 47 CodL.yN
def tab : Cond := tabOf yN yB 6 none site
def P (a : Addr) (D : Cell) (fV fC : Field) (b : Addr) (A : Cell) (z : Int32) (o len : Nat) (args : Array Value) (s : State) : Prop := args = #[.ref a, .ref b, .int (Int32.ofNat o), .int (Int32.ofNat len), .null] ∧ Blank "java/lang/String" a D s ∧ Found "java/lang/String" "value" "[B" fV s ∧ Found "java/lang/String" "coder" "B" fC s ∧ Ch b A s ∧ StaticIs s "java/lang/String" "COMPACT_STRINGS" "Z" (.int z) ∧ ¬ z = 0 ∧ 0 < len ∧ o + len ≤ A.slots.size ∧ len ≤ 536870912 ∧ ∀ i, i < len → ¬ 255 < cv A (o + i)
def E (a : Addr) (D : Cell) (fV fC : Field) (A : Cell) (o len : Nat) (r : Option Value) (s u : State) : Prop := Got a D fV fC A o len r s u
/-- len > 0, no char of the range above 255: a Latin-1 String of their low bytes -/
theorem law (l : Launch) (a : Addr) (D : Cell) (fV fC : Field) (b : Addr) (A : Cell) (z : Int32) (o len : Nat) : Law l yN 5 4 2 35 yB 6 none site (P a D fV fC b A z o len) (E a D fV fC A o len) [⟨a, fC.slot⟩, ⟨a, fV.slot⟩] 1 len := by
  refine Law.of_walk (plainFor_of_name (by decide +kernel)) (by decide +kernel) (by decide +kernel) (by decide) (fun _ _ h => by rw [h.1]; rfl) (fun _ U U' hal hh h => ⟨h.1, h.2.1.mv hal hh, h.2.2.1.al hal, h.2.2.2.1.al hal, h.2.2.2.2.1.mv hal hh, h.2.2.2.2.2.1.there hal hh, h.2.2.2.2.2.2⟩) (fun r U U' V V' h1 hal h2 h => Got.mv r U U' V V' h1 hal h2 h) ?_
  intro p e s m args below meth c s₁ X0 hexec hbytes hml hret hlk hnm hown hh0 W hP
  obtain ⟨rfl, hB, f1, f2, hA, s1, hz, l0, l1, l2, hp⟩ := hP
  have a31 := hA.1.2.2.2
  have c1 : Steps p.tables e below (s₁.setTop (entryFrame m #[.ref a, .ref b, .int (Int32.ofNat o), .int (Int32.ofNat len), .null] 6)) (s₁.setTop (mkF m 0 #[.val (.ref a), .val (.ref b), .val (.int (Int32.ofNat o)), .val (.int (Int32.ofNat len)), .val .null, .unset] [])) := entry rfl
  have c2 : Steps p.tables e below (s₁.setTop (entryFrame m #[.ref a, .ref b, .int (Int32.ofNat o), .int (Int32.ofNat len), .null] 6)) (s₁.setTop (mkF m 1 #[.val (.ref a), .val (.ref b), .val (.int (Int32.ofNat o)), .val (.int (Int32.ofNat len)), .val .null, .unset] [.ref a])) := c1.trans (by
    refine XS.aloadN X0.here hexec rfl (hb hbytes d0) rfl rfl ?_
    exact Steps.refl _)
  obtain ⟨T3, X3, q3, st3⟩ := X0.oinit hexec hown (wks W (objW "java/lang/String" 1)) (g := (mkF m 1 #[.val (.ref a), .val (.ref b), .val (.int (Int32.ofNat o)), .val (.int (Int32.ofNat len)), .val .null, .unset] [.ref a])) rfl (by rw [hml]; rfl) (rest := []) rfl (hb hbytes d1) (W := 0) (by show 2 * 0 + 0 ≤ _; decide) (Nat.le_of_ble_eq_true rfl) (Nat.le_of_ble_eq_true rfl)
  have hh3 := q3.trans hh0
  have c4 : Steps p.tables e below (s₁.setTop (entryFrame m #[.ref a, .ref b, .int (Int32.ofNat o), .int (Int32.ofNat len), .null] 6)) (T3.setTop (mkF m 27 #[.val (.ref a), .val (.ref b), .val (.int (Int32.ofNat o)), .val (.int (Int32.ofNat len)), .val .null, .unset] [])) := (c2.trans (st3 _ (Steps.refl _))).trans (by
    refine XS.iloadN X3.here hexec rfl (hb hbytes d4) rfl ?_
    refine XS.ifYes X3.here hexec rfl (pc0 := 5) rfl (hb hbytes d5) rfl (i0_ne_t (nz32 (by omega) l0)) (by decide) rfl ?_
    exact Steps.refl _)
  obtain ⟨T5, X5, q5, st5⟩ := X3.sget hexec hown (wk W (.fieldLink "java/lang/String" 38 "java/lang/String" "COMPACT_STRINGS" "Z")) s1 (fun _ _ h => by rw [hh3]; exact h) (g := (mkF m 27 #[.val (.ref a), .val (.ref b), .val (.int (Int32.ofNat o)), .val (.int (Int32.ofNat len)), .val .null, .unset] [])) rfl (hb hbytes d27)
  have hh5 := q5.trans hh3
  have c6 : Steps p.tables e below (s₁.setTop (entryFrame m #[.ref a, .ref b, .int (Int32.ofNat o), .int (Int32.ofNat len), .null] 6)) (T5.setTop (mkF m 30 #[.val (.ref a), .val (.ref b), .val (.int (Int32.ofNat o)), .val (.int (Int32.ofNat len)), .val .null, .unset] [.int z])) := c4.trans (st5 _ (Steps.refl _))
  have c7 : Steps p.tables e below (s₁.setTop (entryFrame m #[.ref a, .ref b, .int (Int32.ofNat o), .int (Int32.ofNat len), .null] 6)) (T5.setTop (mkF m 36 #[.val (.ref a), .val (.ref b), .val (.int (Int32.ofNat o)), .val (.int (Int32.ofNat len)), .val .null, .unset] [.int (Int32.ofNat len), .int (Int32.ofNat o), .ref b])) := c6.trans (by
    refine XS.ifNo X5.here hexec rfl (hb hbytes d30) rfl (i0_eq_f hz) ?_
    refine XS.aloadN X5.here hexec rfl (hb hbytes d33) rfl rfl ?_
    refine XS.iloadN X5.here hexec rfl (hb hbytes d34) rfl ?_
    refine XS.iloadN X5.here hexec rfl (hb hbytes d35) rfl ?_
    exact Steps.refl _)
  obtain ⟨v8, T8, X8, E8, g8⟩ := X5.callS hexec (Cmp3.law l b A o len) hown (wks W (staticW "java/lang/String" 177 Cmp3.yN)) (wk W Cmp3.tab) (W := 0) (Nat.le_of_ble_eq_true rfl) (Nat.le_of_ble_eq_true rfl) (Nat.le_refl _) (by show 0 + len ≤ len; omega) (g := (mkF m 36 #[.val (.ref a), .val (.ref b), .val (.int (Int32.ofNat o)), .val (.int (Int32.ofNat len)), .val .null, .unset] [.int (Int32.ofNat len), .int (Int32.ofNat o), .ref b])) rfl (by rw [hml]; rfl) c7 (argsL := [.ref b, .int (Int32.ofNat o), .int (Int32.ofNat len)]) (rest := []) rfl rfl (by show 2 * 0 + 0 ≤ _; decide) (hb hbytes d36) (⟨rfl, hA.mv X5.warmed.alike hh5, l1, l2, hp⟩)
  obtain ⟨e8, z8⟩ := E8
  obtain ⟨rfl, N, n1, n2, n3, n4, n5, n6⟩ := NewArr.mv _ T5 s _ _ hh5.symm (Vm.Alike.refl _) rfl e8
  rw [hh5] at z8
  have hB1 := hB.keep X8.warmed.alike (n6 _ _ hB.1)
  have hne : s.heap.size ≠ a := (Nat.ne_of_lt (Array.getElem?_eq_some_iff.mp hB.1).1).symm
  have c9 : Steps p.tables e below (s₁.setTop (entryFrame m #[.ref a, .ref b, .int (Int32.ofNat o), .int (Int32.ofNat len), .null] 6)) (T8.setTop (mkF m 39 #[.val (.ref a), .val (.ref b), .val (.int (Int32.ofNat o)), .val (.int (Int32.ofNat len)), .val .null, .unset] [.ref s.heap.size])) := g8
  have c10 : Steps p.tables e below (s₁.setTop (entryFrame m #[.ref a, .ref b, .int (Int32.ofNat o), .int (Int32.ofNat len), .null] 6)) (T8.setTop (mkF m 45 #[.val (.ref a), .val (.ref b), .val (.int (Int32.ofNat o)), .val (.int (Int32.ofNat len)), .val .null, .val (.ref s.heap.size)] [.int (Int32.ofNat N.slots.size), .ref s.heap.size, .ref a])) := by
    have hc : Steps p.tables e below (s₁.setTop (entryFrame m #[.ref a, .ref b, .int (Int32.ofNat o), .int (Int32.ofNat len), .null] 6)) (T8.setTop (mkF m 45 #[.val (.ref a), .val (.ref b), .val (.int (Int32.ofNat o)), .val (.int (Int32.ofNat len)), .val .null, .val (.ref s.heap.size)] [.int (Int32.ofNat len), .ref s.heap.size, .ref a])) := c9.trans (by
      refine XS.astore X8.here hexec rfl (hb hbytes d39) rfl rfl rfl ?_
      refine XS.aloadN X8.here hexec rfl (hb hbytes d41) rfl rfl ?_
      refine XS.aload X8.here hexec rfl (hb hbytes d42) rfl rfl ?_
      refine XS.iloadN X8.here hexec rfl (hb hbytes d44) rfl ?_
      exact Steps.refl _)
    rw [n4]; exact hc
  obtain ⟨v11, T11, X11, E11, g11⟩ := X8.callS hexec (CodL.law l s.heap.size N) hown (wks W (staticW "java/lang/String" 47 CodL.yN)) (wk W CodL.tab) (W := 1) (Nat.le_of_ble_eq_true rfl) (Nat.le_of_ble_eq_true rfl) (Nat.le_refl _) (by show 0 + len + 0 ≤ len; omega) (g := (mkF m 45 #[.val (.ref a), .val (.ref b), .val (.int (Int32.ofNat o)), .val (.int (Int32.ofNat len)), .val .null, .val (.ref s.heap.size)] [.int (Int32.ofNat N.slots.size), .ref s.heap.size, .ref a])) rfl (by rw [hml]; rfl) c10 (argsL := [.ref s.heap.size, .int (Int32.ofNat N.slots.size)]) (rest := [.ref a]) rfl rfl (by show 2 * 0 + (1 + 0) ≤ _; decide) (hb hbytes d45) (⟨rfl, n1⟩)
  obtain ⟨rfl, q11⟩ := E11
  have hB11 := hB1.mv (X8.warmed.alike.symm.trans X11.warmed.alike) q11
  have c12 : Steps p.tables e below (s₁.setTop (entryFrame m #[.ref a, .ref b, .int (Int32.ofNat o), .int (Int32.ofNat len), .null] 6)) (T11.setTop (mkF m 48 #[.val (.ref a), .val (.ref b), .val (.int (Int32.ofNat o)), .val (.int (Int32.ofNat len)), .val .null, .val (.ref s.heap.size)] [.int 0, .ref a])) := g11
  obtain ⟨T13, X13, p13, bl13, sl13, st13⟩ := X11.finit hexec hown (wk W (.fieldLink "java/lang/String" 15 "java/lang/String" "coder" "B")) (Or.inr ⟨_, (wk W (.laysFinal "java/lang/String" "java/lang/String" "coder" "B"))⟩) (Or.inl ⟨rfl, hnm⟩) f2 (Or.inl rfl) hB11 (t := .byte) (by decide +kernel) rfl (g := (mkF m 48 #[.val (.ref a), .val (.ref b), .val (.int (Int32.ofNat o)), .val (.int (Int32.ofNat len)), .val .null, .val (.ref s.heap.size)] [.int 0, .ref a])) rfl (rest := []) rfl (hb hbytes d48)
  have c14 : Steps p.tables e below (s₁.setTop (entryFrame m #[.ref a, .ref b, .int (Int32.ofNat o), .int (Int32.ofNat len), .null] 6)) (T13.setTop (mkF m 54 #[.val (.ref a), .val (.ref b), .val (.int (Int32.ofNat o)), .val (.int (Int32.ofNat len)), .val .null, .val (.ref s.heap.size)] [.ref s.heap.size, .ref a])) := (c12.trans (st13 _ (Steps.refl _))).trans (by
    refine XS.aloadN X13.here hexec rfl (hb hbytes d51) rfl rfl ?_
    refine XS.aload X13.here hexec rfl (hb hbytes d52) rfl rfl ?_
    exact Steps.refl _)
  obtain ⟨T15, X15, p15, bl15, sl15, st15⟩ := X13.finit hexec hown (wk W (.fieldLink "java/lang/String" 9 "java/lang/String" "value" "[B")) (Or.inr ⟨_, (wk W (.laysFinal "java/lang/String" "java/lang/String" "value" "[B"))⟩) (Or.inl ⟨rfl, hnm⟩) f1 (Or.inl rfl) bl13 (t := (.array .byte)) (by decide +kernel) rfl (g := (mkF m 54 #[.val (.ref a), .val (.ref b), .val (.int (Int32.ofNat o)), .val (.int (Int32.ofNat len)), .val .null, .val (.ref s.heap.size)] [.ref s.heap.size, .ref a])) rfl (rest := []) rfl (hb hbytes d54)
  have c16 : Steps p.tables e below (s₁.setTop (entryFrame m #[.ref a, .ref b, .int (Int32.ofNat o), .int (Int32.ofNat len), .null] 6)) (T15.setTop (mkF m 57 #[.val (.ref a), .val (.ref b), .val (.int (Int32.ofNat o)), .val (.int (Int32.ofNat len)), .val .null, .val (.ref s.heap.size)] [])) := c14.trans (st15 _ (Steps.refl _))
  have ap := apart (Or.inr ⟨_, (wk W (.laysFinal "java/lang/String" "java/lang/String" "value" "[B"))⟩) (Or.inr ⟨_, (wk W (.laysFinal "java/lang/String" "java/lang/String" "coder" "B"))⟩) f1 f2 (t₁ := .array .byte) (t₂ := .byte) (by decide +kernel) (by decide +kernel) (by decide)
  have al := X8.warmed.alike.symm.trans X15.warmed.alike
  have n7 : T11.heap[s.heap.size]? = some N := by rw [q11]; exact n1.1
  exact ⟨T15, none, _, _, _, X15, by simp, rfl, by omega, (fun _ => rfl), ⟨rfl, _, N, bl15, ((Same.refl D _).set _ (by simp)).set _ (by simp), sl15, (Cell.slots_setSlot_ne _ ap).trans sl13, n1.keep al (p15.other hne (p13.other hne n7)), n2, by rw [al.findClass]; exact n3, n4, n5, fun y c h1 h2 => p15.other h1 (p13.other h1 (by rw [q11]; exact n6 y c h2)), by rw [p15.2.2, p13.2.2, q11]; exact z8⟩, fun fs hl => c16.trans (X15.returnOut hexec hret (hb hbytes d57) hl)⟩
end New4
namespace New1
def yN : MethodName := ⟨"java/lang/String", "<init>", "([C)V"⟩
abbrev yB : ByteArray := jdk_42_method_3_code
theorem d0 : decode yB 0 = .ok (.aload_n 0, 1) := by decide +kernel
theorem d1 : decode yB 1 = .ok (.aload_n 1, 1) := by decide +kernel
theorem d2 : decode yB 2 = .ok (.iconst 0, 1) := by decide +kernel
theorem d3 : decode yB 3 = .ok (.aload_n 1, 1) := by decide +kernel
theorem d4 : decode yB 4 = .ok (.arraylength, 1) := by decide +kernel
theorem d5 : decode yB 5 = .ok (.aconst_null, 1) := by decide +kernel
theorem d6 : decode yB 6 = .ok (.invokespecial 27, 3) := by decide +kernel
theorem d9 : decode yB 9 = .ok (.return_, 1) := by decide +kernel
def site : List Cond := [New4.tab] ++ initW "java/lang/String" 27 New4.yN
def tab : Cond := tabOf yN yB 2 none site
def P (a : Addr) (D : Cell) (fV fC : Field) (b : Addr) (A : Cell) (z : Int32) (args : Array Value) (s : State) : Prop := args = #[.ref a, .ref b] ∧ Blank "java/lang/String" a D s ∧ Found "java/lang/String" "value" "[B" fV s ∧ Found "java/lang/String" "coder" "B" fC s ∧ Ch b A s ∧ StaticIs s "java/lang/String" "COMPACT_STRINGS" "Z" (.int z) ∧ ¬ z = 0 ∧ 0 < A.slots.size ∧ A.slots.size ≤ 536870912 ∧ ∀ i, i < A.slots.size → ¬ 255 < cv A i
def E (a : Addr) (D : Cell) (fV fC : Field) (A : Cell) (r : Option Value) (s u : State) : Prop := Got a D fV fC A 0 A.slots.size r s u
/-- new String(chars), not empty, no char above 255: a Latin-1 String of their low bytes -/
theorem law (l : Launch) (a : Addr) (D : Cell) (fV fC : Field) (b : Addr) (A : Cell) (z : Int32) : Law l yN 2 1 3 52 yB 2 none site (P a D fV fC b A z) (E a D fV fC A) [⟨a, fC.slot⟩, ⟨a, fV.slot⟩] 1 A.slots.size := by
  refine Law.of_walk (plainFor_of_name (by decide +kernel)) (by decide +kernel) (by decide +kernel) (by decide) (fun _ _ h => by rw [h.1]; rfl) (fun _ U U' hal hh h => ⟨h.1, h.2.1.mv hal hh, h.2.2.1.al hal, h.2.2.2.1.al hal, h.2.2.2.2.1.mv hal hh, h.2.2.2.2.2.1.there hal hh, h.2.2.2.2.2.2⟩) (fun r U U' V V' h1 hal h2 h => Got.mv r U U' V V' h1 hal h2 h) ?_
  intro p e s m args below meth c s₁ X0 hexec hbytes hml hret hlk hnm hown hh0 W hP
  obtain ⟨rfl, hB, f1, f2, hA, s1, hz, l0, l2, hp⟩ := hP
  have c1 : Steps p.tables e below (s₁.setTop (entryFrame m #[.ref a, .ref b] 2)) (s₁.setTop (mkF m 0 #[.val (.ref a), .val (.ref b)] [])) := entry rfl
  have c2 : Steps p.tables e below (s₁.setTop (entryFrame m #[.ref a, .ref b] 2)) (s₁.setTop (mkF m 6 #[.val (.ref a), .val (.ref b)] [.null, .int (Int32.ofNat A.slots.size), .int 0, .ref b, .ref a])) := c1.trans (by
    refine XS.aloadN X0.here hexec rfl (hb hbytes d0) rfl rfl ?_
    refine XS.aloadN X0.here hexec rfl (hb hbytes d1) rfl rfl ?_
    refine iconstV X0.here hexec rfl 0 (hb hbytes d2) (by decide) ?_
    refine XS.aloadN X0.here hexec rfl (hb hbytes d3) rfl rfl ?_
    refine X0.alen hexec (hA.1.mv X0.warmed.alike hh0) rfl rfl (hb hbytes d4) ?_
    refine XS.aconstNull X0.here hexec rfl (hb hbytes d5) ?_
    exact Steps.refl _)
  obtain ⟨v3, T3, X3, E3, g3⟩ := X0.callN hexec (New4.law l a D fV fC b A z 0 A.slots.size) rfl hown (wks W (initW "java/lang/String" 27 New4.yN)) (W New4.tab (by simp only [site, List.mem_cons, List.mem_append, true_or, or_true])) (W := 0) (Nat.le_of_ble_eq_true rfl) (Nat.le_of_ble_eq_true rfl) (Nat.le_refl _) (by show 0 + A.slots.size ≤ A.slots.size; omega) (g := (mkF m 6 #[.val (.ref a), .val (.ref b)] [.null, .int (Int32.ofNat A.slots.size), .int (Int32.ofNat 0), .ref b, .ref a])) rfl (by rw [hml]; rfl) c2 (argsL := [.ref b, .int (Int32.ofNat 0), .int (Int32.ofNat A.slots.size), .null]) (rest := []) rfl rfl (by show 2 * 0 + 0 ≤ _; decide) (hb hbytes d6) (⟨rfl, hB.mv X0.warmed.alike hh0, f1.al X0.warmed.alike, f2.al X0.warmed.alike, hA.mv X0.warmed.alike hh0, s1.there X0.warmed.alike hh0, hz, l0, by omega, l2, fun i hi => by rw [Nat.zero_add]; exact hp i hi⟩)
  have e0 := Got.mv _ s₁ s _ _ hh0.symm (Vm.Alike.refl _) rfl E3
  obtain rfl := e0.1
  have c4 : Steps p.tables e below (s₁.setTop (entryFrame m #[.ref a, .ref b] 2)) (T3.setTop (mkF m 9 #[.val (.ref a), .val (.ref b)] [])) := g3
  exact ⟨T3, none, _, _, _, X3, by simp, rfl, by omega, (fun _ => rfl), e0, fun fs hl => c4.trans (X3.returnOut hexec hret (hb hbytes d9) hl)⟩
theorem pays {l : Launch} {R : Room} {p : Program} {e : Env} {below : List Frame} {s : State} {sargs : Array Value} {len W : Nat} (a : Addr) (D : Cell) (fV fC : Field) (b : Addr) (A : Cell) (z : Int32) (htab : tab.before sargs s = true) (hfr : 4 ≤ R.frames) (hlo : W + 65 ≤ R.locals) :
    Back l R p e below s sargs yN len W (fun A₁ a₁ => A₁.cells + 1 ≤ R.cells ∧ A₁.slots + A.slots.size ≤ R.slots ∧ P a D fV fC b A z a₁ A₁.U) (fun A₁ _ v₁ B₁ => E a D fV fC A v₁ A₁.U B₁.U ∧ B₁.locs = A₁.locs ++ [⟨a, fC.slot⟩, ⟨a, fV.slot⟩] ∧ B₁.cells = A₁.cells + 1 ∧ B₁.slots = A₁.slots + A.slots.size) :=
  (law l a D fV fC b A z).pays htab hfr (by omega)
end New1
/-- the byte, read back as charAt reads it, is the char -/
theorem lo8_mask {x : Int32} (h0 : ¬ x < 0) (h1 : ¬ 255 < x) : lo8 x &&& 255 = x := by
  have t : ∀ k : Fin 256, lo8 (Int32.ofNat k.val) &&& 255 = Int32.ofNat k.val := by decide +kernel
  rw [Int32.lt_iff_toInt_lt] at h0 h1
  have e0 : (0 : Int32).toInt = 0 := rfl
  have e1 : (255 : Int32).toInt = 255 := rfl
  obtain ⟨k, hk⟩ : ∃ k : Nat, x.toInt = k := ⟨x.toInt.toNat, by omega⟩
  have hx : x = Int32.ofNat k := Int32.toInt_inj.mp (by rw [hk, Int32.toInt_ofNat_small (by omega)])
  rw [hx]
  exact t ⟨k, by omega⟩
end StrChars
namespace StrChars.Road
open Jvm Sem ClassFile Op Lib Jvm.Stand Jvm.Free Jvm.Free.XT
open Jvm.Lib.Cold (StaticIs)
abbrev ST : String := "java/lang/String"
/-- every table word that New1's law asks, flat -/
abbrev words : List Jvm.Cond := [.code New1.yN New1.yB 2 none, .initialized ST, .methodLink ST 27 New4.yN, .instanceMethod New4.yN,
  .code New4.yN New4.yB 6 none, .fieldLink ST 38 ST "COMPACT_STRINGS" "Z", .laysFinal ST ST "value" "[B", .fieldLink ST 9 ST "value" "[B", .laysFinal ST ST "coder" "B", .fieldLink ST 15 ST "coder" "B",
  .methodLink ST 1 Lib.objectInit, .instanceMethod Lib.objectInit, .code Lib.objectInit ⟨#[0xb1]⟩ 1 none, .methodLink ST 177 Cmp3.yN, .static Cmp3.yN, .methodLink ST 47 CodL.yN, .static CodL.yN,
  .code Cmp3.yN Cmp3.yB 6 (some (.array .byte)), .initialized U16, .arrayClass .byte, .methodLink U16 115 Cmp5.yN, .static Cmp5.yN, .code Cmp5.yN Cmp5.yB 7 (some .int), .code CodL.yN CodL.yB 2 (some .byte)]
theorem tab_of {a : Array Value} {s : State} (h : ∀ w ∈ words, w.before a s = true) : New1.tab.before a s = true := by
  have h5 : Cmp5.tab.before a s = true := unparts (wk h (.code Cmp5.yN Cmp5.yB 7 (some .int))) (wks h (.initialized Cmp5.yN.cls :: Cmp5.site))
  have hc : CodL.tab.before a s = true := unparts (wk h (.code CodL.yN CodL.yB 2 (some .byte))) (wks h (.initialized CodL.yN.cls :: CodL.site))
  have q5 : ∀ w ∈ Cmp5.tab :: words, w.before a s = true := fun w hw => (List.mem_cons.mp hw).elim (fun e => e ▸ h5) (h w)
  have h3 : Cmp3.tab.before a s = true := unparts (wk q5 (.code Cmp3.yN Cmp3.yB 6 (some (.array .byte)))) (wks q5 (.initialized Cmp3.yN.cls :: Cmp3.site))
  have q3 : ∀ w ∈ Cmp3.tab :: CodL.tab :: words, w.before a s = true := fun w hw => (List.mem_cons.mp hw).elim (fun e => e ▸ h3) fun hw => (List.mem_cons.mp hw).elim (fun e => e ▸ hc) (h w)
  have h4 : New4.tab.before a s = true := unparts (wk q3 (.code New4.yN New4.yB 6 none)) (wks q3 (.initialized New4.yN.cls :: New4.site))
  have q4 : ∀ w ∈ New4.tab :: words, w.before a s = true := fun w hw => (List.mem_cons.mp hw).elim (fun e => e ▸ h4) (h w)
  exact unparts (wk q4 (.code New1.yN New1.yB 2 none)) (wks q4 (.initialized New1.yN.cls :: New1.site))
/-- the words ride from the start Z to the walk's own state -/
theorem moved {Z s : State} {a0 args : Array Value} (hZ : Z.Warmed39 s.vm) (hw : ∀ d ∈ words, d.before a0 Z = true) : ∀ d ∈ words, d.before args s = true := fun d hd => by
  have q := hw d hd
  have t : ∀ d ∈ words, d = .arrayClass .byte ∨ (d.onTables && d.keepsFace) = true := by decide +kernel
  rcases t d hd with rfl | t
  · exact RoadKit.mvA hZ q
  · exact RoadKit.mv hZ q t
/-- WHAT COMES BACK, over the tables of the start Z: h the heap at the call, h' behind it -/
def Q (Z : State) (x : Addr) (A : Cell) (h : Heap) (v : Option Value) (h' : Heap) (L : List Loc) : Prop := v = none ∧ (∀ y ∈ L, y.base = x) ∧ RoadKit.Keep h h' [x] ∧ h'.size = h.size + 1 ∧ RoadKit.Exa Z h' x ST ∧ RoadKit.Fld Z h' x ST "value" "[B" (.ref h.size) ∧ RoadKit.Fld Z h' x ST "coder" "B" (.int 0) ∧
  (∃ V : Cell, RoadKit.Arr Z h' h.size V .byte ∧ V.vm = .none ∧ Z.vm.findClass "[B" = some V.cls ∧ V.slots.size = A.slots.size ∧ ∀ j, j < A.slots.size → V.slots[j]? = some (.int (lo8 (cv A j)))) ∧
  ∀ (O n d : String) (w : Value), RoadKit.Fld Z h x O n d w → RoadKit.slotOf Z O n d ≠ RoadKit.slotOf Z ST "value" "[B" → RoadKit.slotOf Z O n d ≠ RoadKit.slotOf Z ST "coder" "B" → RoadKit.Fld Z h' x O n d w
/-- **new String(chars) AT A CALL, IN THE ROAD'S FORM**: for specialBack behind newO: x the fresh String, b the char[] with the cell A -/
theorem back {p : Program} {l : Launch} {e : Env} {R : Room} {s : State} {args : Array Value} {below : List Frame} {len W : Nat} {Z : State} {a0 : Array Value} {h : Heap} (hZ : Z.Warmed39 s.vm) (hw : ∀ d ∈ words, d.before a0 Z = true) {kI : Nat} (wi : (Jvm.Cond.instantiable ST kI).before a0 Z = true)
    {x b : Addr} {A : Cell} {z : Int32} {v0 c0 : Value} (E : RoadKit.Exa Z h x ST) (V : RoadKit.Fld Z h x ST "value" "[B" v0) (C : RoadKit.Fld Z h x ST "coder" "B" c0) (K : RoadKit.Arr Z h b A .char) (hty : Typed .char A) (S : RoadKit.Sta Z h ST "COMPACT_STRINGS" "Z" (.int z)) (hz : ¬ z = 0)
    (l0 : 0 < A.slots.size) (l2 : A.slots.size ≤ 536870912) (hp : ∀ i, i < A.slots.size → ¬ 255 < cv A i) (hfr : 4 ≤ R.frames) (hlo : W + 65 ≤ R.locals) :
    Back l R p e below s args New1.yN len W (fun P a => a = #[.ref x, .ref b] ∧ P.U.heap = h ∧ P.cells + 1 ≤ R.cells ∧ P.slots + A.slots.size ≤ R.slots)
      (fun P _ v B => ∃ L, Q Z x A h v B.U.heap L ∧ B.locs = P.locs ++ L ∧ B.cells = P.cells + 1 ∧ B.slots = P.slots + A.slots.size) := by
  intro m meth c P g ig mk a X hg hsize hdg hW hn hp'
  obtain ⟨rfl, rfl, r1, r2⟩ := hp'
  have al : Z.vm.Alike P.U.vm := hZ.alike.trans X.warmed.alike
  obtain ⟨D, cfV, kV, iV, fV, hD, gV, stV, knV, obV, asV, slV⟩ := id V
  obtain ⟨D', cfC, kC, iC, fC, hD', gC, stC, -, -, asC, slC⟩ := id C
  cases hD.symm.trans hD'
  obtain ⟨D2, kD, e1, e2, e3, e4, e5⟩ := id E
  cases hD.symm.trans e1
  obtain ⟨c2, k2, i1, i2, i3, -⟩ := Cond.instantiable_spec wi
  cases e2.symm.trans i1
  cases e3.symm.trans i2
  obtain ⟨kU, u1, u2⟩ := al.2.2 _ _ e3
  have hB : Blank ST x D P.U := ⟨hD, ⟨knV, fun q hq => by rw [hq] at obV; cases obV⟩, by rw [al.findClass]; exact e2, kU, u1, by rw [u2]; exact i3, by rw [u2]; exact e5 i3⟩
  have F1 : Found ST "value" "[B" fV P.U := ⟨SBG.found_only al ⟨cfV, kV, iV, gV⟩, stV⟩
  have F2 : Found ST "coder" "B" fC P.U := ⟨SBG.found_only al ⟨cfC, kC, iC, gC⟩, stC⟩
  have hA : Ch b A P.U := ⟨⟨K.1, State.isArrayOf_alike al K.2.1, K.2.2, by omega⟩, hty⟩
  have hS : StaticIs P.U ST "COMPACT_STRINGS" "Z" (.int z) := by
    obtain ⟨cfS, iS, kS, fS, st, cS, t1, t2, t3, t4, t5, t6, t7⟩ := S
    exact StaticIs.there (s := { Z with heap := P.U.heap }) ⟨cfS, iS, kS, fS, st, cS, t1, t2, t3, t4, t5, (fun q => by rw [q] at t6; cases t6), t7⟩ al rfl
  obtain ⟨v, B, X', ⟨⟨hv, E', V', q1, q2, q3, q4, q5, q6, q7, q8, q9, q10, q11⟩, hl, hc, hs⟩, st⟩ := New1.pays x D fV fC b A z (tab_of (moved hZ hw)) hfr hlo m meth c P g ig mk _ X hg hsize hdg hW hn ⟨r1, r2, rfl, hB, F1, F2, hA, hS, hz, l0, l2, hp⟩
  have al' : Z.vm.Alike B.U.vm := hZ.alike.trans X'.warmed.alike
  have hsz : E'.slots.size = D.slots.size := by
    obtain ⟨-, -, -, kB, w1, w2, w3⟩ := q1
    obtain ⟨kB', y1, y2⟩ := al'.2.2 _ _ e3
    rw [q2.2.1] at w1
    cases w1.symm.trans y1
    rw [w3, e5 i3, y2]
  refine ⟨v, B, X', ⟨_, ⟨hv, ?_, ⟨by omega, fun y cy hy hn' => q10 y cy (by simpa using hn') hy, fun y cy hy => ?_⟩, q11, ⟨E', _, q1.1, by rw [q2.2.1]; exact e2, by rw [q2.2.1]; exact e3, by rw [q2.1]; exact obV, fun _ => by rw [hsz]; exact e5 i3⟩,
    ⟨E', cfV, kV, iV, fV, q1.1, gV, stV, by rw [q2.1]; exact knV, by rw [q2.1]; exact obV, by rw [q2.2.1]; exact asV, q3⟩, ⟨E', cfC, kC, iC, fC, q1.1, gC, stC, by rw [q2.1]; exact knV, by rw [q2.1]; exact obV, by rw [q2.2.1]; exact asC, q4⟩,
    ⟨V', ⟨q5.1, State.isArrayOf_alike al'.symm q5.2.1, q5.2.2.1⟩, q6, by rw [← al'.findClass]; exact q7, q8, fun j hj => by have := q9 j hj; rwa [Nat.zero_add] at this⟩, fun O n d w F n1 n2 => ?_⟩, hl, hc, hs⟩, st⟩
  · intro y hy
    simp only [List.mem_cons, List.not_mem_nil, or_false] at hy
    rcases hy with rfl | rfl <;> rfl
  · by_cases q : y = x
    · subst q
      cases hD.symm.trans hy
      exact ⟨E', q1.1, q2.2.1, q2.1, hsz⟩
    · exact ⟨cy, q10 y cy q hy, rfl, rfl, rfl⟩
  · obtain ⟨D3, cf, k, i, f, g1, g2, g3, g4, g5, g6, g7⟩ := F
    cases hD.symm.trans g1
    simp only [RoadKit.slotOf, g2, gV, gC, Option.map_some, Option.getD_some] at n1 n2
    exact ⟨E', cf, k, i, f, q1.1, g2, g3, by rw [q2.1]; exact g4, by rw [q2.1]; exact g5, by rw [q2.2.1]; exact g6, by rw [q2.2.2 f.slot (by simp [n1, n2])]; exact g7⟩
end StrChars.Road
namespace StrChars.Road
open Jvm Sem ClassFile Op Lib Jvm.Stand Jvm.Free Jvm.Free.XT
/-- WHAT COMES BACK, the byte[] as a list of values -/
def QA (Z : State) (x : Addr) (zn : Int32) (cs : List Int32) (h : Heap) (v : Option Value) (h' : Heap) (L : List Loc) : Prop := v = none ∧ (∀ y ∈ L, y.base = x) ∧ RoadKit.Keep h h' [x] ∧ h'.size = h.size + 1 ∧ RoadKit.Exa Z h' x ST ∧ RoadKit.Fld Z h' x ST "value" "[B" (.ref h.size) ∧ RoadKit.Fld Z h' x ST "coder" "B" (.int 0) ∧
  (∃ kb, Z.vm.findClass "[B" = some kb ∧ RoadKit.Arv Z h' h.size kb .byte zn (cs.map fun c => .int (lo8 c)) (.int 0)) ∧
  ∀ (O n d : String) (w : Value), RoadKit.Fld Z h x O n d w → RoadKit.slotOf Z O n d ≠ RoadKit.slotOf Z ST "value" "[B" → RoadKit.slotOf Z O n d ≠ RoadKit.slotOf Z ST "coder" "B" → RoadKit.Fld Z h' x O n d w
/-- **new String(chars) AT A CALL, THE ARRAYS AS LISTS**: the char[] at b holds cs, not empty, no char above 255 -/
theorem backArv {p : Program} {l : Launch} {e : Env} {R : Room} {s : State} {args : Array Value} {below : List Frame} {len W : Nat} {Z : State} {a0 : Array Value} {h : Heap} (hZ : Z.Warmed39 s.vm) (hw : ∀ d ∈ words, d.before a0 Z = true) {kI : Nat} (wi : (Jvm.Cond.instantiable ST kI).before a0 Z = true)
    {x b : Addr} {k : ClassId} {zn z : Int32} {cs : List Int32} {dv v0 c0 : Value} (E : RoadKit.Exa Z h x ST) (V : RoadKit.Fld Z h x ST "value" "[B" v0) (C : RoadKit.Fld Z h x ST "coder" "B" c0) (K : RoadKit.Arv Z h b k .char zn (cs.map Value.int) dv) (S : RoadKit.Sta Z h ST "COMPACT_STRINGS" "Z" (.int z)) (hz : ¬ z = 0)
    (hlen : zn.toNatClampNeg = cs.length) (h0 : 0 < cs.length) (hbig : cs.length ≤ 536870912) (hall : ∀ c ∈ cs, ¬ 255 < c) (hfr : 4 ≤ R.frames) (hlo : W + 65 ≤ R.locals) :
    Back l R p e below s args New1.yN len W (fun P a => a = #[.ref x, .ref b] ∧ P.U.heap = h ∧ P.cells + 1 ≤ R.cells ∧ P.slots + cs.length ≤ R.slots)
      (fun P _ v B => ∃ L, QA Z x zn cs h v B.U.heap L ∧ B.locs = P.locs ++ L ∧ B.cells = P.cells + 1 ∧ B.slots = P.slots + cs.length) := by
  obtain ⟨A, K1, K2, K3, K4, K5, K6⟩ := K
  have e : A.slots.size = cs.length := K3.trans hlen
  have hat : ∀ (i : Nat) (hi : i < cs.length), A.slots[i]? = some (.int cs[i]) := fun i hi => by rw [K5 i (by omega)]; simp [List.getD_eq_getElem?_getD, hi]
  have hcv : ∀ (i : Nat) (hi : i < cs.length), cv A i = cs[i] := fun i hi => by unfold cv; rw [hat i hi]
  have hty : Typed .char A := fun i v hv => by
    have hi : i < A.slots.size := (Array.getElem?_eq_some_iff.mp hv).1
    have q := K5 i hi
    rw [hv] at q
    rw [Option.some.inj q]
    exact K6 i hi
  refine Back.mono (back hZ hw wi E V C K1 hty S hz (by omega) (by omega) (fun i hi => by rw [hcv i (by omega)]; exact hall _ (List.getElem_mem _)) hfr hlo) (fun P a hp => ⟨hp.1, hp.2.1, hp.2.2.1, by rw [e]; exact hp.2.2.2⟩) (fun P a v B hp hq => ?_)
  obtain ⟨L, ⟨q1, q2, q3, q4, q5, q6, q7, ⟨V', v1, v2, v3, v4, v5⟩, q9⟩, hl, hc, hs⟩ := hq
  refine ⟨L, ⟨q1, q2, q3, q4, q5, q6, q7, ⟨V'.cls, v3, V', v1, rfl, by rw [v4, e, hlen], K4, fun i hi => ?_, fun i hi => ?_⟩, q9⟩, hl, hc, by rw [hs, e]⟩
  · have hi' : i < cs.length := by omega
    rw [v5 i (by omega), hcv i hi']; simp [List.getD_eq_getElem?_getD, hi']
  · have hi' : i < cs.length := by omega
    simp only [List.getD_eq_getElem?_getD, List.getElem?_map, List.getElem?_eq_getElem hi', Option.map_some, Option.getD_some]
    exact fits_lo8 _
end StrChars.Road
namespace StrChars.Road
open Jvm Sem ClassFile Op Lib Jvm.Stand Jvm.Free Jvm.Free.XT
/-- WHAT COMES BACK, in the writer's own shape -/
def QV (Z : State) (x : Addr) (N : Int32) (bs : List Int32) (h : Heap) (n0 : Nat) (v : Option Value) (h' : Heap) (L : List Loc) : Prop := v = none ∧ RoadKit.Fr n0 L ∧ RoadKit.Keep h h' [x] ∧ RoadKit.Exa Z h' x ST ∧ RoadKit.Fld Z h' x ST "coder" "B" (.int 0) ∧
  ∃ (t : Addr) (kb : ClassId), n0 ≤ t ∧ h.size ≤ t ∧ ¬ t = x ∧ RoadKit.Fld Z h' x ST "value" "[B" (.ref t) ∧ RoadKit.Arv Z h' t kb .byte N (bs.map Value.int) (.int 0)
/-- **new String(chars) AT A CALL, FOR THE WRITER**: a char[] of n known ints, each 0 to 255 -/
theorem backV {p : Program} {l : Launch} {e : Env} {R : Room} {s : State} {args : Array Value} {below : List Frame} {len W : Nat} {Z : State} {a0 : Array Value} {h : Heap} (hZ : Z.Warmed39 s.vm) (hw : ∀ d ∈ words, d.before a0 Z = true) {kI : Nat} (wi : (Jvm.Cond.instantiable ST kI).before a0 Z = true)
    {x b : Addr} {kC : ClassId} {cs bs : List Int32} {d v0 c0 : Value} {z N : Int32} {n n0 : Nat} (hx0 : n0 ≤ x) (hh0 : n0 ≤ h.size) (E : RoadKit.Exa Z h x ST) (V : RoadKit.Fld Z h x ST "value" "[B" v0) (C : RoadKit.Fld Z h x ST "coder" "B" c0) (K : RoadKit.Arv Z h b kC .char N (cs.map Value.int) d) (S : RoadKit.Sta Z h ST "COMPACT_STRINGS" "Z" (.int z)) (hz : ¬ z = 0)
    (hn : cs.length = n) (hN : N = Int32.ofNat n) (l0 : 0 < n) (l2 : n ≤ 4000) (hp : ∀ c ∈ cs, ¬ c < 0 ∧ ¬ (255 : Int32) < c) (hb : bs = cs.map (fun c => c.toInt8.toInt32)) (hfr : 4 ≤ R.frames) (hlo : W + 65 ≤ R.locals) :
    Back l R p e below s args (⟨"java/lang/String", "<init>", "([C)V"⟩ : MethodName) len W (fun P a => a = #[.ref x, .ref b] ∧ P.U.heap = h ∧ P.cells + 1 ≤ R.cells ∧ P.slots + n ≤ R.slots)
      (fun P _ v B => ∃ L, QV Z x N bs h n0 v B.U.heap L ∧ B.locs = P.locs ++ L ∧ B.cells = P.cells + 1 ∧ B.slots = P.slots + n) := by
  subst hn hN hb
  refine Back.mono (backArv hZ hw wi E V C K S hz (n32 (by omega)) l0 (by omega) (fun c hc => (hp c hc).2) hfr hlo) (fun P a hp => hp) (fun P a v B hp hq => ?_)
  obtain ⟨L, ⟨q1, q2, q3, q4, q5, q6, q7, ⟨kb, v1, v2⟩, q9⟩, hl, hc, hs⟩ := hq
  exact ⟨L, ⟨q1, fun y hy => by rw [q2 y hy]; exact hx0, q3, q5, q7, h.size, kb, hh0, Nat.le_refl _, Nat.ne_of_gt E.lt, q6, by rw [List.map_map]; exact v2⟩, hl, hc, hs⟩
end StrChars.Road
namespace StrChars
open Jvm Sem ClassFile Op Lib Jvm.Stand Jvm.Free.XT Jvm.Free.ALB Jvm.Free.JM Jvm.Free
open Jvm.Lib.Cold (StaticIs)
def hi8 (x : Int32) : Int32 := lo8 (x >>> ((8 : Int32) &&& 31))
/-- what StringUTF16.getChar makes of two bytes -/
def pairCh (u v : Int32) : Int32 := (((u &&& 255) <<< ((0 : Int32) &&& 31)) ||| ((v &&& 255) <<< ((8 : Int32) &&& 31))).toUInt32.toUInt16.toUInt32.toInt32
theorem shr0 (c : Int32) : c >>> ((0 : Int32) &&& 31) = c := by
  have e : ((0 : Int32) &&& 31) = 0 := by decide
  rw [e]
  apply Int32.toBitVec_inj.mp
  rw [Int32.toBitVec_shiftRight]
  have e1 : ((0 : Int32).toBitVec.smod 32) = 0#32 := by decide
  rw [e1, BitVec.sshiftRight_eq']
  exact BitVec.sshiftRight_zero
theorem lo8_and (x : Int32) : (lo8 x &&& 255).toBitVec.toNat = x.toBitVec.toNat % 256 := by
  have h : (lo8 x).toBitVec = (x.toBitVec.signExtend 8).signExtend 32 := by rw [lo8, Int8.toBitVec_toInt32, Int32.toBitVec_toInt8]
  rw [Int32.toBitVec_and, BitVec.toNat_and, h]
  have e : ((x.toBitVec.signExtend 8).signExtend 32).toNat % 256 = x.toBitVec.toNat % 256 := by
    rw [BitVec.toNat_signExtend]
    have hlt := x.toBitVec.isLt
    simp only [BitVec.toNat_setWidth, BitVec.toNat_signExtend]
    split <;> split <;> omega
  rw [← e]
  exact Nat.and_two_pow_sub_one_eq_mod _ 8
theorem pair_says {c : Int32} (h0 : ¬ c < 0) (h1 : ¬ 65535 < c) : pairCh (lo8 c) (hi8 c) = c := by
  rw [Int32.lt_iff_toInt_lt] at h0 h1
  have e0 : (0 : Int32).toInt = 0 := rfl
  have e1 : (65535 : Int32).toInt = 65535 := rfl
  have hc : c.toInt = c.toBitVec.toNat := by
    have := c.toBitVec.isLt
    have e : c.toInt = c.toBitVec.toInt := rfl
    rw [e] at h0 h1
    rw [e]
    rw [BitVec.toInt_eq_toNat_cond] at h0 h1 ⊢
    split at h0 <;> split <;> omega
  have hn : c.toBitVec.toNat < 65536 := by omega
  have a1 := lo8_and c
  have a2 : (hi8 c &&& 255).toBitVec.toNat = c.toBitVec.toNat / 256 := by
    rw [hi8, lo8_and]
    have e : ((8 : Int32) &&& 31) = 8 := by decide
    rw [e, Int32.toBitVec_shiftRight]
    have e2 : ((8 : Int32).toBitVec.smod 32) = 8#32 := by decide
    rw [e2, BitVec.sshiftRight_eq', BitVec.toNat_sshiftRight_of_msb_false (by rw [BitVec.msb_eq_false_iff_two_mul_lt]; omega)]
    show c.toBitVec.toNat >>> 8 % 256 = _
    rw [Nat.shiftRight_eq_div_pow]
    omega
  unfold pairCh
  apply Int32.toBitVec_inj.mp
  apply BitVec.eq_of_toNat_eq
  have f0 : ((0 : Int32) &&& 31) = 0 := by decide
  have f8 : ((8 : Int32) &&& 31) = 8 := by decide
  rw [f0, f8]
  have g : (((lo8 c &&& 255) <<< (0 : Int32)) ||| ((hi8 c &&& 255) <<< (8 : Int32))).toBitVec.toNat = c.toBitVec.toNat := by
    rw [Int32.toBitVec_or, Int32.toBitVec_shiftLeft, Int32.toBitVec_shiftLeft]
    have s0 : ((0 : Int32).toBitVec.smod 32) = 0#32 := by decide
    have s8 : ((8 : Int32).toBitVec.smod 32) = 8#32 := by decide
    rw [s0, s8, BitVec.toNat_or]
    simp only [BitVec.shiftLeft_eq', BitVec.toNat_shiftLeft, a1, a2]
    show (c.toBitVec.toNat % 256) <<< 0 % 2 ^ 32 ||| (c.toBitVec.toNat / 256) <<< 8 % 2 ^ 32 = _
    rw [Nat.shiftLeft_zero, Nat.mod_eq_of_lt (show c.toBitVec.toNat % 256 < 2 ^ 32 by omega), Nat.mod_eq_of_lt (show (c.toBitVec.toNat / 256) <<< 8 < 2 ^ 32 by rw [Nat.shiftLeft_eq]; omega), Nat.or_comm, ← Nat.shiftLeft_add_eq_or_of_lt (by omega), Nat.shiftLeft_eq]
    omega
  show BitVec.toNat (((((lo8 c &&& 255) <<< (0 : Int32)) ||| ((hi8 c &&& 255) <<< (8 : Int32))).toBitVec.setWidth 16).setWidth 32) = _
  rw [BitVec.toNat_setWidth, BitVec.toNat_setWidth, g]
  omega
end StrChars
namespace StrChars
open Jvm Sem ClassFile Op Lib Jvm.Stand Jvm.Free.XT Jvm.Free.ALB Jvm.Free.JM Jvm.Free
open Jvm.Lib.Cold (StaticIs)
theorem shr1 {n : Nat} (h : 2 * n < 2 ^ 31) : Int32.ofNat (2 * n) >>> ((1 : Int32) &&& 31) = Int32.ofNat n := by
  have e : ((1 : Int32) &&& 31) = 1 := by decide
  rw [e]
  apply Int32.toBitVec_inj.mp
  rw [Int32.toBitVec_shiftRight]
  have e1 : ((1 : Int32).toBitVec.smod 32) = 1#32 := by decide
  have hm : (BitVec.ofNat 32 (2 * n)).toNat = 2 * n := by rw [BitVec.toNat_ofNat, Nat.mod_eq_of_lt (by omega)]
  rw [e1, BitVec.sshiftRight_eq']
  apply BitVec.eq_of_toNat_eq
  show ((BitVec.ofNat 32 (2 * n)).sshiftRight 1).toNat = (BitVec.ofNat 32 n).toNat
  rw [BitVec.toNat_sshiftRight_of_msb_false (by rw [BitVec.msb_eq_false_iff_two_mul_lt, hm]; omega), hm, BitVec.toNat_ofNat, Nat.shiftRight_eq_div_pow]
  omega
/-- the array's cell V codes the n chars f 0 .. f (n - 1) by the coder cd, as the JDK does: coder 1 just where some char is above 255 -/
def Cod (cd : Int32) (n : Nat) (f : Nat → Int32) (V : Cell) : Prop := (cd = 0 ∧ V.slots.size = n ∧ ∀ j, j < n → V.slots[j]? = some (.int (lo8 (f j))) ∧ ¬ 255 < f j) ∨ (cd = 1 ∧ V.slots.size = 2 * n ∧ (∀ j, j < n → V.slots[2 * j]? = some (.int (lo8 (f j))) ∧ V.slots[2 * j + 1]? = some (.int (hi8 (f j)))) ∧ ∃ j, j < n ∧ 255 < f j)
theorem Cod.cd {cd : Int32} {n : Nat} {f : Nat → Int32} {V : Cell} (h : Cod cd n f V) : cd = 0 ∨ cd = 1 := h.imp (fun q => q.1) fun q => q.1
theorem Cod.len {cd : Int32} {n : Nat} {f : Nat → Int32} {V : Cell} (h : Cod cd n f V) (hs : V.slots.size < 2 ^ 31) : Int32.ofNat V.slots.size >>> (cd &&& 31) = Int32.ofNat n := by
  rcases h with ⟨rfl, h, -⟩ | ⟨rfl, h, -⟩
  · rw [shr0, h]
  · rw [h, shr1 (by omega)]
/-- **x is a String of the n chars f 0 .. f (n - 1)**, Latin-1 or UTF-16; its array at t has the cell V -/
def Txt (x t : Addr) (V : Cell) (cd : Int32) (n : Nat) (f : Nat → Int32) (U : State) : Prop := Exact "java/lang/String" x U ∧ Has x "java/lang/String" "value" "[B" (.ref t) U ∧ Has x "java/lang/String" "coder" "B" (.int cd) U ∧ XT.Arr .byte t V U ∧ Cod cd n f V ∧ ∀ j, j < n → ¬ f j < 0 ∧ ¬ 65535 < f j
theorem Txt.mv {x t : Addr} {V : Cell} {cd : Int32} {n : Nat} {f : Nat → Int32} {U U' : State} (h : Txt x t V cd n f U) (hal : U.vm.Alike U'.vm) (hh : U'.heap = U.heap) : Txt x t V cd n f U' := ⟨h.1.mv hal hh, h.2.1.mv hal hh, h.2.2.1.mv hal hh, h.2.2.2.1.mv hal hh, h.2.2.2.2⟩
namespace Cdr
def yN : MethodName := ⟨"java/lang/String", "coder", "()B"⟩
abbrev yB : ByteArray := jdk_42_method_152_code
theorem d0 : decode yB 0 = .ok (.getstatic 38, 3) := by decide +kernel
theorem d3 : decode yB 3 = .ok (.ifCond (.eq) 10, 3) := by decide +kernel
theorem d6 : decode yB 6 = .ok (.aload_n 0, 1) := by decide +kernel
theorem d7 : decode yB 7 = .ok (.getfield 15, 3) := by decide +kernel
theorem d10 : decode yB 10 = .ok (.goto 4, 3) := by decide +kernel
theorem d14 : decode yB 14 = .ok (.ireturn, 1) := by decide +kernel
def site : List Cond := [.fieldLink "java/lang/String" 38 "java/lang/String" "COMPACT_STRINGS" "Z", .fieldLink "java/lang/String" 15 "java/lang/String" "coder" "B"]
def tab : Cond := tabOf yN yB 1 (some .byte) site
def P (x : Addr) (cd z : Int32) (args : Array Value) (s : State) : Prop := args = #[.ref x] ∧ Has x "java/lang/String" "coder" "B" (.int cd) s ∧ (cd = 0 ∨ cd = 1) ∧ StaticIs s "java/lang/String" "COMPACT_STRINGS" "Z" (.int z) ∧ ¬ z = 0
def E (cd : Int32) (r : Option Value) (s u : State) : Prop := XT.PureE (some (.int cd)) r s u
theorem law (l : Launch) (x : Addr) (cd z : Int32) : Law l yN 1 0 0 0 yB 1 (some .byte) site (P x cd z) (E cd) [] 0 0 := by
  refine Law.of_walk (plainFor_of_name (by decide +kernel)) (by decide +kernel) (by decide +kernel) (by decide) (fun _ _ h => by rw [h.1]; rfl) (fun _ U U' hal hh h => ⟨h.1, h.2.1.mv hal hh, h.2.2.1, h.2.2.2.1.there hal hh, h.2.2.2.2⟩) (fun r U U' V V' h1 hal h2 h => XT.PureE.mv r U U' V V' h1 hal h2 h) ?_
  intro p e s m args below meth c s₁ X0 hexec hbytes hml hret hlk hnm hown hh0 W hP
  obtain ⟨rfl, hx, hc, s1, hz⟩ := hP
  have c1 : Steps p.tables e below (s₁.setTop (entryFrame m #[.ref x] 1)) (s₁.setTop (mkF m 0 #[.val (.ref x)] [])) := entry rfl
  obtain ⟨T2, X2, q2, st2⟩ := X0.sget hexec hown (wk W (.fieldLink "java/lang/String" 38 "java/lang/String" "COMPACT_STRINGS" "Z")) s1 (fun _ _ h => by rw [hh0]; exact h) (g := (mkF m 0 #[.val (.ref x)] [])) rfl (hb hbytes d0)
  have hh2 := q2.trans hh0
  have c3 : Steps p.tables e below (s₁.setTop (entryFrame m #[.ref x] 1)) (T2.setTop (mkF m 7 #[.val (.ref x)] [.ref x])) := (c1.trans (st2 _ (Steps.refl _))).trans (by
    refine XS.ifNo X2.here hexec rfl (hb hbytes d3) rfl (i0_eq_f hz) ?_
    refine XS.aloadN X2.here hexec rfl (hb hbytes d6) rfl rfl ?_
    exact Steps.refl _)
  obtain ⟨T4, X4, q4, st4⟩ := X2.hget hexec hown (wk W (.fieldLink "java/lang/String" 15 "java/lang/String" "coder" "B")) (hx.mv X2.warmed.alike hh2) (g := (mkF m 7 #[.val (.ref x)] [.ref x])) rfl (rest := []) rfl (hb hbytes d7)
  have c5 : Steps p.tables e below (s₁.setTop (entryFrame m #[.ref x] 1)) (T4.setTop (mkF m 14 #[.val (.ref x)] [.int cd])) := (c3.trans (st4 _ (Steps.refl _))).trans (by
    refine XS.goto X4.here hexec rfl (pc0 := 10) rfl (hb hbytes d10) (by decide) rfl ?_
    exact Steps.refl _)
  exact ⟨T4, some (.int cd), _, _, _, X4, rfl, rfl, rfl, (fun h => by cases h), ⟨rfl, q4.trans hh2⟩, fun fs hl => c5.trans (X4.ireturnOut hexec hret (by rcases hc with rfl | rfl <;> rfl) (Or.inr (Or.inr (Or.inl rfl))) (hb hbytes d14) hl)⟩
end Cdr
namespace Len
def yN : MethodName := ⟨"java/lang/String", "length", "()I"⟩
abbrev yB : ByteArray := jdk_42_method_54_code
theorem d0 : decode yB 0 = .ok (.aload_n 0, 1) := by decide +kernel
theorem d1 : decode yB 1 = .ok (.getfield 9, 3) := by decide +kernel
theorem d4 : decode yB 4 = .ok (.arraylength, 1) := by decide +kernel
theorem d5 : decode yB 5 = .ok (.aload_n 0, 1) := by decide +kernel
theorem d6 : decode yB 6 = .ok (.invokevirtual 335, 3) := by decide +kernel
theorem d9 : decode yB 9 = .ok (.ishr, 1) := by decide +kernel
theorem d10 : decode yB 10 = .ok (.ireturn, 1) := by decide +kernel
def site : List Cond := [.fieldLink "java/lang/String" 9 "java/lang/String" "value" "[B", Cdr.tab] ++ virtW "java/lang/String" 335 "java/lang/String" Cdr.yN Cdr.yN
def tab : Cond := tabOf yN yB 1 (some .int) site
def P (x t : Addr) (V : Cell) (cd : Int32) (n : Nat) (f : Nat → Int32) (z : Int32) (args : Array Value) (s : State) : Prop := args = #[.ref x] ∧ Txt x t V cd n f s ∧ StaticIs s "java/lang/String" "COMPACT_STRINGS" "Z" (.int z) ∧ ¬ z = 0
def E (n : Nat) (r : Option Value) (s u : State) : Prop := XT.PureE (some (.int (Int32.ofNat n))) r s u
/-- length() of a String of n chars, in either coding -/
theorem law (l : Launch) (x t : Addr) (V : Cell) (cd : Int32) (n : Nat) (f : Nat → Int32) (z : Int32) : Law l yN 1 0 1 13 yB 1 (some .int) site (P x t V cd n f z) (E n) [] 0 0 := by
  refine Law.of_walk (plainFor_of_name (by decide +kernel)) (by decide +kernel) (by decide +kernel) (by decide) (fun _ _ h => by rw [h.1]; rfl) (fun _ U U' hal hh h => ⟨h.1, h.2.1.mv hal hh, h.2.2.1.there hal hh, h.2.2.2⟩) (fun r U U' V V' h1 hal h2 h => XT.PureE.mv r U U' V V' h1 hal h2 h) ?_
  intro p e s m args below meth c s₁ X0 hexec hbytes hml hret hlk hnm hown hh0 W hP
  obtain ⟨rfl, hx, s1, hz⟩ := hP
  have v31 := hx.2.2.2.1.2.2.2
  have c1 : Steps p.tables e below (s₁.setTop (entryFrame m #[.ref x] 1)) (s₁.setTop (mkF m 1 #[.val (.ref x)] [.ref x])) := Steps.trans (entry rfl) (by
    show Steps p.tables e below (s₁.setTop (mkF m 0 #[.val (.ref x)] [])) _
    refine XS.aloadN X0.here hexec rfl (hb hbytes d0) rfl rfl ?_
    exact Steps.refl _)
  obtain ⟨T2, X2, q2, st2⟩ := X0.hget hexec hown (wk W (.fieldLink "java/lang/String" 9 "java/lang/String" "value" "[B")) (hx.mv X0.warmed.alike hh0).2.1 (g := (mkF m 1 #[.val (.ref x)] [.ref x])) rfl (rest := []) rfl (hb hbytes d1)
  have hh2 := q2.trans hh0
  have hx2 := hx.mv X2.warmed.alike hh2
  have c3 : Steps p.tables e below (s₁.setTop (entryFrame m #[.ref x] 1)) (T2.setTop (mkF m 6 #[.val (.ref x)] [.ref x, .int (Int32.ofNat V.slots.size)])) := (c1.trans (st2 _ (Steps.refl _))).trans (by
    refine X2.alen hexec hx2.2.2.2.1 rfl rfl (hb hbytes d4) ?_
    refine XS.aloadN X2.here hexec rfl (hb hbytes d5) rfl rfl ?_
    exact Steps.refl _)
  obtain ⟨v4, T4, X4, E4, g4⟩ := X2.callV hexec (Cdr.law l x cd z) hown (wks W (virtW "java/lang/String" 335 "java/lang/String" Cdr.yN Cdr.yN)) rfl (by decide) (wk W Cdr.tab) (W := 1) (Nat.le_of_ble_eq_true rfl) (Nat.le_of_ble_eq_true rfl) (Nat.le_refl _) (Nat.le_refl _) (hx2.1.fc X2.warmed.alike) hx2.1.is (g := (mkF m 6 #[.val (.ref x)] [.ref x, .int (Int32.ofNat V.slots.size)])) rfl (by rw [hml]; rfl) c3 (argsL := []) (rest := [.int (Int32.ofNat V.slots.size)]) rfl rfl (by show 2 * 0 + (1 + 0) ≤ _; decide) (hb hbytes d6) (⟨rfl, hx2.2.2.1, hx.2.2.2.2.1.cd, s1.there X2.warmed.alike hh2, hz⟩)
  obtain ⟨rfl, q4⟩ := E4
  have c5 : Steps p.tables e below (s₁.setTop (entryFrame m #[.ref x] 1)) (T4.setTop (mkF m 10 #[.val (.ref x)] [.int (Int32.ofNat V.slots.size >>> (cd &&& 31))])) := Steps.trans g4 (by
    refine ishr X4.here hexec rfl (hb hbytes d9) rfl ?_
    exact Steps.refl _)
  rw [hx.2.2.2.2.1.len v31] at c5
  exact ⟨T4, some (.int (Int32.ofNat n)), _, _, _, X4, rfl, rfl, rfl, (fun h => by cases h), ⟨rfl, q4.trans hh2⟩, fun fs hl => c5.trans (X4.ireturnOut hexec hret rfl (Or.inl rfl) (hb hbytes d10) hl)⟩
theorem pays {l : Launch} {R : Room} {p : Program} {e : Env} {below : List Frame} {s : State} {sargs : Array Value} {len W : Nat} (x t : Addr) (V : Cell) (cd : Int32) (n : Nat) (f : Nat → Int32) (z : Int32) (htab : tab.before sargs s = true) (hfr : 2 ≤ R.frames) (hlo : W + 25 ≤ R.locals) :
    Back l R p e below s sargs yN len W (fun A₁ a₁ => A₁.cells + 0 ≤ R.cells ∧ A₁.slots + 0 ≤ R.slots ∧ P x t V cd n f z a₁ A₁.U) (fun A₁ _ v₁ B₁ => E n v₁ A₁.U B₁.U ∧ B₁.locs = A₁.locs ++ [] ∧ B₁.cells = A₁.cells + 0 ∧ B₁.slots = A₁.slots + 0) :=
  (law l x t V cd n f z).pays htab hfr (by omega)
end Len
end StrChars
namespace StrChars.Road
open Jvm Sem ClassFile Op Lib Jvm.Stand Jvm.Free Jvm.Free.XT
open Jvm.Lib.Cold (StaticIs)
theorem consq {a : Array Value} {s : State} {c : Jvm.Cond} {L : List Jvm.Cond} (h0 : c.before a s = true) (h : ∀ w ∈ L, w.before a s = true) : ∀ w ∈ c :: L, w.before a s = true := fun w hw => (List.mem_cons.mp hw).elim (fun e => e ▸ h0) (h w)
/-- the words of String.length(), either coding -/
abbrev wordsLen : List Jvm.Cond := [.code Len.yN Len.yB 1 (some .int), .initialized ST, .fieldLink ST 9 ST "value" "[B", .fieldLink ST 38 ST "COMPACT_STRINGS" "Z", .fieldLink ST 15 ST "coder" "B", .code Cdr.yN Cdr.yB 1 (some .byte), .methodLink ST 335 Cdr.yN, .declares Cdr.yN, .selects ST Cdr.yN Cdr.yN, .instanceMethod Cdr.yN]
theorem tabLen_of {a : Array Value} {s : State} (h : ∀ w ∈ wordsLen, w.before a s = true) : Len.tab.before a s = true := by
  have hc : Cdr.tab.before a s = true := unparts (wk h (.code Cdr.yN Cdr.yB 1 (some .byte))) (wks h (.initialized Cdr.yN.cls :: Cdr.site))
  have q := consq hc h
  exact unparts (wk q (.code Len.yN Len.yB 1 (some .int))) (wks q (.initialized Len.yN.cls :: Len.site))
theorem movedLen {Z s : State} {a0 args : Array Value} (hZ : Z.Warmed39 s.vm) (hw : ∀ d ∈ wordsLen, d.before a0 Z = true) : ∀ d ∈ wordsLen, d.before args s = true := fun d hd => by
  have q := hw d hd
  have t : ∀ d ∈ wordsLen, d = .arrayClass .byte ∨ (d.onTables && d.keepsFace) = true := by decide +kernel
  rcases t d hd with rfl | t
  · exact RoadKit.mvA hZ q
  · exact RoadKit.mv hZ q t
/-- the bytes of the chars cs, low before high -/
def wideBytes : List Int32 → List Value
  | [] => []
  | c :: cs => .int (lo8 c) :: .int (hi8 c) :: wideBytes cs
theorem wide_lo (d : Value) : ∀ (cs : List Int32) (j : Nat), j < cs.length → (wideBytes cs).getD (2 * j) d = .int (lo8 (cs.getD j 0))
  | [], j, h => absurd h (Nat.not_lt_zero j)
  | c :: cs, 0, _ => rfl
  | c :: cs, j + 1, h => by
    have q := wide_lo d cs j (by simpa using h)
    rw [show 2 * (j + 1) = 2 * j + 1 + 1 from by omega]
    simpa [wideBytes] using q
theorem wide_hi (d : Value) : ∀ (cs : List Int32) (j : Nat), j < cs.length → (wideBytes cs).getD (2 * j + 1) d = .int (hi8 (cs.getD j 0))
  | [], j, h => absurd h (Nat.not_lt_zero j)
  | c :: cs, 0, _ => rfl
  | c :: cs, j + 1, h => by
    have q := wide_hi d cs j (by simpa using h)
    rw [show 2 * (j + 1) + 1 = 2 * j + 1 + 1 + 1 from by omega]
    simpa [wideBytes] using q
theorem low_at (d : Value) (cs : List Int32) (j : Nat) (h : j < cs.length) : (cs.map fun c => Value.int (lo8 c)).getD j d = .int (lo8 (cs.getD j 0)) := by
  simp [List.getD_eq_getElem?_getD, h]
/-- an array of N2 bytes vs codes the chars cs by the coder cd -/
def CodA (cs : List Int32) (cd N2 : Int32) (vs : List Value) : Prop := (cd = 0 ∧ N2 = Int32.ofNat cs.length ∧ vs = (cs.map fun c => Value.int (lo8 c)) ∧ ∀ c ∈ cs, ¬ 255 < c) ∨ (cd = 1 ∧ N2 = Int32.ofNat (2 * cs.length) ∧ vs = wideBytes cs ∧ ∃ c ∈ cs, 255 < c)
theorem CodA.cod {cs : List Int32} {cd N2 : Int32} {vs : List Value} {V : Cell} (h : CodA cs cd N2 vs) (hn : 2 * cs.length < 2 ^ 31) (hs : V.slots.size = N2.toNatClampNeg) (hv : RoadKit.Has V vs (.int 0)) : Cod cd cs.length (fun j => cs.getD j 0) V := by
  rcases h with ⟨rfl, rfl, rfl, h⟩ | ⟨rfl, rfl, rfl, c, hc, hw⟩
  · rw [n32 (by omega)] at hs
    exact Or.inl ⟨rfl, hs, fun j hj => ⟨by rw [hv j (by omega), low_at _ _ _ hj], by
      have e : cs.getD j 0 = cs[j] := by simp [List.getD_eq_getElem?_getD, hj]
      show ¬ 255 < cs.getD j 0
      rw [e]; exact h _ (List.getElem_mem _)⟩⟩
  · rw [n32 (by omega)] at hs
    obtain ⟨j, hj, rfl⟩ := List.getElem_of_mem hc
    exact Or.inr ⟨rfl, hs, fun j hj => ⟨by rw [hv _ (by omega), wide_lo _ _ _ hj], by rw [hv _ (by omega), wide_hi _ _ _ hj]⟩, j, hj, by
      have e : cs.getD j 0 = cs[j] := by simp [List.getD_eq_getElem?_getD, hj]
      show 255 < cs.getD j 0
      rw [e]; exact hw⟩
/-- an object of exactly java/lang/String, its two fields found: as the laws ask it -/
theorem strObj {Z U : State} {a0 : Array Value} {kI : Nat} (wi : (Jvm.Cond.instantiable ST kI).before a0 Z = true) (al : Z.vm.Alike U.vm) {x : Addr} {v0 c0 : Value} (E : RoadKit.Exa Z U.heap x ST) (V : RoadKit.Fld Z U.heap x ST "value" "[B" v0) (C : RoadKit.Fld Z U.heap x ST "coder" "B" c0) :
    ∃ (D : Cell) (fV fC : Field), Blank ST x D U ∧ Found ST "value" "[B" fV U ∧ Found ST "coder" "B" fC U ∧ D.slots[fV.slot]? = some v0 ∧ D.slots[fC.slot]? = some c0 ∧ RoadKit.slotOf Z ST "value" "[B" = fV.slot ∧ RoadKit.slotOf Z ST "coder" "B" = fC.slot := by
  obtain ⟨D, cfV, kV, iV, fV, hD, gV, stV, knV, obV, asV, slV⟩ := V
  obtain ⟨D', cfC, kC, iC, fC, hD', gC, stC, -, -, asC, slC⟩ := C
  cases hD.symm.trans hD'
  obtain ⟨D2, kD, e1, e2, e3, e4, e5⟩ := E
  cases hD.symm.trans e1
  obtain ⟨c2, k2, i1, i2, i3, -⟩ := Cond.instantiable_spec wi
  cases e2.symm.trans i1
  cases e3.symm.trans i2
  obtain ⟨kU, u1, u2⟩ := al.2.2 _ _ e3
  exact ⟨D, fV, fC, ⟨hD, ⟨knV, fun q hq => by rw [hq] at obV; cases obV⟩, by rw [al.findClass]; exact e2, kU, u1, by rw [u2]; exact i3, by rw [u2]; exact e5 i3⟩, ⟨SBG.found_only al ⟨cfV, kV, iV, gV⟩, stV⟩, ⟨SBG.found_only al ⟨cfC, kC, iC, gC⟩, stC⟩, slV, slC, by simp [RoadKit.slotOf, gV], by simp [RoadKit.slotOf, gC]⟩
theorem sta_is {Z U : State} (al : Z.vm.Alike U.vm) {C n d : String} {v : Value} (S : RoadKit.Sta Z U.heap C n d v) : StaticIs U C n d v := by
  obtain ⟨cfS, iS, kS, fS, st, cS, t1, t2, t3, t4, t5, t6, t7⟩ := S
  exact StaticIs.there (s := { Z with heap := U.heap }) ⟨cfS, iS, kS, fS, st, cS, t1, t2, t3, t4, t5, (fun q => by rw [q] at t6; cases t6), t7⟩ al rfl
/-- **length() OF SUCH A STRING** -/
theorem lenW {p : Program} {l : Launch} {e : Env} {R : Room} {s : State} {args : Array Value} {below : List Frame} {len W : Nat} {Z : State} {a0 : Array Value} {h : Heap} (hZ : Z.Warmed39 s.vm) (hw : ∀ d ∈ wordsLen, d.before a0 Z = true) {kI : Nat} (wi : (Jvm.Cond.instantiable ST kI).before a0 Z = true)
    {x t : Addr} {kb : ClassId} {cs : List Int32} {cd N2 z : Int32} {vs : List Value} (E : RoadKit.Exa Z h x ST) (V : RoadKit.Fld Z h x ST "value" "[B" (.ref t)) (C : RoadKit.Fld Z h x ST "coder" "B" (.int cd)) (K : RoadKit.Arv Z h t kb .byte N2 vs (.int 0)) (hc : CodA cs cd N2 vs) (hb : ∀ c ∈ cs, ¬ c < 0 ∧ ¬ (65535 : Int32) < c)
    (S : RoadKit.Sta Z h ST "COMPACT_STRINGS" "Z" (.int z)) (hz : ¬ z = 0) (l2 : cs.length ≤ 4000) (hfr : 2 ≤ R.frames) (hlo : W + 25 ≤ R.locals) :
    Back l R p e below s args (⟨"java/lang/String", "length", "()I"⟩ : MethodName) len W (fun P a => a = #[.ref x] ∧ P.U.heap = h ∧ P.cells + 0 ≤ R.cells ∧ P.slots + 0 ≤ R.slots)
      (fun P _ v B => ∃ L, (v = some (.int (Int32.ofNat cs.length)) ∧ L = [] ∧ B.U.heap = h) ∧ B.locs = P.locs ++ L ∧ B.cells = P.cells + 0 ∧ B.slots = P.slots + 0) := by
  obtain ⟨A, K1, K2, K3, K4, K5, K6⟩ := K
  have hcod := hc.cod (by omega) K3 K5
  intro m meth c P g ig mk a X hg hsize hdg hW hn hp'
  obtain ⟨rfl, rfl, r1, r2⟩ := hp'
  have al : Z.vm.Alike P.U.vm := hZ.alike.trans X.warmed.alike
  obtain ⟨D, fV, fC, hB, F1, F2, g1, g2, -, -⟩ := strObj wi al E V C
  have hx : Txt x t A cd cs.length (fun j => cs.getD j 0) P.U := ⟨⟨_, hB.2.2.1, D, hB.1, rfl, by cases q : D.vm <;> first | rfl | exact absurd q (hB.2.1.2 _)⟩, Has.of hB F1 g1, Has.of hB F2 g2, ⟨K1.1, State.isArrayOf_alike al K1.2.1, K1.2.2, by rcases hcod with ⟨-, q, -⟩ | ⟨-, q, -⟩ <;> omega⟩, hcod, fun j hj => by
    have e : cs.getD j 0 = cs[j] := by simp [List.getD_eq_getElem?_getD, hj]
    show ¬ cs.getD j 0 < 0 ∧ ¬ 65535 < cs.getD j 0
    rw [e]; exact hb _ (List.getElem_mem _)⟩
  obtain ⟨v, B, X', ⟨⟨hv, hh⟩, hl, hk, hs⟩, st⟩ := Len.pays x t A cd cs.length (fun j => cs.getD j 0) z (tabLen_of (movedLen hZ hw)) hfr hlo m meth c P g ig mk _ X hg hsize hdg hW hn ⟨r1, r2, rfl, hx, sta_is al S, hz⟩
  exact ⟨v, B, X', ⟨[], ⟨hv, rfl, hh⟩, hl, hk, hs⟩, st⟩
end StrChars.Road
namespace StrChars
open Jvm Sem ClassFile Op Lib Jvm.Stand Jvm.Free.XT Jvm.Free.ALB Jvm.Free.JM Jvm.Free
open Jvm.Lib.Cold (StaticIs)
/-- what place i of a byte[]'s cell holds -/
def yv (A : Cell) (i : Nat) : Int32 := match A.slots[i]? with | some (.int x) => x | _ => 0
theorem yv_get {a : Addr} {A : Cell} {U : State} (h : XT.Arr .byte a A U) (ht : Typed .byte A) {i : Nat} (hi : i < A.slots.size) : A.slots[i]? = some (.int (yv A i)) := by
  have e := Array.getElem?_eq_getElem hi
  have f := ht i _ e
  unfold yv; rw [e]
  generalize A.slots[i] = v at f
  cases v <;> simp [fits] at f ⊢
/-- the two arrays are equal, place for place -/
def EqC (A B : Cell) : Prop := A.slots.size = B.slots.size ∧ ∀ i, i < A.slots.size → yv A i = yv B i
/-- a boolean that says whether p -/
def Says01 (q : Prop) (r : Option Value) (s u : State) : Prop := ∃ v : Int32, r = some (.int v) ∧ u.heap = s.heap ∧ ((v = 1 ∧ q) ∨ (v = 0 ∧ ¬ q))
theorem Says01.mv {q : Prop} : ∀ r (U U' V V' : State), U'.heap = U.heap → V.vm.Alike V'.vm → V'.heap = V.heap → Says01 q r U V → Says01 q r U' V' :=
  fun r U U' V V' h1 _ h2 ⟨v, a, b, c⟩ => ⟨v, a, by rw [h1, h2]; exact b, c⟩
namespace LEq
def yN : MethodName := ⟨"java/lang/StringLatin1", "equals", "([B[B)Z"⟩
abbrev yB : ByteArray := jdk_43_method_13_code
theorem d0 : decode yB 0 = .ok (.aload_n 0, 1) := by decide +kernel
theorem d1 : decode yB 1 = .ok (.arraylength, 1) := by decide +kernel
theorem d2 : decode yB 2 = .ok (.aload_n 1, 1) := by decide +kernel
theorem d3 : decode yB 3 = .ok (.arraylength, 1) := by decide +kernel
theorem d4 : decode yB 4 = .ok (.if_icmp (.ne) 30, 3) := by decide +kernel
theorem d7 : decode yB 7 = .ok (.iconst 0, 1) := by decide +kernel
theorem d8 : decode yB 8 = .ok (.istore_n 2, 1) := by decide +kernel
theorem d9 : decode yB 9 = .ok (.iload_n 2, 1) := by decide +kernel
theorem d10 : decode yB 10 = .ok (.aload_n 0, 1) := by decide +kernel
theorem d11 : decode yB 11 = .ok (.arraylength, 1) := by decide +kernel
theorem d12 : decode yB 12 = .ok (.if_icmp (.ge) 20, 3) := by decide +kernel
theorem d15 : decode yB 15 = .ok (.aload_n 0, 1) := by decide +kernel
theorem d16 : decode yB 16 = .ok (.iload_n 2, 1) := by decide +kernel
theorem d17 : decode yB 17 = .ok (.baload, 1) := by decide +kernel
theorem d18 : decode yB 18 = .ok (.aload_n 1, 1) := by decide +kernel
theorem d19 : decode yB 19 = .ok (.iload_n 2, 1) := by decide +kernel
theorem d20 : decode yB 20 = .ok (.baload, 1) := by decide +kernel
theorem d21 : decode yB 21 = .ok (.if_icmp (.eq) 5, 3) := by decide +kernel
theorem d24 : decode yB 24 = .ok (.iconst 0, 1) := by decide +kernel
theorem d25 : decode yB 25 = .ok (.ireturn, 1) := by decide +kernel
theorem d26 : decode yB 26 = .ok (.iinc 2 1, 3) := by decide +kernel
theorem d29 : decode yB 29 = .ok (.goto (-20), 3) := by decide +kernel
theorem d32 : decode yB 32 = .ok (.iconst 1, 1) := by decide +kernel
theorem d33 : decode yB 33 = .ok (.ireturn, 1) := by decide +kernel
theorem d34 : decode yB 34 = .ok (.iconst 0, 1) := by decide +kernel
theorem d35 : decode yB 35 = .ok (.ireturn, 1) := by decide +kernel
def site : List Cond := []
def tab : Cond := tabOf yN yB 3 (some .boolean) site
def P (a : Addr) (A : Cell) (b : Addr) (B : Cell) (args : Array Value) (s : State) : Prop := args = #[.ref a, .ref b] ∧ XT.Arr .byte a A s ∧ Typed .byte A ∧ XT.Arr .byte b B s ∧ Typed .byte B
/-- whether two byte[] are equal, place for place -/
theorem law (l : Launch) (a : Addr) (A : Cell) (b : Addr) (B : Cell) : Law l yN 2 2 0 0 yB 3 (some .boolean) site (P a A b B) (Says01 (EqC A B)) [] 0 0 := by
  refine Law.of_walk (plainFor_of_name (by decide +kernel)) (by decide +kernel) (by decide +kernel) (by decide) (fun _ _ h => by rw [h.1]; rfl) (fun _ U U' hal hh h => ⟨h.1, h.2.1.mv hal hh, h.2.2.1, h.2.2.2.1.mv hal hh, h.2.2.2.2⟩) (fun r U U' V V' h1 hal h2 h => Says01.mv r U U' V V' h1 hal h2 h) ?_
  intro p e s m args below meth c s₁ X0 hexec hbytes hml hret hlk hnm hown hh0 W hP
  obtain ⟨rfl, hA, tA, hB, tB⟩ := hP
  have a31 := hA.2.2.2
  have b31 := hB.2.2.2
  have hA0 := hA.mv X0.warmed.alike hh0
  have hB0 := hB.mv X0.warmed.alike hh0
  have c1 : Steps p.tables e below (s₁.setTop (entryFrame m #[.ref a, .ref b] 3)) (s₁.setTop (mkF m 0 #[.val (.ref a), .val (.ref b), .unset] [])) := entry rfl
  have c2 : Steps p.tables e below (s₁.setTop (entryFrame m #[.ref a, .ref b] 3)) (s₁.setTop (mkF m 4 #[.val (.ref a), .val (.ref b), .unset] [.int (Int32.ofNat B.slots.size), .int (Int32.ofNat A.slots.size)])) := c1.trans (by
    refine XS.aloadN X0.here hexec rfl (hb hbytes d0) rfl rfl ?_
    refine X0.alen hexec hA0 rfl rfl (hb hbytes d1) ?_
    refine XS.aloadN X0.here hexec rfl (hb hbytes d2) rfl rfl ?_
    refine X0.alen hexec hB0 rfl rfl (hb hbytes d3) ?_
    exact Steps.refl _)
  by_cases hs : A.slots.size = B.slots.size
  · have c3 : Steps p.tables e below (s₁.setTop (entryFrame m #[.ref a, .ref b] 3)) (s₁.setTop (mkF m 9 #[.val (.ref a), .val (.ref b), .val (.int 0)] [])) := c2.trans (by
      refine XS.icmpNo X0.here hexec rfl (hb hbytes d4) rfl (ii_ne_f (by rw [hs])) ?_
      refine iconstV X0.here hexec rfl 0 (hb hbytes d7) (by decide) ?_
      refine XS.istoreN X0.here hexec rfl (hb hbytes d8) rfl rfl ?_
      exact Steps.refl _)
    have loop : ∀ (r i : Nat), i + r = A.slots.size → (∀ j, j < i → yv A j = yv B j) → Steps p.tables e below (s₁.setTop (entryFrame m #[.ref a, .ref b] 3)) (s₁.setTop (mkF m 9 #[.val (.ref a), .val (.ref b), .val (.int (Int32.ofNat i))] [])) → ∃ (pc : Nat) (Ls : Array Slot) (v : Int32), (pc = 25 ∨ pc = 33) ∧ ((v = 1 ∧ EqC A B) ∨ (v = 0 ∧ ¬ EqC A B)) ∧ Steps p.tables e below (s₁.setTop (entryFrame m #[.ref a, .ref b] 3)) (s₁.setTop (mkF m pc Ls [.int v])) := by
      intro r
      induction r with
      | zero =>
        intro i hi he cl
        exact ⟨33, _, 1, Or.inr rfl, Or.inl ⟨rfl, hs, fun j hj => he j (by omega)⟩, cl.trans (by
          refine XS.iloadN X0.here hexec rfl (hb hbytes d9) rfl ?_
          refine XS.aloadN X0.here hexec rfl (hb hbytes d10) rfl rfl ?_
          refine X0.alen hexec hA0 rfl rfl (hb hbytes d11) ?_
          refine XS.icmpYes X0.here hexec rfl (pc0 := 12) rfl (hb hbytes d12) rfl (ii_ge_t (nlt32 (by omega) (by omega))) (by decide) rfl ?_
          refine iconstV X0.here hexec rfl 1 (hb hbytes d32) (by decide) ?_
          exact Steps.refl _)⟩
      | succ r ih =>
        intro i hi he cl
        have c4 : Steps p.tables e below (s₁.setTop (entryFrame m #[.ref a, .ref b] 3)) (s₁.setTop (mkF m 21 #[.val (.ref a), .val (.ref b), .val (.int (Int32.ofNat i))] [.int (yv B i), .int (yv A i)])) := cl.trans (by
          refine XS.iloadN X0.here hexec rfl (hb hbytes d9) rfl ?_
          refine XS.aloadN X0.here hexec rfl (hb hbytes d10) rfl rfl ?_
          refine X0.alen hexec hA0 rfl rfl (hb hbytes d11) ?_
          refine XS.icmpNo X0.here hexec rfl (hb hbytes d12) rfl (ii_ge_f (lt32 (by omega) (by omega))) ?_
          refine XS.aloadN X0.here hexec rfl (hb hbytes d15) rfl rfl ?_
          refine XS.iloadN X0.here hexec rfl (hb hbytes d16) rfl ?_
          refine X0.aget hexec hA0 rfl (yv_get hA tA (i := i) (by omega)) rfl rfl (hb hbytes d17) ?_
          refine XS.aloadN X0.here hexec rfl (hb hbytes d18) rfl rfl ?_
          refine XS.iloadN X0.here hexec rfl (hb hbytes d19) rfl ?_
          refine X0.aget hexec hB0 rfl (yv_get hB tB (i := i) (by omega)) rfl rfl (hb hbytes d20) ?_
          exact Steps.refl _)
        by_cases hv : yv A i = yv B i
        · have c5 : Steps p.tables e below (s₁.setTop (entryFrame m #[.ref a, .ref b] 3)) (s₁.setTop (mkF m 9 #[.val (.ref a), .val (.ref b), .val (.int (Int32.ofNat i + 1))] [])) := c4.trans (by
            refine XS.icmpYes X0.here hexec rfl (pc0 := 21) rfl (hb hbytes d21) rfl (ii_eq_t hv) (by decide) rfl ?_
            refine iincV X0.here hexec rfl 1 (hb hbytes d26) (by decide) rfl rfl ?_
            refine XS.goto X0.here hexec rfl (pc0 := 29) rfl (hb hbytes d29) (by decide) rfl ?_
            exact Steps.refl _)
          rw [succ32] at c5
          exact ih (i + 1) (by omega) (fun j hj => by
            by_cases e : j = i
            · rw [e]; exact hv
            · exact he j (by omega)) c5
        · exact ⟨25, _, 0, Or.inl rfl, Or.inr ⟨rfl, fun q => hv (q.2 i (by omega))⟩, c4.trans (by
            refine XS.icmpNo X0.here hexec rfl (hb hbytes d21) rfl (ii_eq_f hv) ?_
            refine iconstV X0.here hexec rfl 0 (hb hbytes d24) (by decide) ?_
            exact Steps.refl _)⟩
    obtain ⟨pc, Ls, v, hpc, hv, cz⟩ := loop A.slots.size 0 (by omega) (fun j hj => absurd hj (Nat.not_lt_zero j)) c3
    have nv : narrow .boolean (.int v) = .int v := by rcases hv with ⟨rfl, -⟩ | ⟨rfl, -⟩ <;> rfl
    rcases hpc with rfl | rfl
    · exact ⟨s₁, some (.int v), _, _, _, X0, rfl, rfl, rfl, (fun h => by cases h), ⟨v, rfl, hh0, hv⟩, fun fs hl => cz.trans (X0.ireturnOut hexec hret nv (Or.inr (Or.inl rfl)) (hb hbytes d25) hl)⟩
    · exact ⟨s₁, some (.int v), _, _, _, X0, rfl, rfl, rfl, (fun h => by cases h), ⟨v, rfl, hh0, hv⟩, fun fs hl => cz.trans (X0.ireturnOut hexec hret nv (Or.inr (Or.inl rfl)) (hb hbytes d33) hl)⟩
  · have c3 : Steps p.tables e below (s₁.setTop (entryFrame m #[.ref a, .ref b] 3)) (s₁.setTop (mkF m 35 #[.val (.ref a), .val (.ref b), .unset] [.int 0])) := c2.trans (by
      refine XS.icmpYes X0.here hexec rfl (pc0 := 4) rfl (hb hbytes d4) rfl (ii_ne_t (ne32 a31 b31 hs)) (by decide) rfl ?_
      refine iconstV X0.here hexec rfl 0 (hb hbytes d34) (by decide) ?_
      exact Steps.refl _)
    exact ⟨s₁, some (.int 0), _, _, _, X0, rfl, rfl, rfl, (fun h => by cases h), ⟨0, rfl, hh0, Or.inr ⟨rfl, fun q => hs q.1⟩⟩, fun fs hl => c3.trans (X0.ireturnOut hexec hret rfl (Or.inr (Or.inl rfl)) (hb hbytes d35) hl)⟩
end LEq
theorem Cod.ty {cd : Int32} {n : Nat} {f : Nat → Int32} {V : Cell} (h : Cod cd n f V) : Typed .byte V := fun i v hv => by
  have hi : i < V.slots.size := (Array.getElem?_eq_some_iff.mp hv).1
  rcases h with ⟨-, k1, k2⟩ | ⟨-, k1, k2, -⟩
  · rw [(k2 i (by omega)).1] at hv; cases hv; exact fits_lo8 _
  · rcases Nat.mod_two_eq_zero_or_one i with e | e
    · obtain ⟨j, rfl⟩ : ∃ j, i = 2 * j := ⟨i / 2, by omega⟩
      rw [(k2 j (by omega)).1] at hv; cases hv; exact fits_lo8 _
    · obtain ⟨j, rfl⟩ : ∃ j, i = 2 * j + 1 := ⟨i / 2, by omega⟩
      rw [(k2 j (by omega)).2] at hv; cases hv; exact fits_lo8 _
/-- the same text -/
def SameT (n : Nat) (f : Nat → Int32) (k : Nat) (g : Nat → Int32) : Prop := n = k ∧ ∀ j, j < n → f j = g j
theorem lo8_inj {x y : Int32} (h0 : ¬ x < 0) (h1 : ¬ 255 < x) (k0 : ¬ y < 0) (k1 : ¬ 255 < y) (h : lo8 x = lo8 y) : x = y := by
  rw [← lo8_mask h0 h1, ← lo8_mask k0 k1, h]
/-- arrays coded by one coder are equal just where the texts are -/
theorem Cod.eqv {cd : Int32} {n k : Nat} {f g : Nat → Int32} {V V' : Cell} (h : Cod cd n f V) (h' : Cod cd k g V') (hf : ∀ j, j < n → ¬ f j < 0 ∧ ¬ 65535 < f j) (hg : ∀ j, j < k → ¬ g j < 0 ∧ ¬ 65535 < g j) : EqC V V' ↔ SameT n f k g := by
  have yvv : ∀ {W : Cell} {i : Nat} {x : Int32}, W.slots[i]? = some (.int x) → yv W i = x := fun q => by unfold yv; rw [q]
  rcases h with ⟨rfl, k1, k2⟩ | ⟨rfl, k1, k2, -⟩
  · rcases h' with ⟨-, m1, m2⟩ | ⟨e, -⟩
    · constructor
      · rintro ⟨e1, e2⟩
        refine ⟨by omega, fun j hj => ?_⟩
        have q := e2 j (by omega)
        rw [yvv (k2 j hj).1, yvv (m2 j (by omega)).1] at q
        exact lo8_inj (hf j hj).1 (k2 j hj).2 (hg j (by omega)).1 (m2 j (by omega)).2 q
      · rintro ⟨rfl, e2⟩
        refine ⟨by omega, fun j hj => ?_⟩
        rw [yvv (k2 j (by omega)).1, yvv (m2 j (by omega)).1, e2 j (by omega)]
    · exact absurd e (by decide)
  · rcases h' with ⟨e, -⟩ | ⟨-, m1, m2, -⟩
    · exact absurd e (by decide)
    · constructor
      · rintro ⟨e1, e2⟩
        refine ⟨by omega, fun j hj => ?_⟩
        have q1 := e2 (2 * j) (by omega)
        have q2 := e2 (2 * j + 1) (by omega)
        rw [yvv (k2 j hj).1, yvv (m2 j (by omega)).1] at q1
        rw [yvv (k2 j hj).2, yvv (m2 j (by omega)).2] at q2
        rw [← pair_says (hf j hj).1 (hf j hj).2, ← pair_says (hg j (by omega)).1 (hg j (by omega)).2, q1, q2]
      · rintro ⟨rfl, e2⟩
        refine ⟨by omega, fun i hi => ?_⟩
        rcases Nat.mod_two_eq_zero_or_one i with e | e
        · obtain ⟨j, rfl⟩ : ∃ j, i = 2 * j := ⟨i / 2, by omega⟩
          rw [yvv (k2 j (by omega)).1, yvv (m2 j (by omega)).1, e2 j (by omega)]
        · obtain ⟨j, rfl⟩ : ∃ j, i = 2 * j + 1 := ⟨i / 2, by omega⟩
          rw [yvv (k2 j (by omega)).2, yvv (m2 j (by omega)).2, e2 j (by omega)]
/-- two codings differ: so do the texts -/
theorem Cod.dif {cd cd' : Int32} {n k : Nat} {f g : Nat → Int32} {V V' : Cell} (h : Cod cd n f V) (h' : Cod cd' k g V') (hne : ¬ cd = cd') : ¬ SameT n f k g := by
  rintro ⟨rfl, e⟩
  rcases h with ⟨rfl, -, k2⟩ | ⟨rfl, -, -, j, hj, hw⟩
  · rcases h' with ⟨rfl, -⟩ | ⟨-, -, -, j, hj, hw⟩
    · exact hne rfl
    · exact (k2 j hj).2 (by rw [e j hj]; exact hw)
  · rcases h' with ⟨-, -, m2⟩ | ⟨rfl, -⟩
    · exact (m2 j hj).2 (by rw [← e j hj]; exact hw)
    · exact hne rfl
/-- an object of exactly C is an instance of C -/
theorem cinst {p : Program} {l : Launch} {e : Env} {R : Room} {s : State} {m : MethodId} {args : Array Value} {below : List Frame} {meth : Method} {c : Code} {T : State} {locs : List Loc} {cells slots : Nat} (X : Stand p l e R s m args below meth c T locs cells slots) (hexec : p.tables.exec = Jvm.exec) {own C : String} {index : Nat} (hown : s.vm.findClass own = some m.cls) (hlink : (Cond.classLink own index C).before args s = true) {a : Addr} (hE : Exact C a T)
    {g : JFrame} (hg : g.method = m) {rest : List Value} (hstack : g.stack = .ref a :: rest) (hdg : decode c.code g.pc = .ok (.instanceof index, 3)) :
    ∃ T', Stand p l e R s m args below meth c T' locs cells slots ∧ T'.heap = T.heap ∧ ∀ target, Steps p.tables e below (T'.setTop { g with pc := g.pc + 3, stack := .int 1 :: rest }) target → Steps p.tables e below (T.setTop g) target := by
  obtain ⟨cB, h1, D, h2, h3, h4⟩ := hE
  have h1' : s.vm.findClass C = some cB := by rw [← X.warmed.alike.findClass]; exact h1
  obtain ⟨vm', X', st⟩ := X.instanceofYes hexec hown hlink h2 h4 h1' (by rw [h3]; exact Jvm.Free.SB.assignable_self _ _) hg hstack hdg
  exact ⟨_, X', rfl, st⟩
theorem cself {p : Program} {l : Launch} {e : Env} {R : Room} {s : State} {m : MethodId} {args : Array Value} {below : List Frame} {meth : Method} {c : Code} {T : State} {locs : List Loc} {cells slots : Nat} (X : Stand p l e R s m args below meth c T locs cells slots) (hexec : p.tables.exec = Jvm.exec) {own C : String} {index : Nat} (hown : s.vm.findClass own = some m.cls) (hlink : (Cond.classLink own index C).before args s = true) {a : Addr} (hE : Exact C a T)
    {g : JFrame} (hg : g.method = m) {rest : List Value} (hstack : g.stack = .ref a :: rest) (hdg : decode c.code g.pc = .ok (.checkcast index, 3)) :
    ∃ T', Stand p l e R s m args below meth c T' locs cells slots ∧ T'.heap = T.heap ∧ ∀ target, Steps p.tables e below (T'.setTop { g with pc := g.pc + 3, stack := .ref a :: rest }) target → Steps p.tables e below (T.setTop g) target := by
  obtain ⟨cB, h1, D, h2, h3, h4⟩ := hE
  have h1' : s.vm.findClass C = some cB := by rw [← X.warmed.alike.findClass]; exact h1
  obtain ⟨vm', X', st⟩ := X.checkcastYes hexec hown hlink h2 h4 h1' (by rw [h3]; exact Jvm.Free.SB.assignable_self _ _) hg hstack hdg
  exact ⟨_, X', rfl, fun t h => st t (by rw [← hstack] at h; exact h)⟩
namespace SEq
def yN : MethodName := ⟨"java/lang/String", "equals", "(Ljava/lang/Object;)Z"⟩
abbrev yB : ByteArray := jdk_42_method_66_code
theorem d0 : decode yB 0 = .ok (.aload_n 0, 1) := by decide +kernel
theorem d1 : decode yB 1 = .ok (.aload_n 1, 1) := by decide +kernel
theorem d2 : decode yB 2 = .ok (.if_acmp (.ne) 5, 3) := by decide +kernel
theorem d5 : decode yB 5 = .ok (.iconst 1, 1) := by decide +kernel
theorem d6 : decode yB 6 = .ok (.ireturn, 1) := by decide +kernel
theorem d7 : decode yB 7 = .ok (.aload_n 1, 1) := by decide +kernel
theorem d8 : decode yB 8 = .ok (.instanceof 10, 3) := by decide +kernel
theorem d11 : decode yB 11 = .ok (.ifCond (.eq) 43, 3) := by decide +kernel
theorem d14 : decode yB 14 = .ok (.aload_n 1, 1) := by decide +kernel
theorem d15 : decode yB 15 = .ok (.checkcast 10, 3) := by decide +kernel
theorem d18 : decode yB 18 = .ok (.astore_n 2, 1) := by decide +kernel
theorem d19 : decode yB 19 = .ok (.getstatic 38, 3) := by decide +kernel
theorem d22 : decode yB 22 = .ok (.ifCond (.eq) 14, 3) := by decide +kernel
theorem d25 : decode yB 25 = .ok (.aload_n 0, 1) := by decide +kernel
theorem d26 : decode yB 26 = .ok (.getfield 15, 3) := by decide +kernel
theorem d29 : decode yB 29 = .ok (.aload_n 2, 1) := by decide +kernel
theorem d30 : decode yB 30 = .ok (.getfield 15, 3) := by decide +kernel
theorem d33 : decode yB 33 = .ok (.if_icmp (.ne) 21, 3) := by decide +kernel
theorem d36 : decode yB 36 = .ok (.aload_n 0, 1) := by decide +kernel
theorem d37 : decode yB 37 = .ok (.getfield 9, 3) := by decide +kernel
theorem d40 : decode yB 40 = .ok (.aload_n 2, 1) := by decide +kernel
theorem d41 : decode yB 41 = .ok (.getfield 9, 3) := by decide +kernel
theorem d44 : decode yB 44 = .ok (.invokestatic 541, 3) := by decide +kernel
theorem d47 : decode yB 47 = .ok (.ifCond (.eq) 7, 3) := by decide +kernel
theorem d50 : decode yB 50 = .ok (.iconst 1, 1) := by decide +kernel
theorem d51 : decode yB 51 = .ok (.goto 4, 3) := by decide +kernel
theorem d54 : decode yB 54 = .ok (.iconst 0, 1) := by decide +kernel
theorem d55 : decode yB 55 = .ok (.ireturn, 1) := by decide +kernel
def site : List Cond := [.classLink "java/lang/String" 10 "java/lang/String", .fieldLink "java/lang/String" 38 "java/lang/String" "COMPACT_STRINGS" "Z", .fieldLink "java/lang/String" 15 "java/lang/String" "coder" "B", .fieldLink "java/lang/String" 9 "java/lang/String" "value" "[B", LEq.tab] ++ staticW "java/lang/String" 541 LEq.yN
def tab : Cond := tabOf yN yB 3 (some .boolean) site
def P (x t : Addr) (V : Cell) (cd : Int32) (n : Nat) (f : Nat → Int32) (y t' : Addr) (V' : Cell) (cd' : Int32) (k : Nat) (g : Nat → Int32) (z : Int32) (args : Array Value) (s : State) : Prop := args = #[.ref x, .ref y] ∧ Txt x t V cd n f s ∧ Txt y t' V' cd' k g s ∧ StaticIs s "java/lang/String" "COMPACT_STRINGS" "Z" (.int z) ∧ ¬ z = 0
/-- equals(Object) of two Strings: whether the texts are the same -/
theorem law (l : Launch) (x t : Addr) (V : Cell) (cd : Int32) (n : Nat) (f : Nat → Int32) (y t' : Addr) (V' : Cell) (cd' : Int32) (k : Nat) (g : Nat → Int32) (z : Int32) : Law l yN 2 1 1 14 yB 3 (some .boolean) site (P x t V cd n f y t' V' cd' k g z) (Says01 (SameT n f k g)) [] 0 0 := by
  refine Law.of_walk (plainFor_of_name (by decide +kernel)) (by decide +kernel) (by decide +kernel) (by decide) (fun _ _ h => by rw [h.1]; rfl) (fun _ U U' hal hh h => ⟨h.1, h.2.1.mv hal hh, h.2.2.1.mv hal hh, h.2.2.2.1.there hal hh, h.2.2.2.2⟩) (fun r U U' V V' h1 hal h2 h => Says01.mv r U U' V V' h1 hal h2 h) ?_
  intro p e s m args below meth c s₁ X0 hexec hbytes hml hret hlk hnm hown hh0 W hP
  obtain ⟨rfl, hx, hy, s1, hz⟩ := hP
  have c1 : Steps p.tables e below (s₁.setTop (entryFrame m #[.ref x, .ref y] 3)) (s₁.setTop (mkF m 2 #[.val (.ref x), .val (.ref y), .unset] [.ref y, .ref x])) := Steps.trans (entry rfl) (by
    show Steps p.tables e below (s₁.setTop (mkF m 0 #[.val (.ref x), .val (.ref y), .unset] [])) _
    refine XS.aloadN X0.here hexec rfl (hb hbytes d0) rfl rfl ?_
    refine XS.aloadN X0.here hexec rfl (hb hbytes d1) rfl rfl ?_
    exact Steps.refl _)
  by_cases hxy : x = y
  · have c2 : Steps p.tables e below (s₁.setTop (entryFrame m #[.ref x, .ref y] 3)) (s₁.setTop (mkF m 6 #[.val (.ref x), .val (.ref y), .unset] [.int 1])) := c1.trans (by
      refine acmpNo X0.here hexec rfl (hb hbytes d2) rfl rfl rfl (by simp [acmp, hxy]) ?_
      refine iconstV X0.here hexec rfl 1 (hb hbytes d5) (by decide) ?_
      exact Steps.refl _)
    subst hxy
    have ec : cd = cd' := by
      obtain ⟨D, fd, a1, a2, a3⟩ := hx.2.2.1
      obtain ⟨D', fd', b1, b2, b3⟩ := hy.2.2.1
      cases a1.symm.trans b1
      obtain ⟨q1, q2, q3, q4⟩ := a2.1
      obtain ⟨r1, r2, r3, r4⟩ := b2.1
      cases q4.symm.trans r4
      cases a3.symm.trans b3; rfl
    have et : t = t' := by
      obtain ⟨D, fd, a1, a2, a3⟩ := hx.2.1
      obtain ⟨D', fd', b1, b2, b3⟩ := hy.2.1
      cases a1.symm.trans b1
      obtain ⟨q1, q2, q3, q4⟩ := a2.1
      obtain ⟨r1, r2, r3, r4⟩ := b2.1
      cases q4.symm.trans r4
      cases a3.symm.trans b3; rfl
    subst ec et
    have ev : V = V' := by cases hx.2.2.2.1.1.symm.trans hy.2.2.2.1.1; rfl
    subst ev
    have hs : SameT n f k g := (Cod.eqv hx.2.2.2.2.1 hy.2.2.2.2.1 hx.2.2.2.2.2 hy.2.2.2.2.2).mp ⟨rfl, fun _ _ => rfl⟩
    exact ⟨s₁, some (.int 1), _, _, _, X0, rfl, rfl, rfl, (fun h => by cases h), ⟨1, rfl, hh0, Or.inl ⟨rfl, hs⟩⟩, fun fs hl => c2.trans (X0.ireturnOut hexec hret rfl (Or.inr (Or.inl rfl)) (hb hbytes d6) hl)⟩
  · have c2 : Steps p.tables e below (s₁.setTop (entryFrame m #[.ref x, .ref y] 3)) (s₁.setTop (mkF m 8 #[.val (.ref x), .val (.ref y), .unset] [.ref y])) := c1.trans (by
      refine acmpYes X0.here hexec rfl (pc0 := 2) rfl (hb hbytes d2) rfl rfl rfl (by simp [acmp, hxy]) (by decide) rfl ?_
      refine XS.aloadN X0.here hexec rfl (hb hbytes d7) rfl rfl ?_
      exact Steps.refl _)
    obtain ⟨T3, X3, q3, st3⟩ := cinst X0 hexec hown (wk W (.classLink "java/lang/String" 10 "java/lang/String")) (hy.mv X0.warmed.alike hh0).1 (g := (mkF m 8 #[.val (.ref x), .val (.ref y), .unset] [.ref y])) rfl (rest := []) rfl (hb hbytes d8)
    have hh3 := q3.trans hh0
    have c4 : Steps p.tables e below (s₁.setTop (entryFrame m #[.ref x, .ref y] 3)) (T3.setTop (mkF m 15 #[.val (.ref x), .val (.ref y), .unset] [.ref y])) := (c2.trans (st3 _ (Steps.refl _))).trans (by
      refine XS.ifNo X3.here hexec rfl (hb hbytes d11) rfl (i0_eq_f (by decide)) ?_
      refine XS.aloadN X3.here hexec rfl (hb hbytes d14) rfl rfl ?_
      exact Steps.refl _)
    obtain ⟨T5, X5, q5, st5⟩ := cself X3 hexec hown (wk W (.classLink "java/lang/String" 10 "java/lang/String")) (hy.mv X3.warmed.alike hh3).1 (g := (mkF m 15 #[.val (.ref x), .val (.ref y), .unset] [.ref y])) rfl (rest := []) rfl (hb hbytes d15)
    have hh5 := q5.trans hh3
    have c6 : Steps p.tables e below (s₁.setTop (entryFrame m #[.ref x, .ref y] 3)) (T5.setTop (mkF m 19 #[.val (.ref x), .val (.ref y), .val (.ref y)] [])) := (c4.trans (st5 _ (Steps.refl _))).trans (by
      refine XS.astoreN X5.here hexec rfl (hb hbytes d18) rfl rfl rfl ?_
      exact Steps.refl _)
    obtain ⟨T7, X7, q7, st7⟩ := X5.sget hexec hown (wk W (.fieldLink "java/lang/String" 38 "java/lang/String" "COMPACT_STRINGS" "Z")) s1 (fun _ _ h => by rw [hh5]; exact h) (g := (mkF m 19 #[.val (.ref x), .val (.ref y), .val (.ref y)] [])) rfl (hb hbytes d19)
    have hh7 := q7.trans hh5
    have c8 : Steps p.tables e below (s₁.setTop (entryFrame m #[.ref x, .ref y] 3)) (T7.setTop (mkF m 26 #[.val (.ref x), .val (.ref y), .val (.ref y)] [.ref x])) := (c6.trans (st7 _ (Steps.refl _))).trans (by
      refine XS.ifNo X7.here hexec rfl (hb hbytes d22) rfl (i0_eq_f hz) ?_
      refine XS.aloadN X7.here hexec rfl (hb hbytes d25) rfl rfl ?_
      exact Steps.refl _)
    obtain ⟨T9, X9, q9, st9⟩ := X7.hget hexec hown (wk W (.fieldLink "java/lang/String" 15 "java/lang/String" "coder" "B")) (hx.mv X7.warmed.alike hh7).2.2.1 (g := (mkF m 26 #[.val (.ref x), .val (.ref y), .val (.ref y)] [.ref x])) rfl (rest := []) rfl (hb hbytes d26)
    have hh9 := q9.trans hh7
    have c10 : Steps p.tables e below (s₁.setTop (entryFrame m #[.ref x, .ref y] 3)) (T9.setTop (mkF m 30 #[.val (.ref x), .val (.ref y), .val (.ref y)] [.ref y, .int cd])) := (c8.trans (st9 _ (Steps.refl _))).trans (by
      refine XS.aloadN X9.here hexec rfl (hb hbytes d29) rfl rfl ?_
      exact Steps.refl _)
    obtain ⟨T11, X11, q11, st11⟩ := X9.hget hexec hown (wk W (.fieldLink "java/lang/String" 15 "java/lang/String" "coder" "B")) (hy.mv X9.warmed.alike hh9).2.2.1 (g := (mkF m 30 #[.val (.ref x), .val (.ref y), .val (.ref y)] [.ref y, .int cd])) rfl (rest := [.int cd]) rfl (hb hbytes d30)
    have hh11 := q11.trans hh9
    have c12 : Steps p.tables e below (s₁.setTop (entryFrame m #[.ref x, .ref y] 3)) (T11.setTop (mkF m 33 #[.val (.ref x), .val (.ref y), .val (.ref y)] [.int cd', .int cd])) := c10.trans (st11 _ (Steps.refl _))
    by_cases hcd : cd = cd'
    · subst hcd
      have c13 : Steps p.tables e below (s₁.setTop (entryFrame m #[.ref x, .ref y] 3)) (T11.setTop (mkF m 37 #[.val (.ref x), .val (.ref y), .val (.ref y)] [.ref x])) := c12.trans (by
        refine XS.icmpNo X11.here hexec rfl (hb hbytes d33) rfl (ii_ne_f rfl) ?_
        refine XS.aloadN X11.here hexec rfl (hb hbytes d36) rfl rfl ?_
        exact Steps.refl _)
      obtain ⟨T14, X14, q14, st14⟩ := X11.hget hexec hown (wk W (.fieldLink "java/lang/String" 9 "java/lang/String" "value" "[B")) (hx.mv X11.warmed.alike hh11).2.1 (g := (mkF m 37 #[.val (.ref x), .val (.ref y), .val (.ref y)] [.ref x])) rfl (rest := []) rfl (hb hbytes d37)
      have hh14 := q14.trans hh11
      have c15 : Steps p.tables e below (s₁.setTop (entryFrame m #[.ref x, .ref y] 3)) (T14.setTop (mkF m 41 #[.val (.ref x), .val (.ref y), .val (.ref y)] [.ref y, .ref t])) := (c13.trans (st14 _ (Steps.refl _))).trans (by
        refine XS.aloadN X14.here hexec rfl (hb hbytes d40) rfl rfl ?_
        exact Steps.refl _)
      obtain ⟨T16, X16, q16, st16⟩ := X14.hget hexec hown (wk W (.fieldLink "java/lang/String" 9 "java/lang/String" "value" "[B")) (hy.mv X14.warmed.alike hh14).2.1 (g := (mkF m 41 #[.val (.ref x), .val (.ref y), .val (.ref y)] [.ref y, .ref t])) rfl (rest := [.ref t]) rfl (hb hbytes d41)
      have hh16 := q16.trans hh14
      have c17 : Steps p.tables e below (s₁.setTop (entryFrame m #[.ref x, .ref y] 3)) (T16.setTop (mkF m 44 #[.val (.ref x), .val (.ref y), .val (.ref y)] [.ref t', .ref t])) := c15.trans (st16 _ (Steps.refl _))
      obtain ⟨v18, T18, X18, E18, g18⟩ := X16.callS hexec (LEq.law l t V t' V') hown (wks W (staticW "java/lang/String" 541 LEq.yN)) (wk W LEq.tab) (W := 0) (Nat.le_of_ble_eq_true rfl) (Nat.le_of_ble_eq_true rfl) (Nat.le_refl _) (Nat.le_refl _) (g := (mkF m 44 #[.val (.ref x), .val (.ref y), .val (.ref y)] [.ref t', .ref t])) rfl (by rw [hml]; rfl) c17 (argsL := [.ref t, .ref t']) (rest := []) rfl rfl (by show 2 * 0 + 0 ≤ _; decide) (hb hbytes d44) (⟨rfl, hx.2.2.2.1.mv X16.warmed.alike hh16, hx.2.2.2.2.1.ty, hy.2.2.2.1.mv X16.warmed.alike hh16, hy.2.2.2.2.1.ty⟩)
      obtain ⟨v, rfl, q18, hv⟩ := E18
      have iff := Cod.eqv hx.2.2.2.2.1 hy.2.2.2.2.1 hx.2.2.2.2.2 hy.2.2.2.2.2
      rcases hv with ⟨rfl, he⟩ | ⟨rfl, he⟩
      · have c19 : Steps p.tables e below (s₁.setTop (entryFrame m #[.ref x, .ref y] 3)) (T18.setTop (mkF m 55 #[.val (.ref x), .val (.ref y), .val (.ref y)] [.int 1])) := Steps.trans g18 (by
          refine XS.ifNo X18.here hexec rfl (hb hbytes d47) rfl (i0_eq_f (by decide)) ?_
          refine iconstV X18.here hexec rfl 1 (hb hbytes d50) (by decide) ?_
          refine XS.goto X18.here hexec rfl (pc0 := 51) rfl (hb hbytes d51) (by decide) rfl ?_
          exact Steps.refl _)
        exact ⟨T18, some (.int 1), _, _, _, X18, rfl, rfl, rfl, (fun h => by cases h), ⟨1, rfl, q18.trans hh16, Or.inl ⟨rfl, iff.mp he⟩⟩, fun fs hl => c19.trans (X18.ireturnOut hexec hret rfl (Or.inr (Or.inl rfl)) (hb hbytes d55) hl)⟩
      · have c19 : Steps p.tables e below (s₁.setTop (entryFrame m #[.ref x, .ref y] 3)) (T18.setTop (mkF m 55 #[.val (.ref x), .val (.ref y), .val (.ref y)] [.int 0])) := Steps.trans g18 (by
          refine XS.ifYes X18.here hexec rfl (pc0 := 47) rfl (hb hbytes d47) rfl (i0_eq_t rfl) (by decide) rfl ?_
          refine iconstV X18.here hexec rfl 0 (hb hbytes d54) (by decide) ?_
          exact Steps.refl _)
        exact ⟨T18, some (.int 0), _, _, _, X18, rfl, rfl, rfl, (fun h => by cases h), ⟨0, rfl, q18.trans hh16, Or.inr ⟨rfl, fun q => he (iff.mpr q)⟩⟩, fun fs hl => c19.trans (X18.ireturnOut hexec hret rfl (Or.inr (Or.inl rfl)) (hb hbytes d55) hl)⟩
    · have c13 : Steps p.tables e below (s₁.setTop (entryFrame m #[.ref x, .ref y] 3)) (T11.setTop (mkF m 55 #[.val (.ref x), .val (.ref y), .val (.ref y)] [.int 0])) := c12.trans (by
        refine XS.icmpYes X11.here hexec rfl (pc0 := 33) rfl (hb hbytes d33) rfl (ii_ne_t hcd) (by decide) rfl ?_
        refine iconstV X11.here hexec rfl 0 (hb hbytes d54) (by decide) ?_
        exact Steps.refl _)
      exact ⟨T11, some (.int 0), _, _, _, X11, rfl, rfl, rfl, (fun h => by cases h), ⟨0, rfl, hh11, Or.inr ⟨rfl, Cod.dif hx.2.2.2.2.1 hy.2.2.2.2.1 hcd⟩⟩, fun fs hl => c13.trans (X11.ireturnOut hexec hret rfl (Or.inr (Or.inl rfl)) (hb hbytes d55) hl)⟩
theorem pays {l : Launch} {R : Room} {p : Program} {e : Env} {below : List Frame} {s : State} {sargs : Array Value} {len W : Nat} (x t : Addr) (V : Cell) (cd : Int32) (n : Nat) (f : Nat → Int32) (y t' : Addr) (V' : Cell) (cd' : Int32) (k : Nat) (g : Nat → Int32) (z : Int32) (htab : tab.before sargs s = true) (hfr : 2 ≤ R.frames) (hlo : W + 28 ≤ R.locals) :
    Back l R p e below s sargs yN len W (fun A₁ a₁ => A₁.cells + 0 ≤ R.cells ∧ A₁.slots + 0 ≤ R.slots ∧ P x t V cd n f y t' V' cd' k g z a₁ A₁.U) (fun A₁ _ v₁ B₁ => Says01 (SameT n f k g) v₁ A₁.U B₁.U ∧ B₁.locs = A₁.locs ++ [] ∧ B₁.cells = A₁.cells + 0 ∧ B₁.slots = A₁.slots + 0) :=
  (law l x t V cd n f y t' V' cd' k g z).pays htab hfr (by omega)
end SEq
end StrChars
namespace StrChars.Road
open Jvm Sem ClassFile Op Lib Jvm.Stand Jvm.Free Jvm.Free.XT
open Jvm.Lib.Cold (StaticIs)
/-- the words of String.equals(Object) -/
abbrev wordsEq : List Jvm.Cond := [.code SEq.yN SEq.yB 3 (some .boolean), .initialized ST, .classLink ST 10 ST, .fieldLink ST 38 ST "COMPACT_STRINGS" "Z", .fieldLink ST 15 ST "coder" "B", .fieldLink ST 9 ST "value" "[B", .methodLink ST 541 LEq.yN, .static LEq.yN, .code LEq.yN LEq.yB 3 (some .boolean), .initialized "java/lang/StringLatin1"]
theorem tabEq_of {a : Array Value} {s : State} (h : ∀ w ∈ wordsEq, w.before a s = true) : SEq.tab.before a s = true := by
  have hl : LEq.tab.before a s = true := unparts (wk h (.code LEq.yN LEq.yB 3 (some .boolean))) (wks h (.initialized LEq.yN.cls :: LEq.site))
  have q := consq hl h
  exact unparts (wk q (.code SEq.yN SEq.yB 3 (some .boolean))) (wks q (.initialized SEq.yN.cls :: SEq.site))
theorem movedEq {Z s : State} {a0 args : Array Value} (hZ : Z.Warmed39 s.vm) (hw : ∀ d ∈ wordsEq, d.before a0 Z = true) : ∀ d ∈ wordsEq, d.before args s = true := fun d hd => by
  have t : ∀ d ∈ wordsEq, (d.onTables && d.keepsFace) = true := by decide +kernel
  exact RoadKit.mv hZ (hw d hd) (t d hd)
/-- the road's facts of a String, as the laws ask it -/
theorem txt_of {Z U : State} {a0 : Array Value} {kI : Nat} (wi : (Jvm.Cond.instantiable ST kI).before a0 Z = true) (al : Z.vm.Alike U.vm) {x t : Addr} {kb : ClassId} {cs : List Int32} {cd N2 : Int32} {vs : List Value} (E : RoadKit.Exa Z U.heap x ST) (V : RoadKit.Fld Z U.heap x ST "value" "[B" (.ref t)) (C : RoadKit.Fld Z U.heap x ST "coder" "B" (.int cd)) (K : RoadKit.Arv Z U.heap t kb .byte N2 vs (.int 0)) (hc : CodA cs cd N2 vs) (hb : ∀ c ∈ cs, ¬ c < 0 ∧ ¬ (65535 : Int32) < c) (l2 : cs.length ≤ 4000) :
    ∃ A, Txt x t A cd cs.length (fun j => cs.getD j 0) U := by
  obtain ⟨A, K1, K2, K3, K4, K5, K6⟩ := K
  have hcod := hc.cod (by omega) K3 K5
  obtain ⟨D, fV, fC, hB, F1, F2, g1, g2, -, -⟩ := strObj wi al E V C
  exact ⟨A, ⟨_, hB.2.2.1, D, hB.1, rfl, by cases q : D.vm <;> first | rfl | exact absurd q (hB.2.1.2 _)⟩, Has.of hB F1 g1, Has.of hB F2 g2, ⟨K1.1, State.isArrayOf_alike al K1.2.1, K1.2.2, by rcases hcod with ⟨-, q, -⟩ | ⟨-, q, -⟩ <;> omega⟩, hcod, fun j hj => by
    have e : cs.getD j 0 = cs[j] := by simp [List.getD_eq_getElem?_getD, hj]
    show ¬ cs.getD j 0 < 0 ∧ ¬ 65535 < cs.getD j 0
    rw [e]; exact hb _ (List.getElem_mem _)⟩
theorem same_list (cs ds : List Int32) : SameT cs.length (fun j => cs.getD j 0) ds.length (fun j => ds.getD j 0) ↔ cs = ds := by
  constructor
  · rintro ⟨e, q⟩
    refine List.ext_getElem e fun j h1 h2 => ?_
    have := q j h1
    simpa [List.getD_eq_getElem?_getD, h1, h2] using this
  · rintro rfl
    exact ⟨rfl, fun _ _ => rfl⟩
/-- **equals(Object) OF TWO SUCH STRINGS**: 1 just where the chars are the same -/
theorem eqW {p : Program} {l : Launch} {e : Env} {R : Room} {s : State} {args : Array Value} {below : List Frame} {len W : Nat} {Z : State} {a0 : Array Value} {h : Heap} (hZ : Z.Warmed39 s.vm) (hw : ∀ d ∈ wordsEq, d.before a0 Z = true) {kI : Nat} (wi : (Jvm.Cond.instantiable ST kI).before a0 Z = true)
    {x t : Addr} {kb : ClassId} {cs : List Int32} {cd N2 : Int32} {vs : List Value} (E : RoadKit.Exa Z h x ST) (V : RoadKit.Fld Z h x ST "value" "[B" (.ref t)) (C : RoadKit.Fld Z h x ST "coder" "B" (.int cd)) (K : RoadKit.Arv Z h t kb .byte N2 vs (.int 0)) (hc : CodA cs cd N2 vs) (hb : ∀ c ∈ cs, ¬ c < 0 ∧ ¬ (65535 : Int32) < c) (l2 : cs.length ≤ 4000)
    {y t' : Addr} {kb' : ClassId} {ds : List Int32} {cd' N2' : Int32} {vs' : List Value} (E' : RoadKit.Exa Z h y ST) (V' : RoadKit.Fld Z h y ST "value" "[B" (.ref t')) (C' : RoadKit.Fld Z h y ST "coder" "B" (.int cd')) (K' : RoadKit.Arv Z h t' kb' .byte N2' vs' (.int 0)) (hc' : CodA ds cd' N2' vs') (hb' : ∀ c ∈ ds, ¬ c < 0 ∧ ¬ (65535 : Int32) < c) (l2' : ds.length ≤ 4000)
    {z : Int32} (S : RoadKit.Sta Z h ST "COMPACT_STRINGS" "Z" (.int z)) (hz : ¬ z = 0) (hfr : 2 ≤ R.frames) (hlo : W + 28 ≤ R.locals) :
    Back l R p e below s args (⟨"java/lang/String", "equals", "(Ljava/lang/Object;)Z"⟩ : MethodName) len W (fun P a => a = #[.ref x, .ref y] ∧ P.U.heap = h ∧ P.cells + 0 ≤ R.cells ∧ P.slots + 0 ≤ R.slots)
      (fun P _ v B => ∃ L, (((v = some (.int 1) ∧ cs = ds) ∨ (v = some (.int 0) ∧ ¬ cs = ds)) ∧ L = [] ∧ B.U.heap = h) ∧ B.locs = P.locs ++ L ∧ B.cells = P.cells + 0 ∧ B.slots = P.slots + 0) := by
  intro m meth c P g ig mk a X hg hsize hdg hW hn hp'
  obtain ⟨rfl, rfl, r1, r2⟩ := hp'
  have al : Z.vm.Alike P.U.vm := hZ.alike.trans X.warmed.alike
  obtain ⟨A, hx⟩ := txt_of wi al E V C K hc hb l2
  obtain ⟨A', hy⟩ := txt_of wi al E' V' C' K' hc' hb' l2'
  obtain ⟨v, B, X', ⟨⟨w, hv, hh, hq⟩, hl, hk, hs⟩, st⟩ := SEq.pays x t A cd cs.length (fun j => cs.getD j 0) y t' A' cd' ds.length (fun j => ds.getD j 0) z (tabEq_of (movedEq hZ hw)) hfr hlo m meth c P g ig mk _ X hg hsize hdg hW hn ⟨r1, r2, rfl, hx, hy, sta_is al S, hz⟩
  refine ⟨v, B, X', ⟨[], ⟨?_, rfl, hh⟩, hl, hk, hs⟩, st⟩
  rcases hq with ⟨rfl, q⟩ | ⟨rfl, q⟩
  · exact Or.inl ⟨hv, (same_list cs ds).mp q⟩
  · exact Or.inr ⟨hv, fun e => q ((same_list cs ds).mpr e)⟩
end StrChars.Road
namespace StrChars.Road
open Jvm Sem ClassFile Op Lib Jvm.Stand Jvm.Free Jvm.Free.XT
open Jvm.Lib.Cold (StaticIs)
/-- what backV says of its String, as the contracts of this text ask it: cs's low bytes, coder 0 -/
theorem codOf {cs : List Int32} {n : Nat} (hn : cs.length = n) (hb : ∀ c ∈ cs, ¬ 255 < c) : CodA cs 0 (Int32.ofNat n) ((cs.map lo8).map Value.int) := Or.inl ⟨rfl, by rw [hn], by simp [List.map_map, Function.comp_def], hb⟩
end StrChars.Road
end Jvm.Pilot.@@N@@

namespace Jvm.Pilot.@@N@@
open Jvm Jvm.ClassFile Sem Op Lib Jvm.Free Jvm.Stand Jvm.LawKit Jvm.RoadKit Bundle Jvm.Pilot.@@N@@.Jvm.D
/-- the goal of a walk: from S the run ends, and G holds there -/
def Go (p : Program) (e : Env) (below : List Frame) (G : State → Outcome → Prop) (S : State) : Prop :=
  ∃ s₂ o, Steps p.tables e below S s₂ ∧ s₂.status = .running ∧ Ended s₂ below o ∧ G s₂ o
theorem Go.by {p : Program} {e : Env} {below : List Frame} {G : State → Outcome → Prop} {S S' : State} (h : ∀ t, Steps p.tables e below S' t → Steps p.tables e below S t) (k : Go p e below G S') : Go p e below G S := by
  obtain ⟨s₂, o, h1, h2⟩ := k
  exact ⟨s₂, o, h _ h1, h2⟩
/-- what a body's end says -/
def End (Q : Option Value → Heap → List Loc → Prop) (s : State) (cells slots : Nat) (s₂ : State) (o : Outcome) : Prop := ∃ v L, o = .returned v ∧ Q v s₂.heap L ∧ FrameEnd s o s₂ L cells slots
section
variable {p : Program} {l : Launch} {e : Env} {R : Room} {s : State} {m : MethodId} {args : Array Value} {below : List Frame} {meth : Method} {c : Code} {T : State} {locs : List Loc} {cells slots C S : Nat} {Q : Option Value → Heap → List Loc → Prop}
theorem Go.ret1 (X : Stand p l e R s m args below meth c T locs cells slots) (hx : p.tables.exec = Jvm.exec) {pc : Nat} {Ls : Array Slot} {w : Value} {t : FieldType} {i : Instr} {rest : List Value} (hret : meth.sig.returnType = some t) (hlk : meth.locks = false) (hn : narrow t w = w)
    (hi : (i = .ireturn ∧ (t = .int ∨ t = .boolean ∨ t = .byte ∨ t = .char ∨ t = .short) ∧ ∃ z, w = .int z) ∨ (i = .lreturn ∧ t = .long ∧ ∃ z, w = .long z) ∨ (i = .dreturn ∧ t = .double ∧ ∃ z, w = .double z) ∨ (i = .freturn ∧ t = .float ∧ ∃ z, w = .float z) ∨ (i = .areturn ∧ t.isReference = true ∧ w.isRef = true))
    (hd : decode c.code pc = .ok (i, 1)) (hc : cells ≤ C) (hs : slots ≤ S) (hQ : Q (some w) T.heap locs) : Go p e below (End Q s C S) (T.setTop (mkF m pc Ls (w :: rest))) := by
  obtain ⟨fs, hr, hrun, hended, hW, hsame⟩ := X.leave (v := some w) (fun h => by rw [hret] at h; cases h) hlk
  exact ⟨_, _, retOut X hx hret hn hi hd hr, hrun, hended, _, _, rfl, hQ, ⟨_, rfl⟩, hW, hsame.mono hc hs⟩
theorem Go.ret0 (X : Stand p l e R s m args below meth c T locs cells slots) (hx : p.tables.exec = Jvm.exec) {pc : Nat} {Ls : Array Slot} (hret : meth.sig.returnType = none) (hlk : meth.locks = false)
    (hd : decode c.code pc = .ok (.return_, 1)) (hc : cells ≤ C) (hs : slots ≤ S) (hQ : Q none T.heap locs) : Go p e below (End Q s C S) (T.setTop (mkF m pc Ls [])) := by
  obtain ⟨fs, hr, hrun, hended, hW, hsame⟩ := X.leave (v := none) (fun _ => rfl) hlk
  exact ⟨_, _, X.returnOut hx hret hd hr, hrun, hended, _, _, rfl, hQ, ⟨_, rfl⟩, hW, hsame.mono hc hs⟩
theorem Stand.more (X : Stand p l e R s m args below meth c T locs cells slots) (hc : cells ≤ C) (hs : slots ≤ S) : Stand p l e R s m args below meth c T locs C S :=
  { X with same := X.same.mono hc hs }
theorem arv_neT {Z : State} {h : Heap} {a b : Addr} {k1 k2 : ClassId} {t1 t2 : FieldType} {z1 z2 : Int32} {v1 v2 : List Value} {d1 d2 : Value} (A : Arv Z h a k1 t1 z1 v1 d1) (B : Arv Z h b k2 t2 z2 v2 d2) (hne : t1 ≠ t2) : a ≠ b := fun e => by
  subst e
  obtain ⟨c1, ⟨p1, ⟨-, q1, r1, u1, w1⟩, -⟩, -⟩ := A
  obtain ⟨c2, ⟨p2, ⟨-, q2, r2, u2, w2⟩, -⟩, -⟩ := B
  cases p1.symm.trans p2
  cases r1.symm.trans r2
  have := w1.symm.trans w2
  injection this with _ e
  exact hne e
theorem cat_ref {r : Value} (h : r.isRef = true) : r.category = 1 := by rcases ref_cases h with rfl | ⟨_, rfl⟩ <;> rfl
theorem fit_ref {C : String} {r : Value} (h : r.isRef = true) : fits (.object C) r = true := by rcases ref_cases h with rfl | ⟨_, rfl⟩ <;> rfl
theorem nar_ref {t : FieldType} {r : Value} (h : r.isRef = true) : narrow t r = r := by cases r <;> cases t <;> simp_all [Value.isRef, narrow]
end
/-- what a body's end says, where constants may have been interned -/
def EndW (EL : List (String × Nat)) (Z : State) (Q : Option Value → Heap → List Loc → Prop) (s : State) (cells slots : Nat) (s₂ : State) (o : Outcome) : Prop := ∃ v L, o = .returned v ∧ Q v s₂.heap L ∧ CHr Z EL s.vm s.heap s₂.vm s₂.heap ∧ ReturnedEndW s o s₂ L cells slots
section
variable {p : Program} {l : Launch} {e : Env} {R : Room} {s : State} {m : MethodId} {args : Array Value} {below : List Frame} {meth : Method} {c : Code} {T Z : State} {locs : List Loc} {cells slots C S k0 : Nat} {Q : Option Value → Heap → List Loc → Prop} {EL : List (String × Nat)} {vm0 : Vm} {a0 : Array Value}
theorem Go.ret1W (X : Stand p l e R (s.setVm vm0) m args below meth c T locs cells slots) (hS : s.Since vm0 k0) (hk : k0 ≤ T.heap.size) (CR : CHr Z EL s.vm s.heap vm0 T.heap) (hZ : Z.Warmed39 vm0) (hEL : EW Z a0 EL) (hx : p.tables.exec = Jvm.exec) {pc : Nat} {Ls : Array Slot} {w : Value} {t : FieldType} {i : Instr} {rest : List Value} (hret : meth.sig.returnType = some t) (hlk : meth.locks = false) (hn : narrow t w = w)
    (hi : (i = .ireturn ∧ (t = .int ∨ t = .boolean ∨ t = .byte ∨ t = .char ∨ t = .short) ∧ ∃ z, w = .int z) ∨ (i = .lreturn ∧ t = .long ∧ ∃ z, w = .long z) ∨ (i = .dreturn ∧ t = .double ∧ ∃ z, w = .double z) ∨ (i = .freturn ∧ t = .float ∧ ∃ z, w = .float z) ∨ (i = .areturn ∧ t.isReference = true ∧ w.isRef = true))
    (hd : decode c.code pc = .ok (i, 1)) (hc : cells ≤ C) (hs : slots ≤ S) (hQ : Q (some w) T.heap locs) : Go p e below (EndW EL Z Q s C S) (T.setTop (mkF m pc Ls (w :: rest))) := by
  obtain ⟨fs, hr, hrun, hended, h1, h2, h3, h4⟩ := X.leaveW hS hk (v := some w) (fun h => by rw [hret] at h; cases h) hlk
  have q := CHv.at X hZ hEL CR.1
  exact ⟨_, _, retOut X hx hret hn hi hd hr, hrun, hended, _, _, rfl, hQ, CR.trans q, h1, h2, h3, h4.mono hc hs⟩
theorem Go.ret0W (X : Stand p l e R (s.setVm vm0) m args below meth c T locs cells slots) (hS : s.Since vm0 k0) (hk : k0 ≤ T.heap.size) (CR : CHr Z EL s.vm s.heap vm0 T.heap) (hZ : Z.Warmed39 vm0) (hEL : EW Z a0 EL) (hx : p.tables.exec = Jvm.exec) {pc : Nat} {Ls : Array Slot} (hret : meth.sig.returnType = none) (hlk : meth.locks = false)
    (hd : decode c.code pc = .ok (.return_, 1)) (hc : cells ≤ C) (hs : slots ≤ S) (hQ : Q none T.heap locs) : Go p e below (EndW EL Z Q s C S) (T.setTop (mkF m pc Ls [])) := by
  obtain ⟨fs, hr, hrun, hended, h1, h2, h3, h4⟩ := X.leaveW hS hk (v := none) (fun _ => rfl) hlk
  have q := CHv.at X hZ hEL CR.1
  exact ⟨_, _, X.returnOut hx hret hd hr, hrun, hended, _, _, rfl, hQ, CR.trans q, h1, h2, h3, h4.mono hc hs⟩
end
theorem and255_chars (x : Int32) : ¬ nar .char ((x &&& (255 : Int32)).toUInt32.toUInt16.toUInt32.toInt32) < 0 ∧ ¬ (255 : Int32) < nar .char ((x &&& (255 : Int32)).toUInt32.toUInt16.toUInt32.toInt32) := by
  have t : ∀ k : Fin 256, ¬ nar .char ((Int32.ofNat k.val).toUInt32.toUInt16.toUInt32.toInt32) < 0 ∧ ¬ (255 : Int32) < nar .char ((Int32.ofNat k.val).toUInt32.toUInt16.toUInt32.toInt32) := by decide +kernel
  have h : (x &&& 255).toBitVec.toNat < 256 := by
    simp only [Int32.toBitVec_and, BitVec.toNat_and]
    exact Nat.lt_succ_of_le Nat.and_le_right
  have e : (x &&& 255) = Int32.ofNat (x &&& 255).toBitVec.toNat := by
    apply Int32.toBitVec_inj.mp
    show _ = BitVec.ofNat 32 _
    rw [BitVec.ofNat_toNat]; simp
  rw [e]
  exact t ⟨_, h⟩
theorem up (cs : List Int32) (h : ∀ c ∈ cs, ¬ c < 0 ∧ ¬ (255 : Int32) < c) : ∀ c ∈ cs, ¬ c < 0 ∧ ¬ (65535 : Int32) < c := fun c hc => ⟨(h c hc).1, fun q => (h c hc).2 (by rw [Int32.lt_iff_toInt_lt] at q ⊢; have e1 : (65535 : Int32).toInt = 65535 := rfl; have e2 : (255 : Int32).toInt = 255 := rfl; omega)⟩
theorem all1 {P : Int32 → Prop} {x : Int32} (h : P x) : ∀ c ∈ [x], P c := fun c hc => by cases List.mem_singleton.mp hc; exact h
theorem allC {P : Int32 → Prop} {x : Int32} {L : List Int32} (h : P x) (r : ∀ c ∈ L, P c) : ∀ c ∈ x :: L, P c := fun c hc => (List.mem_cons.mp hc).elim (fun u => u ▸ h) (r c)
theorem allN {P : Int32 → Prop} : ∀ c ∈ ([] : List Int32), P c := fun _ q => nomatch q
section
variable {Z : State} {h h' : Heap} {x o : Addr} {cs ds : List Int32} {ws : List Addr} {sl : Nat} {v : Value}
/-- in heap h the object at x is a String of Latin-1 signs cs -/
def StrAt (Z : State) (h : Heap) (x : Addr) (cs : List Int32) : Prop := ∃ (t : Addr) (kb : ClassId) (N : Int32) (vs : List Value), Exa Z h x "java/lang/String" ∧ Fld Z h x "java/lang/String" "value" "[B" (.ref t) ∧ Fld Z h x "java/lang/String" "coder" "B" (.int 0) ∧ Arv Z h t kb .byte N vs (.int 0) ∧ StrChars.Road.CodA cs 0 N vs ∧ (∀ c ∈ cs, ¬ c < 0 ∧ ¬ (65535 : Int32) < c) ∧ cs.length ≤ 4000
theorem StrAt.exa (S : StrAt Z h x cs) : Exa Z h x "java/lang/String" := by obtain ⟨_, _, _, _, E, -⟩ := S; exact E
theorem StrAt.lt (S : StrAt Z h x cs) : x < h.size := S.exa.lt
theorem StrAt.ext (S : StrAt Z h x cs) (E : Ext h h') : StrAt Z h' x cs := by obtain ⟨t, kb, N, vs, a, b, c, d, r⟩ := S; exact ⟨t, kb, N, vs, a.ext E, b.ext E, c.ext E, d.ext E, r⟩
theorem StrAt.keep (S : StrAt Z h x cs) (K : Keep h h' ws) (hx : x ∉ ws) (ht : ∀ t kb N vs, Arv Z h t kb .byte N vs (.int 0) → t ∉ ws) : StrAt Z h' x cs := by obtain ⟨t, kb, N, vs, a, b, c, d, r⟩ := S; exact ⟨t, kb, N, vs, a.keep K, b.keep K hx, c.keep K hx, d.keep K (ht _ _ _ _ d), r⟩
theorem StrAt.wr (S : StrAt Z h x cs) (W : Wr h h' o sl v) (hx : x ≠ o) (ht : ∀ t kb N vs, Arv Z h t kb .byte N vs (.int 0) → t ≠ o) : StrAt Z h' x cs := S.keep (Keep.of_wr W) (ninS hx nin0) fun _ _ _ _ A => ninS (ht _ _ _ _ A) nin0
end
theorem eqS {p : Program} {l : Launch} {e : Env} {R : Room} {s : State} {args : Array Value} {below : List Frame} {len W : Nat} {Z : State} {a0 : Array Value} {h : Heap} (hZ : Z.Warmed39 s.vm) (hw : ∀ d ∈ StrChars.Road.wordsEq, d.before a0 Z = true) (wi : (Jvm.Cond.instantiable "java/lang/String" 4).before a0 Z = true)
    {x y : Addr} {cs ds : List Int32} (S : StrAt Z h x cs) (S' : StrAt Z h y ds) {z : Int32} (O : Sta Z h "java/lang/String" "COMPACT_STRINGS" "Z" (.int z)) (hz : ¬ z = 0) (hfr : 2 ≤ R.frames) (hlo : W + 28 ≤ R.locals) :
    Back l R p e below s args (⟨"java/lang/String", "equals", "(Ljava/lang/Object;)Z"⟩ : MethodName) len W (fun P a => a = #[.ref x, .ref y] ∧ P.U.heap = h ∧ P.cells + 0 ≤ R.cells ∧ P.slots + 0 ≤ R.slots)
      (fun P _ v B => ∃ L, (v = some (.int (if cs = ds then 1 else 0)) ∧ L = [] ∧ B.U.heap = h) ∧ B.locs = P.locs ++ L ∧ B.cells = P.cells + 0 ∧ B.slots = P.slots + 0) := by
  obtain ⟨t, kb, N, vs, a1, a2, a3, a4, a5, a6, a7⟩ := S
  obtain ⟨t', kb', N', vs', b1, b2, b3, b4, b5, b6, b7⟩ := S'
  refine Back.mono (StrChars.Road.eqW hZ hw wi a1 a2 a3 a4 a5 a6 a7 b1 b2 b3 b4 b5 b6 b7 O hz hfr hlo) (fun P a hp => hp) (fun P a v B hp hq => ?_)
  obtain ⟨L, ⟨q1, q2, q3⟩, r⟩ := hq
  refine ⟨L, ⟨?_, q2, q3⟩, r⟩
  rcases q1 with ⟨rfl, q⟩ | ⟨rfl, q⟩
  · rw [if_pos q]
  · rw [if_neg q]
theorem lenS {p : Program} {l : Launch} {e : Env} {R : Room} {s : State} {args : Array Value} {below : List Frame} {len W : Nat} {Z : State} {a0 : Array Value} {h : Heap} (hZ : Z.Warmed39 s.vm) (hw : ∀ d ∈ StrChars.Road.wordsLen, d.before a0 Z = true) (wi : (Jvm.Cond.instantiable "java/lang/String" 4).before a0 Z = true)
    {x : Addr} {cs : List Int32} (S : StrAt Z h x cs) {z : Int32} (O : Sta Z h "java/lang/String" "COMPACT_STRINGS" "Z" (.int z)) (hz : ¬ z = 0) (hfr : 2 ≤ R.frames) (hlo : W + 25 ≤ R.locals) :
    Back l R p e below s args (⟨"java/lang/String", "length", "()I"⟩ : MethodName) len W (fun P a => a = #[.ref x] ∧ P.U.heap = h ∧ P.cells + 0 ≤ R.cells ∧ P.slots + 0 ≤ R.slots)
      (fun P _ v B => ∃ L, (v = some (.int (Int32.ofNat cs.length)) ∧ L = [] ∧ B.U.heap = h) ∧ B.locs = P.locs ++ L ∧ B.cells = P.cells + 0 ∧ B.slots = P.slots + 0) := by
  obtain ⟨t, kb, N, vs, a1, a2, a3, a4, a5, a6, a7⟩ := S
  exact StrChars.Road.lenW hZ hw wi a1 a2 a3 a4 a5 a6 O hz a7 hfr hlo
theorem Safe.null {Z : State} {EL : List (String × Nat)} {vm : Vm} {h : Heap} {x : Addr} (hal : Z.vm.Alike vm) (E : Exa Z h x "java/lang/String") (F : Fld Z h x "java/lang/String" "value" "[B" .null) {a0 : Array Value} (wi : (Jvm.Cond.instantiable "java/lang/String" 4).before a0 Z = true) : Safe Z EL vm h x := fun B => by
  obtain ⟨p, -, u, a, -, q, -, G, rfl | rfl⟩ := B
  · obtain ⟨cS, ⟨⟨e1, -, -, ⟨c1, k1, i1, f1, -⟩, -, -, -, v1, -⟩, -⟩, -⟩ := G
    obtain ⟨cell, cf, k, i, f, h1, h2, -, -, -, -, h7⟩ := F
    cases (show h[q.sa]? = some q.sC from e1).symm.trans h1
    obtain ⟨k3, e3, -⟩ := State.fieldFound?_setVm (s := Z) hal h2
    have e4 := (show (Wst Z vm h).fieldFound? _ _ _ = _ from e3).symm.trans f1
    simp only [Option.some.injEq, Prod.mk.injEq] at e4
    rw [← e4.2.2.2, h7] at v1
    cases v1
  · have hd := G.hd
    obtain ⟨cS, ⟨⟨-, -, -, -, -, -, -, -, -, -, ⟨-, kB, hkB, compB, hkindB⟩, -⟩, -, -⟩, -⟩ := G
    obtain ⟨cell, k, e1, e2, e3, -⟩ := E
    cases (show h[q.sd]? = some q.SA from hd).symm.trans e1
    obtain ⟨c2, k2, i1, i2, i3, -⟩ := Cond.instantiable_spec wi
    cases e2.symm.trans i1
    obtain ⟨k4, q1, q2⟩ := hal.2.2 _ _ i2
    cases (show vm.classes[q.SA.cls]? = some kB from hkB).symm.trans q1
    rw [q2] at hkindB
    have := hkindB.symm.trans i3
    cases this
def EL : List (String × Nat) := [("com/example/slicewright/slicewright/slicing/Occurrence", 94), ("java/lang/String", 7), ("java/lang/StringLatin1", 151)]
theorem ew_of {Z : State} {a0 : Array Value} (hw : ∀ d ∈ tables_1, d.before a0 Z = true) : EW Z a0 EL := (EW.cons (hw _ (List.mem_of_getElem? (i := 38) rfl)) (by decide) (EW.cons (hw _ (List.mem_of_getElem? (i := 75) rfl)) (by decide) (EW.cons (hw _ (List.mem_of_getElem? (i := 124) rfl)) (by decide) EW.nil)))
theorem ws_of {Z : State} {a0 : Array Value} (hw : ∀ d ∈ tables_1, d.before a0 Z = true) : ∀ a ∈ Bundle.stringAtoms, a.before a0 Z = true := fun d hd => hw d ((by decide +kernel : ∀ d ∈ Bundle.stringAtoms, d ∈ tables_1) d hd)
theorem pn_0 : plainName "com/example/slicewright/slicewright/slicing/OccurrenceElementNamePinLaw" = true := by first | (simp [plainName, overriddenIn]; done) | decide +kernel
theorem pd_0 : parseMethodDescriptor "(ICCC)Ljava/lang/String;" = some ⟨[.int, .char, .char, .char], some (.object "java/lang/String")⟩ := by decide +kernel
theorem pd_1 : parseMethodDescriptor "(Ljava/lang/String;)Ljava/lang/String;" = some ⟨[(.object "java/lang/String")], some (.object "java/lang/String")⟩ := by decide +kernel
theorem pd_2 : parseMethodDescriptor "(Ljava/lang/Object;)Z" = some ⟨[(.object "java/lang/Object")], some .boolean⟩ := by decide +kernel
theorem d1_0 : decode method_3_code 0 = .ok (.iload_n 0, 1) := by decide +kernel
theorem d1_1 : decode method_3_code 1 = .ok (.ifCond .gt 14, 3) := by decide +kernel
theorem d1_4 : decode method_3_code 4 = .ok (.new 20, 3) := by decide +kernel
theorem d1_7 : decode method_3_code 7 = .ok (.dup, 1) := by decide +kernel
theorem d1_8 : decode method_3_code 8 = .ok (.iconst 0, 1) := by decide +kernel
theorem d1_9 : decode method_3_code 9 = .ok (.newarray .char, 2) := by decide +kernel
theorem d1_11 : decode method_3_code 11 = .ok (.invokespecial 25, 3) := by decide +kernel
theorem d1_14 : decode method_3_code 14 = .ok (.areturn, 1) := by decide +kernel
theorem d1_15 : decode method_3_code 15 = .ok (.iload_n 0, 1) := by decide +kernel
theorem d1_16 : decode method_3_code 16 = .ok (.iconst 1, 1) := by decide +kernel
theorem d1_17 : decode method_3_code 17 = .ok (.if_icmp .ne 18, 3) := by decide +kernel
theorem d1_20 : decode method_3_code 20 = .ok (.new 20, 3) := by decide +kernel
theorem d1_23 : decode method_3_code 23 = .ok (.dup, 1) := by decide +kernel
theorem d1_24 : decode method_3_code 24 = .ok (.iconst 1, 1) := by decide +kernel
theorem d1_25 : decode method_3_code 25 = .ok (.newarray .char, 2) := by decide +kernel
theorem d1_27 : decode method_3_code 27 = .ok (.dup, 1) := by decide +kernel
theorem d1_28 : decode method_3_code 28 = .ok (.iconst 0, 1) := by decide +kernel
theorem d1_29 : decode method_3_code 29 = .ok (.iload_n 1, 1) := by decide +kernel
theorem d1_30 : decode method_3_code 30 = .ok (.castore, 1) := by decide +kernel
theorem d1_31 : decode method_3_code 31 = .ok (.invokespecial 25, 3) := by decide +kernel
theorem d1_34 : decode method_3_code 34 = .ok (.areturn, 1) := by decide +kernel
theorem d1_35 : decode method_3_code 35 = .ok (.iload_n 0, 1) := by decide +kernel
theorem d1_36 : decode method_3_code 36 = .ok (.iconst 2, 1) := by decide +kernel
theorem d1_37 : decode method_3_code 37 = .ok (.if_icmp .ne 22, 3) := by decide +kernel
theorem d1_40 : decode method_3_code 40 = .ok (.new 20, 3) := by decide +kernel
theorem d1_43 : decode method_3_code 43 = .ok (.dup, 1) := by decide +kernel
theorem d1_44 : decode method_3_code 44 = .ok (.iconst 2, 1) := by decide +kernel
theorem d1_45 : decode method_3_code 45 = .ok (.newarray .char, 2) := by decide +kernel
theorem d1_47 : decode method_3_code 47 = .ok (.dup, 1) := by decide +kernel
theorem d1_48 : decode method_3_code 48 = .ok (.iconst 0, 1) := by decide +kernel
theorem d1_49 : decode method_3_code 49 = .ok (.iload_n 1, 1) := by decide +kernel
theorem d1_50 : decode method_3_code 50 = .ok (.castore, 1) := by decide +kernel
theorem d1_51 : decode method_3_code 51 = .ok (.dup, 1) := by decide +kernel
theorem d1_52 : decode method_3_code 52 = .ok (.iconst 1, 1) := by decide +kernel
theorem d1_53 : decode method_3_code 53 = .ok (.iload_n 2, 1) := by decide +kernel
theorem d1_54 : decode method_3_code 54 = .ok (.castore, 1) := by decide +kernel
theorem d1_55 : decode method_3_code 55 = .ok (.invokespecial 25, 3) := by decide +kernel
theorem d1_58 : decode method_3_code 58 = .ok (.areturn, 1) := by decide +kernel
theorem d1_59 : decode method_3_code 59 = .ok (.new 20, 3) := by decide +kernel
theorem d1_62 : decode method_3_code 62 = .ok (.dup, 1) := by decide +kernel
theorem d1_63 : decode method_3_code 63 = .ok (.iconst 3, 1) := by decide +kernel
theorem d1_64 : decode method_3_code 64 = .ok (.newarray .char, 2) := by decide +kernel
theorem d1_66 : decode method_3_code 66 = .ok (.dup, 1) := by decide +kernel
theorem d1_67 : decode method_3_code 67 = .ok (.iconst 0, 1) := by decide +kernel
theorem d1_68 : decode method_3_code 68 = .ok (.iload_n 1, 1) := by decide +kernel
theorem d1_69 : decode method_3_code 69 = .ok (.castore, 1) := by decide +kernel
theorem d1_70 : decode method_3_code 70 = .ok (.dup, 1) := by decide +kernel
theorem d1_71 : decode method_3_code 71 = .ok (.iconst 1, 1) := by decide +kernel
theorem d1_72 : decode method_3_code 72 = .ok (.iload_n 2, 1) := by decide +kernel
theorem d1_73 : decode method_3_code 73 = .ok (.castore, 1) := by decide +kernel
theorem d1_74 : decode method_3_code 74 = .ok (.dup, 1) := by decide +kernel
theorem d1_75 : decode method_3_code 75 = .ok (.iconst 2, 1) := by decide +kernel
theorem d1_76 : decode method_3_code 76 = .ok (.iload_n 3, 1) := by decide +kernel
theorem d1_77 : decode method_3_code 77 = .ok (.castore, 1) := by decide +kernel
theorem d1_78 : decode method_3_code 78 = .ok (.invokespecial 25, 3) := by decide +kernel
theorem d1_81 : decode method_3_code 81 = .ok (.areturn, 1) := by decide +kernel
theorem pd_3 : parseMethodDescriptor "([C)V" = some ⟨[(.array .char)], none⟩ := by decide +kernel
theorem d2_0 : decode jdk_42_method_3_code 0 = .ok (.aload_n 0, 1) := by decide +kernel
theorem d2_1 : decode jdk_42_method_3_code 1 = .ok (.aload_n 1, 1) := by decide +kernel
theorem d2_2 : decode jdk_42_method_3_code 2 = .ok (.iconst 0, 1) := by decide +kernel
theorem d2_3 : decode jdk_42_method_3_code 3 = .ok (.aload_n 1, 1) := by decide +kernel
theorem d2_4 : decode jdk_42_method_3_code 4 = .ok (.arraylength, 1) := by decide +kernel
theorem d2_5 : decode jdk_42_method_3_code 5 = .ok (.aconst_null, 1) := by decide +kernel
theorem d2_6 : decode jdk_42_method_3_code 6 = .ok (.invokespecial 27, 3) := by decide +kernel
theorem d2_9 : decode jdk_42_method_3_code 9 = .ok (.return_, 1) := by decide +kernel
theorem pn_1 : plainName "java/lang/String" = true := by first | (simp [plainName, overriddenIn]; done) | decide +kernel
theorem pd_4 : parseMethodDescriptor "([CIILjava/lang/Void;)V" = some ⟨[(.array .char), .int, .int, (.object "java/lang/Void")], none⟩ := by decide +kernel
theorem d3_0 : decode jdk_42_method_149_code 0 = .ok (.aload_n 0, 1) := by decide +kernel
theorem d3_1 : decode jdk_42_method_149_code 1 = .ok (.invokespecial 1, 3) := by decide +kernel
theorem d3_4 : decode jdk_42_method_149_code 4 = .ok (.iload_n 3, 1) := by decide +kernel
theorem d3_5 : decode jdk_42_method_149_code 5 = .ok (.ifCond .ne 22, 3) := by decide +kernel
theorem d3_8 : decode jdk_42_method_149_code 8 = .ok (.aload_n 0, 1) := by decide +kernel
theorem d3_9 : decode jdk_42_method_149_code 9 = .ok (.ldc 7, 2) := by decide +kernel
theorem d3_11 : decode jdk_42_method_149_code 11 = .ok (.getfield 9, 3) := by decide +kernel
theorem d3_14 : decode jdk_42_method_149_code 14 = .ok (.putfield 9, 3) := by decide +kernel
theorem d3_17 : decode jdk_42_method_149_code 17 = .ok (.aload_n 0, 1) := by decide +kernel
theorem d3_18 : decode jdk_42_method_149_code 18 = .ok (.ldc 7, 2) := by decide +kernel
theorem d3_20 : decode jdk_42_method_149_code 20 = .ok (.getfield 15, 3) := by decide +kernel
theorem d3_23 : decode jdk_42_method_149_code 23 = .ok (.putfield 15, 3) := by decide +kernel
theorem d3_26 : decode jdk_42_method_149_code 26 = .ok (.return_, 1) := by decide +kernel
theorem d3_27 : decode jdk_42_method_149_code 27 = .ok (.getstatic 38, 3) := by decide +kernel
theorem d3_30 : decode jdk_42_method_149_code 30 = .ok (.ifCond .eq 28, 3) := by decide +kernel
theorem d3_33 : decode jdk_42_method_149_code 33 = .ok (.aload_n 1, 1) := by decide +kernel
theorem d3_34 : decode jdk_42_method_149_code 34 = .ok (.iload_n 2, 1) := by decide +kernel
theorem d3_35 : decode jdk_42_method_149_code 35 = .ok (.iload_n 3, 1) := by decide +kernel
theorem d3_36 : decode jdk_42_method_149_code 36 = .ok (.invokestatic 177, 3) := by decide +kernel
theorem d3_39 : decode jdk_42_method_149_code 39 = .ok (.astore 5, 2) := by decide +kernel
theorem d3_41 : decode jdk_42_method_149_code 41 = .ok (.aload_n 0, 1) := by decide +kernel
theorem d3_42 : decode jdk_42_method_149_code 42 = .ok (.aload 5, 2) := by decide +kernel
theorem d3_44 : decode jdk_42_method_149_code 44 = .ok (.iload_n 3, 1) := by decide +kernel
theorem d3_45 : decode jdk_42_method_149_code 45 = .ok (.invokestatic 47, 3) := by decide +kernel
theorem d3_48 : decode jdk_42_method_149_code 48 = .ok (.putfield 15, 3) := by decide +kernel
theorem d3_51 : decode jdk_42_method_149_code 51 = .ok (.aload_n 0, 1) := by decide +kernel
theorem d3_52 : decode jdk_42_method_149_code 52 = .ok (.aload 5, 2) := by decide +kernel
theorem d3_54 : decode jdk_42_method_149_code 54 = .ok (.putfield 9, 3) := by decide +kernel
theorem d3_57 : decode jdk_42_method_149_code 57 = .ok (.return_, 1) := by decide +kernel
theorem d3_58 : decode jdk_42_method_149_code 58 = .ok (.aload_n 0, 1) := by decide +kernel
theorem d3_59 : decode jdk_42_method_149_code 59 = .ok (.iconst 1, 1) := by decide +kernel
theorem d3_60 : decode jdk_42_method_149_code 60 = .ok (.putfield 15, 3) := by decide +kernel
theorem d3_63 : decode jdk_42_method_149_code 63 = .ok (.aload_n 0, 1) := by decide +kernel
theorem d3_64 : decode jdk_42_method_149_code 64 = .ok (.aload_n 1, 1) := by decide +kernel
theorem d3_65 : decode jdk_42_method_149_code 65 = .ok (.iload_n 2, 1) := by decide +kernel
theorem d3_66 : decode jdk_42_method_149_code 66 = .ok (.iload_n 3, 1) := by decide +kernel
theorem d3_67 : decode jdk_42_method_149_code 67 = .ok (.invokestatic 180, 3) := by decide +kernel
theorem d3_70 : decode jdk_42_method_149_code 70 = .ok (.putfield 9, 3) := by decide +kernel
theorem d3_73 : decode jdk_42_method_149_code 73 = .ok (.return_, 1) := by decide +kernel
theorem pd_5 : parseMethodDescriptor "()V" = some ⟨[], none⟩ := by decide +kernel
theorem pd_6 : parseMethodDescriptor "([CII)[B" = some ⟨[(.array .char), .int, .int], some (.array .byte)⟩ := by decide +kernel
theorem pd_7 : parseMethodDescriptor "([BI)B" = some ⟨[(.array .byte), .int], some .byte⟩ := by decide +kernel
theorem d8_0 : decode prog_32_method_3_code 0 = .ok (.aload_n 0, 1) := by decide +kernel
theorem d8_1 : decode prog_32_method_3_code 1 = .ok (.ldc 94, 2) := by decide +kernel
theorem d8_3 : decode prog_32_method_3_code 3 = .ok (.invokevirtual 96, 3) := by decide +kernel
theorem d8_6 : decode prog_32_method_3_code 6 = .ok (.ifCond .eq 11, 3) := by decide +kernel
theorem d8_9 : decode prog_32_method_3_code 9 = .ok (.aload_n 0, 1) := by decide +kernel
theorem d8_10 : decode prog_32_method_3_code 10 = .ok (.iconst 1, 1) := by decide +kernel
theorem d8_11 : decode prog_32_method_3_code 11 = .ok (.invokevirtual 100, 3) := by decide +kernel
theorem d8_14 : decode prog_32_method_3_code 14 = .ok (.goto 4, 3) := by decide +kernel
theorem d8_17 : decode prog_32_method_3_code 17 = .ok (.aload_n 0, 1) := by decide +kernel
theorem d8_18 : decode prog_32_method_3_code 18 = .ok (.areturn, 1) := by decide +kernel
theorem pn_2 : plainName "com/example/slicewright/slicewright/slicing/Occurrence" = true := by first | (simp [plainName, overriddenIn]; done) | decide +kernel
theorem pd_8 : parseMethodDescriptor "(Ljava/lang/String;)Z" = some ⟨[(.object "java/lang/String")], some .boolean⟩ := by decide +kernel
theorem pd_9 : parseMethodDescriptor "(I)Ljava/lang/String;" = some ⟨[.int], some (.object "java/lang/String")⟩ := by decide +kernel
theorem d9_0 : decode jdk_42_method_76_code 0 = .ok (.aload_n 0, 1) := by decide +kernel
theorem d9_1 : decode jdk_42_method_76_code 1 = .ok (.aload_n 1, 1) := by decide +kernel
theorem d9_2 : decode jdk_42_method_76_code 2 = .ok (.iconst 0, 1) := by decide +kernel
theorem d9_3 : decode jdk_42_method_76_code 3 = .ok (.invokevirtual 624, 3) := by decide +kernel
theorem d9_6 : decode jdk_42_method_76_code 6 = .ok (.ireturn, 1) := by decide +kernel
theorem pd_10 : parseMethodDescriptor "(Ljava/lang/String;I)Z" = some ⟨[(.object "java/lang/String"), .int], some .boolean⟩ := by decide +kernel
theorem d10_0 : decode jdk_42_method_75_code 0 = .ok (.iload_n 2, 1) := by decide +kernel
theorem d10_1 : decode jdk_42_method_75_code 1 = .ok (.ifCond .lt 16, 3) := by decide +kernel
theorem d10_4 : decode jdk_42_method_75_code 4 = .ok (.iload_n 2, 1) := by decide +kernel
theorem d10_5 : decode jdk_42_method_75_code 5 = .ok (.aload_n 0, 1) := by decide +kernel
theorem d10_6 : decode jdk_42_method_75_code 6 = .ok (.invokevirtual 505, 3) := by decide +kernel
theorem d10_9 : decode jdk_42_method_75_code 9 = .ok (.aload_n 1, 1) := by decide +kernel
theorem d10_10 : decode jdk_42_method_75_code 10 = .ok (.invokevirtual 505, 3) := by decide +kernel
theorem d10_13 : decode jdk_42_method_75_code 13 = .ok (.isub, 1) := by decide +kernel
theorem d10_14 : decode jdk_42_method_75_code 14 = .ok (.if_icmp .le 5, 3) := by decide +kernel
theorem d10_17 : decode jdk_42_method_75_code 17 = .ok (.iconst 0, 1) := by decide +kernel
theorem d10_18 : decode jdk_42_method_75_code 18 = .ok (.ireturn, 1) := by decide +kernel
theorem d10_19 : decode jdk_42_method_75_code 19 = .ok (.aload_n 0, 1) := by decide +kernel
theorem d10_20 : decode jdk_42_method_75_code 20 = .ok (.getfield 9, 3) := by decide +kernel
theorem d10_23 : decode jdk_42_method_75_code 23 = .ok (.astore_n 3, 1) := by decide +kernel
theorem d10_24 : decode jdk_42_method_75_code 24 = .ok (.aload_n 1, 1) := by decide +kernel
theorem d10_25 : decode jdk_42_method_75_code 25 = .ok (.getfield 9, 3) := by decide +kernel
theorem d10_28 : decode jdk_42_method_75_code 28 = .ok (.astore 4, 2) := by decide +kernel
theorem d10_30 : decode jdk_42_method_75_code 30 = .ok (.iconst 0, 1) := by decide +kernel
theorem d10_31 : decode jdk_42_method_75_code 31 = .ok (.istore 5, 2) := by decide +kernel
theorem d10_33 : decode jdk_42_method_75_code 33 = .ok (.aload 4, 2) := by decide +kernel
theorem d10_35 : decode jdk_42_method_75_code 35 = .ok (.arraylength, 1) := by decide +kernel
theorem d10_36 : decode jdk_42_method_75_code 36 = .ok (.istore 6, 2) := by decide +kernel
theorem d10_38 : decode jdk_42_method_75_code 38 = .ok (.aload_n 0, 1) := by decide +kernel
theorem d10_39 : decode jdk_42_method_75_code 39 = .ok (.invokevirtual 335, 3) := by decide +kernel
theorem d10_42 : decode jdk_42_method_75_code 42 = .ok (.istore 7, 2) := by decide +kernel
theorem d10_44 : decode jdk_42_method_75_code 44 = .ok (.iload 7, 2) := by decide +kernel
theorem d10_46 : decode jdk_42_method_75_code 46 = .ok (.aload_n 1, 1) := by decide +kernel
theorem d10_47 : decode jdk_42_method_75_code 47 = .ok (.invokevirtual 335, 3) := by decide +kernel
theorem d10_50 : decode jdk_42_method_75_code 50 = .ok (.if_icmp .ne 32, 3) := by decide +kernel
theorem d10_53 : decode jdk_42_method_75_code 53 = .ok (.iload 7, 2) := by decide +kernel
theorem d10_55 : decode jdk_42_method_75_code 55 = .ok (.iconst 1, 1) := by decide +kernel
theorem d10_56 : decode jdk_42_method_75_code 56 = .ok (.if_icmp .ne 7, 3) := by decide +kernel
theorem d10_59 : decode jdk_42_method_75_code 59 = .ok (.iload_n 2, 1) := by decide +kernel
theorem d10_60 : decode jdk_42_method_75_code 60 = .ok (.iconst 1, 1) := by decide +kernel
theorem d10_61 : decode jdk_42_method_75_code 61 = .ok (.ishl, 1) := by decide +kernel
theorem d10_62 : decode jdk_42_method_75_code 62 = .ok (.istore_n 2, 1) := by decide +kernel
theorem d10_63 : decode jdk_42_method_75_code 63 = .ok (.aload_n 3, 1) := by decide +kernel
theorem d10_64 : decode jdk_42_method_75_code 64 = .ok (.iload_n 2, 1) := by decide +kernel
theorem d10_65 : decode jdk_42_method_75_code 65 = .ok (.aload 4, 2) := by decide +kernel
theorem d10_67 : decode jdk_42_method_75_code 67 = .ok (.iconst 0, 1) := by decide +kernel
theorem d10_68 : decode jdk_42_method_75_code 68 = .ok (.iload 6, 2) := by decide +kernel
theorem d10_70 : decode jdk_42_method_75_code 70 = .ok (.invokestatic 607, 3) := by decide +kernel
theorem d10_73 : decode jdk_42_method_75_code 73 = .ok (.ifCond .ge 7, 3) := by decide +kernel
theorem d10_76 : decode jdk_42_method_75_code 76 = .ok (.iconst 1, 1) := by decide +kernel
theorem d10_77 : decode jdk_42_method_75_code 77 = .ok (.goto 4, 3) := by decide +kernel
theorem d10_80 : decode jdk_42_method_75_code 80 = .ok (.iconst 0, 1) := by decide +kernel
theorem d10_81 : decode jdk_42_method_75_code 81 = .ok (.ireturn, 1) := by decide +kernel
theorem d10_82 : decode jdk_42_method_75_code 82 = .ok (.iload 7, 2) := by decide +kernel
theorem d10_84 : decode jdk_42_method_75_code 84 = .ok (.ifCond .ne 5, 3) := by decide +kernel
theorem d10_87 : decode jdk_42_method_75_code 87 = .ok (.iconst 0, 1) := by decide +kernel
theorem d10_88 : decode jdk_42_method_75_code 88 = .ok (.ireturn, 1) := by decide +kernel
theorem d10_89 : decode jdk_42_method_75_code 89 = .ok (.iload 5, 2) := by decide +kernel
theorem d10_91 : decode jdk_42_method_75_code 91 = .ok (.iload 6, 2) := by decide +kernel
theorem d10_93 : decode jdk_42_method_75_code 93 = .ok (.if_icmp .ge 28, 3) := by decide +kernel
theorem d10_96 : decode jdk_42_method_75_code 96 = .ok (.aload_n 3, 1) := by decide +kernel
theorem d10_97 : decode jdk_42_method_75_code 97 = .ok (.iload_n 2, 1) := by decide +kernel
theorem d10_98 : decode jdk_42_method_75_code 98 = .ok (.iinc 2 1, 3) := by decide +kernel
theorem d10_101 : decode jdk_42_method_75_code 101 = .ok (.invokestatic 360, 3) := by decide +kernel
theorem d10_104 : decode jdk_42_method_75_code 104 = .ok (.aload 4, 2) := by decide +kernel
theorem d10_106 : decode jdk_42_method_75_code 106 = .ok (.iload 5, 2) := by decide +kernel
theorem d10_108 : decode jdk_42_method_75_code 108 = .ok (.iinc 5 1, 3) := by decide +kernel
theorem d10_111 : decode jdk_42_method_75_code 111 = .ok (.baload, 1) := by decide +kernel
theorem d10_112 : decode jdk_42_method_75_code 112 = .ok (.sipush 255, 3) := by decide +kernel
theorem d10_115 : decode jdk_42_method_75_code 115 = .ok (.iand, 1) := by decide +kernel
theorem d10_116 : decode jdk_42_method_75_code 116 = .ok (.if_icmp .eq (-27), 3) := by decide +kernel
theorem d10_119 : decode jdk_42_method_75_code 119 = .ok (.iconst 0, 1) := by decide +kernel
theorem d10_120 : decode jdk_42_method_75_code 120 = .ok (.ireturn, 1) := by decide +kernel
theorem d10_121 : decode jdk_42_method_75_code 121 = .ok (.iconst 1, 1) := by decide +kernel
theorem d10_122 : decode jdk_42_method_75_code 122 = .ok (.ireturn, 1) := by decide +kernel
theorem pd_11 : parseMethodDescriptor "()I" = some ⟨[], some .int⟩ := by decide +kernel
theorem pd_12 : parseMethodDescriptor "()B" = some ⟨[], some .byte⟩ := by decide +kernel
theorem pd_13 : parseMethodDescriptor "([BI[BII)I" = some ⟨[(.array .byte), .int, (.array .byte), .int, .int], some .int⟩ := by decide +kernel
theorem d11_0 : decode jdk_42_method_54_code 0 = .ok (.aload_n 0, 1) := by decide +kernel
theorem d11_1 : decode jdk_42_method_54_code 1 = .ok (.getfield 9, 3) := by decide +kernel
theorem d11_4 : decode jdk_42_method_54_code 4 = .ok (.arraylength, 1) := by decide +kernel
theorem d11_5 : decode jdk_42_method_54_code 5 = .ok (.aload_n 0, 1) := by decide +kernel
theorem d11_6 : decode jdk_42_method_54_code 6 = .ok (.invokevirtual 335, 3) := by decide +kernel
theorem d11_9 : decode jdk_42_method_54_code 9 = .ok (.ishr, 1) := by decide +kernel
theorem d11_10 : decode jdk_42_method_54_code 10 = .ok (.ireturn, 1) := by decide +kernel
theorem d12_0 : decode jdk_42_method_152_code 0 = .ok (.getstatic 38, 3) := by decide +kernel
theorem d12_3 : decode jdk_42_method_152_code 3 = .ok (.ifCond .eq 10, 3) := by decide +kernel
theorem d12_6 : decode jdk_42_method_152_code 6 = .ok (.aload_n 0, 1) := by decide +kernel
theorem d12_7 : decode jdk_42_method_152_code 7 = .ok (.getfield 15, 3) := by decide +kernel
theorem d12_10 : decode jdk_42_method_152_code 10 = .ok (.goto 4, 3) := by decide +kernel
theorem d12_13 : decode jdk_42_method_152_code 13 = .ok (.iconst 1, 1) := by decide +kernel
theorem d12_14 : decode jdk_42_method_152_code 14 = .ok (.ireturn, 1) := by decide +kernel
theorem d13_0 : decode jdk_48_method_14_code 0 = .ok (.iconst 0, 1) := by decide +kernel
theorem d13_1 : decode jdk_48_method_14_code 1 = .ok (.istore 5, 2) := by decide +kernel
theorem d13_3 : decode jdk_48_method_14_code 3 = .ok (.iload 4, 2) := by decide +kernel
theorem d13_5 : decode jdk_48_method_14_code 5 = .ok (.bipush 7, 2) := by decide +kernel
theorem d13_7 : decode jdk_48_method_14_code 7 = .ok (.if_icmp .le 63, 3) := by decide +kernel
theorem d13_10 : decode jdk_48_method_14_code 10 = .ok (.aload_n 0, 1) := by decide +kernel
theorem d13_11 : decode jdk_48_method_14_code 11 = .ok (.iload_n 1, 1) := by decide +kernel
theorem d13_12 : decode jdk_48_method_14_code 12 = .ok (.baload, 1) := by decide +kernel
theorem d13_13 : decode jdk_48_method_14_code 13 = .ok (.aload_n 2, 1) := by decide +kernel
theorem d13_14 : decode jdk_48_method_14_code 14 = .ok (.iload_n 3, 1) := by decide +kernel
theorem d13_15 : decode jdk_48_method_14_code 15 = .ok (.baload, 1) := by decide +kernel
theorem d13_16 : decode jdk_48_method_14_code 16 = .ok (.if_icmp .eq 5, 3) := by decide +kernel
theorem d13_19 : decode jdk_48_method_14_code 19 = .ok (.iconst 0, 1) := by decide +kernel
theorem d13_20 : decode jdk_48_method_14_code 20 = .ok (.ireturn, 1) := by decide +kernel
theorem d13_21 : decode jdk_48_method_14_code 21 = .ok (.getstatic 126, 3) := by decide +kernel
theorem d13_24 : decode jdk_48_method_14_code 24 = .ok (.iload_n 1, 1) := by decide +kernel
theorem d13_25 : decode jdk_48_method_14_code 25 = .ok (.iadd, 1) := by decide +kernel
theorem d13_26 : decode jdk_48_method_14_code 26 = .ok (.istore 6, 2) := by decide +kernel
theorem d13_28 : decode jdk_48_method_14_code 28 = .ok (.getstatic 126, 3) := by decide +kernel
theorem d13_31 : decode jdk_48_method_14_code 31 = .ok (.iload_n 3, 1) := by decide +kernel
theorem d13_32 : decode jdk_48_method_14_code 32 = .ok (.iadd, 1) := by decide +kernel
theorem d13_33 : decode jdk_48_method_14_code 33 = .ok (.istore 7, 2) := by decide +kernel
theorem d13_35 : decode jdk_48_method_14_code 35 = .ok (.aload_n 0, 1) := by decide +kernel
theorem d13_36 : decode jdk_48_method_14_code 36 = .ok (.iload 6, 2) := by decide +kernel
theorem d13_38 : decode jdk_48_method_14_code 38 = .ok (.i2l, 1) := by decide +kernel
theorem d13_39 : decode jdk_48_method_14_code 39 = .ok (.aload_n 2, 1) := by decide +kernel
theorem d13_40 : decode jdk_48_method_14_code 40 = .ok (.iload 7, 2) := by decide +kernel
theorem d13_42 : decode jdk_48_method_14_code 42 = .ok (.i2l, 1) := by decide +kernel
theorem d13_43 : decode jdk_48_method_14_code 43 = .ok (.iload 4, 2) := by decide +kernel
theorem d13_45 : decode jdk_48_method_14_code 45 = .ok (.getstatic 129, 3) := by decide +kernel
theorem d13_48 : decode jdk_48_method_14_code 48 = .ok (.invokestatic 122, 3) := by decide +kernel
theorem d13_51 : decode jdk_48_method_14_code 51 = .ok (.istore 5, 2) := by decide +kernel
theorem d13_53 : decode jdk_48_method_14_code 53 = .ok (.iload 5, 2) := by decide +kernel
theorem d13_55 : decode jdk_48_method_14_code 55 = .ok (.ifCond .lt 6, 3) := by decide +kernel
theorem d13_58 : decode jdk_48_method_14_code 58 = .ok (.iload 5, 2) := by decide +kernel
theorem d13_60 : decode jdk_48_method_14_code 60 = .ok (.ireturn, 1) := by decide +kernel
theorem d13_61 : decode jdk_48_method_14_code 61 = .ok (.iload 4, 2) := by decide +kernel
theorem d13_63 : decode jdk_48_method_14_code 63 = .ok (.iload 5, 2) := by decide +kernel
theorem d13_65 : decode jdk_48_method_14_code 65 = .ok (.iconst (-1), 1) := by decide +kernel
theorem d13_66 : decode jdk_48_method_14_code 66 = .ok (.ixor, 1) := by decide +kernel
theorem d13_67 : decode jdk_48_method_14_code 67 = .ok (.isub, 1) := by decide +kernel
theorem d13_68 : decode jdk_48_method_14_code 68 = .ok (.istore 5, 2) := by decide +kernel
theorem d13_70 : decode jdk_48_method_14_code 70 = .ok (.iload 5, 2) := by decide +kernel
theorem d13_72 : decode jdk_48_method_14_code 72 = .ok (.iload 4, 2) := by decide +kernel
theorem d13_74 : decode jdk_48_method_14_code 74 = .ok (.if_icmp .ge 27, 3) := by decide +kernel
theorem d13_77 : decode jdk_48_method_14_code 77 = .ok (.aload_n 0, 1) := by decide +kernel
theorem d13_78 : decode jdk_48_method_14_code 78 = .ok (.iload_n 1, 1) := by decide +kernel
theorem d13_79 : decode jdk_48_method_14_code 79 = .ok (.iload 5, 2) := by decide +kernel
theorem d13_81 : decode jdk_48_method_14_code 81 = .ok (.iadd, 1) := by decide +kernel
theorem d13_82 : decode jdk_48_method_14_code 82 = .ok (.baload, 1) := by decide +kernel
theorem d13_83 : decode jdk_48_method_14_code 83 = .ok (.aload_n 2, 1) := by decide +kernel
theorem d13_84 : decode jdk_48_method_14_code 84 = .ok (.iload_n 3, 1) := by decide +kernel
theorem d13_85 : decode jdk_48_method_14_code 85 = .ok (.iload 5, 2) := by decide +kernel
theorem d13_87 : decode jdk_48_method_14_code 87 = .ok (.iadd, 1) := by decide +kernel
theorem d13_88 : decode jdk_48_method_14_code 88 = .ok (.baload, 1) := by decide +kernel
theorem d13_89 : decode jdk_48_method_14_code 89 = .ok (.if_icmp .eq 6, 3) := by decide +kernel
theorem d13_92 : decode jdk_48_method_14_code 92 = .ok (.iload 5, 2) := by decide +kernel
theorem d13_94 : decode jdk_48_method_14_code 94 = .ok (.ireturn, 1) := by decide +kernel
theorem d13_95 : decode jdk_48_method_14_code 95 = .ok (.iinc 5 1, 3) := by decide +kernel
theorem d13_98 : decode jdk_48_method_14_code 98 = .ok (.goto (-28), 3) := by decide +kernel
theorem d13_101 : decode jdk_48_method_14_code 101 = .ok (.iconst (-1), 1) := by decide +kernel
theorem d13_102 : decode jdk_48_method_14_code 102 = .ok (.ireturn, 1) := by decide +kernel
theorem pn_3 : plainName "jdk/internal/util/ArraysSupport" = true := by first | (simp [plainName, overriddenIn]; done) | decide +kernel
theorem d14_0 : decode jdk_42_method_66_code 0 = .ok (.aload_n 0, 1) := by decide +kernel
theorem d14_1 : decode jdk_42_method_66_code 1 = .ok (.aload_n 1, 1) := by decide +kernel
theorem d14_2 : decode jdk_42_method_66_code 2 = .ok (.if_acmp .ne 5, 3) := by decide +kernel
theorem d14_5 : decode jdk_42_method_66_code 5 = .ok (.iconst 1, 1) := by decide +kernel
theorem d14_6 : decode jdk_42_method_66_code 6 = .ok (.ireturn, 1) := by decide +kernel
theorem d14_7 : decode jdk_42_method_66_code 7 = .ok (.aload_n 1, 1) := by decide +kernel
theorem d14_8 : decode jdk_42_method_66_code 8 = .ok (.instanceof 10, 3) := by decide +kernel
theorem d14_11 : decode jdk_42_method_66_code 11 = .ok (.ifCond .eq 43, 3) := by decide +kernel
theorem d14_14 : decode jdk_42_method_66_code 14 = .ok (.aload_n 1, 1) := by decide +kernel
theorem d14_15 : decode jdk_42_method_66_code 15 = .ok (.checkcast 10, 3) := by decide +kernel
theorem d14_18 : decode jdk_42_method_66_code 18 = .ok (.astore_n 2, 1) := by decide +kernel
theorem d14_19 : decode jdk_42_method_66_code 19 = .ok (.getstatic 38, 3) := by decide +kernel
theorem d14_22 : decode jdk_42_method_66_code 22 = .ok (.ifCond .eq 14, 3) := by decide +kernel
theorem d14_25 : decode jdk_42_method_66_code 25 = .ok (.aload_n 0, 1) := by decide +kernel
theorem d14_26 : decode jdk_42_method_66_code 26 = .ok (.getfield 15, 3) := by decide +kernel
theorem d14_29 : decode jdk_42_method_66_code 29 = .ok (.aload_n 2, 1) := by decide +kernel
theorem d14_30 : decode jdk_42_method_66_code 30 = .ok (.getfield 15, 3) := by decide +kernel
theorem d14_33 : decode jdk_42_method_66_code 33 = .ok (.if_icmp .ne 21, 3) := by decide +kernel
theorem d14_36 : decode jdk_42_method_66_code 36 = .ok (.aload_n 0, 1) := by decide +kernel
theorem d14_37 : decode jdk_42_method_66_code 37 = .ok (.getfield 9, 3) := by decide +kernel
theorem d14_40 : decode jdk_42_method_66_code 40 = .ok (.aload_n 2, 1) := by decide +kernel
theorem d14_41 : decode jdk_42_method_66_code 41 = .ok (.getfield 9, 3) := by decide +kernel
theorem d14_44 : decode jdk_42_method_66_code 44 = .ok (.invokestatic 541, 3) := by decide +kernel
theorem d14_47 : decode jdk_42_method_66_code 47 = .ok (.ifCond .eq 7, 3) := by decide +kernel
theorem d14_50 : decode jdk_42_method_66_code 50 = .ok (.iconst 1, 1) := by decide +kernel
theorem d14_51 : decode jdk_42_method_66_code 51 = .ok (.goto 4, 3) := by decide +kernel
theorem d14_54 : decode jdk_42_method_66_code 54 = .ok (.iconst 0, 1) := by decide +kernel
theorem d14_55 : decode jdk_42_method_66_code 55 = .ok (.ireturn, 1) := by decide +kernel
theorem pd_14 : parseMethodDescriptor "([B[B)Z" = some ⟨[(.array .byte), (.array .byte)], some .boolean⟩ := by decide +kernel
theorem d16_0 : decode jdk_42_method_91_code 0 = .ok (.aload_n 0, 1) := by decide +kernel
theorem d16_1 : decode jdk_42_method_91_code 1 = .ok (.iload_n 1, 1) := by decide +kernel
theorem d16_2 : decode jdk_42_method_91_code 2 = .ok (.aload_n 0, 1) := by decide +kernel
theorem d16_3 : decode jdk_42_method_91_code 3 = .ok (.invokevirtual 505, 3) := by decide +kernel
theorem d16_6 : decode jdk_42_method_91_code 6 = .ok (.invokevirtual 681, 3) := by decide +kernel
theorem d16_9 : decode jdk_42_method_91_code 9 = .ok (.areturn, 1) := by decide +kernel
theorem pd_15 : parseMethodDescriptor "(II)Ljava/lang/String;" = some ⟨[.int, .int], some (.object "java/lang/String")⟩ := by decide +kernel
theorem d17_0 : decode jdk_42_method_92_code 0 = .ok (.aload_n 0, 1) := by decide +kernel
theorem d17_1 : decode jdk_42_method_92_code 1 = .ok (.invokevirtual 505, 3) := by decide +kernel
theorem d17_4 : decode jdk_42_method_92_code 4 = .ok (.istore_n 3, 1) := by decide +kernel
theorem d17_5 : decode jdk_42_method_92_code 5 = .ok (.iload_n 1, 1) := by decide +kernel
theorem d17_6 : decode jdk_42_method_92_code 6 = .ok (.iload_n 2, 1) := by decide +kernel
theorem d17_7 : decode jdk_42_method_92_code 7 = .ok (.iload_n 3, 1) := by decide +kernel
theorem d17_8 : decode jdk_42_method_92_code 8 = .ok (.invokestatic 521, 3) := by decide +kernel
theorem d17_11 : decode jdk_42_method_92_code 11 = .ok (.iload_n 1, 1) := by decide +kernel
theorem d17_12 : decode jdk_42_method_92_code 12 = .ok (.ifCond .ne 10, 3) := by decide +kernel
theorem d17_15 : decode jdk_42_method_92_code 15 = .ok (.iload_n 2, 1) := by decide +kernel
theorem d17_16 : decode jdk_42_method_92_code 16 = .ok (.iload_n 3, 1) := by decide +kernel
theorem d17_17 : decode jdk_42_method_92_code 17 = .ok (.if_icmp .ne 5, 3) := by decide +kernel
theorem d17_20 : decode jdk_42_method_92_code 20 = .ok (.aload_n 0, 1) := by decide +kernel
theorem d17_21 : decode jdk_42_method_92_code 21 = .ok (.areturn, 1) := by decide +kernel
theorem d17_22 : decode jdk_42_method_92_code 22 = .ok (.iload_n 2, 1) := by decide +kernel
theorem d17_23 : decode jdk_42_method_92_code 23 = .ok (.iload_n 1, 1) := by decide +kernel
theorem d17_24 : decode jdk_42_method_92_code 24 = .ok (.isub, 1) := by decide +kernel
theorem d17_25 : decode jdk_42_method_92_code 25 = .ok (.istore 4, 2) := by decide +kernel
theorem d17_27 : decode jdk_42_method_92_code 27 = .ok (.aload_n 0, 1) := by decide +kernel
theorem d17_28 : decode jdk_42_method_92_code 28 = .ok (.invokevirtual 492, 3) := by decide +kernel
theorem d17_31 : decode jdk_42_method_92_code 31 = .ok (.ifCond .eq 16, 3) := by decide +kernel
theorem d17_34 : decode jdk_42_method_92_code 34 = .ok (.aload_n 0, 1) := by decide +kernel
theorem d17_35 : decode jdk_42_method_92_code 35 = .ok (.getfield 9, 3) := by decide +kernel
theorem d17_38 : decode jdk_42_method_92_code 38 = .ok (.iload_n 1, 1) := by decide +kernel
theorem d17_39 : decode jdk_42_method_92_code 39 = .ok (.iload 4, 2) := by decide +kernel
theorem d17_41 : decode jdk_42_method_92_code 41 = .ok (.invokestatic 685, 3) := by decide +kernel
theorem d17_44 : decode jdk_42_method_92_code 44 = .ok (.goto 13, 3) := by decide +kernel
theorem d17_47 : decode jdk_42_method_92_code 47 = .ok (.aload_n 0, 1) := by decide +kernel
theorem d17_48 : decode jdk_42_method_92_code 48 = .ok (.getfield 9, 3) := by decide +kernel
theorem d17_51 : decode jdk_42_method_92_code 51 = .ok (.iload_n 1, 1) := by decide +kernel
theorem d17_52 : decode jdk_42_method_92_code 52 = .ok (.iload 4, 2) := by decide +kernel
theorem d17_54 : decode jdk_42_method_92_code 54 = .ok (.invokestatic 689, 3) := by decide +kernel
theorem d17_57 : decode jdk_42_method_92_code 57 = .ok (.areturn, 1) := by decide +kernel
theorem pd_16 : parseMethodDescriptor "(III)V" = some ⟨[.int, .int, .int], none⟩ := by decide +kernel
theorem pd_17 : parseMethodDescriptor "()Z" = some ⟨[], some .boolean⟩ := by decide +kernel
theorem pd_18 : parseMethodDescriptor "([BII)Ljava/lang/String;" = some ⟨[(.array .byte), .int, .int], some (.object "java/lang/String")⟩ := by decide +kernel
theorem d18_0 : decode jdk_42_method_158_code 0 = .ok (.iload_n 0, 1) := by decide +kernel
theorem d18_1 : decode jdk_42_method_158_code 1 = .ok (.iload_n 1, 1) := by decide +kernel
theorem d18_2 : decode jdk_42_method_158_code 2 = .ok (.iload_n 2, 1) := by decide +kernel
theorem d18_3 : decode jdk_42_method_158_code 3 = .ok (.getstatic 1053, 3) := by decide +kernel
theorem d18_6 : decode jdk_42_method_158_code 6 = .ok (.invokestatic 1062, 3) := by decide +kernel
theorem d18_9 : decode jdk_42_method_158_code 9 = .ok (.pop, 1) := by decide +kernel
theorem d18_10 : decode jdk_42_method_158_code 10 = .ok (.return_, 1) := by decide +kernel
theorem pd_19 : parseMethodDescriptor "(IIILjava/util/function/BiFunction;)I" = some ⟨[.int, .int, .int, (.object "java/util/function/BiFunction")], some .int⟩ := by decide +kernel
theorem d19_0 : decode jdk_41_method_12_code 0 = .ok (.iload_n 0, 1) := by decide +kernel
theorem d19_1 : decode jdk_41_method_12_code 1 = .ok (.ifCond .lt 13, 3) := by decide +kernel
theorem d19_4 : decode jdk_41_method_12_code 4 = .ok (.iload_n 0, 1) := by decide +kernel
theorem d19_5 : decode jdk_41_method_12_code 5 = .ok (.iload_n 1, 1) := by decide +kernel
theorem d19_6 : decode jdk_41_method_12_code 6 = .ok (.if_icmp .gt 8, 3) := by decide +kernel
theorem d19_9 : decode jdk_41_method_12_code 9 = .ok (.iload_n 1, 1) := by decide +kernel
theorem d19_10 : decode jdk_41_method_12_code 10 = .ok (.iload_n 2, 1) := by decide +kernel
theorem d19_11 : decode jdk_41_method_12_code 11 = .ok (.if_icmp .le 11, 3) := by decide +kernel
theorem d19_14 : decode jdk_41_method_12_code 14 = .ok (.aload_n 3, 1) := by decide +kernel
theorem d19_15 : decode jdk_41_method_12_code 15 = .ok (.iload_n 0, 1) := by decide +kernel
theorem d19_16 : decode jdk_41_method_12_code 16 = .ok (.iload_n 1, 1) := by decide +kernel
theorem d19_17 : decode jdk_41_method_12_code 17 = .ok (.iload_n 2, 1) := by decide +kernel
theorem d19_18 : decode jdk_41_method_12_code 18 = .ok (.invokestatic 99, 3) := by decide +kernel
theorem d19_21 : decode jdk_41_method_12_code 21 = .ok (.athrow, 1) := by decide +kernel
theorem d19_22 : decode jdk_41_method_12_code 22 = .ok (.iload_n 0, 1) := by decide +kernel
theorem d19_23 : decode jdk_41_method_12_code 23 = .ok (.ireturn, 1) := by decide +kernel
theorem pn_4 : plainName "jdk/internal/util/Preconditions" = true := by first | (simp [plainName, overriddenIn]; done) | decide +kernel
theorem d20_0 : decode jdk_42_method_154_code 0 = .ok (.getstatic 38, 3) := by decide +kernel
theorem d20_3 : decode jdk_42_method_154_code 3 = .ok (.ifCond .eq 14, 3) := by decide +kernel
theorem d20_6 : decode jdk_42_method_154_code 6 = .ok (.aload_n 0, 1) := by decide +kernel
theorem d20_7 : decode jdk_42_method_154_code 7 = .ok (.getfield 15, 3) := by decide +kernel
theorem d20_10 : decode jdk_42_method_154_code 10 = .ok (.ifCond .ne 7, 3) := by decide +kernel
theorem d20_13 : decode jdk_42_method_154_code 13 = .ok (.iconst 1, 1) := by decide +kernel
theorem d20_14 : decode jdk_42_method_154_code 14 = .ok (.goto 4, 3) := by decide +kernel
theorem d20_17 : decode jdk_42_method_154_code 17 = .ok (.iconst 0, 1) := by decide +kernel
theorem d20_18 : decode jdk_42_method_154_code 18 = .ok (.ireturn, 1) := by decide +kernel
theorem d21_0 : decode jdk_43_method_47_code 0 = .ok (.iload_n 2, 1) := by decide +kernel
theorem d21_1 : decode jdk_43_method_47_code 1 = .ok (.ifCond .ne 6, 3) := by decide +kernel
theorem d21_4 : decode jdk_43_method_47_code 4 = .ok (.ldc 151, 2) := by decide +kernel
theorem d21_6 : decode jdk_43_method_47_code 6 = .ok (.areturn, 1) := by decide +kernel
theorem d21_7 : decode jdk_43_method_47_code 7 = .ok (.new 1, 3) := by decide +kernel
theorem d21_10 : decode jdk_43_method_47_code 10 = .ok (.dup, 1) := by decide +kernel
theorem d21_11 : decode jdk_43_method_47_code 11 = .ok (.aload_n 0, 1) := by decide +kernel
theorem d21_12 : decode jdk_43_method_47_code 12 = .ok (.iload_n 1, 1) := by decide +kernel
theorem d21_13 : decode jdk_43_method_47_code 13 = .ok (.iload_n 1, 1) := by decide +kernel
theorem d21_14 : decode jdk_43_method_47_code 14 = .ok (.iload_n 2, 1) := by decide +kernel
theorem d21_15 : decode jdk_43_method_47_code 15 = .ok (.iadd, 1) := by decide +kernel
theorem d21_16 : decode jdk_43_method_47_code 16 = .ok (.invokestatic 232, 3) := by decide +kernel
theorem d21_19 : decode jdk_43_method_47_code 19 = .ok (.iconst 0, 1) := by decide +kernel
theorem d21_20 : decode jdk_43_method_47_code 20 = .ok (.invokespecial 112, 3) := by decide +kernel
theorem d21_23 : decode jdk_43_method_47_code 23 = .ok (.areturn, 1) := by decide +kernel
theorem pn_5 : plainName "java/lang/StringLatin1" = true := by first | (simp [plainName, overriddenIn]; done) | decide +kernel
theorem pd_20 : parseMethodDescriptor "([BII)[B" = some ⟨[(.array .byte), .int, .int], some (.array .byte)⟩ := by decide +kernel
theorem pd_21 : parseMethodDescriptor "([BB)V" = some ⟨[(.array .byte), .byte], none⟩ := by decide +kernel
theorem d22_0 : decode jdk_65_method_132_code 0 = .ok (.iload_n 1, 1) := by decide +kernel
theorem d22_1 : decode jdk_65_method_132_code 1 = .ok (.ifCond .ne 9, 3) := by decide +kernel
theorem d22_4 : decode jdk_65_method_132_code 4 = .ok (.iload_n 2, 1) := by decide +kernel
theorem d22_5 : decode jdk_65_method_132_code 5 = .ok (.aload_n 0, 1) := by decide +kernel
theorem d22_6 : decode jdk_65_method_132_code 6 = .ok (.arraylength, 1) := by decide +kernel
theorem d22_7 : decode jdk_65_method_132_code 7 = .ok (.if_icmp .eq 10, 3) := by decide +kernel
theorem d22_10 : decode jdk_65_method_132_code 10 = .ok (.aload_n 0, 1) := by decide +kernel
theorem d22_11 : decode jdk_65_method_132_code 11 = .ok (.iload_n 1, 1) := by decide +kernel
theorem d22_12 : decode jdk_65_method_132_code 12 = .ok (.iload_n 2, 1) := by decide +kernel
theorem d22_13 : decode jdk_65_method_132_code 13 = .ok (.invokestatic 339, 3) := by decide +kernel
theorem d22_16 : decode jdk_65_method_132_code 16 = .ok (.areturn, 1) := by decide +kernel
theorem d22_17 : decode jdk_65_method_132_code 17 = .ok (.aload_n 0, 1) := by decide +kernel
theorem d22_18 : decode jdk_65_method_132_code 18 = .ok (.invokevirtual 310, 3) := by decide +kernel
theorem d22_21 : decode jdk_65_method_132_code 21 = .ok (.checkcast 311, 3) := by decide +kernel
theorem d22_24 : decode jdk_65_method_132_code 24 = .ok (.areturn, 1) := by decide +kernel
theorem pn_6 : plainName "java/util/Arrays" = true := by first | (simp [plainName, overriddenIn]; done) | decide +kernel
theorem d23_0 : decode jdk_65_method_133_code 0 = .ok (.iload_n 1, 1) := by decide +kernel
theorem d23_1 : decode jdk_65_method_133_code 1 = .ok (.iload_n 2, 1) := by decide +kernel
theorem d23_2 : decode jdk_65_method_133_code 2 = .ok (.invokestatic 343, 3) := by decide +kernel
theorem d23_5 : decode jdk_65_method_133_code 5 = .ok (.iload_n 2, 1) := by decide +kernel
theorem d23_6 : decode jdk_65_method_133_code 6 = .ok (.iload_n 1, 1) := by decide +kernel
theorem d23_7 : decode jdk_65_method_133_code 7 = .ok (.isub, 1) := by decide +kernel
theorem d23_8 : decode jdk_65_method_133_code 8 = .ok (.istore_n 3, 1) := by decide +kernel
theorem d23_9 : decode jdk_65_method_133_code 9 = .ok (.iload_n 3, 1) := by decide +kernel
theorem d23_10 : decode jdk_65_method_133_code 10 = .ok (.newarray .byte, 2) := by decide +kernel
theorem d23_12 : decode jdk_65_method_133_code 12 = .ok (.astore 4, 2) := by decide +kernel
theorem d23_14 : decode jdk_65_method_133_code 14 = .ok (.aload_n 0, 1) := by decide +kernel
theorem d23_15 : decode jdk_65_method_133_code 15 = .ok (.iload_n 1, 1) := by decide +kernel
theorem d23_16 : decode jdk_65_method_133_code 16 = .ok (.aload 4, 2) := by decide +kernel
theorem d23_18 : decode jdk_65_method_133_code 18 = .ok (.iconst 0, 1) := by decide +kernel
theorem d23_19 : decode jdk_65_method_133_code 19 = .ok (.aload_n 0, 1) := by decide +kernel
theorem d23_20 : decode jdk_65_method_133_code 20 = .ok (.arraylength, 1) := by decide +kernel
theorem d23_21 : decode jdk_65_method_133_code 21 = .ok (.iload_n 1, 1) := by decide +kernel
theorem d23_22 : decode jdk_65_method_133_code 22 = .ok (.isub, 1) := by decide +kernel
theorem d23_23 : decode jdk_65_method_133_code 23 = .ok (.iload_n 3, 1) := by decide +kernel
theorem d23_24 : decode jdk_65_method_133_code 24 = .ok (.invokestatic 304, 3) := by decide +kernel
theorem d23_27 : decode jdk_65_method_133_code 27 = .ok (.invokestatic 150, 3) := by decide +kernel
theorem d23_30 : decode jdk_65_method_133_code 30 = .ok (.aload 4, 2) := by decide +kernel
theorem d23_32 : decode jdk_65_method_133_code 32 = .ok (.areturn, 1) := by decide +kernel
theorem pd_22 : parseMethodDescriptor "(II)V" = some ⟨[.int, .int], none⟩ := by decide +kernel
theorem pd_23 : parseMethodDescriptor "(II)I" = some ⟨[.int, .int], some .int⟩ := by decide +kernel
theorem pd_24 : parseMethodDescriptor "(Ljava/lang/Object;ILjava/lang/Object;II)V" = some ⟨[(.object "java/lang/Object"), .int, (.object "java/lang/Object"), .int, .int], none⟩ := by decide +kernel
theorem d24_0 : decode jdk_65_method_131_code 0 = .ok (.iload_n 1, 1) := by decide +kernel
theorem d24_1 : decode jdk_65_method_131_code 1 = .ok (.iload_n 0, 1) := by decide +kernel
theorem d24_2 : decode jdk_65_method_131_code 2 = .ok (.if_icmp .ge 35, 3) := by decide +kernel
theorem d24_5 : decode jdk_65_method_131_code 5 = .ok (.new 43, 3) := by decide +kernel
theorem d24_8 : decode jdk_65_method_131_code 8 = .ok (.dup, 1) := by decide +kernel
theorem d24_9 : decode jdk_65_method_131_code 9 = .ok (.new 45, 3) := by decide +kernel
theorem d24_12 : decode jdk_65_method_131_code 12 = .ok (.dup, 1) := by decide +kernel
theorem d24_13 : decode jdk_65_method_131_code 13 = .ok (.invokespecial 47, 3) := by decide +kernel
theorem d24_16 : decode jdk_65_method_131_code 16 = .ok (.iload_n 0, 1) := by decide +kernel
theorem d24_17 : decode jdk_65_method_131_code 17 = .ok (.invokevirtual 54, 3) := by decide +kernel
theorem d24_20 : decode jdk_65_method_131_code 20 = .ok (.ldc_w 337, 3) := by decide +kernel
theorem d24_23 : decode jdk_65_method_131_code 23 = .ok (.invokevirtual 50, 3) := by decide +kernel
theorem d24_26 : decode jdk_65_method_131_code 26 = .ok (.iload_n 1, 1) := by decide +kernel
theorem d24_27 : decode jdk_65_method_131_code 27 = .ok (.invokevirtual 54, 3) := by decide +kernel
theorem d24_30 : decode jdk_65_method_131_code 30 = .ok (.invokevirtual 61, 3) := by decide +kernel
theorem d24_33 : decode jdk_65_method_131_code 33 = .ok (.invokespecial 65, 3) := by decide +kernel
theorem d24_36 : decode jdk_65_method_131_code 36 = .ok (.athrow, 1) := by decide +kernel
theorem d24_37 : decode jdk_65_method_131_code 37 = .ok (.return_, 1) := by decide +kernel
theorem d25_0 : decode jdk_29_method_69_code 0 = .ok (.iload_n 0, 1) := by decide +kernel
theorem d25_1 : decode jdk_29_method_69_code 1 = .ok (.iload_n 1, 1) := by decide +kernel
theorem d25_2 : decode jdk_29_method_69_code 2 = .ok (.if_icmp .gt 7, 3) := by decide +kernel
theorem d25_5 : decode jdk_29_method_69_code 5 = .ok (.iload_n 0, 1) := by decide +kernel
theorem d25_6 : decode jdk_29_method_69_code 6 = .ok (.goto 4, 3) := by decide +kernel
theorem d25_9 : decode jdk_29_method_69_code 9 = .ok (.iload_n 1, 1) := by decide +kernel
theorem d25_10 : decode jdk_29_method_69_code 10 = .ok (.ireturn, 1) := by decide +kernel
theorem d26_0 : decode jdk_42_method_151_code 0 = .ok (.aload_n 0, 1) := by decide +kernel
theorem d26_1 : decode jdk_42_method_151_code 1 = .ok (.invokespecial 1, 3) := by decide +kernel
theorem d26_4 : decode jdk_42_method_151_code 4 = .ok (.aload_n 0, 1) := by decide +kernel
theorem d26_5 : decode jdk_42_method_151_code 5 = .ok (.aload_n 1, 1) := by decide +kernel
theorem d26_6 : decode jdk_42_method_151_code 6 = .ok (.putfield 9, 3) := by decide +kernel
theorem d26_9 : decode jdk_42_method_151_code 9 = .ok (.aload_n 0, 1) := by decide +kernel
theorem d26_10 : decode jdk_42_method_151_code 10 = .ok (.iload_n 2, 1) := by decide +kernel
theorem d26_11 : decode jdk_42_method_151_code 11 = .ok (.putfield 15, 3) := by decide +kernel
theorem d26_14 : decode jdk_42_method_151_code 14 = .ok (.return_, 1) := by decide +kernel
def Q_rm3 (Z : State) (a1 b2 : Addr) (h0 : Heap) (n0 : Nat) : Option Value → Heap → List Loc → Prop := fun v h L => v = none ∧ Fr n0 L ∧ Keep h0 h [a1] ∧ StrAt Z h a1 []
set_option maxRecDepth 65536 in
set_option maxHeartbeats 40000000 in
theorem rm3 (l : Launch) (Z : State) (a0 : Array Value) (hw : ∀ d ∈ tables_1, d.before a0 Z = true) (ws : List Jvm.Cond) (a1 b2 : Addr) (h0 : Heap) (n0 : Nat) (E_a1 : Exa Z h0 a1 "java/lang/String") (F_value_a1 : Fld Z h0 a1 "java/lang/String" "value" "[B" .null) (F_coder_a1 : Fld Z h0 a1 "java/lang/String" "coder" "B" (.int 0)) (g_a1 : n0 ≤ a1) :
    MetFree l (⟨"java/lang/String", "<init>", "([CIILjava/lang/Void;)V"⟩ : MethodName) (head1 (Jvm.Cond.code (⟨"java/lang/String", "<init>", "([CIILjava/lang/Void;)V"⟩ : MethodName) jdk_42_method_149_code 6 none :: ws) ({ frames := 1, cells := 4, slots := 8, locals := 12 } : Room)) (fun a U => a = #[(.ref a1), (.ref b2), (.int (0 : Int32)), (.int (0 : Int32)), .null] ∧ Z.Warmed39 U.vm ∧ U.heap = h0 ∧ CHv Z EL U.vm h0) (fun _ _ _ _ _ => True) (fun _ U o U' => ∃ v L, o = .returned v ∧ Q_rm3 Z a1 b2 h0 n0 v U'.heap L ∧ CHr Z EL U.vm U.heap U'.vm U'.heap ∧ ReturnedEndW U o U' L ({ frames := 1, cells := 4, slots := 8, locals := 12 } : Room).cells ({ frames := 1, cells := 4, slots := 8, locals := 12 } : Room).slots) := by
  refine MetFree.of_bodySF (plainFor_of_name pn_1) hisR ?_
  intro p e s m args below meth c s₁ Bd hml0 hP hK
  obtain ⟨rfl, hZ, hh, CH0⟩ := hP
  have hx := Bd.exec
  have hby := Bd.bytes
  have hml : c.maxLocals = 6 := hml0
  have hown : s.vm.findClass "java/lang/String" = some m.cls := findClass_of_methodNamed Bd.named
  have hnm := (name_of_methodNamed Bd.named Bd.method).1
  have X0 : Stand p l e ({ frames := 1, cells := 4, slots := 8, locals := 12 } : Room) (s.setVm s.vm) m #[(.ref a1), (.ref b2), (.int (0 : Int32)), (.int (0 : Int32)), .null] below meth c s₁ [] 0 0 := Stand.of_body Bd
  have e0 : s₁.heap = h0 := by rw [← hh, Bd.state]; rfl
  have N0 := Fr.nil n0
  have hS : s.Since s.vm 0 := (State.WarmedH.refl s).since 0
  have hk : 0 ≤ h0.size := Nat.zero_le _
  have CR : CHr Z EL s.vm s.heap s.vm h0 := by rw [hh]; exact CHr.refl CH0
  have hEL := ew_of hw
  have hwS := ws_of hw
  have Sf_a1 : Safe Z EL s.vm h0 a1 := Safe.null hZ.alike E_a1 F_value_a1 (hw _ (List.mem_of_getElem? (i := 5) rfl))
  have ef : entryFrame m #[(.ref a1), (.ref b2), (.int (0 : Int32)), (.int (0 : Int32)), .null] 6 = (mkF m 0 #[.val (.ref a1), .val (.ref b2), .val (.int (0 : Int32)), .val (.int (0 : Int32)), .val .null, .unset] []) := by first | rfl | (simp [entryFrame, mkF, argsToLocals, Value.category, maxLocals]; done)
  show Go p e below (EndW EL Z (fun v h L => v = none ∧ Fr n0 L ∧ Keep h0 h [a1] ∧ StrAt Z h a1 []) s 4 8) (s₁.setTop (entryFrame m #[(.ref a1), (.ref b2), (.int (0 : Int32)), (.int (0 : Int32)), .null] 6))
  rw [ef]
  show Go p e below _ (s₁.setTop (mkF m 0 #[.val (.ref a1), .val (.ref b2), .val (.int (0 : Int32)), .val (.int (0 : Int32)), .val .null, .unset] []))
  have K0 : Keep h0 h0 [a1] := Keep.refl _ _
  show Go p e below _ (s₁.setTop (mkF m 0 #[.val (.ref a1), .val (.ref b2), .val (.int (0 : Int32)), .val (.int (0 : Int32)), .val .null, .unset] []))
  refine Go.by (fun t => XS.aloadN X0.here hx rfl (hb hby d3_0) rfl rfl) ?_
  show Go p e below _ (s₁.setTop (mkF m 1 #[.val (.ref a1), .val (.ref b2), .val (.int (0 : Int32)), .val (.int (0 : Int32)), .val .null, .unset] [(.ref a1)]))
  obtain ⟨T101, X101, e101, st101⟩ := initO X0 hx hZ hown (hw _ (List.mem_of_getElem? (i := 15) rfl)) (hw _ (List.mem_of_getElem? (i := 16) rfl)) (hw _ (List.mem_of_getElem? (i := 17) rfl)) e0 (g := (mkF m 1 #[.val (.ref a1), .val (.ref b2), .val (.int (0 : Int32)), .val (.int (0 : Int32)), .val .null, .unset] [(.ref a1)])) rfl (by rw [hml]; rfl) rfl (hb hby d3_1) (by decide) (W := 0) (by show 2 * 0 + _ ≤ _; exact Nat.le_of_eq rfl) (by decide)
  refine Go.by (fun t => st101 t) ?_
  show Go p e below _ (T101.setTop (mkF m 4 #[.val (.ref a1), .val (.ref b2), .val (.int (0 : Int32)), .val (.int (0 : Int32)), .val .null, .unset] []))
  show Go p e below _ (T101.setTop (mkF m 4 #[.val (.ref a1), .val (.ref b2), .val (.int (0 : Int32)), .val (.int (0 : Int32)), .val .null, .unset] []))
  refine Go.by (fun t => XS.iloadN X101.here hx rfl (hb hby d3_4) rfl ) ?_
  show Go p e below _ (T101.setTop (mkF m 5 #[.val (.ref a1), .val (.ref b2), .val (.int (0 : Int32)), .val (.int (0 : Int32)), .val .null, .unset] [(.int (0 : Int32))]))
  refine Go.by (fun t => XS.ifNo X101.here hx rfl (hb hby d3_5) rfl ((if0 _ _).trans (teq (rfl : (0 : Int32) = (0 : Int32))).2)) ?_
  show Go p e below _ (T101.setTop (mkF m 8 #[.val (.ref a1), .val (.ref b2), .val (.int (0 : Int32)), .val (.int (0 : Int32)), .val .null, .unset] []))
  show Go p e below _ (T101.setTop (mkF m 8 #[.val (.ref a1), .val (.ref b2), .val (.int (0 : Int32)), .val (.int (0 : Int32)), .val .null, .unset] []))
  refine Go.by (fun t => XS.aloadN X101.here hx rfl (hb hby d3_8) rfl rfl) ?_
  show Go p e below _ (T101.setTop (mkF m 9 #[.val (.ref a1), .val (.ref b2), .val (.int (0 : Int32)), .val (.int (0 : Int32)), .val .null, .unset] [(.ref a1)]))
  obtain ⟨c1, T102, h102, k102, t_c1, kb_c1, X102, e102, E102, hS102, hk102, hZ102, hown102, E_c1, F_coder_c1, F_value_c1, V_t_c1, lt_c1, ltb_c1, CRn, Lit102, sf102, st102⟩ := ldcCH X101 hx hZ hown (hw _ (List.mem_of_getElem? (i := 75) rfl)) hwS e101 hS hk hEL (by decide) CR.1 (vs := []) (z := 0) (by decide) (by decide) rfl (g := (mkF m 9 #[.val (.ref a1), .val (.ref b2), .val (.int (0 : Int32)), .val (.int (0 : Int32)), .val .null, .unset] [(.ref a1)])) rfl (hb hby d3_9) (n := 0) (by decide) (by decide) (by decide) (by decide)
  refine Go.by (fun t => st102 t) ?_
  replace Sf_a1 := CRn.safe E_a1.lt Sf_a1
  replace CR := CR.trans CRn
  replace E_a1 := E_a1.ext E102
  replace F_value_a1 := F_value_a1.ext E102
  replace F_coder_a1 := F_coder_a1.ext E102
  replace K0 := K0.ext E102
  clear CRn hS hk
  have hS := hS102
  have hk := hk102
  replace hZ := hZ102
  replace hown := hown102
  have ne_a1_c1 := (sf102 _ Sf_a1).1
  have ne_a1_t_c1 := (sf102 _ Sf_a1).2
  show Go p e below _ (T102.setTop (mkF m 11 #[.val (.ref a1), .val (.ref b2), .val (.int (0 : Int32)), .val (.int (0 : Int32)), .val .null, .unset] [(.ref c1), (.ref a1)]))
  obtain ⟨T103, X103, e103, st103⟩ := getF X102 hx hZ hown (host := "") (Or.inl (hw _ (List.mem_of_getElem? (i := 32) rfl))) Via.refl e102 F_value_c1 (g := (mkF m 11 #[.val (.ref a1), .val (.ref b2), .val (.int (0 : Int32)), .val (.int (0 : Int32)), .val .null, .unset] [(.ref c1), (.ref a1)])) rfl rfl (hb hby d3_11)
  refine Go.by (fun t => st103 t) ?_
  show Go p e below _ (T103.setTop (mkF m 14 #[.val (.ref a1), .val (.ref b2), .val (.int (0 : Int32)), .val (.int (0 : Int32)), .val .null, .unset] [(.ref t_c1), (.ref a1)]))
  obtain ⟨T104, h104, X104, e104, W104, st104⟩ := putF X103 hx hZ hown (host := "") (Or.inl (hw _ (List.mem_of_getElem? (i := 32) rfl))) Via.refl e103 F_value_a1 E_a1 (Or.inr ⟨(hw _ (List.mem_of_getElem? (i := 33) rfl)), rfl, hnm⟩) (hw _ (List.mem_of_getElem? (i := 5) rfl)) (ty := (.array .byte)) (by decide) rfl rfl (g := (mkF m 14 #[.val (.ref a1), .val (.ref b2), .val (.int (0 : Int32)), .val (.int (0 : Int32)), .val .null, .unset] [(.ref t_c1), (.ref a1)])) rfl rfl (hb hby d3_14)
  refine Go.by (fun t => st104 t) ?_
  have Sfw : Safe Z EL T102.vm h102 a1 := Sf_a1
  replace Sf_a1 := Safe.wr W104 Sfw CR.1 Sf_a1
  replace CR := CR.trans (CHr.wr W104 Sfw CR.1)
  clear Sfw
  replace hk := Nat.le_trans hk (Keep.of_wr W104).1
  replace F_value_a1 := F_value_a1.same W104
  replace E_a1 := E_a1.wr W104
  replace F_coder_a1 := F_coder_a1.other W104 (Or.inr (slot_ne (Or.inr (hw _ (List.mem_of_getElem? (i := 31) rfl))) (Or.inr (hw _ (List.mem_of_getElem? (i := 33) rfl))) (by decide) (t := .byte) (t' := (.array .byte)) (by decide) (by decide)))
  replace E_c1 := E_c1.wr W104
  replace F_coder_c1 := F_coder_c1.other W104 (Or.inl (Ne.symm ne_a1_c1))
  replace F_value_c1 := F_value_c1.other W104 (Or.inl (Ne.symm ne_a1_c1))
  replace V_t_c1 := V_t_c1.other W104 (Ne.symm ne_a1_t_c1)
  replace K0 := K0.wr W104 (Or.inl (List.mem_of_getElem? (i := 0) rfl))
  have N104 := Fr.snoc X104 N0 g_a1
  show Go p e below _ (T104.setTop (mkF m 17 #[.val (.ref a1), .val (.ref b2), .val (.int (0 : Int32)), .val (.int (0 : Int32)), .val .null, .unset] []))
  show Go p e below _ (T104.setTop (mkF m 17 #[.val (.ref a1), .val (.ref b2), .val (.int (0 : Int32)), .val (.int (0 : Int32)), .val .null, .unset] []))
  refine Go.by (fun t => XS.aloadN X104.here hx rfl (hb hby d3_17) rfl rfl) ?_
  show Go p e below _ (T104.setTop (mkF m 18 #[.val (.ref a1), .val (.ref b2), .val (.int (0 : Int32)), .val (.int (0 : Int32)), .val .null, .unset] [(.ref a1)]))
  obtain ⟨c2, T105, h105, k105, t_c2, kb_c2, X105, e105, E105, hS105, hk105, hZ105, hown105, E_c2, F_coder_c2, F_value_c2, V_t_c2, lt_c2, ltb_c2, CRn, Lit105, sf105, st105⟩ := ldcCH X104 hx hZ hown (hw _ (List.mem_of_getElem? (i := 75) rfl)) hwS e104 hS hk hEL (by decide) CR.1 (vs := []) (z := 0) (by decide) (by decide) rfl (g := (mkF m 18 #[.val (.ref a1), .val (.ref b2), .val (.int (0 : Int32)), .val (.int (0 : Int32)), .val .null, .unset] [(.ref a1)])) rfl (hb hby d3_18) (n := 0) (by decide) (by decide) (by decide) (by decide)
  refine Go.by (fun t => st105 t) ?_
  replace Sf_a1 := CRn.safe E_a1.lt Sf_a1
  replace CR := CR.trans CRn
  replace E_a1 := E_a1.ext E105
  replace F_value_a1 := F_value_a1.ext E105
  replace F_coder_a1 := F_coder_a1.ext E105
  replace E_c1 := E_c1.ext E105
  replace F_coder_c1 := F_coder_c1.ext E105
  replace F_value_c1 := F_value_c1.ext E105
  replace V_t_c1 := V_t_c1.ext E105
  replace K0 := K0.ext E105
  clear CRn hS hk
  have hS := hS105
  have hk := hk105
  replace hZ := hZ105
  replace hown := hown105
  have ne_a1_c2 := (sf105 _ Sf_a1).1
  have ne_a1_t_c2 := (sf105 _ Sf_a1).2
  show Go p e below _ (T105.setTop (mkF m 20 #[.val (.ref a1), .val (.ref b2), .val (.int (0 : Int32)), .val (.int (0 : Int32)), .val .null, .unset] [(.ref c2), (.ref a1)]))
  obtain ⟨T106, X106, e106, st106⟩ := getF X105 hx hZ hown (host := "") (Or.inl (hw _ (List.mem_of_getElem? (i := 30) rfl))) Via.refl e105 F_coder_c2 (g := (mkF m 20 #[.val (.ref a1), .val (.ref b2), .val (.int (0 : Int32)), .val (.int (0 : Int32)), .val .null, .unset] [(.ref c2), (.ref a1)])) rfl rfl (hb hby d3_20)
  refine Go.by (fun t => st106 t) ?_
  show Go p e below _ (T106.setTop (mkF m 23 #[.val (.ref a1), .val (.ref b2), .val (.int (0 : Int32)), .val (.int (0 : Int32)), .val .null, .unset] [(.int (0 : Int32)), (.ref a1)]))
  obtain ⟨T107, h107, X107, e107, W107, st107⟩ := putFN X106 hx hZ hown (hw _ (List.mem_of_getElem? (i := 30) rfl)) Via.refl e106 F_coder_a1 E_a1 (Or.inr ⟨(hw _ (List.mem_of_getElem? (i := 31) rfl)), rfl, hnm⟩) (hw _ (List.mem_of_getElem? (i := 5) rfl)) (ty := .byte) (v' := (.int (0 : Int32))) (by decide) (by first | rfl | decide) (by first | rfl | decide | exact fits_nar_byte _) (g := (mkF m 23 #[.val (.ref a1), .val (.ref b2), .val (.int (0 : Int32)), .val (.int (0 : Int32)), .val .null, .unset] [(.int (0 : Int32)), (.ref a1)])) rfl rfl (hb hby d3_23)
  refine Go.by (fun t => st107 t) ?_
  have Sfw : Safe Z EL T105.vm h105 a1 := Sf_a1
  replace Sf_a1 := Safe.wr W107 Sfw CR.1 Sf_a1
  replace CR := CR.trans (CHr.wr W107 Sfw CR.1)
  clear Sfw
  replace hk := Nat.le_trans hk (Keep.of_wr W107).1
  replace F_coder_a1 := F_coder_a1.same W107
  replace E_a1 := E_a1.wr W107
  replace F_value_a1 := F_value_a1.other W107 (Or.inr (slot_ne (Or.inr (hw _ (List.mem_of_getElem? (i := 33) rfl))) (Or.inr (hw _ (List.mem_of_getElem? (i := 31) rfl))) (by decide) (t := (.array .byte)) (t' := .byte) (by decide) (by decide)))
  replace E_c1 := E_c1.wr W107
  replace F_coder_c1 := F_coder_c1.other W107 (Or.inl (Ne.symm ne_a1_c1))
  replace F_value_c1 := F_value_c1.other W107 (Or.inl (Ne.symm ne_a1_c1))
  replace V_t_c1 := V_t_c1.other W107 (Ne.symm ne_a1_t_c1)
  replace E_c2 := E_c2.wr W107
  replace F_coder_c2 := F_coder_c2.other W107 (Or.inl (Ne.symm ne_a1_c2))
  replace F_value_c2 := F_value_c2.other W107 (Or.inl (Ne.symm ne_a1_c2))
  replace V_t_c2 := V_t_c2.other W107 (Ne.symm ne_a1_t_c2)
  replace K0 := K0.wr W107 (Or.inl (List.mem_of_getElem? (i := 0) rfl))
  have N107 := Fr.snoc X107 N104 g_a1
  show Go p e below _ (T107.setTop (mkF m 26 #[.val (.ref a1), .val (.ref b2), .val (.int (0 : Int32)), .val (.int (0 : Int32)), .val .null, .unset] []))
  show Go p e below _ (T107.setTop (mkF m 26 #[.val (.ref a1), .val (.ref b2), .val (.int (0 : Int32)), .val (.int (0 : Int32)), .val .null, .unset] []))
  exact Go.ret0W X107 hS (by rw [e107]; exact hk) (by rw [e107]; exact CR) hZ hEL hx Bd.returns Bd.notSynchronized (hb hby d3_26) (by decide) (by decide) (by first | (rw [e107]; exact ⟨rfl, N107, K0, t_c1, kb_c1, _, _, E_a1, F_value_a1, F_coder_a1, V_t_c1, Or.inl ⟨rfl, rfl, rfl, allN⟩, allN, Nat.zero_le _⟩) | exact ⟨rfl, N107, K0, t_c1, kb_c1, _, _, E_a1, F_value_a1, F_coder_a1, V_t_c1, Or.inl ⟨rfl, rfl, rfl, allN⟩, allN, Nat.zero_le _⟩)
def Q_rm2 (Z : State) (a1 b2 : Addr) (kc : ClassId) (vs : List Value) (dv : Value) (h0 : Heap) (n0 : Nat) : Option Value → Heap → List Loc → Prop := fun v h L => v = none ∧ Fr n0 L ∧ Keep h0 h [a1] ∧ StrAt Z h a1 []
set_option maxRecDepth 65536 in
set_option maxHeartbeats 40000000 in
theorem rm2 (l : Launch) (Z : State) (a0 : Array Value) (hw : ∀ d ∈ tables_1, d.before a0 Z = true) (ws : List Jvm.Cond) (a1 b2 : Addr) (kc : ClassId) (vs : List Value) (dv : Value) (h0 : Heap) (n0 : Nat) (E_a1 : Exa Z h0 a1 "java/lang/String") (F_value_a1 : Fld Z h0 a1 "java/lang/String" "value" "[B" .null) (F_coder_a1 : Fld Z h0 a1 "java/lang/String" "coder" "B" (.int 0)) (g_a1 : n0 ≤ a1) (V_b2 : Arv Z h0 b2 kc .char (0 : Int32) vs dv) :
    MetFree l (⟨"java/lang/String", "<init>", "([C)V"⟩ : MethodName) (head1 (Jvm.Cond.code (⟨"java/lang/String", "<init>", "([C)V"⟩ : MethodName) jdk_42_method_3_code 2 none :: ws) ({ frames := 2, cells := 4, slots := 8, locals := 29 } : Room)) (fun a U => a = #[(.ref a1), (.ref b2)] ∧ Z.Warmed39 U.vm ∧ U.heap = h0 ∧ CHv Z EL U.vm h0) (fun _ _ _ _ _ => True) (fun _ U o U' => ∃ v L, o = .returned v ∧ Q_rm2 Z a1 b2 kc vs dv h0 n0 v U'.heap L ∧ CHr Z EL U.vm U.heap U'.vm U'.heap ∧ ReturnedEndW U o U' L ({ frames := 2, cells := 4, slots := 8, locals := 29 } : Room).cells ({ frames := 2, cells := 4, slots := 8, locals := 29 } : Room).slots) := by
  refine MetFree.of_bodySF (plainFor_of_name pn_1) hisR ?_
  intro p e s m args below meth c s₁ Bd hml0 hP hK
  obtain ⟨rfl, hZ, hh, CH0⟩ := hP
  have hx := Bd.exec
  have hby := Bd.bytes
  have hml : c.maxLocals = 2 := hml0
  have hown : s.vm.findClass "java/lang/String" = some m.cls := findClass_of_methodNamed Bd.named
  have hnm := (name_of_methodNamed Bd.named Bd.method).1
  have X0 : Stand p l e ({ frames := 2, cells := 4, slots := 8, locals := 29 } : Room) (s.setVm s.vm) m #[(.ref a1), (.ref b2)] below meth c s₁ [] 0 0 := Stand.of_body Bd
  have e0 : s₁.heap = h0 := by rw [← hh, Bd.state]; rfl
  have N0 := Fr.nil n0
  have hS : s.Since s.vm 0 := (State.WarmedH.refl s).since 0
  have hk : 0 ≤ h0.size := Nat.zero_le _
  have CR : CHr Z EL s.vm s.heap s.vm h0 := by rw [hh]; exact CHr.refl CH0
  have hEL := ew_of hw
  have hwS := ws_of hw
  have ef : entryFrame m #[(.ref a1), (.ref b2)] 2 = (mkF m 0 #[.val (.ref a1), .val (.ref b2)] []) := by first | rfl | (simp [entryFrame, mkF, argsToLocals, Value.category, maxLocals]; done)
  show Go p e below (EndW EL Z (fun v h L => v = none ∧ Fr n0 L ∧ Keep h0 h [a1] ∧ StrAt Z h a1 []) s 4 8) (s₁.setTop (entryFrame m #[(.ref a1), (.ref b2)] 2))
  rw [ef]
  show Go p e below _ (s₁.setTop (mkF m 0 #[.val (.ref a1), .val (.ref b2)] []))
  show Go p e below _ (s₁.setTop (mkF m 0 #[.val (.ref a1), .val (.ref b2)] []))
  refine Go.by (fun t => XS.aloadN X0.here hx rfl (hb hby d2_0) rfl rfl) ?_
  show Go p e below _ (s₁.setTop (mkF m 1 #[.val (.ref a1), .val (.ref b2)] [(.ref a1)]))
  refine Go.by (fun t => XS.aloadN X0.here hx rfl (hb hby d2_1) rfl rfl) ?_
  show Go p e below _ (s₁.setTop (mkF m 2 #[.val (.ref a1), .val (.ref b2)] [(.ref b2), (.ref a1)]))
  refine Go.by (fun t => XS.iconst X0.here hx rfl (hb hby d2_2)) ?_
  show Go p e below _ (s₁.setTop (mkF m 3 #[.val (.ref a1), .val (.ref b2)] [(.int (0 : Int32)), (.ref b2), (.ref a1)]))
  refine Go.by (fun t => XS.aloadN X0.here hx rfl (hb hby d2_3) rfl rfl) ?_
  show Go p e below _ (s₁.setTop (mkF m 4 #[.val (.ref a1), .val (.ref b2)] [(.ref b2), (.int (0 : Int32)), (.ref b2), (.ref a1)]))
  obtain ⟨cl_108, Ar_108, q_108, S_108, M_108, -, -⟩ := id V_b2
  refine Go.by (fun t => X0.arraylength hx (by rw [e0]; exact Ar_108.1) (State.isArrayOf_alike hZ.alike Ar_108.2.1) (g := (mkF m 4 #[.val (.ref a1), .val (.ref b2)] [(.ref b2), (.int (0 : Int32)), (.ref b2), (.ref a1)])) rfl rfl (hb hby d2_4) t) ?_
  rw [len_of S_108 M_108]
  show Go p e below _ (s₁.setTop (mkF m 5 #[.val (.ref a1), .val (.ref b2)] [(.int (0 : Int32)), (.int (0 : Int32)), (.ref b2), (.ref a1)]))
  show Go p e below _ (s₁.setTop (mkF m 5 #[.val (.ref a1), .val (.ref b2)] [(.int (0 : Int32)), (.int (0 : Int32)), (.ref b2), (.ref a1)]))
  refine Go.by (fun t => XS.aconstNull X0.here hx rfl (hb hby d2_5)) ?_
  show Go p e below _ (s₁.setTop (mkF m 6 #[.val (.ref a1), .val (.ref b2)] [.null, (.int (0 : Int32)), (.int (0 : Int32)), (.ref b2), (.ref a1)]))
  obtain ⟨_, _, ⟨T109, L109, k109, n109⟩, -, X109, hSn, hgn, ⟨Lc109, hQ109, l109, y109, z109, CRn⟩, st109⟩ := X0.specialBackS hx (y := (⟨"java/lang/String", "<init>", "([CIILjava/lang/Void;)V"⟩ : MethodName)) rfl hown (mvT (s := s.setVm s.vm) hZ (hw _ (List.mem_of_getElem? (i := 11) rfl))) (mvT (s := s.setVm s.vm) hZ (hw _ (List.mem_of_getElem? (i := 12) rfl))) (mvT (s := s.setVm s.vm) hZ (hw _ (List.mem_of_getElem? (i := 14) rfl))) (by decide) (backOfSH (W := 0) (rm3 l Z a0 hw [] a1 b2 h0 n0 E_a1 F_value_a1 F_coder_a1 g_a1) hZ (hw _ (List.mem_of_getElem? (i := 14) rfl)) (hw _ (List.mem_of_getElem? (i := 6) rfl)) (by decide) (by decide) hEL CR.1) (g := (mkF m 6 #[.val (.ref a1), .val (.ref b2)] [.null, (.int (0 : Int32)), (.int (0 : Int32)), (.ref b2), (.ref a1)])) rfl (by rw [hml]; rfl) (Steps.refl _) (a := a1) (argsL := [(.ref b2), (.int (0 : Int32)), (.int (0 : Int32)), .null]) (rest := []) (lenOf pd_4 rfl) rfl (by show 2 * 0 + _ ≤ _; exact Nat.le_of_eq rfl) (hb hby d2_6) (fun _ _ => ⟨rfl, e0, (by decide : 0 + 4 ≤ _), (by decide : 0 + 8 ≤ _)⟩)
  dsimp only [Pt.U, Pt.locs, Pt.cells, Pt.slots] at X109 l109 y109 z109 st109 hQ109 hSn hgn CRn
  subst l109 y109 z109
  rw [e0] at hgn
  obtain ⟨X109', hS109, hZ109, hown109⟩ := rebS hS hk X109 hSn hgn hZ hown
  obtain ⟨rfl, Nq109, K109, S_a1⟩ := hQ109
  have N109 := Fr.app N0 Nq109
  refine Go.by (fun t => st109.trans) ?_
  replace CR := CR.trans CRn
  clear CRn hS hk hSn
  have hS := hS109
  have hk : T109.heap.size ≤ T109.heap.size := Nat.le_refl _
  replace hZ := hZ109
  replace hown := hown109
  show Go p e below _ (T109.setTop (mkF m 9 #[.val (.ref a1), .val (.ref b2)] []))
  show Go p e below _ (T109.setTop (mkF m 9 #[.val (.ref a1), .val (.ref b2)] []))
  exact Go.ret0W X109' hS hk CR hZ hEL hx Bd.returns Bd.notSynchronized (hb hby d2_9) (by decide) (by decide) ⟨rfl, N109, K109, S_a1⟩
def mkM (n x0 x1 x2 : Int32) : List Int32 := if 0 < n then (if n = 1 then [x0] else if n = 2 then [x0, x1] else [x0, x1, x2]) else []
theorem nar_b {x : Int32} (h : ¬ x < 0 ∧ ¬ (255 : Int32) < x) : nar .char x = x := by
  have e : x = Int32.ofNat x.toInt.toNat := by
    apply Int32.toInt_inj.mp
    have h1 := h.1; have h2 := h.2
    rw [Int32.lt_iff_toInt_lt] at h1 h2
    have e0 : (0 : Int32).toInt = 0 := rfl
    have e1 : (255 : Int32).toInt = 255 := rfl
    rw [Int32.toInt_ofNat_of_lt (by omega)]; omega
  have hb : x.toInt.toNat < 256 := by
    have h1 := h.1; have h2 := h.2
    rw [Int32.lt_iff_toInt_lt] at h1 h2
    have e0 : (0 : Int32).toInt = 0 := rfl
    have e1 : (255 : Int32).toInt = 255 := rfl
    omega
  rw [e]
  exact (by decide +kernel : ∀ k : Fin 256, nar .char (Int32.ofNat k.val) = Int32.ofNat k.val) ⟨_, hb⟩
theorem and255_id (x : Int32) : (¬ ((x &&& (255 : Int32)).toUInt32.toUInt16.toUInt32.toInt32) < 0 ∧ ¬ (255 : Int32) < ((x &&& (255 : Int32)).toUInt32.toUInt16.toUInt32.toInt32)) := by
  rw [i2c_mask]
  have t : ∀ k : Fin 256, ¬ (Int32.ofNat k.val) < 0 ∧ ¬ (255 : Int32) < (Int32.ofNat k.val) := by decide +kernel
  have h : (x &&& 255).toBitVec.toNat < 256 := by
    simp only [Int32.toBitVec_and, BitVec.toNat_and]
    exact Nat.lt_succ_of_le Nat.and_le_right
  have e : (x &&& 255) = Int32.ofNat (x &&& 255).toBitVec.toNat := by
    apply Int32.toBitVec_inj.mp
    show _ = BitVec.ofNat 32 _
    rw [BitVec.ofNat_toNat]; simp
  rw [e]
  exact t ⟨_, h⟩
theorem and3_cases (x : Int32) : x &&& 3 = 0 ∨ x &&& 3 = 1 ∨ x &&& 3 = 2 ∨ x &&& 3 = 3 := by
  have t : ∀ k : Fin 4, (Int32.ofNat k.val) = 0 ∨ (Int32.ofNat k.val) = 1 ∨ (Int32.ofNat k.val) = 2 ∨ (Int32.ofNat k.val) = 3 := by decide +kernel
  have h : (x &&& 3).toBitVec.toNat < 4 := by
    simp only [Int32.toBitVec_and, BitVec.toNat_and]
    exact Nat.lt_succ_of_le Nat.and_le_right
  have e : (x &&& 3) = Int32.ofNat (x &&& 3).toBitVec.toNat := by
    apply Int32.toBitVec_inj.mp
    show _ = BitVec.ofNat 32 _
    rw [BitVec.ofNat_toNat]; simp
  rw [e]
  exact t ⟨_, h⟩
theorem lo8_inj95 {x : Int32} (h : ¬ x < 0 ∧ ¬ (255 : Int32) < x) (e : x.toInt8.toInt32 = (95 : Int32)) : x = 95 := by
  have e' : x = Int32.ofNat x.toInt.toNat := by
    apply Int32.toInt_inj.mp
    have h1 := h.1; have h2 := h.2
    rw [Int32.lt_iff_toInt_lt] at h1 h2
    have e0 : (0 : Int32).toInt = 0 := rfl
    have e1 : (255 : Int32).toInt = 255 := rfl
    rw [Int32.toInt_ofNat_of_lt (by omega)]; omega
  have hb : x.toInt.toNat < 256 := by
    have h1 := h.1; have h2 := h.2
    rw [Int32.lt_iff_toInt_lt] at h1 h2
    have e0 : (0 : Int32).toInt = 0 := rfl
    have e1 : (255 : Int32).toInt = 255 := rfl
    omega
  rw [e'] at e ⊢
  exact (by decide +kernel : ∀ k : Fin 256, (Int32.ofNat k.val).toInt8.toInt32 = (95 : Int32) → Int32.ofNat k.val = (95 : Int32)) ⟨_, hb⟩ e
/-- what a String's facts are, opened -/
theorem StrAt.open {Z : State} {h : Heap} {x : Addr} {cs : List Int32} (S : StrAt Z h x cs) : ∃ (t : Addr) (kb : ClassId), Exa Z h x "java/lang/String" ∧ Fld Z h x "java/lang/String" "value" "[B" (.ref t) ∧ Fld Z h x "java/lang/String" "coder" "B" (.int 0) ∧ Arv Z h t kb .byte (Int32.ofNat cs.length) (cs.map fun c => Value.int (c.toInt8.toInt32)) (.int 0) ∧ ∀ c ∈ cs, ¬ 255 < c := by
  obtain ⟨t, kb, N, vs, a, b, c, d, e, f, g⟩ := S
  rcases e with ⟨-, rfl, rfl, e⟩ | ⟨e, -⟩
  · exact ⟨t, kb, a, b, c, d, e⟩
  · cases e

def Q_rm12 (Z : State) (a1 : Addr) (G1 : Int32) (h0 : Heap) (n0 : Nat) : Option Value → Heap → List Loc → Prop := fun v h L => v = some (.int 0) ∧ Fr n0 L ∧ h = h0
set_option maxRecDepth 65536 in
set_option maxHeartbeats 40000000 in
theorem rm12 (l : Launch) (Z : State) (a0 : Array Value) (hw : ∀ d ∈ tables_1, d.before a0 Z = true) (ws : List Jvm.Cond) (a1 : Addr) (G1 : Int32) (h0 : Heap) (n0 : Nat) (Od : Old Z n0 h0) (O2 : Sta Z Z.heap "java/lang/String" "COMPACT_STRINGS" "Z" (.int G1)) (P5 : ¬ (G1 = (0 : Int32))) (F_c : Fld Z h0 a1 "java/lang/String" "coder" "B" (.int 0)) :
    MetFree l (⟨"java/lang/String", "coder", "()B"⟩ : MethodName) (head1 (Jvm.Cond.code (⟨"java/lang/String", "coder", "()B"⟩ : MethodName) jdk_42_method_152_code 1 (some .byte) :: ws) ({ frames := 0, cells := 0, slots := 0, locals := 0 } : Room)) (fun a U => a = #[(.ref a1)] ∧ Z.Warmed39 U.vm ∧ U.heap = h0) (fun _ _ _ _ _ => True) (fun _ U o U' => ∃ v L, o = .returned v ∧ Q_rm12 Z a1 G1 h0 n0 v U'.heap L ∧ FrameEnd U o U' L ({ frames := 0, cells := 0, slots := 0, locals := 0 } : Room).cells ({ frames := 0, cells := 0, slots := 0, locals := 0 } : Room).slots) := by
  refine MetFree.of_bodySF (plainFor_of_name pn_1) hisR ?_
  intro p e s m args below meth c s₁ Bd hml0 hP hK
  obtain ⟨rfl, hZ, hh⟩ := hP
  have hx := Bd.exec
  have hby := Bd.bytes
  have hml : c.maxLocals = 1 := hml0
  have hown : s.vm.findClass "java/lang/String" = some m.cls := findClass_of_methodNamed Bd.named
  have hnm := (name_of_methodNamed Bd.named Bd.method).1
  have X0 : Stand p l e ({ frames := 0, cells := 0, slots := 0, locals := 0 } : Room) s m #[(.ref a1)] below meth c s₁ [] 0 0 := Stand.of_body Bd
  have e0 : s₁.heap = h0 := by rw [← hh, Bd.state]; rfl
  have N0 := Fr.nil n0
  have ef : entryFrame m #[(.ref a1)] 1 = (mkF m 0 #[.val (.ref a1)] []) := by first | rfl | (simp [entryFrame, mkF, argsToLocals, Value.category, maxLocals]; done)
  show Go p e below (End (fun v h L => v = some (.int 0) ∧ Fr n0 L ∧ h = h0) s 0 0) (s₁.setTop (entryFrame m #[(.ref a1)] 1))
  rw [ef]
  show Go p e below _ (s₁.setTop (mkF m 0 #[.val (.ref a1)] []))
  show Go p e below _ (s₁.setTop (mkF m 0 #[.val (.ref a1)] []))
  obtain ⟨T110, X110, e110, st110⟩ := getS2 X0 hx hZ hown (host := "") (Or.inl (hw _ (List.mem_of_getElem? (i := 18) rfl))) Via.refl e0 (O2.ext Od.2) (g := (mkF m 0 #[.val (.ref a1)] [])) rfl (hb hby d12_0)
  refine Go.by (fun t => st110 t) ?_
  show Go p e below _ (T110.setTop (mkF m 3 #[.val (.ref a1)] [(.int G1)]))
  refine Go.by (fun t => XS.ifNo X110.here hx rfl (hb hby d12_3) rfl ((if0 _ _).trans (feq (P5 : ¬ (G1 = (0 : Int32)))).1)) ?_
  show Go p e below _ (T110.setTop (mkF m 6 #[.val (.ref a1)] []))
  show Go p e below _ (T110.setTop (mkF m 6 #[.val (.ref a1)] []))
  refine Go.by (fun t => XS.aloadN X110.here hx rfl (hb hby d12_6) rfl rfl) ?_
  show Go p e below _ (T110.setTop (mkF m 7 #[.val (.ref a1)] [(.ref a1)]))
  obtain ⟨T111, X111, e111, st111⟩ := getF X110 hx hZ hown (host := "") (Or.inl (hw _ (List.mem_of_getElem? (i := 30) rfl))) Via.refl e110 F_c (g := (mkF m 7 #[.val (.ref a1)] [(.ref a1)])) rfl rfl (hb hby d12_7)
  refine Go.by (fun t => st111 t) ?_
  show Go p e below _ (T111.setTop (mkF m 10 #[.val (.ref a1)] [(.int (0 : Int32))]))
  show Go p e below _ (T111.setTop (mkF m 10 #[.val (.ref a1)] [(.int (0 : Int32))]))
  refine Go.by (fun t => XS.goto X111.here hx rfl (pc0 := 10) (pc' := 14) rfl (hb hby d12_10) (by decide) (by decide)) ?_
  show Go p e below _ (T111.setTop (mkF m 14 #[.val (.ref a1)] [(.int (0 : Int32))]))
  exact Go.ret1 X111 hx Bd.returns Bd.notSynchronized (by first | rfl | decide) (Or.inl ⟨rfl, by simp, _, rfl⟩) (hb hby d12_14) (by decide) (by decide) (by first | (rw [e111]; exact ⟨rfl, N0, rfl⟩) | exact ⟨rfl, N0, rfl⟩)
def Q_rm20 (Z : State) (a1 : Addr) (G1 : Int32) (h0 : Heap) (n0 : Nat) : Option Value → Heap → List Loc → Prop := fun v h L => v = some (.int 1) ∧ Fr n0 L ∧ h = h0
set_option maxRecDepth 65536 in
set_option maxHeartbeats 40000000 in
theorem rm20 (l : Launch) (Z : State) (a0 : Array Value) (hw : ∀ d ∈ tables_1, d.before a0 Z = true) (ws : List Jvm.Cond) (a1 : Addr) (G1 : Int32) (h0 : Heap) (n0 : Nat) (Od : Old Z n0 h0) (O2 : Sta Z Z.heap "java/lang/String" "COMPACT_STRINGS" "Z" (.int G1)) (P5 : ¬ (G1 = (0 : Int32))) (F_c : Fld Z h0 a1 "java/lang/String" "coder" "B" (.int 0)) :
    MetFree l (⟨"java/lang/String", "isLatin1", "()Z"⟩ : MethodName) (head1 (Jvm.Cond.code (⟨"java/lang/String", "isLatin1", "()Z"⟩ : MethodName) jdk_42_method_154_code 1 (some .boolean) :: ws) ({ frames := 0, cells := 0, slots := 0, locals := 0 } : Room)) (fun a U => a = #[(.ref a1)] ∧ Z.Warmed39 U.vm ∧ U.heap = h0) (fun _ _ _ _ _ => True) (fun _ U o U' => ∃ v L, o = .returned v ∧ Q_rm20 Z a1 G1 h0 n0 v U'.heap L ∧ FrameEnd U o U' L ({ frames := 0, cells := 0, slots := 0, locals := 0 } : Room).cells ({ frames := 0, cells := 0, slots := 0, locals := 0 } : Room).slots) := by
  refine MetFree.of_bodySF (plainFor_of_name pn_1) hisR ?_
  intro p e s m args below meth c s₁ Bd hml0 hP hK
  obtain ⟨rfl, hZ, hh⟩ := hP
  have hx := Bd.exec
  have hby := Bd.bytes
  have hml : c.maxLocals = 1 := hml0
  have hown : s.vm.findClass "java/lang/String" = some m.cls := findClass_of_methodNamed Bd.named
  have hnm := (name_of_methodNamed Bd.named Bd.method).1
  have X0 : Stand p l e ({ frames := 0, cells := 0, slots := 0, locals := 0 } : Room) s m #[(.ref a1)] below meth c s₁ [] 0 0 := Stand.of_body Bd
  have e0 : s₁.heap = h0 := by rw [← hh, Bd.state]; rfl
  have N0 := Fr.nil n0
  have ef : entryFrame m #[(.ref a1)] 1 = (mkF m 0 #[.val (.ref a1)] []) := by first | rfl | (simp [entryFrame, mkF, argsToLocals, Value.category, maxLocals]; done)
  show Go p e below (End (fun v h L => v = some (.int 1) ∧ Fr n0 L ∧ h = h0) s 0 0) (s₁.setTop (entryFrame m #[(.ref a1)] 1))
  rw [ef]
  show Go p e below _ (s₁.setTop (mkF m 0 #[.val (.ref a1)] []))
  show Go p e below _ (s₁.setTop (mkF m 0 #[.val (.ref a1)] []))
  obtain ⟨T112, X112, e112, st112⟩ := getS2 X0 hx hZ hown (host := "") (Or.inl (hw _ (List.mem_of_getElem? (i := 18) rfl))) Via.refl e0 (O2.ext Od.2) (g := (mkF m 0 #[.val (.ref a1)] [])) rfl (hb hby d20_0)
  refine Go.by (fun t => st112 t) ?_
  show Go p e below _ (T112.setTop (mkF m 3 #[.val (.ref a1)] [(.int G1)]))
  refine Go.by (fun t => XS.ifNo X112.here hx rfl (hb hby d20_3) rfl ((if0 _ _).trans (feq (P5 : ¬ (G1 = (0 : Int32)))).1)) ?_
  show Go p e below _ (T112.setTop (mkF m 6 #[.val (.ref a1)] []))
  show Go p e below _ (T112.setTop (mkF m 6 #[.val (.ref a1)] []))
  refine Go.by (fun t => XS.aloadN X112.here hx rfl (hb hby d20_6) rfl rfl) ?_
  show Go p e below _ (T112.setTop (mkF m 7 #[.val (.ref a1)] [(.ref a1)]))
  obtain ⟨T113, X113, e113, st113⟩ := getF X112 hx hZ hown (host := "") (Or.inl (hw _ (List.mem_of_getElem? (i := 30) rfl))) Via.refl e112 F_c (g := (mkF m 7 #[.val (.ref a1)] [(.ref a1)])) rfl rfl (hb hby d20_7)
  refine Go.by (fun t => st113 t) ?_
  show Go p e below _ (T113.setTop (mkF m 10 #[.val (.ref a1)] [(.int (0 : Int32))]))
  show Go p e below _ (T113.setTop (mkF m 10 #[.val (.ref a1)] [(.int (0 : Int32))]))
  refine Go.by (fun t => XS.ifNo X113.here hx rfl (hb hby d20_10) rfl ((if0 _ _).trans (teq (rfl : (0 : Int32) = (0 : Int32))).2)) ?_
  show Go p e below _ (T113.setTop (mkF m 13 #[.val (.ref a1)] []))
  show Go p e below _ (T113.setTop (mkF m 13 #[.val (.ref a1)] []))
  refine Go.by (fun t => XS.iconst X113.here hx rfl (hb hby d20_13)) ?_
  show Go p e below _ (T113.setTop (mkF m 14 #[.val (.ref a1)] [(.int (1 : Int32))]))
  refine Go.by (fun t => XS.goto X113.here hx rfl (pc0 := 14) (pc' := 18) rfl (hb hby d20_14) (by decide) (by decide)) ?_
  show Go p e below _ (T113.setTop (mkF m 18 #[.val (.ref a1)] [(.int (1 : Int32))]))
  exact Go.ret1 X113 hx Bd.returns Bd.notSynchronized (by first | rfl | decide) (Or.inl ⟨rfl, by simp, _, rfl⟩) (hb hby d20_18) (by decide) (by decide) (by first | (rw [e113]; exact ⟨rfl, N0, rfl⟩) | exact ⟨rfl, N0, rfl⟩)
def Q_rm19 (Z : State) (p1 p2 p3 : Int32) (G3 : Value) (rG3 : G3.isRef = true) (h0 : Heap) (n0 : Nat) : Option Value → Heap → List Loc → Prop := fun v h L => v = some (.int p1) ∧ Fr n0 L ∧ h = h0
set_option maxRecDepth 65536 in
set_option maxHeartbeats 40000000 in
theorem rm19 (l : Launch) (Z : State) (a0 : Array Value) (hw : ∀ d ∈ tables_1, d.before a0 Z = true) (ws : List Jvm.Cond) (p1 p2 p3 : Int32) (G3 : Value) (rG3 : G3.isRef = true) (h0 : Heap) (n0 : Nat) (h1 : ¬ p1 < 0) (h2 : ¬ p2 < p1) (h3 : ¬ p3 < p2) :
    MetFree l (⟨"jdk/internal/util/Preconditions", "checkFromToIndex", "(IIILjava/util/function/BiFunction;)I"⟩ : MethodName) (head1 (Jvm.Cond.code (⟨"jdk/internal/util/Preconditions", "checkFromToIndex", "(IIILjava/util/function/BiFunction;)I"⟩ : MethodName) jdk_41_method_12_code 4 (some .int) :: ws) ({ frames := 0, cells := 0, slots := 0, locals := 0 } : Room)) (fun a U => a = #[(.int p1), (.int p2), (.int p3), G3] ∧ Z.Warmed39 U.vm ∧ U.heap = h0) (fun _ _ _ _ _ => True) (fun _ U o U' => ∃ v L, o = .returned v ∧ Q_rm19 Z p1 p2 p3 G3 rG3 h0 n0 v U'.heap L ∧ FrameEnd U o U' L ({ frames := 0, cells := 0, slots := 0, locals := 0 } : Room).cells ({ frames := 0, cells := 0, slots := 0, locals := 0 } : Room).slots) := by
  refine MetFree.of_bodySF (plainFor_of_name pn_4) hisR ?_
  intro p e s m args below meth c s₁ Bd hml0 hP hK
  obtain ⟨rfl, hZ, hh⟩ := hP
  have hx := Bd.exec
  have hby := Bd.bytes
  have hml : c.maxLocals = 4 := hml0
  have hown : s.vm.findClass "jdk/internal/util/Preconditions" = some m.cls := findClass_of_methodNamed Bd.named
  have hnm := (name_of_methodNamed Bd.named Bd.method).1
  have X0 : Stand p l e ({ frames := 0, cells := 0, slots := 0, locals := 0 } : Room) s m #[(.int p1), (.int p2), (.int p3), G3] below meth c s₁ [] 0 0 := Stand.of_body Bd
  have e0 : s₁.heap = h0 := by rw [← hh, Bd.state]; rfl
  have N0 := Fr.nil n0
  have ef : entryFrame m #[(.int p1), (.int p2), (.int p3), G3] 4 = (mkF m 0 #[.val (.int p1), .val (.int p2), .val (.int p3), .val G3] []) := by rcases ref_cases rG3 with rfl | ⟨_, rfl⟩ <;> first | rfl | (simp [entryFrame, mkF, argsToLocals, Value.category, maxLocals]; done)
  show Go p e below (End (fun v h L => v = some (.int p1) ∧ Fr n0 L ∧ h = h0) s 0 0) (s₁.setTop (entryFrame m #[(.int p1), (.int p2), (.int p3), G3] 4))
  rw [ef]
  show Go p e below _ (s₁.setTop (mkF m 0 #[.val (.int p1), .val (.int p2), .val (.int p3), .val G3] []))
  show Go p e below _ (s₁.setTop (mkF m 0 #[.val (.int p1), .val (.int p2), .val (.int p3), .val G3] []))
  refine Go.by (fun t => XS.iloadN X0.here hx rfl (hb hby d19_0) rfl ) ?_
  show Go p e below _ (s₁.setTop (mkF m 1 #[.val (.int p1), .val (.int p2), .val (.int p3), .val G3] [(.int p1)]))
  refine Go.by (fun t => XS.ifNo X0.here hx rfl (hb hby d19_1) rfl ((if0 _ _).trans (flt (h1 : ¬ (p1 < (0 : Int32)))).1)) ?_
  show Go p e below _ (s₁.setTop (mkF m 4 #[.val (.int p1), .val (.int p2), .val (.int p3), .val G3] []))
  show Go p e below _ (s₁.setTop (mkF m 4 #[.val (.int p1), .val (.int p2), .val (.int p3), .val G3] []))
  refine Go.by (fun t => XS.iloadN X0.here hx rfl (hb hby d19_4) rfl ) ?_
  show Go p e below _ (s₁.setTop (mkF m 5 #[.val (.int p1), .val (.int p2), .val (.int p3), .val G3] [(.int p1)]))
  refine Go.by (fun t => XS.iloadN X0.here hx rfl (hb hby d19_5) rfl ) ?_
  show Go p e below _ (s₁.setTop (mkF m 6 #[.val (.int p1), .val (.int p2), .val (.int p3), .val G3] [(.int p2), (.int p1)]))
  refine Go.by (fun t => XS.icmpNo X0.here hx rfl (hb hby d19_6) rfl (flt (h2 : ¬ (p2 < p1))).2.2.1) ?_
  show Go p e below _ (s₁.setTop (mkF m 9 #[.val (.int p1), .val (.int p2), .val (.int p3), .val G3] []))
  show Go p e below _ (s₁.setTop (mkF m 9 #[.val (.int p1), .val (.int p2), .val (.int p3), .val G3] []))
  refine Go.by (fun t => XS.iloadN X0.here hx rfl (hb hby d19_9) rfl ) ?_
  show Go p e below _ (s₁.setTop (mkF m 10 #[.val (.int p1), .val (.int p2), .val (.int p3), .val G3] [(.int p2)]))
  refine Go.by (fun t => XS.iloadN X0.here hx rfl (hb hby d19_10) rfl ) ?_
  show Go p e below _ (s₁.setTop (mkF m 11 #[.val (.int p1), .val (.int p2), .val (.int p3), .val G3] [(.int p3), (.int p2)]))
  refine Go.by (fun t => XS.icmpYes X0.here hx rfl (pc0 := 11) (pc' := 22) rfl (hb hby d19_11) rfl (flt (h3 : ¬ (p3 < p2))).2.2.2 (by decide) (by decide)) ?_
  show Go p e below _ (s₁.setTop (mkF m 22 #[.val (.int p1), .val (.int p2), .val (.int p3), .val G3] []))
  show Go p e below _ (s₁.setTop (mkF m 22 #[.val (.int p1), .val (.int p2), .val (.int p3), .val G3] []))
  refine Go.by (fun t => XS.iloadN X0.here hx rfl (hb hby d19_22) rfl ) ?_
  show Go p e below _ (s₁.setTop (mkF m 23 #[.val (.int p1), .val (.int p2), .val (.int p3), .val G3] [(.int p1)]))
  exact Go.ret1 X0 hx Bd.returns Bd.notSynchronized rfl (Or.inl ⟨rfl, by simp, _, rfl⟩) (hb hby d19_23) (by decide) (by decide) (by first | (rw [e0]; exact ⟨rfl, N0, rfl⟩) | exact ⟨rfl, N0, rfl⟩)
def Q_rm18 (Z : State) (p1 p2 p3 : Int32) (G3 : Value) (h0 : Heap) (n0 : Nat) : Option Value → Heap → List Loc → Prop := fun v h L => v = none ∧ Fr n0 L ∧ h = h0
set_option maxRecDepth 65536 in
set_option maxHeartbeats 40000000 in
theorem rm18 (l : Launch) (Z : State) (a0 : Array Value) (hw : ∀ d ∈ tables_1, d.before a0 Z = true) (ws : List Jvm.Cond) (p1 p2 p3 : Int32) (G3 : Value) (h0 : Heap) (n0 : Nat) (Od : Old Z n0 h0) (O4 : Sta Z Z.heap "jdk/internal/util/Preconditions" "SIOOBE_FORMATTER" "Ljava/util/function/BiFunction;" G3) (rG3 : G3.isRef = true) (h1 : ¬ p1 < 0) (h2 : ¬ p2 < p1) (h3 : ¬ p3 < p2) :
    MetFree l (⟨"java/lang/String", "checkBoundsBeginEnd", "(III)V"⟩ : MethodName) (head1 (Jvm.Cond.code (⟨"java/lang/String", "checkBoundsBeginEnd", "(III)V"⟩ : MethodName) jdk_42_method_158_code 3 none :: ws) ({ frames := 1, cells := 0, slots := 0, locals := 15 } : Room)) (fun a U => a = #[(.int p1), (.int p2), (.int p3)] ∧ Z.Warmed39 U.vm ∧ U.heap = h0) (fun _ _ _ _ _ => True) (fun _ U o U' => ∃ v L, o = .returned v ∧ Q_rm18 Z p1 p2 p3 G3 h0 n0 v U'.heap L ∧ FrameEnd U o U' L ({ frames := 1, cells := 0, slots := 0, locals := 15 } : Room).cells ({ frames := 1, cells := 0, slots := 0, locals := 15 } : Room).slots) := by
  refine MetFree.of_bodySF (plainFor_of_name pn_1) hisR ?_
  intro p e s m args below meth c s₁ Bd hml0 hP hK
  obtain ⟨rfl, hZ, hh⟩ := hP
  have hx := Bd.exec
  have hby := Bd.bytes
  have hml : c.maxLocals = 3 := hml0
  have hown : s.vm.findClass "java/lang/String" = some m.cls := findClass_of_methodNamed Bd.named
  have hnm := (name_of_methodNamed Bd.named Bd.method).1
  have X0 : Stand p l e ({ frames := 1, cells := 0, slots := 0, locals := 15 } : Room) s m #[(.int p1), (.int p2), (.int p3)] below meth c s₁ [] 0 0 := Stand.of_body Bd
  have e0 : s₁.heap = h0 := by rw [← hh, Bd.state]; rfl
  have N0 := Fr.nil n0
  have ef : entryFrame m #[(.int p1), (.int p2), (.int p3)] 3 = (mkF m 0 #[.val (.int p1), .val (.int p2), .val (.int p3)] []) := by first | rfl | (simp [entryFrame, mkF, argsToLocals, Value.category, maxLocals]; done)
  show Go p e below (End (fun v h L => v = none ∧ Fr n0 L ∧ h = h0) s 0 0) (s₁.setTop (entryFrame m #[(.int p1), (.int p2), (.int p3)] 3))
  rw [ef]
  show Go p e below _ (s₁.setTop (mkF m 0 #[.val (.int p1), .val (.int p2), .val (.int p3)] []))
  show Go p e below _ (s₁.setTop (mkF m 0 #[.val (.int p1), .val (.int p2), .val (.int p3)] []))
  refine Go.by (fun t => XS.iloadN X0.here hx rfl (hb hby d18_0) rfl ) ?_
  show Go p e below _ (s₁.setTop (mkF m 1 #[.val (.int p1), .val (.int p2), .val (.int p3)] [(.int p1)]))
  refine Go.by (fun t => XS.iloadN X0.here hx rfl (hb hby d18_1) rfl ) ?_
  show Go p e below _ (s₁.setTop (mkF m 2 #[.val (.int p1), .val (.int p2), .val (.int p3)] [(.int p2), (.int p1)]))
  refine Go.by (fun t => XS.iloadN X0.here hx rfl (hb hby d18_2) rfl ) ?_
  show Go p e below _ (s₁.setTop (mkF m 3 #[.val (.int p1), .val (.int p2), .val (.int p3)] [(.int p3), (.int p2), (.int p1)]))
  obtain ⟨T114, X114, e114, st114⟩ := getS2 X0 hx hZ hown (host := "") (Or.inl (hw _ (List.mem_of_getElem? (i := 89) rfl))) Via.refl e0 (O4.ext Od.2) (g := (mkF m 3 #[.val (.int p1), .val (.int p2), .val (.int p3)] [(.int p3), (.int p2), (.int p1)])) rfl (hb hby d18_3)
  refine Go.by (fun t => st114 t) ?_
  show Go p e below _ (T114.setTop (mkF m 6 #[.val (.int p1), .val (.int p2), .val (.int p3)] [G3, (.int p3), (.int p2), (.int p1)]))
  obtain ⟨_, _, ⟨T115, L115, k115, n115⟩, -, X115, ⟨Lc115, hQ115, l115, y115, z115⟩, st115⟩ := Jvm.LawKit.callS X114 hx (y := (⟨"jdk/internal/util/Preconditions", "checkFromToIndex", "(IIILjava/util/function/BiFunction;)I"⟩ : MethodName)) hown (mvT hZ (hw _ (List.mem_of_getElem? (i := 91) rfl))) (mvT hZ (hw _ (List.mem_of_getElem? (i := 92) rfl))) (mvT hZ (hw _ (List.mem_of_getElem? (i := 90) rfl))) (mvT hZ (hw _ (List.mem_of_getElem? (i := 93) rfl))) (by decide) (backOf (W := 0) (rm19 l Z a0 hw [] p1 p2 p3 G3 rG3 h0 n0 h1 h2 h3) hZ (hw _ (List.mem_of_getElem? (i := 93) rfl)) (hw _ (List.mem_of_getElem? (i := 90) rfl)) (by decide) (by decide)) (g := (mkF m 6 #[.val (.int p1), .val (.int p2), .val (.int p3)] [G3, (.int p3), (.int p2), (.int p1)])) rfl (by rw [hml]; rfl) (argsL := [(.int p1), (.int p2), (.int p3), G3]) (rest := []) (lenOf pd_19 rfl) rfl (by show 2 * 0 + _ ≤ _; exact Nat.le_of_eq rfl) (hb hby d18_6) (fun _ _ => ⟨rfl, e114, (by decide : 0 + 0 ≤ _), (by decide : 0 + 0 ≤ _)⟩)
  dsimp only [Pt.U, Pt.locs, Pt.cells, Pt.slots] at X115 l115 y115 z115 st115 hQ115
  subst l115 y115 z115
  obtain ⟨rfl, Nq115, e115⟩ := hQ115
  have N115 := Fr.app N0 Nq115
  refine Go.by (fun t => st115 t) ?_
  show Go p e below _ (T115.setTop (mkF m 9 #[.val (.int p1), .val (.int p2), .val (.int p3)] [(.int p1)]))
  show Go p e below _ (T115.setTop (mkF m 9 #[.val (.int p1), .val (.int p2), .val (.int p3)] [(.int p1)]))
  refine Go.by (fun t => XS.pop X115.here hx rfl (hb hby d18_9) rfl rfl) ?_
  show Go p e below _ (T115.setTop (mkF m 10 #[.val (.int p1), .val (.int p2), .val (.int p3)] []))
  exact Go.ret0 X115 hx Bd.returns Bd.notSynchronized (hb hby d18_10) (by decide) (by decide) (by first | (rw [e115]; exact ⟨rfl, N115, rfl⟩) | exact ⟨rfl, N115, rfl⟩)
def Q_rm24 (Z : State) (p1 p2 : Int32) (h0 : Heap) (n0 : Nat) : Option Value → Heap → List Loc → Prop := fun v h L => v = none ∧ Fr n0 L ∧ h = h0
set_option maxRecDepth 65536 in
set_option maxHeartbeats 40000000 in
theorem rm24 (l : Launch) (Z : State) (a0 : Array Value) (hw : ∀ d ∈ tables_1, d.before a0 Z = true) (ws : List Jvm.Cond) (p1 p2 : Int32) (h0 : Heap) (n0 : Nat) (h1 : ¬ p2 < p1) :
    MetFree l (⟨"java/util/Arrays", "checkLength", "(II)V"⟩ : MethodName) (head1 (Jvm.Cond.code (⟨"java/util/Arrays", "checkLength", "(II)V"⟩ : MethodName) jdk_65_method_131_code 2 none :: ws) ({ frames := 0, cells := 0, slots := 0, locals := 0 } : Room)) (fun a U => a = #[(.int p1), (.int p2)] ∧ Z.Warmed39 U.vm ∧ U.heap = h0) (fun _ _ _ _ _ => True) (fun _ U o U' => ∃ v L, o = .returned v ∧ Q_rm24 Z p1 p2 h0 n0 v U'.heap L ∧ FrameEnd U o U' L ({ frames := 0, cells := 0, slots := 0, locals := 0 } : Room).cells ({ frames := 0, cells := 0, slots := 0, locals := 0 } : Room).slots) := by
  refine MetFree.of_bodySF (plainFor_of_name pn_6) hisR ?_
  intro p e s m args below meth c s₁ Bd hml0 hP hK
  obtain ⟨rfl, hZ, hh⟩ := hP
  have hx := Bd.exec
  have hby := Bd.bytes
  have hml : c.maxLocals = 2 := hml0
  have hown : s.vm.findClass "java/util/Arrays" = some m.cls := findClass_of_methodNamed Bd.named
  have hnm := (name_of_methodNamed Bd.named Bd.method).1
  have X0 : Stand p l e ({ frames := 0, cells := 0, slots := 0, locals := 0 } : Room) s m #[(.int p1), (.int p2)] below meth c s₁ [] 0 0 := Stand.of_body Bd
  have e0 : s₁.heap = h0 := by rw [← hh, Bd.state]; rfl
  have N0 := Fr.nil n0
  have ef : entryFrame m #[(.int p1), (.int p2)] 2 = (mkF m 0 #[.val (.int p1), .val (.int p2)] []) := by first | rfl | (simp [entryFrame, mkF, argsToLocals, Value.category, maxLocals]; done)
  show Go p e below (End (fun v h L => v = none ∧ Fr n0 L ∧ h = h0) s 0 0) (s₁.setTop (entryFrame m #[(.int p1), (.int p2)] 2))
  rw [ef]
  show Go p e below _ (s₁.setTop (mkF m 0 #[.val (.int p1), .val (.int p2)] []))
  show Go p e below _ (s₁.setTop (mkF m 0 #[.val (.int p1), .val (.int p2)] []))
  refine Go.by (fun t => XS.iloadN X0.here hx rfl (hb hby d24_0) rfl ) ?_
  show Go p e below _ (s₁.setTop (mkF m 1 #[.val (.int p1), .val (.int p2)] [(.int p2)]))
  refine Go.by (fun t => XS.iloadN X0.here hx rfl (hb hby d24_1) rfl ) ?_
  show Go p e below _ (s₁.setTop (mkF m 2 #[.val (.int p1), .val (.int p2)] [(.int p1), (.int p2)]))
  refine Go.by (fun t => XS.icmpYes X0.here hx rfl (pc0 := 2) (pc' := 37) rfl (hb hby d24_2) rfl (flt (h1 : ¬ (p2 < p1))).2.1 (by decide) (by decide)) ?_
  show Go p e below _ (s₁.setTop (mkF m 37 #[.val (.int p1), .val (.int p2)] []))
  show Go p e below _ (s₁.setTop (mkF m 37 #[.val (.int p1), .val (.int p2)] []))
  exact Go.ret0 X0 hx Bd.returns Bd.notSynchronized (hb hby d24_37) (by decide) (by decide) (by first | (rw [e0]; exact ⟨rfl, N0, rfl⟩) | exact ⟨rfl, N0, rfl⟩)
def Q_rm25 (Z : State) (p1 p2 : Int32) (h0 : Heap) (n0 : Nat) : Option Value → Heap → List Loc → Prop := fun v h L => v = some (.int p1) ∧ Fr n0 L ∧ h = h0
set_option maxRecDepth 65536 in
set_option maxHeartbeats 40000000 in
theorem rm25 (l : Launch) (Z : State) (a0 : Array Value) (hw : ∀ d ∈ tables_1, d.before a0 Z = true) (ws : List Jvm.Cond) (p1 p2 : Int32) (h0 : Heap) (n0 : Nat) (h1 : ¬ p2 < p1) :
    MetFree l (⟨"java/lang/Math", "min", "(II)I"⟩ : MethodName) (head1 (Jvm.Cond.code (⟨"java/lang/Math", "min", "(II)I"⟩ : MethodName) jdk_29_method_69_code 2 (some .int) :: ws) ({ frames := 0, cells := 0, slots := 0, locals := 0 } : Room)) (fun a U => a = #[(.int p1), (.int p2)] ∧ Z.Warmed39 U.vm ∧ U.heap = h0) (fun _ _ _ _ _ => True) (fun _ U o U' => ∃ v L, o = .returned v ∧ Q_rm25 Z p1 p2 h0 n0 v U'.heap L ∧ FrameEnd U o U' L ({ frames := 0, cells := 0, slots := 0, locals := 0 } : Room).cells ({ frames := 0, cells := 0, slots := 0, locals := 0 } : Room).slots) := by
  refine MetFree.of_bodySF (Jvm.Free.JP.mathPlain rfl (by decide +kernel)) hisR ?_
  intro p e s m args below meth c s₁ Bd hml0 hP hK
  obtain ⟨rfl, hZ, hh⟩ := hP
  have hx := Bd.exec
  have hby := Bd.bytes
  have hml : c.maxLocals = 2 := hml0
  have hown : s.vm.findClass "java/lang/Math" = some m.cls := findClass_of_methodNamed Bd.named
  have hnm := (name_of_methodNamed Bd.named Bd.method).1
  have X0 : Stand p l e ({ frames := 0, cells := 0, slots := 0, locals := 0 } : Room) s m #[(.int p1), (.int p2)] below meth c s₁ [] 0 0 := Stand.of_body Bd
  have e0 : s₁.heap = h0 := by rw [← hh, Bd.state]; rfl
  have N0 := Fr.nil n0
  have ef : entryFrame m #[(.int p1), (.int p2)] 2 = (mkF m 0 #[.val (.int p1), .val (.int p2)] []) := by first | rfl | (simp [entryFrame, mkF, argsToLocals, Value.category, maxLocals]; done)
  show Go p e below (End (fun v h L => v = some (.int p1) ∧ Fr n0 L ∧ h = h0) s 0 0) (s₁.setTop (entryFrame m #[(.int p1), (.int p2)] 2))
  rw [ef]
  show Go p e below _ (s₁.setTop (mkF m 0 #[.val (.int p1), .val (.int p2)] []))
  show Go p e below _ (s₁.setTop (mkF m 0 #[.val (.int p1), .val (.int p2)] []))
  refine Go.by (fun t => XS.iloadN X0.here hx rfl (hb hby d25_0) rfl ) ?_
  show Go p e below _ (s₁.setTop (mkF m 1 #[.val (.int p1), .val (.int p2)] [(.int p1)]))
  refine Go.by (fun t => XS.iloadN X0.here hx rfl (hb hby d25_1) rfl ) ?_
  show Go p e below _ (s₁.setTop (mkF m 2 #[.val (.int p1), .val (.int p2)] [(.int p2), (.int p1)]))
  refine Go.by (fun t => XS.icmpNo X0.here hx rfl (hb hby d25_2) rfl (flt (h1 : ¬ (p2 < p1))).2.2.1) ?_
  show Go p e below _ (s₁.setTop (mkF m 5 #[.val (.int p1), .val (.int p2)] []))
  show Go p e below _ (s₁.setTop (mkF m 5 #[.val (.int p1), .val (.int p2)] []))
  refine Go.by (fun t => XS.iloadN X0.here hx rfl (hb hby d25_5) rfl ) ?_
  show Go p e below _ (s₁.setTop (mkF m 6 #[.val (.int p1), .val (.int p2)] [(.int p1)]))
  refine Go.by (fun t => XS.goto X0.here hx rfl (pc0 := 6) (pc' := 10) rfl (hb hby d25_6) (by decide) (by decide)) ?_
  show Go p e below _ (s₁.setTop (mkF m 10 #[.val (.int p1), .val (.int p2)] [(.int p1)]))
  exact Go.ret1 X0 hx Bd.returns Bd.notSynchronized rfl (Or.inl ⟨rfl, by simp, _, rfl⟩) (hb hby d25_10) (by decide) (by decide) (by first | (rw [e0]; exact ⟨rfl, N0, rfl⟩) | exact ⟨rfl, N0, rfl⟩)
def Q_rm13 (Z : State) (a1 b2 : Addr) (k1 k2 : ClassId) (N1 N2 x y : Int32) (vs us : List Value) (h0 : Heap) (n0 : Nat) : Option Value → Heap → List Loc → Prop := fun v h L => v = some (.int (if x = y then (-1) else 0)) ∧ Fr n0 L ∧ h = h0
set_option maxRecDepth 65536 in
set_option maxHeartbeats 40000000 in
theorem rm13 (l : Launch) (Z : State) (a0 : Array Value) (hw : ∀ d ∈ tables_1, d.before a0 Z = true) (ws : List Jvm.Cond) (a1 b2 : Addr) (k1 k2 : ClassId) (N1 N2 x y : Int32) (vs us : List Value) (h0 : Heap) (n0 : Nat) (hN1 : (0 : Int32) < N1) (hN2 : (0 : Int32) < N2) (V_a1 : Arv Z h0 a1 k1 .byte N1 ((.int x) :: vs) (.int 0)) (V_b2 : Arv Z h0 b2 k2 .byte N2 ((.int y) :: us) (.int 0)) :
    MetFree l (⟨"jdk/internal/util/ArraysSupport", "mismatch", "([BI[BII)I"⟩ : MethodName) (head1 (Jvm.Cond.code (⟨"jdk/internal/util/ArraysSupport", "mismatch", "([BI[BII)I"⟩ : MethodName) jdk_48_method_14_code 8 (some .int) :: ws) ({ frames := 0, cells := 0, slots := 0, locals := 0 } : Room)) (fun a U => a = #[(.ref a1), (.int (0 : Int32)), (.ref b2), (.int (0 : Int32)), (.int (1 : Int32))] ∧ Z.Warmed39 U.vm ∧ U.heap = h0) (fun _ _ _ _ _ => True) (fun _ U o U' => ∃ v L, o = .returned v ∧ Q_rm13 Z a1 b2 k1 k2 N1 N2 x y vs us h0 n0 v U'.heap L ∧ FrameEnd U o U' L ({ frames := 0, cells := 0, slots := 0, locals := 0 } : Room).cells ({ frames := 0, cells := 0, slots := 0, locals := 0 } : Room).slots) := by
  refine MetFree.of_bodySF (plainFor_of_name pn_3) hisR ?_
  intro p e s m args below meth c s₁ Bd hml0 hP hK
  obtain ⟨rfl, hZ, hh⟩ := hP
  have hx := Bd.exec
  have hby := Bd.bytes
  have hml : c.maxLocals = 8 := hml0
  have hown : s.vm.findClass "jdk/internal/util/ArraysSupport" = some m.cls := findClass_of_methodNamed Bd.named
  have hnm := (name_of_methodNamed Bd.named Bd.method).1
  have X0 : Stand p l e ({ frames := 0, cells := 0, slots := 0, locals := 0 } : Room) s m #[(.ref a1), (.int (0 : Int32)), (.ref b2), (.int (0 : Int32)), (.int (1 : Int32))] below meth c s₁ [] 0 0 := Stand.of_body Bd
  have e0 : s₁.heap = h0 := by rw [← hh, Bd.state]; rfl
  have N0 := Fr.nil n0
  have ef : entryFrame m #[(.ref a1), (.int (0 : Int32)), (.ref b2), (.int (0 : Int32)), (.int (1 : Int32))] 8 = (mkF m 0 #[.val (.ref a1), .val (.int (0 : Int32)), .val (.ref b2), .val (.int (0 : Int32)), .val (.int (1 : Int32)), .unset, .unset, .unset] []) := by first | rfl | (simp [entryFrame, mkF, argsToLocals, Value.category, maxLocals]; done)
  show Go p e below (End (fun v h L => v = some (.int (if x = y then (-1) else 0)) ∧ Fr n0 L ∧ h = h0) s 0 0) (s₁.setTop (entryFrame m #[(.ref a1), (.int (0 : Int32)), (.ref b2), (.int (0 : Int32)), (.int (1 : Int32))] 8))
  rw [ef]
  show Go p e below _ (s₁.setTop (mkF m 0 #[.val (.ref a1), .val (.int (0 : Int32)), .val (.ref b2), .val (.int (0 : Int32)), .val (.int (1 : Int32)), .unset, .unset, .unset] []))
  show Go p e below _ (s₁.setTop (mkF m 0 #[.val (.ref a1), .val (.int (0 : Int32)), .val (.ref b2), .val (.int (0 : Int32)), .val (.int (1 : Int32)), .unset, .unset, .unset] []))
  refine Go.by (fun t => XS.iconst X0.here hx rfl (hb hby d13_0)) ?_
  show Go p e below _ (s₁.setTop (mkF m 1 #[.val (.ref a1), .val (.int (0 : Int32)), .val (.ref b2), .val (.int (0 : Int32)), .val (.int (1 : Int32)), .unset, .unset, .unset] [(.int (0 : Int32))]))
  refine Go.by (fun t => XS.istore X0.here hx rfl (hb hby d13_1) rfl (l' := #[.val (.ref a1), .val (.int (0 : Int32)), .val (.ref b2), .val (.int (0 : Int32)), .val (.int (1 : Int32)), .val (.int (0 : Int32)), .unset, .unset]) rfl) ?_
  show Go p e below _ (s₁.setTop (mkF m 3 #[.val (.ref a1), .val (.int (0 : Int32)), .val (.ref b2), .val (.int (0 : Int32)), .val (.int (1 : Int32)), .val (.int (0 : Int32)), .unset, .unset] []))
  refine Go.by (fun t => XS.iload X0.here hx rfl (hb hby d13_3) rfl ) ?_
  show Go p e below _ (s₁.setTop (mkF m 5 #[.val (.ref a1), .val (.int (0 : Int32)), .val (.ref b2), .val (.int (0 : Int32)), .val (.int (1 : Int32)), .val (.int (0 : Int32)), .unset, .unset] [(.int (1 : Int32))]))
  refine Go.by (fun t => XS.bipush X0.here hx rfl (hb hby d13_5)) ?_
  show Go p e below _ (s₁.setTop (mkF m 7 #[.val (.ref a1), .val (.int (0 : Int32)), .val (.ref b2), .val (.int (0 : Int32)), .val (.int (1 : Int32)), .val (.int (0 : Int32)), .unset, .unset] [(.int (7 : Int32)), (.int (1 : Int32))]))
  refine Go.by (fun t => XS.icmpYes X0.here hx rfl (pc0 := 7) (pc' := 70) rfl (hb hby d13_7) rfl (flt (by decide : ¬ ((7 : Int32) < (1 : Int32)))).2.2.2 (by decide) (by decide)) ?_
  show Go p e below _ (s₁.setTop (mkF m 70 #[.val (.ref a1), .val (.int (0 : Int32)), .val (.ref b2), .val (.int (0 : Int32)), .val (.int (1 : Int32)), .val (.int (0 : Int32)), .unset, .unset] []))
  show Go p e below _ (s₁.setTop (mkF m 70 #[.val (.ref a1), .val (.int (0 : Int32)), .val (.ref b2), .val (.int (0 : Int32)), .val (.int (1 : Int32)), .val (.int (0 : Int32)), .unset, .unset] []))
  refine Go.by (fun t => XS.iload X0.here hx rfl (hb hby d13_70) rfl ) ?_
  show Go p e below _ (s₁.setTop (mkF m 72 #[.val (.ref a1), .val (.int (0 : Int32)), .val (.ref b2), .val (.int (0 : Int32)), .val (.int (1 : Int32)), .val (.int (0 : Int32)), .unset, .unset] [(.int (0 : Int32))]))
  refine Go.by (fun t => XS.iload X0.here hx rfl (hb hby d13_72) rfl ) ?_
  show Go p e below _ (s₁.setTop (mkF m 74 #[.val (.ref a1), .val (.int (0 : Int32)), .val (.ref b2), .val (.int (0 : Int32)), .val (.int (1 : Int32)), .val (.int (0 : Int32)), .unset, .unset] [(.int (1 : Int32)), (.int (0 : Int32))]))
  refine Go.by (fun t => XS.icmpNo X0.here hx rfl (hb hby d13_74) rfl (tlt (by decide : (0 : Int32) < (1 : Int32))).2.1) ?_
  show Go p e below _ (s₁.setTop (mkF m 77 #[.val (.ref a1), .val (.int (0 : Int32)), .val (.ref b2), .val (.int (0 : Int32)), .val (.int (1 : Int32)), .val (.int (0 : Int32)), .unset, .unset] []))
  show Go p e below _ (s₁.setTop (mkF m 77 #[.val (.ref a1), .val (.int (0 : Int32)), .val (.ref b2), .val (.int (0 : Int32)), .val (.int (1 : Int32)), .val (.int (0 : Int32)), .unset, .unset] []))
  refine Go.by (fun t => XS.aloadN X0.here hx rfl (hb hby d13_77) rfl rfl) ?_
  show Go p e below _ (s₁.setTop (mkF m 78 #[.val (.ref a1), .val (.int (0 : Int32)), .val (.ref b2), .val (.int (0 : Int32)), .val (.int (1 : Int32)), .val (.int (0 : Int32)), .unset, .unset] [(.ref a1)]))
  refine Go.by (fun t => XS.iloadN X0.here hx rfl (hb hby d13_78) rfl ) ?_
  show Go p e below _ (s₁.setTop (mkF m 79 #[.val (.ref a1), .val (.int (0 : Int32)), .val (.ref b2), .val (.int (0 : Int32)), .val (.int (1 : Int32)), .val (.int (0 : Int32)), .unset, .unset] [(.int (0 : Int32)), (.ref a1)]))
  refine Go.by (fun t => XS.iload X0.here hx rfl (hb hby d13_79) rfl ) ?_
  show Go p e below _ (s₁.setTop (mkF m 81 #[.val (.ref a1), .val (.int (0 : Int32)), .val (.ref b2), .val (.int (0 : Int32)), .val (.int (1 : Int32)), .val (.int (0 : Int32)), .unset, .unset] [(.int (0 : Int32)), (.int (0 : Int32)), (.ref a1)]))
  refine Go.by (fun t => XS.iadd X0.here hx rfl (hb hby d13_81) rfl) ?_
  show Go p e below _ (s₁.setTop (mkF m 82 #[.val (.ref a1), .val (.int (0 : Int32)), .val (.ref b2), .val (.int (0 : Int32)), .val (.int (1 : Int32)), .val (.int (0 : Int32)), .unset, .unset] [(.int ((0 : Int32) + (0 : Int32))), (.ref a1)]))
  rw [show (0 : Int32) + (0 : Int32) = 0 from rfl]
  show Go p e below _ (s₁.setTop (mkF m 82 #[.val (.ref a1), .val (.int (0 : Int32)), .val (.ref b2), .val (.int (0 : Int32)), .val (.int (1 : Int32)), .val (.int (0 : Int32)), .unset, .unset] [(.int (0 : Int32)), (.ref a1)]))
  obtain ⟨cl_116, Ar_116, q_116, S_116, M_116, H_116, G_116⟩ := id V_a1
  have in_116 := inb_of S_116 (j := (0 : Int32)) ⟨by decide, hN1⟩
  refine Go.by (fun t => X0.baloadBytes hx (j := (0 : Int32)) (v := (.int x)) (by rw [e0]; exact Ar_116.1) (State.isArrayOf_alike hZ.alike Ar_116.2.1) Ar_116.2.2 in_116 (H_116.at in_116 rfl) (g := (mkF m 82 #[.val (.ref a1), .val (.int (0 : Int32)), .val (.ref b2), .val (.int (0 : Int32)), .val (.int (1 : Int32)), .val (.int (0 : Int32)), .unset, .unset] [(.int (0 : Int32)), (.ref a1)])) rfl rfl (hb hby d13_82) t) ?_
  show Go p e below _ (s₁.setTop (mkF m 83 #[.val (.ref a1), .val (.int (0 : Int32)), .val (.ref b2), .val (.int (0 : Int32)), .val (.int (1 : Int32)), .val (.int (0 : Int32)), .unset, .unset] [(.int x)]))
  show Go p e below _ (s₁.setTop (mkF m 83 #[.val (.ref a1), .val (.int (0 : Int32)), .val (.ref b2), .val (.int (0 : Int32)), .val (.int (1 : Int32)), .val (.int (0 : Int32)), .unset, .unset] [(.int x)]))
  refine Go.by (fun t => XS.aloadN X0.here hx rfl (hb hby d13_83) rfl rfl) ?_
  show Go p e below _ (s₁.setTop (mkF m 84 #[.val (.ref a1), .val (.int (0 : Int32)), .val (.ref b2), .val (.int (0 : Int32)), .val (.int (1 : Int32)), .val (.int (0 : Int32)), .unset, .unset] [(.ref b2), (.int x)]))
  refine Go.by (fun t => XS.iloadN X0.here hx rfl (hb hby d13_84) rfl ) ?_
  show Go p e below _ (s₁.setTop (mkF m 85 #[.val (.ref a1), .val (.int (0 : Int32)), .val (.ref b2), .val (.int (0 : Int32)), .val (.int (1 : Int32)), .val (.int (0 : Int32)), .unset, .unset] [(.int (0 : Int32)), (.ref b2), (.int x)]))
  refine Go.by (fun t => XS.iload X0.here hx rfl (hb hby d13_85) rfl ) ?_
  show Go p e below _ (s₁.setTop (mkF m 87 #[.val (.ref a1), .val (.int (0 : Int32)), .val (.ref b2), .val (.int (0 : Int32)), .val (.int (1 : Int32)), .val (.int (0 : Int32)), .unset, .unset] [(.int (0 : Int32)), (.int (0 : Int32)), (.ref b2), (.int x)]))
  refine Go.by (fun t => XS.iadd X0.here hx rfl (hb hby d13_87) rfl) ?_
  show Go p e below _ (s₁.setTop (mkF m 88 #[.val (.ref a1), .val (.int (0 : Int32)), .val (.ref b2), .val (.int (0 : Int32)), .val (.int (1 : Int32)), .val (.int (0 : Int32)), .unset, .unset] [(.int ((0 : Int32) + (0 : Int32))), (.ref b2), (.int x)]))
  rw [show (0 : Int32) + (0 : Int32) = 0 from rfl]
  show Go p e below _ (s₁.setTop (mkF m 88 #[.val (.ref a1), .val (.int (0 : Int32)), .val (.ref b2), .val (.int (0 : Int32)), .val (.int (1 : Int32)), .val (.int (0 : Int32)), .unset, .unset] [(.int (0 : Int32)), (.ref b2), (.int x)]))
  obtain ⟨cl_117, Ar_117, q_117, S_117, M_117, H_117, G_117⟩ := id V_b2
  have in_117 := inb_of S_117 (j := (0 : Int32)) ⟨by decide, hN2⟩
  refine Go.by (fun t => X0.baloadBytes hx (j := (0 : Int32)) (v := (.int y)) (by rw [e0]; exact Ar_117.1) (State.isArrayOf_alike hZ.alike Ar_117.2.1) Ar_117.2.2 in_117 (H_117.at in_117 rfl) (g := (mkF m 88 #[.val (.ref a1), .val (.int (0 : Int32)), .val (.ref b2), .val (.int (0 : Int32)), .val (.int (1 : Int32)), .val (.int (0 : Int32)), .unset, .unset] [(.int (0 : Int32)), (.ref b2), (.int x)])) rfl rfl (hb hby d13_88) t) ?_
  show Go p e below _ (s₁.setTop (mkF m 89 #[.val (.ref a1), .val (.int (0 : Int32)), .val (.ref b2), .val (.int (0 : Int32)), .val (.int (1 : Int32)), .val (.int (0 : Int32)), .unset, .unset] [(.int y), (.int x)]))
  by_cases hc89 : x = y
  · -- hc89 True
    refine Go.by (fun t => XS.icmpYes X0.here hx rfl (pc0 := 89) (pc' := 95) rfl (hb hby d13_89) rfl (teq (hc89 : x = y)).1 (by decide) (by decide)) ?_
    show Go p e below _ (s₁.setTop (mkF m 95 #[.val (.ref a1), .val (.int (0 : Int32)), .val (.ref b2), .val (.int (0 : Int32)), .val (.int (1 : Int32)), .val (.int (0 : Int32)), .unset, .unset] []))
    show Go p e below _ (s₁.setTop (mkF m 95 #[.val (.ref a1), .val (.int (0 : Int32)), .val (.ref b2), .val (.int (0 : Int32)), .val (.int (1 : Int32)), .val (.int (0 : Int32)), .unset, .unset] []))
    refine Go.by (fun t => XS.iinc X0.here hx rfl (hb hby d13_95) rfl (l' := #[.val (.ref a1), .val (.int (0 : Int32)), .val (.ref b2), .val (.int (0 : Int32)), .val (.int (1 : Int32)), .val (.int ((0 : Int32) + (1 : Int32))), .unset, .unset]) rfl) ?_
    show Go p e below _ (s₁.setTop (mkF m 98 #[.val (.ref a1), .val (.int (0 : Int32)), .val (.ref b2), .val (.int (0 : Int32)), .val (.int (1 : Int32)), .val (.int ((0 : Int32) + (1 : Int32))), .unset, .unset] []))
    refine Go.by (fun t => XS.goto X0.here hx rfl (pc0 := 98) (pc' := 70) rfl (hb hby d13_98) (by decide) (by decide)) ?_
    show Go p e below _ (s₁.setTop (mkF m 70 #[.val (.ref a1), .val (.int (0 : Int32)), .val (.ref b2), .val (.int (0 : Int32)), .val (.int (1 : Int32)), .val (.int ((0 : Int32) + (1 : Int32))), .unset, .unset] []))
    refine Go.by (fun t => XS.iload X0.here hx rfl (hb hby d13_70) rfl ) ?_
    show Go p e below _ (s₁.setTop (mkF m 72 #[.val (.ref a1), .val (.int (0 : Int32)), .val (.ref b2), .val (.int (0 : Int32)), .val (.int (1 : Int32)), .val (.int ((0 : Int32) + (1 : Int32))), .unset, .unset] [(.int ((0 : Int32) + (1 : Int32)))]))
    refine Go.by (fun t => XS.iload X0.here hx rfl (hb hby d13_72) rfl ) ?_
    show Go p e below _ (s₁.setTop (mkF m 74 #[.val (.ref a1), .val (.int (0 : Int32)), .val (.ref b2), .val (.int (0 : Int32)), .val (.int (1 : Int32)), .val (.int ((0 : Int32) + (1 : Int32))), .unset, .unset] [(.int (1 : Int32)), (.int ((0 : Int32) + (1 : Int32)))]))
    refine Go.by (fun t => XS.icmpYes X0.here hx rfl (pc0 := 74) (pc' := 101) rfl (hb hby d13_74) rfl (flt (by decide : ¬ (((0 : Int32) + (1 : Int32)) < (1 : Int32)))).2.1 (by decide) (by decide)) ?_
    show Go p e below _ (s₁.setTop (mkF m 101 #[.val (.ref a1), .val (.int (0 : Int32)), .val (.ref b2), .val (.int (0 : Int32)), .val (.int (1 : Int32)), .val (.int ((0 : Int32) + (1 : Int32))), .unset, .unset] []))
    show Go p e below _ (s₁.setTop (mkF m 101 #[.val (.ref a1), .val (.int (0 : Int32)), .val (.ref b2), .val (.int (0 : Int32)), .val (.int (1 : Int32)), .val (.int ((0 : Int32) + (1 : Int32))), .unset, .unset] []))
    refine Go.by (fun t => XS.iconst X0.here hx rfl (hb hby d13_101)) ?_
    show Go p e below _ (s₁.setTop (mkF m 102 #[.val (.ref a1), .val (.int (0 : Int32)), .val (.ref b2), .val (.int (0 : Int32)), .val (.int (1 : Int32)), .val (.int ((0 : Int32) + (1 : Int32))), .unset, .unset] [(.int (-1 : Int32))]))
    exact Go.ret1 X0 hx Bd.returns Bd.notSynchronized rfl (Or.inl ⟨rfl, by simp, _, rfl⟩) (hb hby d13_102) (by decide) (by decide) (by first | (rw [e0]; exact ⟨by rw [if_pos hc89], N0, rfl⟩) | exact ⟨by rw [if_pos hc89], N0, rfl⟩)
  · -- hc89 False
    refine Go.by (fun t => XS.icmpNo X0.here hx rfl (hb hby d13_89) rfl (feq (hc89 : ¬ (x = y))).1) ?_
    show Go p e below _ (s₁.setTop (mkF m 92 #[.val (.ref a1), .val (.int (0 : Int32)), .val (.ref b2), .val (.int (0 : Int32)), .val (.int (1 : Int32)), .val (.int (0 : Int32)), .unset, .unset] []))
    show Go p e below _ (s₁.setTop (mkF m 92 #[.val (.ref a1), .val (.int (0 : Int32)), .val (.ref b2), .val (.int (0 : Int32)), .val (.int (1 : Int32)), .val (.int (0 : Int32)), .unset, .unset] []))
    refine Go.by (fun t => XS.iload X0.here hx rfl (hb hby d13_92) rfl ) ?_
    show Go p e below _ (s₁.setTop (mkF m 94 #[.val (.ref a1), .val (.int (0 : Int32)), .val (.ref b2), .val (.int (0 : Int32)), .val (.int (1 : Int32)), .val (.int (0 : Int32)), .unset, .unset] [(.int (0 : Int32))]))
    exact Go.ret1 X0 hx Bd.returns Bd.notSynchronized rfl (Or.inl ⟨rfl, by simp, _, rfl⟩) (hb hby d13_94) (by decide) (by decide) (by first | (rw [e0]; exact ⟨by rw [if_neg hc89], N0, rfl⟩) | exact ⟨by rw [if_neg hc89], N0, rfl⟩)
def Q_rmSW2_0 (Z : State) (a1 b2 : Addr) (G1 : Int32) (h0 : Heap) (n0 : Nat) : Option Value → Heap → List Loc → Prop := fun v h L => v = some (.int (0)) ∧ Fr n0 L ∧ h = h0
set_option maxRecDepth 65536 in
set_option maxHeartbeats 40000000 in
theorem rmSW2_0 (l : Launch) (Z : State) (a0 : Array Value) (hw : ∀ d ∈ tables_1, d.before a0 Z = true) (ws : List Jvm.Cond) (a1 b2 : Addr) (G1 : Int32) (h0 : Heap) (n0 : Nat) (Od : Old Z n0 h0) (O2 : Sta Z Z.heap "java/lang/String" "COMPACT_STRINGS" "Z" (.int G1)) (P5 : ¬ (G1 = (0 : Int32))) (S_a1 : StrAt Z h0 a1 []) (S_b2 : StrAt Z h0 b2 [95]) :
    MetFree l (⟨"java/lang/String", "startsWith", "(Ljava/lang/String;I)Z"⟩ : MethodName) (head1 (Jvm.Cond.code (⟨"java/lang/String", "startsWith", "(Ljava/lang/String;I)Z"⟩ : MethodName) jdk_42_method_75_code 8 (some .boolean) :: ws) ({ frames := 2, cells := 0, slots := 0, locals := 40 } : Room)) (fun a U => a = #[(.ref a1), (.ref b2), (.int (0 : Int32))] ∧ Z.Warmed39 U.vm ∧ U.heap = h0) (fun _ _ _ _ _ => True) (fun _ U o U' => ∃ v L, o = .returned v ∧ Q_rmSW2_0 Z a1 b2 G1 h0 n0 v U'.heap L ∧ FrameEnd U o U' L ({ frames := 2, cells := 0, slots := 0, locals := 40 } : Room).cells ({ frames := 2, cells := 0, slots := 0, locals := 40 } : Room).slots) := by
  refine MetFree.of_bodySF (plainFor_of_name pn_1) hisR ?_
  intro p e s m args below meth c s₁ Bd hml0 hP hK
  obtain ⟨rfl, hZ, hh⟩ := hP
  have hx := Bd.exec
  have hby := Bd.bytes
  have hml : c.maxLocals = 8 := hml0
  have hown : s.vm.findClass "java/lang/String" = some m.cls := findClass_of_methodNamed Bd.named
  have hnm := (name_of_methodNamed Bd.named Bd.method).1
  have X0 : Stand p l e ({ frames := 2, cells := 0, slots := 0, locals := 40 } : Room) s m #[(.ref a1), (.ref b2), (.int (0 : Int32))] below meth c s₁ [] 0 0 := Stand.of_body Bd
  have e0 : s₁.heap = h0 := by rw [← hh, Bd.state]; rfl
  have N0 := Fr.nil n0
  have hln : ∀ d ∈ StrChars.Road.wordsLen, d.before a0 Z = true := fun d hd => hw d ((by decide +kernel : ∀ d ∈ StrChars.Road.wordsLen, d ∈ tables_1) d hd)
  have ef : entryFrame m #[(.ref a1), (.ref b2), (.int (0 : Int32))] 8 = (mkF m 0 #[.val (.ref a1), .val (.ref b2), .val (.int (0 : Int32)), .unset, .unset, .unset, .unset, .unset] []) := by first | rfl | (simp [entryFrame, mkF, argsToLocals, Value.category, maxLocals]; done)
  show Go p e below (End (fun v h L => v = some (.int (0)) ∧ Fr n0 L ∧ h = h0) s 0 0) (s₁.setTop (entryFrame m #[(.ref a1), (.ref b2), (.int (0 : Int32))] 8))
  rw [ef]
  show Go p e below _ (s₁.setTop (mkF m 0 #[.val (.ref a1), .val (.ref b2), .val (.int (0 : Int32)), .unset, .unset, .unset, .unset, .unset] []))
  show Go p e below _ (s₁.setTop (mkF m 0 #[.val (.ref a1), .val (.ref b2), .val (.int (0 : Int32)), .unset, .unset, .unset, .unset, .unset] []))
  refine Go.by (fun t => XS.iloadN X0.here hx rfl (hb hby d10_0) rfl ) ?_
  show Go p e below _ (s₁.setTop (mkF m 1 #[.val (.ref a1), .val (.ref b2), .val (.int (0 : Int32)), .unset, .unset, .unset, .unset, .unset] [(.int (0 : Int32))]))
  refine Go.by (fun t => XS.ifNo X0.here hx rfl (hb hby d10_1) rfl ((if0 _ _).trans (flt (by decide : ¬ ((0 : Int32) < (0 : Int32)))).1)) ?_
  show Go p e below _ (s₁.setTop (mkF m 4 #[.val (.ref a1), .val (.ref b2), .val (.int (0 : Int32)), .unset, .unset, .unset, .unset, .unset] []))
  show Go p e below _ (s₁.setTop (mkF m 4 #[.val (.ref a1), .val (.ref b2), .val (.int (0 : Int32)), .unset, .unset, .unset, .unset, .unset] []))
  refine Go.by (fun t => XS.iloadN X0.here hx rfl (hb hby d10_4) rfl ) ?_
  show Go p e below _ (s₁.setTop (mkF m 5 #[.val (.ref a1), .val (.ref b2), .val (.int (0 : Int32)), .unset, .unset, .unset, .unset, .unset] [(.int (0 : Int32))]))
  refine Go.by (fun t => XS.aloadN X0.here hx rfl (hb hby d10_5) rfl rfl) ?_
  show Go p e below _ (s₁.setTop (mkF m 6 #[.val (.ref a1), .val (.ref b2), .val (.int (0 : Int32)), .unset, .unset, .unset, .unset, .unset] [(.ref a1), (.int (0 : Int32))]))
  obtain ⟨cq118, kq118, q118a, q118b, q118c⟩ := isOf hZ e0 S_a1.exa
  obtain ⟨_, _, ⟨T118, L118, k118, n118⟩, -, X118, ⟨Lc118, hQ118, l118, y118, z118⟩, st118⟩ := X0.virtualBack hx (y := (⟨"java/lang/String", "length", "()I"⟩ : MethodName)) (z := (⟨"java/lang/String", "length", "()I"⟩ : MethodName)) hown (mvT hZ (hw _ (List.mem_of_getElem? (i := 51) rfl))) (mvT hZ (hw _ (List.mem_of_getElem? (i := 52) rfl))) (notFace_of_selects (args := #[]) (mvT hZ (hw _ (List.mem_of_getElem? (i := 54) rfl)))) (mvT hZ (hw _ (List.mem_of_getElem? (i := 54) rfl))) (mvT hZ (hw _ (List.mem_of_getElem? (i := 53) rfl))) (by decide) (lenS (W := 1) hZ hln (hw _ (List.mem_of_getElem? (i := 5) rfl)) S_a1 (O2.ext Od.2) P5 (by decide) (by decide)) q118a q118c (g := (mkF m 6 #[.val (.ref a1), .val (.ref b2), .val (.int (0 : Int32)), .unset, .unset, .unset, .unset, .unset] [(.ref a1), (.int (0 : Int32))])) rfl (by rw [hml]; rfl) (Steps.refl _) (argsL := []) (rest := [(.int (0 : Int32))]) (lenOf pd_11 rfl) rfl (by show 2 * 0 + _ ≤ _; exact Nat.le_of_eq rfl) (hb hby d10_6) (fun _ _ => ⟨rfl, e0, (by decide : 0 + 0 ≤ _), (by decide : 0 + 0 ≤ _)⟩)
  dsimp only [Pt.U, Pt.locs, Pt.cells, Pt.slots] at X118 l118 y118 z118 st118 hQ118
  subst l118 y118 z118
  obtain ⟨rfl, rfl, e118⟩ := hQ118
  have Nq118 : Fr n0 ([] : List Loc) := Fr.nil n0
  have N118 := Fr.app N0 Nq118
  refine Go.by (fun t => st118.trans) ?_
  show Go p e below _ (T118.setTop (mkF m 9 #[.val (.ref a1), .val (.ref b2), .val (.int (0 : Int32)), .unset, .unset, .unset, .unset, .unset] [(.int (0 : Int32)), (.int (0 : Int32))]))
  show Go p e below _ (T118.setTop (mkF m 9 #[.val (.ref a1), .val (.ref b2), .val (.int (0 : Int32)), .unset, .unset, .unset, .unset, .unset] [(.int (0 : Int32)), (.int (0 : Int32))]))
  refine Go.by (fun t => XS.aloadN X118.here hx rfl (hb hby d10_9) rfl rfl) ?_
  show Go p e below _ (T118.setTop (mkF m 10 #[.val (.ref a1), .val (.ref b2), .val (.int (0 : Int32)), .unset, .unset, .unset, .unset, .unset] [(.ref b2), (.int (0 : Int32)), (.int (0 : Int32))]))
  obtain ⟨cq119, kq119, q119a, q119b, q119c⟩ := isOf hZ e118 S_b2.exa
  obtain ⟨_, _, ⟨T119, L119, k119, n119⟩, -, X119, ⟨Lc119, hQ119, l119, y119, z119⟩, st119⟩ := X118.virtualBack hx (y := (⟨"java/lang/String", "length", "()I"⟩ : MethodName)) (z := (⟨"java/lang/String", "length", "()I"⟩ : MethodName)) hown (mvT hZ (hw _ (List.mem_of_getElem? (i := 51) rfl))) (mvT hZ (hw _ (List.mem_of_getElem? (i := 52) rfl))) (notFace_of_selects (args := #[]) (mvT hZ (hw _ (List.mem_of_getElem? (i := 54) rfl)))) (mvT hZ (hw _ (List.mem_of_getElem? (i := 54) rfl))) (mvT hZ (hw _ (List.mem_of_getElem? (i := 53) rfl))) (by decide) (lenS (W := 2) hZ hln (hw _ (List.mem_of_getElem? (i := 5) rfl)) S_b2 (O2.ext Od.2) P5 (by decide) (by decide)) q119a q119c (g := (mkF m 10 #[.val (.ref a1), .val (.ref b2), .val (.int (0 : Int32)), .unset, .unset, .unset, .unset, .unset] [(.ref b2), (.int (0 : Int32)), (.int (0 : Int32))])) rfl (by rw [hml]; rfl) (Steps.refl _) (argsL := []) (rest := [(.int (0 : Int32)), (.int (0 : Int32))]) (lenOf pd_11 rfl) rfl (by show 2 * 0 + _ ≤ _; exact Nat.le_of_eq rfl) (hb hby d10_10) (fun _ _ => ⟨rfl, e118, (by decide : 0 + 0 ≤ _), (by decide : 0 + 0 ≤ _)⟩)
  dsimp only [Pt.U, Pt.locs, Pt.cells, Pt.slots] at X119 l119 y119 z119 st119 hQ119
  subst l119 y119 z119
  obtain ⟨rfl, rfl, e119⟩ := hQ119
  have Nq119 : Fr n0 ([] : List Loc) := Fr.nil n0
  have N119 := Fr.app N118 Nq119
  refine Go.by (fun t => st119.trans) ?_
  show Go p e below _ (T119.setTop (mkF m 13 #[.val (.ref a1), .val (.ref b2), .val (.int (0 : Int32)), .unset, .unset, .unset, .unset, .unset] [(.int (1 : Int32)), (.int (0 : Int32)), (.int (0 : Int32))]))
  show Go p e below _ (T119.setTop (mkF m 13 #[.val (.ref a1), .val (.ref b2), .val (.int (0 : Int32)), .unset, .unset, .unset, .unset, .unset] [(.int (1 : Int32)), (.int (0 : Int32)), (.int (0 : Int32))]))
  refine Go.by (fun t => XS.isub X119.here hx rfl (hb hby d10_13) rfl) ?_
  show Go p e below _ (T119.setTop (mkF m 14 #[.val (.ref a1), .val (.ref b2), .val (.int (0 : Int32)), .unset, .unset, .unset, .unset, .unset] [(.int ((0 : Int32) - (1 : Int32))), (.int (0 : Int32))]))
  rw [show (0 : Int32) - (1 : Int32) = (-1) from rfl]
  show Go p e below _ (T119.setTop (mkF m 14 #[.val (.ref a1), .val (.ref b2), .val (.int (0 : Int32)), .unset, .unset, .unset, .unset, .unset] [(.int (-1 : Int32)), (.int (0 : Int32))]))
  refine Go.by (fun t => XS.icmpNo X119.here hx rfl (hb hby d10_14) rfl (tlt (by decide : (-1 : Int32) < (0 : Int32))).2.2.2) ?_
  show Go p e below _ (T119.setTop (mkF m 17 #[.val (.ref a1), .val (.ref b2), .val (.int (0 : Int32)), .unset, .unset, .unset, .unset, .unset] []))
  show Go p e below _ (T119.setTop (mkF m 17 #[.val (.ref a1), .val (.ref b2), .val (.int (0 : Int32)), .unset, .unset, .unset, .unset, .unset] []))
  refine Go.by (fun t => XS.iconst X119.here hx rfl (hb hby d10_17)) ?_
  show Go p e below _ (T119.setTop (mkF m 18 #[.val (.ref a1), .val (.ref b2), .val (.int (0 : Int32)), .unset, .unset, .unset, .unset, .unset] [(.int (0 : Int32))]))
  exact Go.ret1 X119 hx Bd.returns Bd.notSynchronized (by first | rfl | decide) (Or.inl ⟨rfl, by simp, _, rfl⟩) (hb hby d10_18) (by decide) (by decide) (by first | (rw [e119]; exact ⟨rfl, N119, rfl⟩) | exact ⟨rfl, N119, rfl⟩)
def Q_rmSW1_0 (Z : State) (a1 b2 : Addr) (G1 : Int32) (h0 : Heap) (n0 : Nat) : Option Value → Heap → List Loc → Prop := fun v h L => v = some (.int (0)) ∧ Fr n0 L ∧ h = h0
set_option maxRecDepth 65536 in
set_option maxHeartbeats 40000000 in
theorem rmSW1_0 (l : Launch) (Z : State) (a0 : Array Value) (hw : ∀ d ∈ tables_1, d.before a0 Z = true) (ws : List Jvm.Cond) (a1 b2 : Addr) (G1 : Int32) (h0 : Heap) (n0 : Nat) (Od : Old Z n0 h0) (O2 : Sta Z Z.heap "java/lang/String" "COMPACT_STRINGS" "Z" (.int G1)) (P5 : ¬ (G1 = (0 : Int32))) (S_a1 : StrAt Z h0 a1 []) (S_b2 : StrAt Z h0 b2 [95]) :
    MetFree l (⟨"java/lang/String", "startsWith", "(Ljava/lang/String;)Z"⟩ : MethodName) (head1 (Jvm.Cond.code (⟨"java/lang/String", "startsWith", "(Ljava/lang/String;)Z"⟩ : MethodName) jdk_42_method_76_code 2 (some .boolean) :: ws) ({ frames := 3, cells := 0, slots := 0, locals := 59 } : Room)) (fun a U => a = #[(.ref a1), (.ref b2)] ∧ Z.Warmed39 U.vm ∧ U.heap = h0) (fun _ _ _ _ _ => True) (fun _ U o U' => ∃ v L, o = .returned v ∧ Q_rmSW1_0 Z a1 b2 G1 h0 n0 v U'.heap L ∧ FrameEnd U o U' L ({ frames := 3, cells := 0, slots := 0, locals := 59 } : Room).cells ({ frames := 3, cells := 0, slots := 0, locals := 59 } : Room).slots) := by
  refine MetFree.of_bodySF (plainFor_of_name pn_1) hisR ?_
  intro p e s m args below meth c s₁ Bd hml0 hP hK
  obtain ⟨rfl, hZ, hh⟩ := hP
  have hx := Bd.exec
  have hby := Bd.bytes
  have hml : c.maxLocals = 2 := hml0
  have hown : s.vm.findClass "java/lang/String" = some m.cls := findClass_of_methodNamed Bd.named
  have hnm := (name_of_methodNamed Bd.named Bd.method).1
  have X0 : Stand p l e ({ frames := 3, cells := 0, slots := 0, locals := 59 } : Room) s m #[(.ref a1), (.ref b2)] below meth c s₁ [] 0 0 := Stand.of_body Bd
  have e0 : s₁.heap = h0 := by rw [← hh, Bd.state]; rfl
  have N0 := Fr.nil n0
  have ef : entryFrame m #[(.ref a1), (.ref b2)] 2 = (mkF m 0 #[.val (.ref a1), .val (.ref b2)] []) := by first | rfl | (simp [entryFrame, mkF, argsToLocals, Value.category, maxLocals]; done)
  show Go p e below (End (fun v h L => v = some (.int (0)) ∧ Fr n0 L ∧ h = h0) s 0 0) (s₁.setTop (entryFrame m #[(.ref a1), (.ref b2)] 2))
  rw [ef]
  show Go p e below _ (s₁.setTop (mkF m 0 #[.val (.ref a1), .val (.ref b2)] []))
  show Go p e below _ (s₁.setTop (mkF m 0 #[.val (.ref a1), .val (.ref b2)] []))
  refine Go.by (fun t => XS.aloadN X0.here hx rfl (hb hby d9_0) rfl rfl) ?_
  show Go p e below _ (s₁.setTop (mkF m 1 #[.val (.ref a1), .val (.ref b2)] [(.ref a1)]))
  refine Go.by (fun t => XS.aloadN X0.here hx rfl (hb hby d9_1) rfl rfl) ?_
  show Go p e below _ (s₁.setTop (mkF m 2 #[.val (.ref a1), .val (.ref b2)] [(.ref b2), (.ref a1)]))
  refine Go.by (fun t => XS.iconst X0.here hx rfl (hb hby d9_2)) ?_
  show Go p e below _ (s₁.setTop (mkF m 3 #[.val (.ref a1), .val (.ref b2)] [(.int (0 : Int32)), (.ref b2), (.ref a1)]))
  obtain ⟨cq120, kq120, q120a, q120b, q120c⟩ := isOf hZ e0 S_a1.exa
  obtain ⟨_, _, ⟨T120, L120, k120, n120⟩, -, X120, ⟨Lc120, hQ120, l120, y120, z120⟩, st120⟩ := X0.virtualBack hx (y := (⟨"java/lang/String", "startsWith", "(Ljava/lang/String;I)Z"⟩ : MethodName)) (z := (⟨"java/lang/String", "startsWith", "(Ljava/lang/String;I)Z"⟩ : MethodName)) hown (mvT hZ (hw _ (List.mem_of_getElem? (i := 46) rfl))) (mvT hZ (hw _ (List.mem_of_getElem? (i := 47) rfl))) (notFace_of_selects (args := #[]) (mvT hZ (hw _ (List.mem_of_getElem? (i := 49) rfl)))) (mvT hZ (hw _ (List.mem_of_getElem? (i := 49) rfl))) (mvT hZ (hw _ (List.mem_of_getElem? (i := 48) rfl))) (by decide) (backOf (W := 0) (rmSW2_0 l Z a0 hw [] a1 b2 G1 h0 n0 Od O2 P5 S_a1 S_b2) hZ (hw _ (List.mem_of_getElem? (i := 50) rfl)) (hw _ (List.mem_of_getElem? (i := 6) rfl)) (by decide) (by decide)) q120a q120c (g := (mkF m 3 #[.val (.ref a1), .val (.ref b2)] [(.int (0 : Int32)), (.ref b2), (.ref a1)])) rfl (by rw [hml]; rfl) (Steps.refl _) (argsL := [(.ref b2), (.int (0 : Int32))]) (rest := []) (lenOf pd_10 rfl) rfl (by show 2 * 0 + _ ≤ _; exact Nat.le_of_eq rfl) (hb hby d9_3) (fun _ _ => ⟨rfl, e0, (by decide : 0 + 0 ≤ _), (by decide : 0 + 0 ≤ _)⟩)
  dsimp only [Pt.U, Pt.locs, Pt.cells, Pt.slots] at X120 l120 y120 z120 st120 hQ120
  subst l120 y120 z120
  obtain ⟨hv120, Nq120, e120⟩ := hQ120
  subst hv120
  have N120 := Fr.app N0 Nq120
  refine Go.by (fun t => st120.trans) ?_
  show Go p e below _ (T120.setTop (mkF m 6 #[.val (.ref a1), .val (.ref b2)] [(.int (0 : Int32))]))
  show Go p e below _ (T120.setTop (mkF m 6 #[.val (.ref a1), .val (.ref b2)] [(.int (0 : Int32))]))
  exact Go.ret1 X120 hx Bd.returns Bd.notSynchronized (by first | rfl | decide) (Or.inl ⟨rfl, by simp, _, rfl⟩) (hb hby d9_6) (by decide) (by decide) (by first | (rw [e120]; exact ⟨rfl, N120, rfl⟩) | exact ⟨rfl, N120, rfl⟩)
def Q_rmSW2_1 (Z : State) (a1 b2 : Addr) (c0 : Int32) (G1 : Int32) (h0 : Heap) (n0 : Nat) : Option Value → Heap → List Loc → Prop := fun v h L => v = some (.int (if c0 = 95 then 1 else 0)) ∧ Fr n0 L ∧ h = h0
set_option maxRecDepth 65536 in
set_option maxHeartbeats 40000000 in
theorem rmSW2_1 (l : Launch) (Z : State) (a0 : Array Value) (hw : ∀ d ∈ tables_1, d.before a0 Z = true) (ws : List Jvm.Cond) (a1 b2 : Addr) (c0 : Int32) (G1 : Int32) (h0 : Heap) (n0 : Nat) (Od : Old Z n0 h0) (O2 : Sta Z Z.heap "java/lang/String" "COMPACT_STRINGS" "Z" (.int G1)) (P5 : ¬ (G1 = (0 : Int32))) (S_a1 : StrAt Z h0 a1 [c0]) (S_b2 : StrAt Z h0 b2 [95]) (hb0 : ¬ c0 < 0) :
    MetFree l (⟨"java/lang/String", "startsWith", "(Ljava/lang/String;I)Z"⟩ : MethodName) (head1 (Jvm.Cond.code (⟨"java/lang/String", "startsWith", "(Ljava/lang/String;I)Z"⟩ : MethodName) jdk_42_method_75_code 8 (some .boolean) :: ws) ({ frames := 2, cells := 0, slots := 0, locals := 40 } : Room)) (fun a U => a = #[(.ref a1), (.ref b2), (.int (0 : Int32))] ∧ Z.Warmed39 U.vm ∧ U.heap = h0) (fun _ _ _ _ _ => True) (fun _ U o U' => ∃ v L, o = .returned v ∧ Q_rmSW2_1 Z a1 b2 c0 G1 h0 n0 v U'.heap L ∧ FrameEnd U o U' L ({ frames := 2, cells := 0, slots := 0, locals := 40 } : Room).cells ({ frames := 2, cells := 0, slots := 0, locals := 40 } : Room).slots) := by
  refine MetFree.of_bodySF (plainFor_of_name pn_1) hisR ?_
  intro p e s m args below meth c s₁ Bd hml0 hP hK
  obtain ⟨rfl, hZ, hh⟩ := hP
  have hx := Bd.exec
  have hby := Bd.bytes
  have hml : c.maxLocals = 8 := hml0
  have hown : s.vm.findClass "java/lang/String" = some m.cls := findClass_of_methodNamed Bd.named
  have hnm := (name_of_methodNamed Bd.named Bd.method).1
  have X0 : Stand p l e ({ frames := 2, cells := 0, slots := 0, locals := 40 } : Room) s m #[(.ref a1), (.ref b2), (.int (0 : Int32))] below meth c s₁ [] 0 0 := Stand.of_body Bd
  have e0 : s₁.heap = h0 := by rw [← hh, Bd.state]; rfl
  have N0 := Fr.nil n0
  have hln : ∀ d ∈ StrChars.Road.wordsLen, d.before a0 Z = true := fun d hd => hw d ((by decide +kernel : ∀ d ∈ StrChars.Road.wordsLen, d ∈ tables_1) d hd)
  have ef : entryFrame m #[(.ref a1), (.ref b2), (.int (0 : Int32))] 8 = (mkF m 0 #[.val (.ref a1), .val (.ref b2), .val (.int (0 : Int32)), .unset, .unset, .unset, .unset, .unset] []) := by first | rfl | (simp [entryFrame, mkF, argsToLocals, Value.category, maxLocals]; done)
  show Go p e below (End (fun v h L => v = some (.int (if c0 = 95 then 1 else 0)) ∧ Fr n0 L ∧ h = h0) s 0 0) (s₁.setTop (entryFrame m #[(.ref a1), (.ref b2), (.int (0 : Int32))] 8))
  rw [ef]
  show Go p e below _ (s₁.setTop (mkF m 0 #[.val (.ref a1), .val (.ref b2), .val (.int (0 : Int32)), .unset, .unset, .unset, .unset, .unset] []))
  show Go p e below _ (s₁.setTop (mkF m 0 #[.val (.ref a1), .val (.ref b2), .val (.int (0 : Int32)), .unset, .unset, .unset, .unset, .unset] []))
  refine Go.by (fun t => XS.iloadN X0.here hx rfl (hb hby d10_0) rfl ) ?_
  show Go p e below _ (s₁.setTop (mkF m 1 #[.val (.ref a1), .val (.ref b2), .val (.int (0 : Int32)), .unset, .unset, .unset, .unset, .unset] [(.int (0 : Int32))]))
  refine Go.by (fun t => XS.ifNo X0.here hx rfl (hb hby d10_1) rfl ((if0 _ _).trans (flt (by decide : ¬ ((0 : Int32) < (0 : Int32)))).1)) ?_
  show Go p e below _ (s₁.setTop (mkF m 4 #[.val (.ref a1), .val (.ref b2), .val (.int (0 : Int32)), .unset, .unset, .unset, .unset, .unset] []))
  show Go p e below _ (s₁.setTop (mkF m 4 #[.val (.ref a1), .val (.ref b2), .val (.int (0 : Int32)), .unset, .unset, .unset, .unset, .unset] []))
  refine Go.by (fun t => XS.iloadN X0.here hx rfl (hb hby d10_4) rfl ) ?_
  show Go p e below _ (s₁.setTop (mkF m 5 #[.val (.ref a1), .val (.ref b2), .val (.int (0 : Int32)), .unset, .unset, .unset, .unset, .unset] [(.int (0 : Int32))]))
  refine Go.by (fun t => XS.aloadN X0.here hx rfl (hb hby d10_5) rfl rfl) ?_
  show Go p e below _ (s₁.setTop (mkF m 6 #[.val (.ref a1), .val (.ref b2), .val (.int (0 : Int32)), .unset, .unset, .unset, .unset, .unset] [(.ref a1), (.int (0 : Int32))]))
  obtain ⟨cq121, kq121, q121a, q121b, q121c⟩ := isOf hZ e0 S_a1.exa
  obtain ⟨_, _, ⟨T121, L121, k121, n121⟩, -, X121, ⟨Lc121, hQ121, l121, y121, z121⟩, st121⟩ := X0.virtualBack hx (y := (⟨"java/lang/String", "length", "()I"⟩ : MethodName)) (z := (⟨"java/lang/String", "length", "()I"⟩ : MethodName)) hown (mvT hZ (hw _ (List.mem_of_getElem? (i := 51) rfl))) (mvT hZ (hw _ (List.mem_of_getElem? (i := 52) rfl))) (notFace_of_selects (args := #[]) (mvT hZ (hw _ (List.mem_of_getElem? (i := 54) rfl)))) (mvT hZ (hw _ (List.mem_of_getElem? (i := 54) rfl))) (mvT hZ (hw _ (List.mem_of_getElem? (i := 53) rfl))) (by decide) (lenS (W := 1) hZ hln (hw _ (List.mem_of_getElem? (i := 5) rfl)) S_a1 (O2.ext Od.2) P5 (by decide) (by decide)) q121a q121c (g := (mkF m 6 #[.val (.ref a1), .val (.ref b2), .val (.int (0 : Int32)), .unset, .unset, .unset, .unset, .unset] [(.ref a1), (.int (0 : Int32))])) rfl (by rw [hml]; rfl) (Steps.refl _) (argsL := []) (rest := [(.int (0 : Int32))]) (lenOf pd_11 rfl) rfl (by show 2 * 0 + _ ≤ _; exact Nat.le_of_eq rfl) (hb hby d10_6) (fun _ _ => ⟨rfl, e0, (by decide : 0 + 0 ≤ _), (by decide : 0 + 0 ≤ _)⟩)
  dsimp only [Pt.U, Pt.locs, Pt.cells, Pt.slots] at X121 l121 y121 z121 st121 hQ121
  subst l121 y121 z121
  obtain ⟨rfl, rfl, e121⟩ := hQ121
  have Nq121 : Fr n0 ([] : List Loc) := Fr.nil n0
  have N121 := Fr.app N0 Nq121
  refine Go.by (fun t => st121.trans) ?_
  show Go p e below _ (T121.setTop (mkF m 9 #[.val (.ref a1), .val (.ref b2), .val (.int (0 : Int32)), .unset, .unset, .unset, .unset, .unset] [(.int (1 : Int32)), (.int (0 : Int32))]))
  show Go p e below _ (T121.setTop (mkF m 9 #[.val (.ref a1), .val (.ref b2), .val (.int (0 : Int32)), .unset, .unset, .unset, .unset, .unset] [(.int (1 : Int32)), (.int (0 : Int32))]))
  refine Go.by (fun t => XS.aloadN X121.here hx rfl (hb hby d10_9) rfl rfl) ?_
  show Go p e below _ (T121.setTop (mkF m 10 #[.val (.ref a1), .val (.ref b2), .val (.int (0 : Int32)), .unset, .unset, .unset, .unset, .unset] [(.ref b2), (.int (1 : Int32)), (.int (0 : Int32))]))
  obtain ⟨cq122, kq122, q122a, q122b, q122c⟩ := isOf hZ e121 S_b2.exa
  obtain ⟨_, _, ⟨T122, L122, k122, n122⟩, -, X122, ⟨Lc122, hQ122, l122, y122, z122⟩, st122⟩ := X121.virtualBack hx (y := (⟨"java/lang/String", "length", "()I"⟩ : MethodName)) (z := (⟨"java/lang/String", "length", "()I"⟩ : MethodName)) hown (mvT hZ (hw _ (List.mem_of_getElem? (i := 51) rfl))) (mvT hZ (hw _ (List.mem_of_getElem? (i := 52) rfl))) (notFace_of_selects (args := #[]) (mvT hZ (hw _ (List.mem_of_getElem? (i := 54) rfl)))) (mvT hZ (hw _ (List.mem_of_getElem? (i := 54) rfl))) (mvT hZ (hw _ (List.mem_of_getElem? (i := 53) rfl))) (by decide) (lenS (W := 2) hZ hln (hw _ (List.mem_of_getElem? (i := 5) rfl)) S_b2 (O2.ext Od.2) P5 (by decide) (by decide)) q122a q122c (g := (mkF m 10 #[.val (.ref a1), .val (.ref b2), .val (.int (0 : Int32)), .unset, .unset, .unset, .unset, .unset] [(.ref b2), (.int (1 : Int32)), (.int (0 : Int32))])) rfl (by rw [hml]; rfl) (Steps.refl _) (argsL := []) (rest := [(.int (1 : Int32)), (.int (0 : Int32))]) (lenOf pd_11 rfl) rfl (by show 2 * 0 + _ ≤ _; exact Nat.le_of_eq rfl) (hb hby d10_10) (fun _ _ => ⟨rfl, e121, (by decide : 0 + 0 ≤ _), (by decide : 0 + 0 ≤ _)⟩)
  dsimp only [Pt.U, Pt.locs, Pt.cells, Pt.slots] at X122 l122 y122 z122 st122 hQ122
  subst l122 y122 z122
  obtain ⟨rfl, rfl, e122⟩ := hQ122
  have Nq122 : Fr n0 ([] : List Loc) := Fr.nil n0
  have N122 := Fr.app N121 Nq122
  refine Go.by (fun t => st122.trans) ?_
  show Go p e below _ (T122.setTop (mkF m 13 #[.val (.ref a1), .val (.ref b2), .val (.int (0 : Int32)), .unset, .unset, .unset, .unset, .unset] [(.int (1 : Int32)), (.int (1 : Int32)), (.int (0 : Int32))]))
  show Go p e below _ (T122.setTop (mkF m 13 #[.val (.ref a1), .val (.ref b2), .val (.int (0 : Int32)), .unset, .unset, .unset, .unset, .unset] [(.int (1 : Int32)), (.int (1 : Int32)), (.int (0 : Int32))]))
  refine Go.by (fun t => XS.isub X122.here hx rfl (hb hby d10_13) rfl) ?_
  show Go p e below _ (T122.setTop (mkF m 14 #[.val (.ref a1), .val (.ref b2), .val (.int (0 : Int32)), .unset, .unset, .unset, .unset, .unset] [(.int ((1 : Int32) - (1 : Int32))), (.int (0 : Int32))]))
  rw [show (1 : Int32) - (1 : Int32) = 0 from rfl]
  show Go p e below _ (T122.setTop (mkF m 14 #[.val (.ref a1), .val (.ref b2), .val (.int (0 : Int32)), .unset, .unset, .unset, .unset, .unset] [(.int (0 : Int32)), (.int (0 : Int32))]))
  refine Go.by (fun t => XS.icmpYes X122.here hx rfl (pc0 := 14) (pc' := 19) rfl (hb hby d10_14) rfl (flt (by decide : ¬ ((0 : Int32) < (0 : Int32)))).2.2.2 (by decide) (by decide)) ?_
  show Go p e below _ (T122.setTop (mkF m 19 #[.val (.ref a1), .val (.ref b2), .val (.int (0 : Int32)), .unset, .unset, .unset, .unset, .unset] []))
  obtain ⟨t_a1, kb_a1, E_a1, F_value_a1, F_coder_a1, V_t_a1, hl_a1⟩ := S_a1.open
  obtain ⟨t_b2, kb_b2, E_b2, F_value_b2, F_coder_b2, V_t_b2, hl_b2⟩ := S_b2.open
  show Go p e below _ (T122.setTop (mkF m 19 #[.val (.ref a1), .val (.ref b2), .val (.int (0 : Int32)), .unset, .unset, .unset, .unset, .unset] []))
  refine Go.by (fun t => XS.aloadN X122.here hx rfl (hb hby d10_19) rfl rfl) ?_
  show Go p e below _ (T122.setTop (mkF m 20 #[.val (.ref a1), .val (.ref b2), .val (.int (0 : Int32)), .unset, .unset, .unset, .unset, .unset] [(.ref a1)]))
  obtain ⟨T123, X123, e123, st123⟩ := getF X122 hx hZ hown (host := "") (Or.inl (hw _ (List.mem_of_getElem? (i := 32) rfl))) Via.refl e122 F_value_a1 (g := (mkF m 20 #[.val (.ref a1), .val (.ref b2), .val (.int (0 : Int32)), .unset, .unset, .unset, .unset, .unset] [(.ref a1)])) rfl rfl (hb hby d10_20)
  refine Go.by (fun t => st123 t) ?_
  show Go p e below _ (T123.setTop (mkF m 23 #[.val (.ref a1), .val (.ref b2), .val (.int (0 : Int32)), .unset, .unset, .unset, .unset, .unset] [(.ref t_a1)]))
  show Go p e below _ (T123.setTop (mkF m 23 #[.val (.ref a1), .val (.ref b2), .val (.int (0 : Int32)), .unset, .unset, .unset, .unset, .unset] [(.ref t_a1)]))
  refine Go.by (fun t => XS.astoreN X123.here hx rfl (hb hby d10_23) rfl rfl (l' := #[.val (.ref a1), .val (.ref b2), .val (.int (0 : Int32)), .val (.ref t_a1), .unset, .unset, .unset, .unset]) rfl) ?_
  show Go p e below _ (T123.setTop (mkF m 24 #[.val (.ref a1), .val (.ref b2), .val (.int (0 : Int32)), .val (.ref t_a1), .unset, .unset, .unset, .unset] []))
  refine Go.by (fun t => XS.aloadN X123.here hx rfl (hb hby d10_24) rfl rfl) ?_
  show Go p e below _ (T123.setTop (mkF m 25 #[.val (.ref a1), .val (.ref b2), .val (.int (0 : Int32)), .val (.ref t_a1), .unset, .unset, .unset, .unset] [(.ref b2)]))
  obtain ⟨T124, X124, e124, st124⟩ := getF X123 hx hZ hown (host := "") (Or.inl (hw _ (List.mem_of_getElem? (i := 32) rfl))) Via.refl e123 F_value_b2 (g := (mkF m 25 #[.val (.ref a1), .val (.ref b2), .val (.int (0 : Int32)), .val (.ref t_a1), .unset, .unset, .unset, .unset] [(.ref b2)])) rfl rfl (hb hby d10_25)
  refine Go.by (fun t => st124 t) ?_
  show Go p e below _ (T124.setTop (mkF m 28 #[.val (.ref a1), .val (.ref b2), .val (.int (0 : Int32)), .val (.ref t_a1), .unset, .unset, .unset, .unset] [(.ref t_b2)]))
  show Go p e below _ (T124.setTop (mkF m 28 #[.val (.ref a1), .val (.ref b2), .val (.int (0 : Int32)), .val (.ref t_a1), .unset, .unset, .unset, .unset] [(.ref t_b2)]))
  refine Go.by (fun t => XS.astore X124.here hx rfl (hb hby d10_28) rfl rfl (l' := #[.val (.ref a1), .val (.ref b2), .val (.int (0 : Int32)), .val (.ref t_a1), .val (.ref t_b2), .unset, .unset, .unset]) rfl) ?_
  show Go p e below _ (T124.setTop (mkF m 30 #[.val (.ref a1), .val (.ref b2), .val (.int (0 : Int32)), .val (.ref t_a1), .val (.ref t_b2), .unset, .unset, .unset] []))
  refine Go.by (fun t => XS.iconst X124.here hx rfl (hb hby d10_30)) ?_
  show Go p e below _ (T124.setTop (mkF m 31 #[.val (.ref a1), .val (.ref b2), .val (.int (0 : Int32)), .val (.ref t_a1), .val (.ref t_b2), .unset, .unset, .unset] [(.int (0 : Int32))]))
  refine Go.by (fun t => XS.istore X124.here hx rfl (hb hby d10_31) rfl (l' := #[.val (.ref a1), .val (.ref b2), .val (.int (0 : Int32)), .val (.ref t_a1), .val (.ref t_b2), .val (.int (0 : Int32)), .unset, .unset]) rfl) ?_
  show Go p e below _ (T124.setTop (mkF m 33 #[.val (.ref a1), .val (.ref b2), .val (.int (0 : Int32)), .val (.ref t_a1), .val (.ref t_b2), .val (.int (0 : Int32)), .unset, .unset] []))
  refine Go.by (fun t => XS.aload X124.here hx rfl (hb hby d10_33) rfl rfl) ?_
  show Go p e below _ (T124.setTop (mkF m 35 #[.val (.ref a1), .val (.ref b2), .val (.int (0 : Int32)), .val (.ref t_a1), .val (.ref t_b2), .val (.int (0 : Int32)), .unset, .unset] [(.ref t_b2)]))
  obtain ⟨cl_125, Ar_125, q_125, S_125, M_125, -, -⟩ := id V_t_b2
  refine Go.by (fun t => X124.arraylength hx (by rw [e124]; exact Ar_125.1) (State.isArrayOf_alike hZ.alike Ar_125.2.1) (g := (mkF m 35 #[.val (.ref a1), .val (.ref b2), .val (.int (0 : Int32)), .val (.ref t_a1), .val (.ref t_b2), .val (.int (0 : Int32)), .unset, .unset] [(.ref t_b2)])) rfl rfl (hb hby d10_35) t) ?_
  rw [len_of S_125 M_125]
  show Go p e below _ (T124.setTop (mkF m 36 #[.val (.ref a1), .val (.ref b2), .val (.int (0 : Int32)), .val (.ref t_a1), .val (.ref t_b2), .val (.int (0 : Int32)), .unset, .unset] [(.int (1 : Int32))]))
  show Go p e below _ (T124.setTop (mkF m 36 #[.val (.ref a1), .val (.ref b2), .val (.int (0 : Int32)), .val (.ref t_a1), .val (.ref t_b2), .val (.int (0 : Int32)), .unset, .unset] [(.int (1 : Int32))]))
  refine Go.by (fun t => XS.istore X124.here hx rfl (hb hby d10_36) rfl (l' := #[.val (.ref a1), .val (.ref b2), .val (.int (0 : Int32)), .val (.ref t_a1), .val (.ref t_b2), .val (.int (0 : Int32)), .val (.int (1 : Int32)), .unset]) rfl) ?_
  show Go p e below _ (T124.setTop (mkF m 38 #[.val (.ref a1), .val (.ref b2), .val (.int (0 : Int32)), .val (.ref t_a1), .val (.ref t_b2), .val (.int (0 : Int32)), .val (.int (1 : Int32)), .unset] []))
  refine Go.by (fun t => XS.aloadN X124.here hx rfl (hb hby d10_38) rfl rfl) ?_
  show Go p e below _ (T124.setTop (mkF m 39 #[.val (.ref a1), .val (.ref b2), .val (.int (0 : Int32)), .val (.ref t_a1), .val (.ref t_b2), .val (.int (0 : Int32)), .val (.int (1 : Int32)), .unset] [(.ref a1)]))
  obtain ⟨cq126, kq126, q126a, q126b, q126c⟩ := isOf hZ e124 E_a1
  obtain ⟨_, _, ⟨T126, L126, k126, n126⟩, -, X126, ⟨Lc126, hQ126, l126, y126, z126⟩, st126⟩ := X124.virtualBack hx (y := (⟨"java/lang/String", "coder", "()B"⟩ : MethodName)) (z := (⟨"java/lang/String", "coder", "()B"⟩ : MethodName)) hown (mvT hZ (hw _ (List.mem_of_getElem? (i := 56) rfl))) (mvT hZ (hw _ (List.mem_of_getElem? (i := 57) rfl))) (notFace_of_selects (args := #[]) (mvT hZ (hw _ (List.mem_of_getElem? (i := 59) rfl)))) (mvT hZ (hw _ (List.mem_of_getElem? (i := 59) rfl))) (mvT hZ (hw _ (List.mem_of_getElem? (i := 58) rfl))) (by decide) (backOf (W := 0) (rm12 l Z a0 hw [] a1 G1 h0 n0 Od O2 P5 F_coder_a1) hZ (hw _ (List.mem_of_getElem? (i := 60) rfl)) (hw _ (List.mem_of_getElem? (i := 6) rfl)) (by decide) (by decide)) q126a q126c (g := (mkF m 39 #[.val (.ref a1), .val (.ref b2), .val (.int (0 : Int32)), .val (.ref t_a1), .val (.ref t_b2), .val (.int (0 : Int32)), .val (.int (1 : Int32)), .unset] [(.ref a1)])) rfl (by rw [hml]; rfl) (Steps.refl _) (argsL := []) (rest := []) (lenOf pd_12 rfl) rfl (by show 2 * 0 + _ ≤ _; exact Nat.le_of_eq rfl) (hb hby d10_39) (fun _ _ => ⟨rfl, e124, (by decide : 0 + 0 ≤ _), (by decide : 0 + 0 ≤ _)⟩)
  dsimp only [Pt.U, Pt.locs, Pt.cells, Pt.slots] at X126 l126 y126 z126 st126 hQ126
  subst l126 y126 z126
  obtain ⟨rfl, Nq126, e126⟩ := hQ126
  have N126 := Fr.app N122 Nq126
  refine Go.by (fun t => st126.trans) ?_
  show Go p e below _ (T126.setTop (mkF m 42 #[.val (.ref a1), .val (.ref b2), .val (.int (0 : Int32)), .val (.ref t_a1), .val (.ref t_b2), .val (.int (0 : Int32)), .val (.int (1 : Int32)), .unset] [(.int (0 : Int32))]))
  show Go p e below _ (T126.setTop (mkF m 42 #[.val (.ref a1), .val (.ref b2), .val (.int (0 : Int32)), .val (.ref t_a1), .val (.ref t_b2), .val (.int (0 : Int32)), .val (.int (1 : Int32)), .unset] [(.int (0 : Int32))]))
  refine Go.by (fun t => XS.istore X126.here hx rfl (hb hby d10_42) rfl (l' := #[.val (.ref a1), .val (.ref b2), .val (.int (0 : Int32)), .val (.ref t_a1), .val (.ref t_b2), .val (.int (0 : Int32)), .val (.int (1 : Int32)), .val (.int (0 : Int32))]) rfl) ?_
  show Go p e below _ (T126.setTop (mkF m 44 #[.val (.ref a1), .val (.ref b2), .val (.int (0 : Int32)), .val (.ref t_a1), .val (.ref t_b2), .val (.int (0 : Int32)), .val (.int (1 : Int32)), .val (.int (0 : Int32))] []))
  refine Go.by (fun t => XS.iload X126.here hx rfl (hb hby d10_44) rfl ) ?_
  show Go p e below _ (T126.setTop (mkF m 46 #[.val (.ref a1), .val (.ref b2), .val (.int (0 : Int32)), .val (.ref t_a1), .val (.ref t_b2), .val (.int (0 : Int32)), .val (.int (1 : Int32)), .val (.int (0 : Int32))] [(.int (0 : Int32))]))
  refine Go.by (fun t => XS.aloadN X126.here hx rfl (hb hby d10_46) rfl rfl) ?_
  show Go p e below _ (T126.setTop (mkF m 47 #[.val (.ref a1), .val (.ref b2), .val (.int (0 : Int32)), .val (.ref t_a1), .val (.ref t_b2), .val (.int (0 : Int32)), .val (.int (1 : Int32)), .val (.int (0 : Int32))] [(.ref b2), (.int (0 : Int32))]))
  obtain ⟨cq127, kq127, q127a, q127b, q127c⟩ := isOf hZ e126 E_b2
  obtain ⟨_, _, ⟨T127, L127, k127, n127⟩, -, X127, ⟨Lc127, hQ127, l127, y127, z127⟩, st127⟩ := X126.virtualBack hx (y := (⟨"java/lang/String", "coder", "()B"⟩ : MethodName)) (z := (⟨"java/lang/String", "coder", "()B"⟩ : MethodName)) hown (mvT hZ (hw _ (List.mem_of_getElem? (i := 56) rfl))) (mvT hZ (hw _ (List.mem_of_getElem? (i := 57) rfl))) (notFace_of_selects (args := #[]) (mvT hZ (hw _ (List.mem_of_getElem? (i := 59) rfl)))) (mvT hZ (hw _ (List.mem_of_getElem? (i := 59) rfl))) (mvT hZ (hw _ (List.mem_of_getElem? (i := 58) rfl))) (by decide) (backOf (W := 1) (rm12 l Z a0 hw [] b2 G1 h0 n0 Od O2 P5 F_coder_b2) hZ (hw _ (List.mem_of_getElem? (i := 60) rfl)) (hw _ (List.mem_of_getElem? (i := 6) rfl)) (by decide) (by decide)) q127a q127c (g := (mkF m 47 #[.val (.ref a1), .val (.ref b2), .val (.int (0 : Int32)), .val (.ref t_a1), .val (.ref t_b2), .val (.int (0 : Int32)), .val (.int (1 : Int32)), .val (.int (0 : Int32))] [(.ref b2), (.int (0 : Int32))])) rfl (by rw [hml]; rfl) (Steps.refl _) (argsL := []) (rest := [(.int (0 : Int32))]) (lenOf pd_12 rfl) rfl (by show 2 * 0 + _ ≤ _; exact Nat.le_of_eq rfl) (hb hby d10_47) (fun _ _ => ⟨rfl, e126, (by decide : 0 + 0 ≤ _), (by decide : 0 + 0 ≤ _)⟩)
  dsimp only [Pt.U, Pt.locs, Pt.cells, Pt.slots] at X127 l127 y127 z127 st127 hQ127
  subst l127 y127 z127
  obtain ⟨rfl, Nq127, e127⟩ := hQ127
  have N127 := Fr.app N126 Nq127
  refine Go.by (fun t => st127.trans) ?_
  show Go p e below _ (T127.setTop (mkF m 50 #[.val (.ref a1), .val (.ref b2), .val (.int (0 : Int32)), .val (.ref t_a1), .val (.ref t_b2), .val (.int (0 : Int32)), .val (.int (1 : Int32)), .val (.int (0 : Int32))] [(.int (0 : Int32)), (.int (0 : Int32))]))
  refine Go.by (fun t => XS.icmpNo X127.here hx rfl (hb hby d10_50) rfl (teq (rfl : (0 : Int32) = (0 : Int32))).2) ?_
  show Go p e below _ (T127.setTop (mkF m 53 #[.val (.ref a1), .val (.ref b2), .val (.int (0 : Int32)), .val (.ref t_a1), .val (.ref t_b2), .val (.int (0 : Int32)), .val (.int (1 : Int32)), .val (.int (0 : Int32))] []))
  show Go p e below _ (T127.setTop (mkF m 53 #[.val (.ref a1), .val (.ref b2), .val (.int (0 : Int32)), .val (.ref t_a1), .val (.ref t_b2), .val (.int (0 : Int32)), .val (.int (1 : Int32)), .val (.int (0 : Int32))] []))
  refine Go.by (fun t => XS.iload X127.here hx rfl (hb hby d10_53) rfl ) ?_
  show Go p e below _ (T127.setTop (mkF m 55 #[.val (.ref a1), .val (.ref b2), .val (.int (0 : Int32)), .val (.ref t_a1), .val (.ref t_b2), .val (.int (0 : Int32)), .val (.int (1 : Int32)), .val (.int (0 : Int32))] [(.int (0 : Int32))]))
  refine Go.by (fun t => XS.iconst X127.here hx rfl (hb hby d10_55)) ?_
  show Go p e below _ (T127.setTop (mkF m 56 #[.val (.ref a1), .val (.ref b2), .val (.int (0 : Int32)), .val (.ref t_a1), .val (.ref t_b2), .val (.int (0 : Int32)), .val (.int (1 : Int32)), .val (.int (0 : Int32))] [(.int (1 : Int32)), (.int (0 : Int32))]))
  refine Go.by (fun t => XS.icmpYes X127.here hx rfl (pc0 := 56) (pc' := 63) rfl (hb hby d10_56) rfl (feq (by decide : ¬ ((0 : Int32) = (1 : Int32)))).2 (by decide) (by decide)) ?_
  show Go p e below _ (T127.setTop (mkF m 63 #[.val (.ref a1), .val (.ref b2), .val (.int (0 : Int32)), .val (.ref t_a1), .val (.ref t_b2), .val (.int (0 : Int32)), .val (.int (1 : Int32)), .val (.int (0 : Int32))] []))
  show Go p e below _ (T127.setTop (mkF m 63 #[.val (.ref a1), .val (.ref b2), .val (.int (0 : Int32)), .val (.ref t_a1), .val (.ref t_b2), .val (.int (0 : Int32)), .val (.int (1 : Int32)), .val (.int (0 : Int32))] []))
  refine Go.by (fun t => XS.aloadN X127.here hx rfl (hb hby d10_63) rfl rfl) ?_
  show Go p e below _ (T127.setTop (mkF m 64 #[.val (.ref a1), .val (.ref b2), .val (.int (0 : Int32)), .val (.ref t_a1), .val (.ref t_b2), .val (.int (0 : Int32)), .val (.int (1 : Int32)), .val (.int (0 : Int32))] [(.ref t_a1)]))
  refine Go.by (fun t => XS.iloadN X127.here hx rfl (hb hby d10_64) rfl ) ?_
  show Go p e below _ (T127.setTop (mkF m 65 #[.val (.ref a1), .val (.ref b2), .val (.int (0 : Int32)), .val (.ref t_a1), .val (.ref t_b2), .val (.int (0 : Int32)), .val (.int (1 : Int32)), .val (.int (0 : Int32))] [(.int (0 : Int32)), (.ref t_a1)]))
  refine Go.by (fun t => XS.aload X127.here hx rfl (hb hby d10_65) rfl rfl) ?_
  show Go p e below _ (T127.setTop (mkF m 67 #[.val (.ref a1), .val (.ref b2), .val (.int (0 : Int32)), .val (.ref t_a1), .val (.ref t_b2), .val (.int (0 : Int32)), .val (.int (1 : Int32)), .val (.int (0 : Int32))] [(.ref t_b2), (.int (0 : Int32)), (.ref t_a1)]))
  refine Go.by (fun t => XS.iconst X127.here hx rfl (hb hby d10_67)) ?_
  show Go p e below _ (T127.setTop (mkF m 68 #[.val (.ref a1), .val (.ref b2), .val (.int (0 : Int32)), .val (.ref t_a1), .val (.ref t_b2), .val (.int (0 : Int32)), .val (.int (1 : Int32)), .val (.int (0 : Int32))] [(.int (0 : Int32)), (.ref t_b2), (.int (0 : Int32)), (.ref t_a1)]))
  refine Go.by (fun t => XS.iload X127.here hx rfl (hb hby d10_68) rfl ) ?_
  show Go p e below _ (T127.setTop (mkF m 70 #[.val (.ref a1), .val (.ref b2), .val (.int (0 : Int32)), .val (.ref t_a1), .val (.ref t_b2), .val (.int (0 : Int32)), .val (.int (1 : Int32)), .val (.int (0 : Int32))] [(.int (1 : Int32)), (.int (0 : Int32)), (.ref t_b2), (.int (0 : Int32)), (.ref t_a1)]))
  obtain ⟨_, _, ⟨T128, L128, k128, n128⟩, -, X128, ⟨Lc128, hQ128, l128, y128, z128⟩, st128⟩ := Jvm.LawKit.callS X127 hx (y := (⟨"jdk/internal/util/ArraysSupport", "mismatch", "([BI[BII)I"⟩ : MethodName)) hown (mvT hZ (hw _ (List.mem_of_getElem? (i := 61) rfl))) (mvT hZ (hw _ (List.mem_of_getElem? (i := 62) rfl))) (mvT hZ (hw _ (List.mem_of_getElem? (i := 63) rfl))) (mvT hZ (hw _ (List.mem_of_getElem? (i := 64) rfl))) (by decide) (backOf (W := 0) (rm13 l Z a0 hw [] t_a1 t_b2 _ _ _ _ _ _ _ _ h0 n0 (by show (0 : Int32) < (1 : Int32); decide) (by show (0 : Int32) < (1 : Int32); decide) V_t_a1 V_t_b2) hZ (hw _ (List.mem_of_getElem? (i := 64) rfl)) (hw _ (List.mem_of_getElem? (i := 63) rfl)) (by decide) (by decide)) (g := (mkF m 70 #[.val (.ref a1), .val (.ref b2), .val (.int (0 : Int32)), .val (.ref t_a1), .val (.ref t_b2), .val (.int (0 : Int32)), .val (.int (1 : Int32)), .val (.int (0 : Int32))] [(.int (1 : Int32)), (.int (0 : Int32)), (.ref t_b2), (.int (0 : Int32)), (.ref t_a1)])) rfl (by rw [hml]; rfl) (argsL := [(.ref t_a1), (.int (0 : Int32)), (.ref t_b2), (.int (0 : Int32)), (.int (1 : Int32))]) (rest := []) (lenOf pd_13 rfl) rfl (by show 2 * 0 + _ ≤ _; exact Nat.le_of_eq rfl) (hb hby d10_70) (fun _ _ => ⟨rfl, e127, (by decide : 0 + 0 ≤ _), (by decide : 0 + 0 ≤ _)⟩)
  dsimp only [Pt.U, Pt.locs, Pt.cells, Pt.slots] at X128 l128 y128 z128 st128 hQ128
  subst l128 y128 z128
  obtain ⟨hv128, Nq128, e128⟩ := hQ128
  by_cases hq : c0.toInt8.toInt32 = (95 : Int32).toInt8.toInt32
  ·
    rw [if_pos hq] at hv128
    subst hv128
    have N128 := Fr.app N127 Nq128
    refine Go.by (fun t => st128 t) ?_
    show Go p e below _ (T128.setTop (mkF m 73 #[.val (.ref a1), .val (.ref b2), .val (.int (0 : Int32)), .val (.ref t_a1), .val (.ref t_b2), .val (.int (0 : Int32)), .val (.int (1 : Int32)), .val (.int (0 : Int32))] [(.int (-1 : Int32))]))
    refine Go.by (fun t => XS.ifNo X128.here hx rfl (hb hby d10_73) rfl ((if0 _ _).trans (tlt (by decide : (-1 : Int32) < (0 : Int32))).2.1)) ?_
    show Go p e below _ (T128.setTop (mkF m 76 #[.val (.ref a1), .val (.ref b2), .val (.int (0 : Int32)), .val (.ref t_a1), .val (.ref t_b2), .val (.int (0 : Int32)), .val (.int (1 : Int32)), .val (.int (0 : Int32))] []))
    show Go p e below _ (T128.setTop (mkF m 76 #[.val (.ref a1), .val (.ref b2), .val (.int (0 : Int32)), .val (.ref t_a1), .val (.ref t_b2), .val (.int (0 : Int32)), .val (.int (1 : Int32)), .val (.int (0 : Int32))] []))
    refine Go.by (fun t => XS.iconst X128.here hx rfl (hb hby d10_76)) ?_
    show Go p e below _ (T128.setTop (mkF m 77 #[.val (.ref a1), .val (.ref b2), .val (.int (0 : Int32)), .val (.ref t_a1), .val (.ref t_b2), .val (.int (0 : Int32)), .val (.int (1 : Int32)), .val (.int (0 : Int32))] [(.int (1 : Int32))]))
    refine Go.by (fun t => XS.goto X128.here hx rfl (pc0 := 77) (pc' := 81) rfl (hb hby d10_77) (by decide) (by decide)) ?_
    show Go p e below _ (T128.setTop (mkF m 81 #[.val (.ref a1), .val (.ref b2), .val (.int (0 : Int32)), .val (.ref t_a1), .val (.ref t_b2), .val (.int (0 : Int32)), .val (.int (1 : Int32)), .val (.int (0 : Int32))] [(.int (1 : Int32))]))
    exact Go.ret1 X128 hx Bd.returns Bd.notSynchronized (by first | rfl | decide) (Or.inl ⟨rfl, by simp, _, rfl⟩) (hb hby d10_81) (by decide) (by decide) (by first | (rw [e128]; exact ⟨by rw [if_pos (lo8_inj95 ⟨hb0, hl_a1 _ (List.mem_cons_self ..)⟩ hq)], N128, rfl⟩) | exact ⟨by rw [if_pos (lo8_inj95 ⟨hb0, hl_a1 _ (List.mem_cons_self ..)⟩ hq)], N128, rfl⟩)
  ·
    rw [if_neg hq] at hv128
    subst hv128
    have N128 := Fr.app N127 Nq128
    refine Go.by (fun t => st128 t) ?_
    show Go p e below _ (T128.setTop (mkF m 73 #[.val (.ref a1), .val (.ref b2), .val (.int (0 : Int32)), .val (.ref t_a1), .val (.ref t_b2), .val (.int (0 : Int32)), .val (.int (1 : Int32)), .val (.int (0 : Int32))] [(.int (0 : Int32))]))
    refine Go.by (fun t => XS.ifYes X128.here hx rfl (pc0 := 73) (pc' := 80) rfl (hb hby d10_73) rfl ((if0 _ _).trans (flt (by decide : ¬ ((0 : Int32) < (0 : Int32)))).2.1) (by decide) (by decide)) ?_
    show Go p e below _ (T128.setTop (mkF m 80 #[.val (.ref a1), .val (.ref b2), .val (.int (0 : Int32)), .val (.ref t_a1), .val (.ref t_b2), .val (.int (0 : Int32)), .val (.int (1 : Int32)), .val (.int (0 : Int32))] []))
    show Go p e below _ (T128.setTop (mkF m 80 #[.val (.ref a1), .val (.ref b2), .val (.int (0 : Int32)), .val (.ref t_a1), .val (.ref t_b2), .val (.int (0 : Int32)), .val (.int (1 : Int32)), .val (.int (0 : Int32))] []))
    refine Go.by (fun t => XS.iconst X128.here hx rfl (hb hby d10_80)) ?_
    show Go p e below _ (T128.setTop (mkF m 81 #[.val (.ref a1), .val (.ref b2), .val (.int (0 : Int32)), .val (.ref t_a1), .val (.ref t_b2), .val (.int (0 : Int32)), .val (.int (1 : Int32)), .val (.int (0 : Int32))] [(.int (0 : Int32))]))
    exact Go.ret1 X128 hx Bd.returns Bd.notSynchronized (by first | rfl | decide) (Or.inl ⟨rfl, by simp, _, rfl⟩) (hb hby d10_81) (by decide) (by decide) (by first | (rw [e128]; exact ⟨by rw [if_neg (fun z => hq (by rw [z]))], N128, rfl⟩) | exact ⟨by rw [if_neg (fun z => hq (by rw [z]))], N128, rfl⟩)
def Q_rmSW1_1 (Z : State) (a1 b2 : Addr) (c0 : Int32) (G1 : Int32) (h0 : Heap) (n0 : Nat) : Option Value → Heap → List Loc → Prop := fun v h L => v = some (.int (if c0 = 95 then 1 else 0)) ∧ Fr n0 L ∧ h = h0
set_option maxRecDepth 65536 in
set_option maxHeartbeats 40000000 in
theorem rmSW1_1 (l : Launch) (Z : State) (a0 : Array Value) (hw : ∀ d ∈ tables_1, d.before a0 Z = true) (ws : List Jvm.Cond) (a1 b2 : Addr) (c0 : Int32) (G1 : Int32) (h0 : Heap) (n0 : Nat) (Od : Old Z n0 h0) (O2 : Sta Z Z.heap "java/lang/String" "COMPACT_STRINGS" "Z" (.int G1)) (P5 : ¬ (G1 = (0 : Int32))) (S_a1 : StrAt Z h0 a1 [c0]) (S_b2 : StrAt Z h0 b2 [95]) (hb0 : ¬ c0 < 0) :
    MetFree l (⟨"java/lang/String", "startsWith", "(Ljava/lang/String;)Z"⟩ : MethodName) (head1 (Jvm.Cond.code (⟨"java/lang/String", "startsWith", "(Ljava/lang/String;)Z"⟩ : MethodName) jdk_42_method_76_code 2 (some .boolean) :: ws) ({ frames := 3, cells := 0, slots := 0, locals := 59 } : Room)) (fun a U => a = #[(.ref a1), (.ref b2)] ∧ Z.Warmed39 U.vm ∧ U.heap = h0) (fun _ _ _ _ _ => True) (fun _ U o U' => ∃ v L, o = .returned v ∧ Q_rmSW1_1 Z a1 b2 c0 G1 h0 n0 v U'.heap L ∧ FrameEnd U o U' L ({ frames := 3, cells := 0, slots := 0, locals := 59 } : Room).cells ({ frames := 3, cells := 0, slots := 0, locals := 59 } : Room).slots) := by
  refine MetFree.of_bodySF (plainFor_of_name pn_1) hisR ?_
  intro p e s m args below meth c s₁ Bd hml0 hP hK
  obtain ⟨rfl, hZ, hh⟩ := hP
  have hx := Bd.exec
  have hby := Bd.bytes
  have hml : c.maxLocals = 2 := hml0
  have hown : s.vm.findClass "java/lang/String" = some m.cls := findClass_of_methodNamed Bd.named
  have hnm := (name_of_methodNamed Bd.named Bd.method).1
  have X0 : Stand p l e ({ frames := 3, cells := 0, slots := 0, locals := 59 } : Room) s m #[(.ref a1), (.ref b2)] below meth c s₁ [] 0 0 := Stand.of_body Bd
  have e0 : s₁.heap = h0 := by rw [← hh, Bd.state]; rfl
  have N0 := Fr.nil n0
  have ef : entryFrame m #[(.ref a1), (.ref b2)] 2 = (mkF m 0 #[.val (.ref a1), .val (.ref b2)] []) := by first | rfl | (simp [entryFrame, mkF, argsToLocals, Value.category, maxLocals]; done)
  show Go p e below (End (fun v h L => v = some (.int (if c0 = 95 then 1 else 0)) ∧ Fr n0 L ∧ h = h0) s 0 0) (s₁.setTop (entryFrame m #[(.ref a1), (.ref b2)] 2))
  rw [ef]
  show Go p e below _ (s₁.setTop (mkF m 0 #[.val (.ref a1), .val (.ref b2)] []))
  show Go p e below _ (s₁.setTop (mkF m 0 #[.val (.ref a1), .val (.ref b2)] []))
  refine Go.by (fun t => XS.aloadN X0.here hx rfl (hb hby d9_0) rfl rfl) ?_
  show Go p e below _ (s₁.setTop (mkF m 1 #[.val (.ref a1), .val (.ref b2)] [(.ref a1)]))
  refine Go.by (fun t => XS.aloadN X0.here hx rfl (hb hby d9_1) rfl rfl) ?_
  show Go p e below _ (s₁.setTop (mkF m 2 #[.val (.ref a1), .val (.ref b2)] [(.ref b2), (.ref a1)]))
  refine Go.by (fun t => XS.iconst X0.here hx rfl (hb hby d9_2)) ?_
  show Go p e below _ (s₁.setTop (mkF m 3 #[.val (.ref a1), .val (.ref b2)] [(.int (0 : Int32)), (.ref b2), (.ref a1)]))
  obtain ⟨cq129, kq129, q129a, q129b, q129c⟩ := isOf hZ e0 S_a1.exa
  obtain ⟨_, _, ⟨T129, L129, k129, n129⟩, -, X129, ⟨Lc129, hQ129, l129, y129, z129⟩, st129⟩ := X0.virtualBack hx (y := (⟨"java/lang/String", "startsWith", "(Ljava/lang/String;I)Z"⟩ : MethodName)) (z := (⟨"java/lang/String", "startsWith", "(Ljava/lang/String;I)Z"⟩ : MethodName)) hown (mvT hZ (hw _ (List.mem_of_getElem? (i := 46) rfl))) (mvT hZ (hw _ (List.mem_of_getElem? (i := 47) rfl))) (notFace_of_selects (args := #[]) (mvT hZ (hw _ (List.mem_of_getElem? (i := 49) rfl)))) (mvT hZ (hw _ (List.mem_of_getElem? (i := 49) rfl))) (mvT hZ (hw _ (List.mem_of_getElem? (i := 48) rfl))) (by decide) (backOf (W := 0) (rmSW2_1 l Z a0 hw [] a1 b2 c0 G1 h0 n0 Od O2 P5 S_a1 S_b2 hb0) hZ (hw _ (List.mem_of_getElem? (i := 50) rfl)) (hw _ (List.mem_of_getElem? (i := 6) rfl)) (by decide) (by decide)) q129a q129c (g := (mkF m 3 #[.val (.ref a1), .val (.ref b2)] [(.int (0 : Int32)), (.ref b2), (.ref a1)])) rfl (by rw [hml]; rfl) (Steps.refl _) (argsL := [(.ref b2), (.int (0 : Int32))]) (rest := []) (lenOf pd_10 rfl) rfl (by show 2 * 0 + _ ≤ _; exact Nat.le_of_eq rfl) (hb hby d9_3) (fun _ _ => ⟨rfl, e0, (by decide : 0 + 0 ≤ _), (by decide : 0 + 0 ≤ _)⟩)
  dsimp only [Pt.U, Pt.locs, Pt.cells, Pt.slots] at X129 l129 y129 z129 st129 hQ129
  subst l129 y129 z129
  obtain ⟨hv129, Nq129, e129⟩ := hQ129
  by_cases hq : c0 = 95
  ·
    rw [if_pos hq] at hv129
    subst hv129
    have N129 := Fr.app N0 Nq129
    refine Go.by (fun t => st129.trans) ?_
    show Go p e below _ (T129.setTop (mkF m 6 #[.val (.ref a1), .val (.ref b2)] [(.int (1 : Int32))]))
    show Go p e below _ (T129.setTop (mkF m 6 #[.val (.ref a1), .val (.ref b2)] [(.int (1 : Int32))]))
    exact Go.ret1 X129 hx Bd.returns Bd.notSynchronized (by first | rfl | decide) (Or.inl ⟨rfl, by simp, _, rfl⟩) (hb hby d9_6) (by decide) (by decide) (by first | (rw [e129]; exact ⟨by rw [if_pos hq], N129, rfl⟩) | exact ⟨by rw [if_pos hq], N129, rfl⟩)
  ·
    rw [if_neg hq] at hv129
    subst hv129
    have N129 := Fr.app N0 Nq129
    refine Go.by (fun t => st129.trans) ?_
    show Go p e below _ (T129.setTop (mkF m 6 #[.val (.ref a1), .val (.ref b2)] [(.int (0 : Int32))]))
    show Go p e below _ (T129.setTop (mkF m 6 #[.val (.ref a1), .val (.ref b2)] [(.int (0 : Int32))]))
    exact Go.ret1 X129 hx Bd.returns Bd.notSynchronized (by first | rfl | decide) (Or.inl ⟨rfl, by simp, _, rfl⟩) (hb hby d9_6) (by decide) (by decide) (by first | (rw [e129]; exact ⟨by rw [if_neg hq], N129, rfl⟩) | exact ⟨by rw [if_neg hq], N129, rfl⟩)
def Q_rmSW2_2 (Z : State) (a1 b2 : Addr) (c0 c1 : Int32) (G1 : Int32) (h0 : Heap) (n0 : Nat) : Option Value → Heap → List Loc → Prop := fun v h L => v = some (.int (if c0 = 95 then 1 else 0)) ∧ Fr n0 L ∧ h = h0
set_option maxRecDepth 65536 in
set_option maxHeartbeats 40000000 in
theorem rmSW2_2 (l : Launch) (Z : State) (a0 : Array Value) (hw : ∀ d ∈ tables_1, d.before a0 Z = true) (ws : List Jvm.Cond) (a1 b2 : Addr) (c0 c1 : Int32) (G1 : Int32) (h0 : Heap) (n0 : Nat) (Od : Old Z n0 h0) (O2 : Sta Z Z.heap "java/lang/String" "COMPACT_STRINGS" "Z" (.int G1)) (P5 : ¬ (G1 = (0 : Int32))) (S_a1 : StrAt Z h0 a1 [c0, c1]) (S_b2 : StrAt Z h0 b2 [95]) (hb0 : ¬ c0 < 0) :
    MetFree l (⟨"java/lang/String", "startsWith", "(Ljava/lang/String;I)Z"⟩ : MethodName) (head1 (Jvm.Cond.code (⟨"java/lang/String", "startsWith", "(Ljava/lang/String;I)Z"⟩ : MethodName) jdk_42_method_75_code 8 (some .boolean) :: ws) ({ frames := 2, cells := 0, slots := 0, locals := 40 } : Room)) (fun a U => a = #[(.ref a1), (.ref b2), (.int (0 : Int32))] ∧ Z.Warmed39 U.vm ∧ U.heap = h0) (fun _ _ _ _ _ => True) (fun _ U o U' => ∃ v L, o = .returned v ∧ Q_rmSW2_2 Z a1 b2 c0 c1 G1 h0 n0 v U'.heap L ∧ FrameEnd U o U' L ({ frames := 2, cells := 0, slots := 0, locals := 40 } : Room).cells ({ frames := 2, cells := 0, slots := 0, locals := 40 } : Room).slots) := by
  refine MetFree.of_bodySF (plainFor_of_name pn_1) hisR ?_
  intro p e s m args below meth c s₁ Bd hml0 hP hK
  obtain ⟨rfl, hZ, hh⟩ := hP
  have hx := Bd.exec
  have hby := Bd.bytes
  have hml : c.maxLocals = 8 := hml0
  have hown : s.vm.findClass "java/lang/String" = some m.cls := findClass_of_methodNamed Bd.named
  have hnm := (name_of_methodNamed Bd.named Bd.method).1
  have X0 : Stand p l e ({ frames := 2, cells := 0, slots := 0, locals := 40 } : Room) s m #[(.ref a1), (.ref b2), (.int (0 : Int32))] below meth c s₁ [] 0 0 := Stand.of_body Bd
  have e0 : s₁.heap = h0 := by rw [← hh, Bd.state]; rfl
  have N0 := Fr.nil n0
  have hln : ∀ d ∈ StrChars.Road.wordsLen, d.before a0 Z = true := fun d hd => hw d ((by decide +kernel : ∀ d ∈ StrChars.Road.wordsLen, d ∈ tables_1) d hd)
  have ef : entryFrame m #[(.ref a1), (.ref b2), (.int (0 : Int32))] 8 = (mkF m 0 #[.val (.ref a1), .val (.ref b2), .val (.int (0 : Int32)), .unset, .unset, .unset, .unset, .unset] []) := by first | rfl | (simp [entryFrame, mkF, argsToLocals, Value.category, maxLocals]; done)
  show Go p e below (End (fun v h L => v = some (.int (if c0 = 95 then 1 else 0)) ∧ Fr n0 L ∧ h = h0) s 0 0) (s₁.setTop (entryFrame m #[(.ref a1), (.ref b2), (.int (0 : Int32))] 8))
  rw [ef]
  show Go p e below _ (s₁.setTop (mkF m 0 #[.val (.ref a1), .val (.ref b2), .val (.int (0 : Int32)), .unset, .unset, .unset, .unset, .unset] []))
  show Go p e below _ (s₁.setTop (mkF m 0 #[.val (.ref a1), .val (.ref b2), .val (.int (0 : Int32)), .unset, .unset, .unset, .unset, .unset] []))
  refine Go.by (fun t => XS.iloadN X0.here hx rfl (hb hby d10_0) rfl ) ?_
  show Go p e below _ (s₁.setTop (mkF m 1 #[.val (.ref a1), .val (.ref b2), .val (.int (0 : Int32)), .unset, .unset, .unset, .unset, .unset] [(.int (0 : Int32))]))
  refine Go.by (fun t => XS.ifNo X0.here hx rfl (hb hby d10_1) rfl ((if0 _ _).trans (flt (by decide : ¬ ((0 : Int32) < (0 : Int32)))).1)) ?_
  show Go p e below _ (s₁.setTop (mkF m 4 #[.val (.ref a1), .val (.ref b2), .val (.int (0 : Int32)), .unset, .unset, .unset, .unset, .unset] []))
  show Go p e below _ (s₁.setTop (mkF m 4 #[.val (.ref a1), .val (.ref b2), .val (.int (0 : Int32)), .unset, .unset, .unset, .unset, .unset] []))
  refine Go.by (fun t => XS.iloadN X0.here hx rfl (hb hby d10_4) rfl ) ?_
  show Go p e below _ (s₁.setTop (mkF m 5 #[.val (.ref a1), .val (.ref b2), .val (.int (0 : Int32)), .unset, .unset, .unset, .unset, .unset] [(.int (0 : Int32))]))
  refine Go.by (fun t => XS.aloadN X0.here hx rfl (hb hby d10_5) rfl rfl) ?_
  show Go p e below _ (s₁.setTop (mkF m 6 #[.val (.ref a1), .val (.ref b2), .val (.int (0 : Int32)), .unset, .unset, .unset, .unset, .unset] [(.ref a1), (.int (0 : Int32))]))
  obtain ⟨cq130, kq130, q130a, q130b, q130c⟩ := isOf hZ e0 S_a1.exa
  obtain ⟨_, _, ⟨T130, L130, k130, n130⟩, -, X130, ⟨Lc130, hQ130, l130, y130, z130⟩, st130⟩ := X0.virtualBack hx (y := (⟨"java/lang/String", "length", "()I"⟩ : MethodName)) (z := (⟨"java/lang/String", "length", "()I"⟩ : MethodName)) hown (mvT hZ (hw _ (List.mem_of_getElem? (i := 51) rfl))) (mvT hZ (hw _ (List.mem_of_getElem? (i := 52) rfl))) (notFace_of_selects (args := #[]) (mvT hZ (hw _ (List.mem_of_getElem? (i := 54) rfl)))) (mvT hZ (hw _ (List.mem_of_getElem? (i := 54) rfl))) (mvT hZ (hw _ (List.mem_of_getElem? (i := 53) rfl))) (by decide) (lenS (W := 1) hZ hln (hw _ (List.mem_of_getElem? (i := 5) rfl)) S_a1 (O2.ext Od.2) P5 (by decide) (by decide)) q130a q130c (g := (mkF m 6 #[.val (.ref a1), .val (.ref b2), .val (.int (0 : Int32)), .unset, .unset, .unset, .unset, .unset] [(.ref a1), (.int (0 : Int32))])) rfl (by rw [hml]; rfl) (Steps.refl _) (argsL := []) (rest := [(.int (0 : Int32))]) (lenOf pd_11 rfl) rfl (by show 2 * 0 + _ ≤ _; exact Nat.le_of_eq rfl) (hb hby d10_6) (fun _ _ => ⟨rfl, e0, (by decide : 0 + 0 ≤ _), (by decide : 0 + 0 ≤ _)⟩)
  dsimp only [Pt.U, Pt.locs, Pt.cells, Pt.slots] at X130 l130 y130 z130 st130 hQ130
  subst l130 y130 z130
  obtain ⟨rfl, rfl, e130⟩ := hQ130
  have Nq130 : Fr n0 ([] : List Loc) := Fr.nil n0
  have N130 := Fr.app N0 Nq130
  refine Go.by (fun t => st130.trans) ?_
  show Go p e below _ (T130.setTop (mkF m 9 #[.val (.ref a1), .val (.ref b2), .val (.int (0 : Int32)), .unset, .unset, .unset, .unset, .unset] [(.int (2 : Int32)), (.int (0 : Int32))]))
  show Go p e below _ (T130.setTop (mkF m 9 #[.val (.ref a1), .val (.ref b2), .val (.int (0 : Int32)), .unset, .unset, .unset, .unset, .unset] [(.int (2 : Int32)), (.int (0 : Int32))]))
  refine Go.by (fun t => XS.aloadN X130.here hx rfl (hb hby d10_9) rfl rfl) ?_
  show Go p e below _ (T130.setTop (mkF m 10 #[.val (.ref a1), .val (.ref b2), .val (.int (0 : Int32)), .unset, .unset, .unset, .unset, .unset] [(.ref b2), (.int (2 : Int32)), (.int (0 : Int32))]))
  obtain ⟨cq131, kq131, q131a, q131b, q131c⟩ := isOf hZ e130 S_b2.exa
  obtain ⟨_, _, ⟨T131, L131, k131, n131⟩, -, X131, ⟨Lc131, hQ131, l131, y131, z131⟩, st131⟩ := X130.virtualBack hx (y := (⟨"java/lang/String", "length", "()I"⟩ : MethodName)) (z := (⟨"java/lang/String", "length", "()I"⟩ : MethodName)) hown (mvT hZ (hw _ (List.mem_of_getElem? (i := 51) rfl))) (mvT hZ (hw _ (List.mem_of_getElem? (i := 52) rfl))) (notFace_of_selects (args := #[]) (mvT hZ (hw _ (List.mem_of_getElem? (i := 54) rfl)))) (mvT hZ (hw _ (List.mem_of_getElem? (i := 54) rfl))) (mvT hZ (hw _ (List.mem_of_getElem? (i := 53) rfl))) (by decide) (lenS (W := 2) hZ hln (hw _ (List.mem_of_getElem? (i := 5) rfl)) S_b2 (O2.ext Od.2) P5 (by decide) (by decide)) q131a q131c (g := (mkF m 10 #[.val (.ref a1), .val (.ref b2), .val (.int (0 : Int32)), .unset, .unset, .unset, .unset, .unset] [(.ref b2), (.int (2 : Int32)), (.int (0 : Int32))])) rfl (by rw [hml]; rfl) (Steps.refl _) (argsL := []) (rest := [(.int (2 : Int32)), (.int (0 : Int32))]) (lenOf pd_11 rfl) rfl (by show 2 * 0 + _ ≤ _; exact Nat.le_of_eq rfl) (hb hby d10_10) (fun _ _ => ⟨rfl, e130, (by decide : 0 + 0 ≤ _), (by decide : 0 + 0 ≤ _)⟩)
  dsimp only [Pt.U, Pt.locs, Pt.cells, Pt.slots] at X131 l131 y131 z131 st131 hQ131
  subst l131 y131 z131
  obtain ⟨rfl, rfl, e131⟩ := hQ131
  have Nq131 : Fr n0 ([] : List Loc) := Fr.nil n0
  have N131 := Fr.app N130 Nq131
  refine Go.by (fun t => st131.trans) ?_
  show Go p e below _ (T131.setTop (mkF m 13 #[.val (.ref a1), .val (.ref b2), .val (.int (0 : Int32)), .unset, .unset, .unset, .unset, .unset] [(.int (1 : Int32)), (.int (2 : Int32)), (.int (0 : Int32))]))
  show Go p e below _ (T131.setTop (mkF m 13 #[.val (.ref a1), .val (.ref b2), .val (.int (0 : Int32)), .unset, .unset, .unset, .unset, .unset] [(.int (1 : Int32)), (.int (2 : Int32)), (.int (0 : Int32))]))
  refine Go.by (fun t => XS.isub X131.here hx rfl (hb hby d10_13) rfl) ?_
  show Go p e below _ (T131.setTop (mkF m 14 #[.val (.ref a1), .val (.ref b2), .val (.int (0 : Int32)), .unset, .unset, .unset, .unset, .unset] [(.int ((2 : Int32) - (1 : Int32))), (.int (0 : Int32))]))
  rw [show (2 : Int32) - (1 : Int32) = 1 from rfl]
  show Go p e below _ (T131.setTop (mkF m 14 #[.val (.ref a1), .val (.ref b2), .val (.int (0 : Int32)), .unset, .unset, .unset, .unset, .unset] [(.int (1 : Int32)), (.int (0 : Int32))]))
  refine Go.by (fun t => XS.icmpYes X131.here hx rfl (pc0 := 14) (pc' := 19) rfl (hb hby d10_14) rfl (flt (by decide : ¬ ((1 : Int32) < (0 : Int32)))).2.2.2 (by decide) (by decide)) ?_
  show Go p e below _ (T131.setTop (mkF m 19 #[.val (.ref a1), .val (.ref b2), .val (.int (0 : Int32)), .unset, .unset, .unset, .unset, .unset] []))
  obtain ⟨t_a1, kb_a1, E_a1, F_value_a1, F_coder_a1, V_t_a1, hl_a1⟩ := S_a1.open
  obtain ⟨t_b2, kb_b2, E_b2, F_value_b2, F_coder_b2, V_t_b2, hl_b2⟩ := S_b2.open
  show Go p e below _ (T131.setTop (mkF m 19 #[.val (.ref a1), .val (.ref b2), .val (.int (0 : Int32)), .unset, .unset, .unset, .unset, .unset] []))
  refine Go.by (fun t => XS.aloadN X131.here hx rfl (hb hby d10_19) rfl rfl) ?_
  show Go p e below _ (T131.setTop (mkF m 20 #[.val (.ref a1), .val (.ref b2), .val (.int (0 : Int32)), .unset, .unset, .unset, .unset, .unset] [(.ref a1)]))
  obtain ⟨T132, X132, e132, st132⟩ := getF X131 hx hZ hown (host := "") (Or.inl (hw _ (List.mem_of_getElem? (i := 32) rfl))) Via.refl e131 F_value_a1 (g := (mkF m 20 #[.val (.ref a1), .val (.ref b2), .val (.int (0 : Int32)), .unset, .unset, .unset, .unset, .unset] [(.ref a1)])) rfl rfl (hb hby d10_20)
  refine Go.by (fun t => st132 t) ?_
  show Go p e below _ (T132.setTop (mkF m 23 #[.val (.ref a1), .val (.ref b2), .val (.int (0 : Int32)), .unset, .unset, .unset, .unset, .unset] [(.ref t_a1)]))
  show Go p e below _ (T132.setTop (mkF m 23 #[.val (.ref a1), .val (.ref b2), .val (.int (0 : Int32)), .unset, .unset, .unset, .unset, .unset] [(.ref t_a1)]))
  refine Go.by (fun t => XS.astoreN X132.here hx rfl (hb hby d10_23) rfl rfl (l' := #[.val (.ref a1), .val (.ref b2), .val (.int (0 : Int32)), .val (.ref t_a1), .unset, .unset, .unset, .unset]) rfl) ?_
  show Go p e below _ (T132.setTop (mkF m 24 #[.val (.ref a1), .val (.ref b2), .val (.int (0 : Int32)), .val (.ref t_a1), .unset, .unset, .unset, .unset] []))
  refine Go.by (fun t => XS.aloadN X132.here hx rfl (hb hby d10_24) rfl rfl) ?_
  show Go p e below _ (T132.setTop (mkF m 25 #[.val (.ref a1), .val (.ref b2), .val (.int (0 : Int32)), .val (.ref t_a1), .unset, .unset, .unset, .unset] [(.ref b2)]))
  obtain ⟨T133, X133, e133, st133⟩ := getF X132 hx hZ hown (host := "") (Or.inl (hw _ (List.mem_of_getElem? (i := 32) rfl))) Via.refl e132 F_value_b2 (g := (mkF m 25 #[.val (.ref a1), .val (.ref b2), .val (.int (0 : Int32)), .val (.ref t_a1), .unset, .unset, .unset, .unset] [(.ref b2)])) rfl rfl (hb hby d10_25)
  refine Go.by (fun t => st133 t) ?_
  show Go p e below _ (T133.setTop (mkF m 28 #[.val (.ref a1), .val (.ref b2), .val (.int (0 : Int32)), .val (.ref t_a1), .unset, .unset, .unset, .unset] [(.ref t_b2)]))
  show Go p e below _ (T133.setTop (mkF m 28 #[.val (.ref a1), .val (.ref b2), .val (.int (0 : Int32)), .val (.ref t_a1), .unset, .unset, .unset, .unset] [(.ref t_b2)]))
  refine Go.by (fun t => XS.astore X133.here hx rfl (hb hby d10_28) rfl rfl (l' := #[.val (.ref a1), .val (.ref b2), .val (.int (0 : Int32)), .val (.ref t_a1), .val (.ref t_b2), .unset, .unset, .unset]) rfl) ?_
  show Go p e below _ (T133.setTop (mkF m 30 #[.val (.ref a1), .val (.ref b2), .val (.int (0 : Int32)), .val (.ref t_a1), .val (.ref t_b2), .unset, .unset, .unset] []))
  refine Go.by (fun t => XS.iconst X133.here hx rfl (hb hby d10_30)) ?_
  show Go p e below _ (T133.setTop (mkF m 31 #[.val (.ref a1), .val (.ref b2), .val (.int (0 : Int32)), .val (.ref t_a1), .val (.ref t_b2), .unset, .unset, .unset] [(.int (0 : Int32))]))
  refine Go.by (fun t => XS.istore X133.here hx rfl (hb hby d10_31) rfl (l' := #[.val (.ref a1), .val (.ref b2), .val (.int (0 : Int32)), .val (.ref t_a1), .val (.ref t_b2), .val (.int (0 : Int32)), .unset, .unset]) rfl) ?_
  show Go p e below _ (T133.setTop (mkF m 33 #[.val (.ref a1), .val (.ref b2), .val (.int (0 : Int32)), .val (.ref t_a1), .val (.ref t_b2), .val (.int (0 : Int32)), .unset, .unset] []))
  refine Go.by (fun t => XS.aload X133.here hx rfl (hb hby d10_33) rfl rfl) ?_
  show Go p e below _ (T133.setTop (mkF m 35 #[.val (.ref a1), .val (.ref b2), .val (.int (0 : Int32)), .val (.ref t_a1), .val (.ref t_b2), .val (.int (0 : Int32)), .unset, .unset] [(.ref t_b2)]))
  obtain ⟨cl_134, Ar_134, q_134, S_134, M_134, -, -⟩ := id V_t_b2
  refine Go.by (fun t => X133.arraylength hx (by rw [e133]; exact Ar_134.1) (State.isArrayOf_alike hZ.alike Ar_134.2.1) (g := (mkF m 35 #[.val (.ref a1), .val (.ref b2), .val (.int (0 : Int32)), .val (.ref t_a1), .val (.ref t_b2), .val (.int (0 : Int32)), .unset, .unset] [(.ref t_b2)])) rfl rfl (hb hby d10_35) t) ?_
  rw [len_of S_134 M_134]
  show Go p e below _ (T133.setTop (mkF m 36 #[.val (.ref a1), .val (.ref b2), .val (.int (0 : Int32)), .val (.ref t_a1), .val (.ref t_b2), .val (.int (0 : Int32)), .unset, .unset] [(.int (1 : Int32))]))
  show Go p e below _ (T133.setTop (mkF m 36 #[.val (.ref a1), .val (.ref b2), .val (.int (0 : Int32)), .val (.ref t_a1), .val (.ref t_b2), .val (.int (0 : Int32)), .unset, .unset] [(.int (1 : Int32))]))
  refine Go.by (fun t => XS.istore X133.here hx rfl (hb hby d10_36) rfl (l' := #[.val (.ref a1), .val (.ref b2), .val (.int (0 : Int32)), .val (.ref t_a1), .val (.ref t_b2), .val (.int (0 : Int32)), .val (.int (1 : Int32)), .unset]) rfl) ?_
  show Go p e below _ (T133.setTop (mkF m 38 #[.val (.ref a1), .val (.ref b2), .val (.int (0 : Int32)), .val (.ref t_a1), .val (.ref t_b2), .val (.int (0 : Int32)), .val (.int (1 : Int32)), .unset] []))
  refine Go.by (fun t => XS.aloadN X133.here hx rfl (hb hby d10_38) rfl rfl) ?_
  show Go p e below _ (T133.setTop (mkF m 39 #[.val (.ref a1), .val (.ref b2), .val (.int (0 : Int32)), .val (.ref t_a1), .val (.ref t_b2), .val (.int (0 : Int32)), .val (.int (1 : Int32)), .unset] [(.ref a1)]))
  obtain ⟨cq135, kq135, q135a, q135b, q135c⟩ := isOf hZ e133 E_a1
  obtain ⟨_, _, ⟨T135, L135, k135, n135⟩, -, X135, ⟨Lc135, hQ135, l135, y135, z135⟩, st135⟩ := X133.virtualBack hx (y := (⟨"java/lang/String", "coder", "()B"⟩ : MethodName)) (z := (⟨"java/lang/String", "coder", "()B"⟩ : MethodName)) hown (mvT hZ (hw _ (List.mem_of_getElem? (i := 56) rfl))) (mvT hZ (hw _ (List.mem_of_getElem? (i := 57) rfl))) (notFace_of_selects (args := #[]) (mvT hZ (hw _ (List.mem_of_getElem? (i := 59) rfl)))) (mvT hZ (hw _ (List.mem_of_getElem? (i := 59) rfl))) (mvT hZ (hw _ (List.mem_of_getElem? (i := 58) rfl))) (by decide) (backOf (W := 0) (rm12 l Z a0 hw [] a1 G1 h0 n0 Od O2 P5 F_coder_a1) hZ (hw _ (List.mem_of_getElem? (i := 60) rfl)) (hw _ (List.mem_of_getElem? (i := 6) rfl)) (by decide) (by decide)) q135a q135c (g := (mkF m 39 #[.val (.ref a1), .val (.ref b2), .val (.int (0 : Int32)), .val (.ref t_a1), .val (.ref t_b2), .val (.int (0 : Int32)), .val (.int (1 : Int32)), .unset] [(.ref a1)])) rfl (by rw [hml]; rfl) (Steps.refl _) (argsL := []) (rest := []) (lenOf pd_12 rfl) rfl (by show 2 * 0 + _ ≤ _; exact Nat.le_of_eq rfl) (hb hby d10_39) (fun _ _ => ⟨rfl, e133, (by decide : 0 + 0 ≤ _), (by decide : 0 + 0 ≤ _)⟩)
  dsimp only [Pt.U, Pt.locs, Pt.cells, Pt.slots] at X135 l135 y135 z135 st135 hQ135
  subst l135 y135 z135
  obtain ⟨rfl, Nq135, e135⟩ := hQ135
  have N135 := Fr.app N131 Nq135
  refine Go.by (fun t => st135.trans) ?_
  show Go p e below _ (T135.setTop (mkF m 42 #[.val (.ref a1), .val (.ref b2), .val (.int (0 : Int32)), .val (.ref t_a1), .val (.ref t_b2), .val (.int (0 : Int32)), .val (.int (1 : Int32)), .unset] [(.int (0 : Int32))]))
  show Go p e below _ (T135.setTop (mkF m 42 #[.val (.ref a1), .val (.ref b2), .val (.int (0 : Int32)), .val (.ref t_a1), .val (.ref t_b2), .val (.int (0 : Int32)), .val (.int (1 : Int32)), .unset] [(.int (0 : Int32))]))
  refine Go.by (fun t => XS.istore X135.here hx rfl (hb hby d10_42) rfl (l' := #[.val (.ref a1), .val (.ref b2), .val (.int (0 : Int32)), .val (.ref t_a1), .val (.ref t_b2), .val (.int (0 : Int32)), .val (.int (1 : Int32)), .val (.int (0 : Int32))]) rfl) ?_
  show Go p e below _ (T135.setTop (mkF m 44 #[.val (.ref a1), .val (.ref b2), .val (.int (0 : Int32)), .val (.ref t_a1), .val (.ref t_b2), .val (.int (0 : Int32)), .val (.int (1 : Int32)), .val (.int (0 : Int32))] []))
  refine Go.by (fun t => XS.iload X135.here hx rfl (hb hby d10_44) rfl ) ?_
  show Go p e below _ (T135.setTop (mkF m 46 #[.val (.ref a1), .val (.ref b2), .val (.int (0 : Int32)), .val (.ref t_a1), .val (.ref t_b2), .val (.int (0 : Int32)), .val (.int (1 : Int32)), .val (.int (0 : Int32))] [(.int (0 : Int32))]))
  refine Go.by (fun t => XS.aloadN X135.here hx rfl (hb hby d10_46) rfl rfl) ?_
  show Go p e below _ (T135.setTop (mkF m 47 #[.val (.ref a1), .val (.ref b2), .val (.int (0 : Int32)), .val (.ref t_a1), .val (.ref t_b2), .val (.int (0 : Int32)), .val (.int (1 : Int32)), .val (.int (0 : Int32))] [(.ref b2), (.int (0 : Int32))]))
  obtain ⟨cq136, kq136, q136a, q136b, q136c⟩ := isOf hZ e135 E_b2
  obtain ⟨_, _, ⟨T136, L136, k136, n136⟩, -, X136, ⟨Lc136, hQ136, l136, y136, z136⟩, st136⟩ := X135.virtualBack hx (y := (⟨"java/lang/String", "coder", "()B"⟩ : MethodName)) (z := (⟨"java/lang/String", "coder", "()B"⟩ : MethodName)) hown (mvT hZ (hw _ (List.mem_of_getElem? (i := 56) rfl))) (mvT hZ (hw _ (List.mem_of_getElem? (i := 57) rfl))) (notFace_of_selects (args := #[]) (mvT hZ (hw _ (List.mem_of_getElem? (i := 59) rfl)))) (mvT hZ (hw _ (List.mem_of_getElem? (i := 59) rfl))) (mvT hZ (hw _ (List.mem_of_getElem? (i := 58) rfl))) (by decide) (backOf (W := 1) (rm12 l Z a0 hw [] b2 G1 h0 n0 Od O2 P5 F_coder_b2) hZ (hw _ (List.mem_of_getElem? (i := 60) rfl)) (hw _ (List.mem_of_getElem? (i := 6) rfl)) (by decide) (by decide)) q136a q136c (g := (mkF m 47 #[.val (.ref a1), .val (.ref b2), .val (.int (0 : Int32)), .val (.ref t_a1), .val (.ref t_b2), .val (.int (0 : Int32)), .val (.int (1 : Int32)), .val (.int (0 : Int32))] [(.ref b2), (.int (0 : Int32))])) rfl (by rw [hml]; rfl) (Steps.refl _) (argsL := []) (rest := [(.int (0 : Int32))]) (lenOf pd_12 rfl) rfl (by show 2 * 0 + _ ≤ _; exact Nat.le_of_eq rfl) (hb hby d10_47) (fun _ _ => ⟨rfl, e135, (by decide : 0 + 0 ≤ _), (by decide : 0 + 0 ≤ _)⟩)
  dsimp only [Pt.U, Pt.locs, Pt.cells, Pt.slots] at X136 l136 y136 z136 st136 hQ136
  subst l136 y136 z136
  obtain ⟨rfl, Nq136, e136⟩ := hQ136
  have N136 := Fr.app N135 Nq136
  refine Go.by (fun t => st136.trans) ?_
  show Go p e below _ (T136.setTop (mkF m 50 #[.val (.ref a1), .val (.ref b2), .val (.int (0 : Int32)), .val (.ref t_a1), .val (.ref t_b2), .val (.int (0 : Int32)), .val (.int (1 : Int32)), .val (.int (0 : Int32))] [(.int (0 : Int32)), (.int (0 : Int32))]))
  refine Go.by (fun t => XS.icmpNo X136.here hx rfl (hb hby d10_50) rfl (teq (rfl : (0 : Int32) = (0 : Int32))).2) ?_
  show Go p e below _ (T136.setTop (mkF m 53 #[.val (.ref a1), .val (.ref b2), .val (.int (0 : Int32)), .val (.ref t_a1), .val (.ref t_b2), .val (.int (0 : Int32)), .val (.int (1 : Int32)), .val (.int (0 : Int32))] []))
  show Go p e below _ (T136.setTop (mkF m 53 #[.val (.ref a1), .val (.ref b2), .val (.int (0 : Int32)), .val (.ref t_a1), .val (.ref t_b2), .val (.int (0 : Int32)), .val (.int (1 : Int32)), .val (.int (0 : Int32))] []))
  refine Go.by (fun t => XS.iload X136.here hx rfl (hb hby d10_53) rfl ) ?_
  show Go p e below _ (T136.setTop (mkF m 55 #[.val (.ref a1), .val (.ref b2), .val (.int (0 : Int32)), .val (.ref t_a1), .val (.ref t_b2), .val (.int (0 : Int32)), .val (.int (1 : Int32)), .val (.int (0 : Int32))] [(.int (0 : Int32))]))
  refine Go.by (fun t => XS.iconst X136.here hx rfl (hb hby d10_55)) ?_
  show Go p e below _ (T136.setTop (mkF m 56 #[.val (.ref a1), .val (.ref b2), .val (.int (0 : Int32)), .val (.ref t_a1), .val (.ref t_b2), .val (.int (0 : Int32)), .val (.int (1 : Int32)), .val (.int (0 : Int32))] [(.int (1 : Int32)), (.int (0 : Int32))]))
  refine Go.by (fun t => XS.icmpYes X136.here hx rfl (pc0 := 56) (pc' := 63) rfl (hb hby d10_56) rfl (feq (by decide : ¬ ((0 : Int32) = (1 : Int32)))).2 (by decide) (by decide)) ?_
  show Go p e below _ (T136.setTop (mkF m 63 #[.val (.ref a1), .val (.ref b2), .val (.int (0 : Int32)), .val (.ref t_a1), .val (.ref t_b2), .val (.int (0 : Int32)), .val (.int (1 : Int32)), .val (.int (0 : Int32))] []))
  show Go p e below _ (T136.setTop (mkF m 63 #[.val (.ref a1), .val (.ref b2), .val (.int (0 : Int32)), .val (.ref t_a1), .val (.ref t_b2), .val (.int (0 : Int32)), .val (.int (1 : Int32)), .val (.int (0 : Int32))] []))
  refine Go.by (fun t => XS.aloadN X136.here hx rfl (hb hby d10_63) rfl rfl) ?_
  show Go p e below _ (T136.setTop (mkF m 64 #[.val (.ref a1), .val (.ref b2), .val (.int (0 : Int32)), .val (.ref t_a1), .val (.ref t_b2), .val (.int (0 : Int32)), .val (.int (1 : Int32)), .val (.int (0 : Int32))] [(.ref t_a1)]))
  refine Go.by (fun t => XS.iloadN X136.here hx rfl (hb hby d10_64) rfl ) ?_
  show Go p e below _ (T136.setTop (mkF m 65 #[.val (.ref a1), .val (.ref b2), .val (.int (0 : Int32)), .val (.ref t_a1), .val (.ref t_b2), .val (.int (0 : Int32)), .val (.int (1 : Int32)), .val (.int (0 : Int32))] [(.int (0 : Int32)), (.ref t_a1)]))
  refine Go.by (fun t => XS.aload X136.here hx rfl (hb hby d10_65) rfl rfl) ?_
  show Go p e below _ (T136.setTop (mkF m 67 #[.val (.ref a1), .val (.ref b2), .val (.int (0 : Int32)), .val (.ref t_a1), .val (.ref t_b2), .val (.int (0 : Int32)), .val (.int (1 : Int32)), .val (.int (0 : Int32))] [(.ref t_b2), (.int (0 : Int32)), (.ref t_a1)]))
  refine Go.by (fun t => XS.iconst X136.here hx rfl (hb hby d10_67)) ?_
  show Go p e below _ (T136.setTop (mkF m 68 #[.val (.ref a1), .val (.ref b2), .val (.int (0 : Int32)), .val (.ref t_a1), .val (.ref t_b2), .val (.int (0 : Int32)), .val (.int (1 : Int32)), .val (.int (0 : Int32))] [(.int (0 : Int32)), (.ref t_b2), (.int (0 : Int32)), (.ref t_a1)]))
  refine Go.by (fun t => XS.iload X136.here hx rfl (hb hby d10_68) rfl ) ?_
  show Go p e below _ (T136.setTop (mkF m 70 #[.val (.ref a1), .val (.ref b2), .val (.int (0 : Int32)), .val (.ref t_a1), .val (.ref t_b2), .val (.int (0 : Int32)), .val (.int (1 : Int32)), .val (.int (0 : Int32))] [(.int (1 : Int32)), (.int (0 : Int32)), (.ref t_b2), (.int (0 : Int32)), (.ref t_a1)]))
  obtain ⟨_, _, ⟨T137, L137, k137, n137⟩, -, X137, ⟨Lc137, hQ137, l137, y137, z137⟩, st137⟩ := Jvm.LawKit.callS X136 hx (y := (⟨"jdk/internal/util/ArraysSupport", "mismatch", "([BI[BII)I"⟩ : MethodName)) hown (mvT hZ (hw _ (List.mem_of_getElem? (i := 61) rfl))) (mvT hZ (hw _ (List.mem_of_getElem? (i := 62) rfl))) (mvT hZ (hw _ (List.mem_of_getElem? (i := 63) rfl))) (mvT hZ (hw _ (List.mem_of_getElem? (i := 64) rfl))) (by decide) (backOf (W := 0) (rm13 l Z a0 hw [] t_a1 t_b2 _ _ _ _ _ _ _ _ h0 n0 (by show (0 : Int32) < (2 : Int32); decide) (by show (0 : Int32) < (1 : Int32); decide) V_t_a1 V_t_b2) hZ (hw _ (List.mem_of_getElem? (i := 64) rfl)) (hw _ (List.mem_of_getElem? (i := 63) rfl)) (by decide) (by decide)) (g := (mkF m 70 #[.val (.ref a1), .val (.ref b2), .val (.int (0 : Int32)), .val (.ref t_a1), .val (.ref t_b2), .val (.int (0 : Int32)), .val (.int (1 : Int32)), .val (.int (0 : Int32))] [(.int (1 : Int32)), (.int (0 : Int32)), (.ref t_b2), (.int (0 : Int32)), (.ref t_a1)])) rfl (by rw [hml]; rfl) (argsL := [(.ref t_a1), (.int (0 : Int32)), (.ref t_b2), (.int (0 : Int32)), (.int (1 : Int32))]) (rest := []) (lenOf pd_13 rfl) rfl (by show 2 * 0 + _ ≤ _; exact Nat.le_of_eq rfl) (hb hby d10_70) (fun _ _ => ⟨rfl, e136, (by decide : 0 + 0 ≤ _), (by decide : 0 + 0 ≤ _)⟩)
  dsimp only [Pt.U, Pt.locs, Pt.cells, Pt.slots] at X137 l137 y137 z137 st137 hQ137
  subst l137 y137 z137
  obtain ⟨hv137, Nq137, e137⟩ := hQ137
  by_cases hq : c0.toInt8.toInt32 = (95 : Int32).toInt8.toInt32
  ·
    rw [if_pos hq] at hv137
    subst hv137
    have N137 := Fr.app N136 Nq137
    refine Go.by (fun t => st137 t) ?_
    show Go p e below _ (T137.setTop (mkF m 73 #[.val (.ref a1), .val (.ref b2), .val (.int (0 : Int32)), .val (.ref t_a1), .val (.ref t_b2), .val (.int (0 : Int32)), .val (.int (1 : Int32)), .val (.int (0 : Int32))] [(.int (-1 : Int32))]))
    refine Go.by (fun t => XS.ifNo X137.here hx rfl (hb hby d10_73) rfl ((if0 _ _).trans (tlt (by decide : (-1 : Int32) < (0 : Int32))).2.1)) ?_
    show Go p e below _ (T137.setTop (mkF m 76 #[.val (.ref a1), .val (.ref b2), .val (.int (0 : Int32)), .val (.ref t_a1), .val (.ref t_b2), .val (.int (0 : Int32)), .val (.int (1 : Int32)), .val (.int (0 : Int32))] []))
    show Go p e below _ (T137.setTop (mkF m 76 #[.val (.ref a1), .val (.ref b2), .val (.int (0 : Int32)), .val (.ref t_a1), .val (.ref t_b2), .val (.int (0 : Int32)), .val (.int (1 : Int32)), .val (.int (0 : Int32))] []))
    refine Go.by (fun t => XS.iconst X137.here hx rfl (hb hby d10_76)) ?_
    show Go p e below _ (T137.setTop (mkF m 77 #[.val (.ref a1), .val (.ref b2), .val (.int (0 : Int32)), .val (.ref t_a1), .val (.ref t_b2), .val (.int (0 : Int32)), .val (.int (1 : Int32)), .val (.int (0 : Int32))] [(.int (1 : Int32))]))
    refine Go.by (fun t => XS.goto X137.here hx rfl (pc0 := 77) (pc' := 81) rfl (hb hby d10_77) (by decide) (by decide)) ?_
    show Go p e below _ (T137.setTop (mkF m 81 #[.val (.ref a1), .val (.ref b2), .val (.int (0 : Int32)), .val (.ref t_a1), .val (.ref t_b2), .val (.int (0 : Int32)), .val (.int (1 : Int32)), .val (.int (0 : Int32))] [(.int (1 : Int32))]))
    exact Go.ret1 X137 hx Bd.returns Bd.notSynchronized (by first | rfl | decide) (Or.inl ⟨rfl, by simp, _, rfl⟩) (hb hby d10_81) (by decide) (by decide) (by first | (rw [e137]; exact ⟨by rw [if_pos (lo8_inj95 ⟨hb0, hl_a1 _ (List.mem_cons_self ..)⟩ hq)], N137, rfl⟩) | exact ⟨by rw [if_pos (lo8_inj95 ⟨hb0, hl_a1 _ (List.mem_cons_self ..)⟩ hq)], N137, rfl⟩)
  ·
    rw [if_neg hq] at hv137
    subst hv137
    have N137 := Fr.app N136 Nq137
    refine Go.by (fun t => st137 t) ?_
    show Go p e below _ (T137.setTop (mkF m 73 #[.val (.ref a1), .val (.ref b2), .val (.int (0 : Int32)), .val (.ref t_a1), .val (.ref t_b2), .val (.int (0 : Int32)), .val (.int (1 : Int32)), .val (.int (0 : Int32))] [(.int (0 : Int32))]))
    refine Go.by (fun t => XS.ifYes X137.here hx rfl (pc0 := 73) (pc' := 80) rfl (hb hby d10_73) rfl ((if0 _ _).trans (flt (by decide : ¬ ((0 : Int32) < (0 : Int32)))).2.1) (by decide) (by decide)) ?_
    show Go p e below _ (T137.setTop (mkF m 80 #[.val (.ref a1), .val (.ref b2), .val (.int (0 : Int32)), .val (.ref t_a1), .val (.ref t_b2), .val (.int (0 : Int32)), .val (.int (1 : Int32)), .val (.int (0 : Int32))] []))
    show Go p e below _ (T137.setTop (mkF m 80 #[.val (.ref a1), .val (.ref b2), .val (.int (0 : Int32)), .val (.ref t_a1), .val (.ref t_b2), .val (.int (0 : Int32)), .val (.int (1 : Int32)), .val (.int (0 : Int32))] []))
    refine Go.by (fun t => XS.iconst X137.here hx rfl (hb hby d10_80)) ?_
    show Go p e below _ (T137.setTop (mkF m 81 #[.val (.ref a1), .val (.ref b2), .val (.int (0 : Int32)), .val (.ref t_a1), .val (.ref t_b2), .val (.int (0 : Int32)), .val (.int (1 : Int32)), .val (.int (0 : Int32))] [(.int (0 : Int32))]))
    exact Go.ret1 X137 hx Bd.returns Bd.notSynchronized (by first | rfl | decide) (Or.inl ⟨rfl, by simp, _, rfl⟩) (hb hby d10_81) (by decide) (by decide) (by first | (rw [e137]; exact ⟨by rw [if_neg (fun z => hq (by rw [z]))], N137, rfl⟩) | exact ⟨by rw [if_neg (fun z => hq (by rw [z]))], N137, rfl⟩)
def Q_rmSW1_2 (Z : State) (a1 b2 : Addr) (c0 c1 : Int32) (G1 : Int32) (h0 : Heap) (n0 : Nat) : Option Value → Heap → List Loc → Prop := fun v h L => v = some (.int (if c0 = 95 then 1 else 0)) ∧ Fr n0 L ∧ h = h0
set_option maxRecDepth 65536 in
set_option maxHeartbeats 40000000 in
theorem rmSW1_2 (l : Launch) (Z : State) (a0 : Array Value) (hw : ∀ d ∈ tables_1, d.before a0 Z = true) (ws : List Jvm.Cond) (a1 b2 : Addr) (c0 c1 : Int32) (G1 : Int32) (h0 : Heap) (n0 : Nat) (Od : Old Z n0 h0) (O2 : Sta Z Z.heap "java/lang/String" "COMPACT_STRINGS" "Z" (.int G1)) (P5 : ¬ (G1 = (0 : Int32))) (S_a1 : StrAt Z h0 a1 [c0, c1]) (S_b2 : StrAt Z h0 b2 [95]) (hb0 : ¬ c0 < 0) :
    MetFree l (⟨"java/lang/String", "startsWith", "(Ljava/lang/String;)Z"⟩ : MethodName) (head1 (Jvm.Cond.code (⟨"java/lang/String", "startsWith", "(Ljava/lang/String;)Z"⟩ : MethodName) jdk_42_method_76_code 2 (some .boolean) :: ws) ({ frames := 3, cells := 0, slots := 0, locals := 59 } : Room)) (fun a U => a = #[(.ref a1), (.ref b2)] ∧ Z.Warmed39 U.vm ∧ U.heap = h0) (fun _ _ _ _ _ => True) (fun _ U o U' => ∃ v L, o = .returned v ∧ Q_rmSW1_2 Z a1 b2 c0 c1 G1 h0 n0 v U'.heap L ∧ FrameEnd U o U' L ({ frames := 3, cells := 0, slots := 0, locals := 59 } : Room).cells ({ frames := 3, cells := 0, slots := 0, locals := 59 } : Room).slots) := by
  refine MetFree.of_bodySF (plainFor_of_name pn_1) hisR ?_
  intro p e s m args below meth c s₁ Bd hml0 hP hK
  obtain ⟨rfl, hZ, hh⟩ := hP
  have hx := Bd.exec
  have hby := Bd.bytes
  have hml : c.maxLocals = 2 := hml0
  have hown : s.vm.findClass "java/lang/String" = some m.cls := findClass_of_methodNamed Bd.named
  have hnm := (name_of_methodNamed Bd.named Bd.method).1
  have X0 : Stand p l e ({ frames := 3, cells := 0, slots := 0, locals := 59 } : Room) s m #[(.ref a1), (.ref b2)] below meth c s₁ [] 0 0 := Stand.of_body Bd
  have e0 : s₁.heap = h0 := by rw [← hh, Bd.state]; rfl
  have N0 := Fr.nil n0
  have ef : entryFrame m #[(.ref a1), (.ref b2)] 2 = (mkF m 0 #[.val (.ref a1), .val (.ref b2)] []) := by first | rfl | (simp [entryFrame, mkF, argsToLocals, Value.category, maxLocals]; done)
  show Go p e below (End (fun v h L => v = some (.int (if c0 = 95 then 1 else 0)) ∧ Fr n0 L ∧ h = h0) s 0 0) (s₁.setTop (entryFrame m #[(.ref a1), (.ref b2)] 2))
  rw [ef]
  show Go p e below _ (s₁.setTop (mkF m 0 #[.val (.ref a1), .val (.ref b2)] []))
  show Go p e below _ (s₁.setTop (mkF m 0 #[.val (.ref a1), .val (.ref b2)] []))
  refine Go.by (fun t => XS.aloadN X0.here hx rfl (hb hby d9_0) rfl rfl) ?_
  show Go p e below _ (s₁.setTop (mkF m 1 #[.val (.ref a1), .val (.ref b2)] [(.ref a1)]))
  refine Go.by (fun t => XS.aloadN X0.here hx rfl (hb hby d9_1) rfl rfl) ?_
  show Go p e below _ (s₁.setTop (mkF m 2 #[.val (.ref a1), .val (.ref b2)] [(.ref b2), (.ref a1)]))
  refine Go.by (fun t => XS.iconst X0.here hx rfl (hb hby d9_2)) ?_
  show Go p e below _ (s₁.setTop (mkF m 3 #[.val (.ref a1), .val (.ref b2)] [(.int (0 : Int32)), (.ref b2), (.ref a1)]))
  obtain ⟨cq138, kq138, q138a, q138b, q138c⟩ := isOf hZ e0 S_a1.exa
  obtain ⟨_, _, ⟨T138, L138, k138, n138⟩, -, X138, ⟨Lc138, hQ138, l138, y138, z138⟩, st138⟩ := X0.virtualBack hx (y := (⟨"java/lang/String", "startsWith", "(Ljava/lang/String;I)Z"⟩ : MethodName)) (z := (⟨"java/lang/String", "startsWith", "(Ljava/lang/String;I)Z"⟩ : MethodName)) hown (mvT hZ (hw _ (List.mem_of_getElem? (i := 46) rfl))) (mvT hZ (hw _ (List.mem_of_getElem? (i := 47) rfl))) (notFace_of_selects (args := #[]) (mvT hZ (hw _ (List.mem_of_getElem? (i := 49) rfl)))) (mvT hZ (hw _ (List.mem_of_getElem? (i := 49) rfl))) (mvT hZ (hw _ (List.mem_of_getElem? (i := 48) rfl))) (by decide) (backOf (W := 0) (rmSW2_2 l Z a0 hw [] a1 b2 c0 c1 G1 h0 n0 Od O2 P5 S_a1 S_b2 hb0) hZ (hw _ (List.mem_of_getElem? (i := 50) rfl)) (hw _ (List.mem_of_getElem? (i := 6) rfl)) (by decide) (by decide)) q138a q138c (g := (mkF m 3 #[.val (.ref a1), .val (.ref b2)] [(.int (0 : Int32)), (.ref b2), (.ref a1)])) rfl (by rw [hml]; rfl) (Steps.refl _) (argsL := [(.ref b2), (.int (0 : Int32))]) (rest := []) (lenOf pd_10 rfl) rfl (by show 2 * 0 + _ ≤ _; exact Nat.le_of_eq rfl) (hb hby d9_3) (fun _ _ => ⟨rfl, e0, (by decide : 0 + 0 ≤ _), (by decide : 0 + 0 ≤ _)⟩)
  dsimp only [Pt.U, Pt.locs, Pt.cells, Pt.slots] at X138 l138 y138 z138 st138 hQ138
  subst l138 y138 z138
  obtain ⟨hv138, Nq138, e138⟩ := hQ138
  by_cases hq : c0 = 95
  ·
    rw [if_pos hq] at hv138
    subst hv138
    have N138 := Fr.app N0 Nq138
    refine Go.by (fun t => st138.trans) ?_
    show Go p e below _ (T138.setTop (mkF m 6 #[.val (.ref a1), .val (.ref b2)] [(.int (1 : Int32))]))
    show Go p e below _ (T138.setTop (mkF m 6 #[.val (.ref a1), .val (.ref b2)] [(.int (1 : Int32))]))
    exact Go.ret1 X138 hx Bd.returns Bd.notSynchronized (by first | rfl | decide) (Or.inl ⟨rfl, by simp, _, rfl⟩) (hb hby d9_6) (by decide) (by decide) (by first | (rw [e138]; exact ⟨by rw [if_pos hq], N138, rfl⟩) | exact ⟨by rw [if_pos hq], N138, rfl⟩)
  ·
    rw [if_neg hq] at hv138
    subst hv138
    have N138 := Fr.app N0 Nq138
    refine Go.by (fun t => st138.trans) ?_
    show Go p e below _ (T138.setTop (mkF m 6 #[.val (.ref a1), .val (.ref b2)] [(.int (0 : Int32))]))
    show Go p e below _ (T138.setTop (mkF m 6 #[.val (.ref a1), .val (.ref b2)] [(.int (0 : Int32))]))
    exact Go.ret1 X138 hx Bd.returns Bd.notSynchronized (by first | rfl | decide) (Or.inl ⟨rfl, by simp, _, rfl⟩) (hb hby d9_6) (by decide) (by decide) (by first | (rw [e138]; exact ⟨by rw [if_neg hq], N138, rfl⟩) | exact ⟨by rw [if_neg hq], N138, rfl⟩)
def Q_rmSW2_3 (Z : State) (a1 b2 : Addr) (c0 c1 c2 : Int32) (G1 : Int32) (h0 : Heap) (n0 : Nat) : Option Value → Heap → List Loc → Prop := fun v h L => v = some (.int (if c0 = 95 then 1 else 0)) ∧ Fr n0 L ∧ h = h0
set_option maxRecDepth 65536 in
set_option maxHeartbeats 40000000 in
theorem rmSW2_3 (l : Launch) (Z : State) (a0 : Array Value) (hw : ∀ d ∈ tables_1, d.before a0 Z = true) (ws : List Jvm.Cond) (a1 b2 : Addr) (c0 c1 c2 : Int32) (G1 : Int32) (h0 : Heap) (n0 : Nat) (Od : Old Z n0 h0) (O2 : Sta Z Z.heap "java/lang/String" "COMPACT_STRINGS" "Z" (.int G1)) (P5 : ¬ (G1 = (0 : Int32))) (S_a1 : StrAt Z h0 a1 [c0, c1, c2]) (S_b2 : StrAt Z h0 b2 [95]) (hb0 : ¬ c0 < 0) :
    MetFree l (⟨"java/lang/String", "startsWith", "(Ljava/lang/String;I)Z"⟩ : MethodName) (head1 (Jvm.Cond.code (⟨"java/lang/String", "startsWith", "(Ljava/lang/String;I)Z"⟩ : MethodName) jdk_42_method_75_code 8 (some .boolean) :: ws) ({ frames := 2, cells := 0, slots := 0, locals := 40 } : Room)) (fun a U => a = #[(.ref a1), (.ref b2), (.int (0 : Int32))] ∧ Z.Warmed39 U.vm ∧ U.heap = h0) (fun _ _ _ _ _ => True) (fun _ U o U' => ∃ v L, o = .returned v ∧ Q_rmSW2_3 Z a1 b2 c0 c1 c2 G1 h0 n0 v U'.heap L ∧ FrameEnd U o U' L ({ frames := 2, cells := 0, slots := 0, locals := 40 } : Room).cells ({ frames := 2, cells := 0, slots := 0, locals := 40 } : Room).slots) := by
  refine MetFree.of_bodySF (plainFor_of_name pn_1) hisR ?_
  intro p e s m args below meth c s₁ Bd hml0 hP hK
  obtain ⟨rfl, hZ, hh⟩ := hP
  have hx := Bd.exec
  have hby := Bd.bytes
  have hml : c.maxLocals = 8 := hml0
  have hown : s.vm.findClass "java/lang/String" = some m.cls := findClass_of_methodNamed Bd.named
  have hnm := (name_of_methodNamed Bd.named Bd.method).1
  have X0 : Stand p l e ({ frames := 2, cells := 0, slots := 0, locals := 40 } : Room) s m #[(.ref a1), (.ref b2), (.int (0 : Int32))] below meth c s₁ [] 0 0 := Stand.of_body Bd
  have e0 : s₁.heap = h0 := by rw [← hh, Bd.state]; rfl
  have N0 := Fr.nil n0
  have hln : ∀ d ∈ StrChars.Road.wordsLen, d.before a0 Z = true := fun d hd => hw d ((by decide +kernel : ∀ d ∈ StrChars.Road.wordsLen, d ∈ tables_1) d hd)
  have ef : entryFrame m #[(.ref a1), (.ref b2), (.int (0 : Int32))] 8 = (mkF m 0 #[.val (.ref a1), .val (.ref b2), .val (.int (0 : Int32)), .unset, .unset, .unset, .unset, .unset] []) := by first | rfl | (simp [entryFrame, mkF, argsToLocals, Value.category, maxLocals]; done)
  show Go p e below (End (fun v h L => v = some (.int (if c0 = 95 then 1 else 0)) ∧ Fr n0 L ∧ h = h0) s 0 0) (s₁.setTop (entryFrame m #[(.ref a1), (.ref b2), (.int (0 : Int32))] 8))
  rw [ef]
  show Go p e below _ (s₁.setTop (mkF m 0 #[.val (.ref a1), .val (.ref b2), .val (.int (0 : Int32)), .unset, .unset, .unset, .unset, .unset] []))
  show Go p e below _ (s₁.setTop (mkF m 0 #[.val (.ref a1), .val (.ref b2), .val (.int (0 : Int32)), .unset, .unset, .unset, .unset, .unset] []))
  refine Go.by (fun t => XS.iloadN X0.here hx rfl (hb hby d10_0) rfl ) ?_
  show Go p e below _ (s₁.setTop (mkF m 1 #[.val (.ref a1), .val (.ref b2), .val (.int (0 : Int32)), .unset, .unset, .unset, .unset, .unset] [(.int (0 : Int32))]))
  refine Go.by (fun t => XS.ifNo X0.here hx rfl (hb hby d10_1) rfl ((if0 _ _).trans (flt (by decide : ¬ ((0 : Int32) < (0 : Int32)))).1)) ?_
  show Go p e below _ (s₁.setTop (mkF m 4 #[.val (.ref a1), .val (.ref b2), .val (.int (0 : Int32)), .unset, .unset, .unset, .unset, .unset] []))
  show Go p e below _ (s₁.setTop (mkF m 4 #[.val (.ref a1), .val (.ref b2), .val (.int (0 : Int32)), .unset, .unset, .unset, .unset, .unset] []))
  refine Go.by (fun t => XS.iloadN X0.here hx rfl (hb hby d10_4) rfl ) ?_
  show Go p e below _ (s₁.setTop (mkF m 5 #[.val (.ref a1), .val (.ref b2), .val (.int (0 : Int32)), .unset, .unset, .unset, .unset, .unset] [(.int (0 : Int32))]))
  refine Go.by (fun t => XS.aloadN X0.here hx rfl (hb hby d10_5) rfl rfl) ?_
  show Go p e below _ (s₁.setTop (mkF m 6 #[.val (.ref a1), .val (.ref b2), .val (.int (0 : Int32)), .unset, .unset, .unset, .unset, .unset] [(.ref a1), (.int (0 : Int32))]))
  obtain ⟨cq139, kq139, q139a, q139b, q139c⟩ := isOf hZ e0 S_a1.exa
  obtain ⟨_, _, ⟨T139, L139, k139, n139⟩, -, X139, ⟨Lc139, hQ139, l139, y139, z139⟩, st139⟩ := X0.virtualBack hx (y := (⟨"java/lang/String", "length", "()I"⟩ : MethodName)) (z := (⟨"java/lang/String", "length", "()I"⟩ : MethodName)) hown (mvT hZ (hw _ (List.mem_of_getElem? (i := 51) rfl))) (mvT hZ (hw _ (List.mem_of_getElem? (i := 52) rfl))) (notFace_of_selects (args := #[]) (mvT hZ (hw _ (List.mem_of_getElem? (i := 54) rfl)))) (mvT hZ (hw _ (List.mem_of_getElem? (i := 54) rfl))) (mvT hZ (hw _ (List.mem_of_getElem? (i := 53) rfl))) (by decide) (lenS (W := 1) hZ hln (hw _ (List.mem_of_getElem? (i := 5) rfl)) S_a1 (O2.ext Od.2) P5 (by decide) (by decide)) q139a q139c (g := (mkF m 6 #[.val (.ref a1), .val (.ref b2), .val (.int (0 : Int32)), .unset, .unset, .unset, .unset, .unset] [(.ref a1), (.int (0 : Int32))])) rfl (by rw [hml]; rfl) (Steps.refl _) (argsL := []) (rest := [(.int (0 : Int32))]) (lenOf pd_11 rfl) rfl (by show 2 * 0 + _ ≤ _; exact Nat.le_of_eq rfl) (hb hby d10_6) (fun _ _ => ⟨rfl, e0, (by decide : 0 + 0 ≤ _), (by decide : 0 + 0 ≤ _)⟩)
  dsimp only [Pt.U, Pt.locs, Pt.cells, Pt.slots] at X139 l139 y139 z139 st139 hQ139
  subst l139 y139 z139
  obtain ⟨rfl, rfl, e139⟩ := hQ139
  have Nq139 : Fr n0 ([] : List Loc) := Fr.nil n0
  have N139 := Fr.app N0 Nq139
  refine Go.by (fun t => st139.trans) ?_
  show Go p e below _ (T139.setTop (mkF m 9 #[.val (.ref a1), .val (.ref b2), .val (.int (0 : Int32)), .unset, .unset, .unset, .unset, .unset] [(.int (3 : Int32)), (.int (0 : Int32))]))
  show Go p e below _ (T139.setTop (mkF m 9 #[.val (.ref a1), .val (.ref b2), .val (.int (0 : Int32)), .unset, .unset, .unset, .unset, .unset] [(.int (3 : Int32)), (.int (0 : Int32))]))
  refine Go.by (fun t => XS.aloadN X139.here hx rfl (hb hby d10_9) rfl rfl) ?_
  show Go p e below _ (T139.setTop (mkF m 10 #[.val (.ref a1), .val (.ref b2), .val (.int (0 : Int32)), .unset, .unset, .unset, .unset, .unset] [(.ref b2), (.int (3 : Int32)), (.int (0 : Int32))]))
  obtain ⟨cq140, kq140, q140a, q140b, q140c⟩ := isOf hZ e139 S_b2.exa
  obtain ⟨_, _, ⟨T140, L140, k140, n140⟩, -, X140, ⟨Lc140, hQ140, l140, y140, z140⟩, st140⟩ := X139.virtualBack hx (y := (⟨"java/lang/String", "length", "()I"⟩ : MethodName)) (z := (⟨"java/lang/String", "length", "()I"⟩ : MethodName)) hown (mvT hZ (hw _ (List.mem_of_getElem? (i := 51) rfl))) (mvT hZ (hw _ (List.mem_of_getElem? (i := 52) rfl))) (notFace_of_selects (args := #[]) (mvT hZ (hw _ (List.mem_of_getElem? (i := 54) rfl)))) (mvT hZ (hw _ (List.mem_of_getElem? (i := 54) rfl))) (mvT hZ (hw _ (List.mem_of_getElem? (i := 53) rfl))) (by decide) (lenS (W := 2) hZ hln (hw _ (List.mem_of_getElem? (i := 5) rfl)) S_b2 (O2.ext Od.2) P5 (by decide) (by decide)) q140a q140c (g := (mkF m 10 #[.val (.ref a1), .val (.ref b2), .val (.int (0 : Int32)), .unset, .unset, .unset, .unset, .unset] [(.ref b2), (.int (3 : Int32)), (.int (0 : Int32))])) rfl (by rw [hml]; rfl) (Steps.refl _) (argsL := []) (rest := [(.int (3 : Int32)), (.int (0 : Int32))]) (lenOf pd_11 rfl) rfl (by show 2 * 0 + _ ≤ _; exact Nat.le_of_eq rfl) (hb hby d10_10) (fun _ _ => ⟨rfl, e139, (by decide : 0 + 0 ≤ _), (by decide : 0 + 0 ≤ _)⟩)
  dsimp only [Pt.U, Pt.locs, Pt.cells, Pt.slots] at X140 l140 y140 z140 st140 hQ140
  subst l140 y140 z140
  obtain ⟨rfl, rfl, e140⟩ := hQ140
  have Nq140 : Fr n0 ([] : List Loc) := Fr.nil n0
  have N140 := Fr.app N139 Nq140
  refine Go.by (fun t => st140.trans) ?_
  show Go p e below _ (T140.setTop (mkF m 13 #[.val (.ref a1), .val (.ref b2), .val (.int (0 : Int32)), .unset, .unset, .unset, .unset, .unset] [(.int (1 : Int32)), (.int (3 : Int32)), (.int (0 : Int32))]))
  show Go p e below _ (T140.setTop (mkF m 13 #[.val (.ref a1), .val (.ref b2), .val (.int (0 : Int32)), .unset, .unset, .unset, .unset, .unset] [(.int (1 : Int32)), (.int (3 : Int32)), (.int (0 : Int32))]))
  refine Go.by (fun t => XS.isub X140.here hx rfl (hb hby d10_13) rfl) ?_
  show Go p e below _ (T140.setTop (mkF m 14 #[.val (.ref a1), .val (.ref b2), .val (.int (0 : Int32)), .unset, .unset, .unset, .unset, .unset] [(.int ((3 : Int32) - (1 : Int32))), (.int (0 : Int32))]))
  rw [show (3 : Int32) - (1 : Int32) = 2 from rfl]
  show Go p e below _ (T140.setTop (mkF m 14 #[.val (.ref a1), .val (.ref b2), .val (.int (0 : Int32)), .unset, .unset, .unset, .unset, .unset] [(.int (2 : Int32)), (.int (0 : Int32))]))
  refine Go.by (fun t => XS.icmpYes X140.here hx rfl (pc0 := 14) (pc' := 19) rfl (hb hby d10_14) rfl (flt (by decide : ¬ ((2 : Int32) < (0 : Int32)))).2.2.2 (by decide) (by decide)) ?_
  show Go p e below _ (T140.setTop (mkF m 19 #[.val (.ref a1), .val (.ref b2), .val (.int (0 : Int32)), .unset, .unset, .unset, .unset, .unset] []))
  obtain ⟨t_a1, kb_a1, E_a1, F_value_a1, F_coder_a1, V_t_a1, hl_a1⟩ := S_a1.open
  obtain ⟨t_b2, kb_b2, E_b2, F_value_b2, F_coder_b2, V_t_b2, hl_b2⟩ := S_b2.open
  show Go p e below _ (T140.setTop (mkF m 19 #[.val (.ref a1), .val (.ref b2), .val (.int (0 : Int32)), .unset, .unset, .unset, .unset, .unset] []))
  refine Go.by (fun t => XS.aloadN X140.here hx rfl (hb hby d10_19) rfl rfl) ?_
  show Go p e below _ (T140.setTop (mkF m 20 #[.val (.ref a1), .val (.ref b2), .val (.int (0 : Int32)), .unset, .unset, .unset, .unset, .unset] [(.ref a1)]))
  obtain ⟨T141, X141, e141, st141⟩ := getF X140 hx hZ hown (host := "") (Or.inl (hw _ (List.mem_of_getElem? (i := 32) rfl))) Via.refl e140 F_value_a1 (g := (mkF m 20 #[.val (.ref a1), .val (.ref b2), .val (.int (0 : Int32)), .unset, .unset, .unset, .unset, .unset] [(.ref a1)])) rfl rfl (hb hby d10_20)
  refine Go.by (fun t => st141 t) ?_
  show Go p e below _ (T141.setTop (mkF m 23 #[.val (.ref a1), .val (.ref b2), .val (.int (0 : Int32)), .unset, .unset, .unset, .unset, .unset] [(.ref t_a1)]))
  show Go p e below _ (T141.setTop (mkF m 23 #[.val (.ref a1), .val (.ref b2), .val (.int (0 : Int32)), .unset, .unset, .unset, .unset, .unset] [(.ref t_a1)]))
  refine Go.by (fun t => XS.astoreN X141.here hx rfl (hb hby d10_23) rfl rfl (l' := #[.val (.ref a1), .val (.ref b2), .val (.int (0 : Int32)), .val (.ref t_a1), .unset, .unset, .unset, .unset]) rfl) ?_
  show Go p e below _ (T141.setTop (mkF m 24 #[.val (.ref a1), .val (.ref b2), .val (.int (0 : Int32)), .val (.ref t_a1), .unset, .unset, .unset, .unset] []))
  refine Go.by (fun t => XS.aloadN X141.here hx rfl (hb hby d10_24) rfl rfl) ?_
  show Go p e below _ (T141.setTop (mkF m 25 #[.val (.ref a1), .val (.ref b2), .val (.int (0 : Int32)), .val (.ref t_a1), .unset, .unset, .unset, .unset] [(.ref b2)]))
  obtain ⟨T142, X142, e142, st142⟩ := getF X141 hx hZ hown (host := "") (Or.inl (hw _ (List.mem_of_getElem? (i := 32) rfl))) Via.refl e141 F_value_b2 (g := (mkF m 25 #[.val (.ref a1), .val (.ref b2), .val (.int (0 : Int32)), .val (.ref t_a1), .unset, .unset, .unset, .unset] [(.ref b2)])) rfl rfl (hb hby d10_25)
  refine Go.by (fun t => st142 t) ?_
  show Go p e below _ (T142.setTop (mkF m 28 #[.val (.ref a1), .val (.ref b2), .val (.int (0 : Int32)), .val (.ref t_a1), .unset, .unset, .unset, .unset] [(.ref t_b2)]))
  show Go p e below _ (T142.setTop (mkF m 28 #[.val (.ref a1), .val (.ref b2), .val (.int (0 : Int32)), .val (.ref t_a1), .unset, .unset, .unset, .unset] [(.ref t_b2)]))
  refine Go.by (fun t => XS.astore X142.here hx rfl (hb hby d10_28) rfl rfl (l' := #[.val (.ref a1), .val (.ref b2), .val (.int (0 : Int32)), .val (.ref t_a1), .val (.ref t_b2), .unset, .unset, .unset]) rfl) ?_
  show Go p e below _ (T142.setTop (mkF m 30 #[.val (.ref a1), .val (.ref b2), .val (.int (0 : Int32)), .val (.ref t_a1), .val (.ref t_b2), .unset, .unset, .unset] []))
  refine Go.by (fun t => XS.iconst X142.here hx rfl (hb hby d10_30)) ?_
  show Go p e below _ (T142.setTop (mkF m 31 #[.val (.ref a1), .val (.ref b2), .val (.int (0 : Int32)), .val (.ref t_a1), .val (.ref t_b2), .unset, .unset, .unset] [(.int (0 : Int32))]))
  refine Go.by (fun t => XS.istore X142.here hx rfl (hb hby d10_31) rfl (l' := #[.val (.ref a1), .val (.ref b2), .val (.int (0 : Int32)), .val (.ref t_a1), .val (.ref t_b2), .val (.int (0 : Int32)), .unset, .unset]) rfl) ?_
  show Go p e below _ (T142.setTop (mkF m 33 #[.val (.ref a1), .val (.ref b2), .val (.int (0 : Int32)), .val (.ref t_a1), .val (.ref t_b2), .val (.int (0 : Int32)), .unset, .unset] []))
  refine Go.by (fun t => XS.aload X142.here hx rfl (hb hby d10_33) rfl rfl) ?_
  show Go p e below _ (T142.setTop (mkF m 35 #[.val (.ref a1), .val (.ref b2), .val (.int (0 : Int32)), .val (.ref t_a1), .val (.ref t_b2), .val (.int (0 : Int32)), .unset, .unset] [(.ref t_b2)]))
  obtain ⟨cl_143, Ar_143, q_143, S_143, M_143, -, -⟩ := id V_t_b2
  refine Go.by (fun t => X142.arraylength hx (by rw [e142]; exact Ar_143.1) (State.isArrayOf_alike hZ.alike Ar_143.2.1) (g := (mkF m 35 #[.val (.ref a1), .val (.ref b2), .val (.int (0 : Int32)), .val (.ref t_a1), .val (.ref t_b2), .val (.int (0 : Int32)), .unset, .unset] [(.ref t_b2)])) rfl rfl (hb hby d10_35) t) ?_
  rw [len_of S_143 M_143]
  show Go p e below _ (T142.setTop (mkF m 36 #[.val (.ref a1), .val (.ref b2), .val (.int (0 : Int32)), .val (.ref t_a1), .val (.ref t_b2), .val (.int (0 : Int32)), .unset, .unset] [(.int (1 : Int32))]))
  show Go p e below _ (T142.setTop (mkF m 36 #[.val (.ref a1), .val (.ref b2), .val (.int (0 : Int32)), .val (.ref t_a1), .val (.ref t_b2), .val (.int (0 : Int32)), .unset, .unset] [(.int (1 : Int32))]))
  refine Go.by (fun t => XS.istore X142.here hx rfl (hb hby d10_36) rfl (l' := #[.val (.ref a1), .val (.ref b2), .val (.int (0 : Int32)), .val (.ref t_a1), .val (.ref t_b2), .val (.int (0 : Int32)), .val (.int (1 : Int32)), .unset]) rfl) ?_
  show Go p e below _ (T142.setTop (mkF m 38 #[.val (.ref a1), .val (.ref b2), .val (.int (0 : Int32)), .val (.ref t_a1), .val (.ref t_b2), .val (.int (0 : Int32)), .val (.int (1 : Int32)), .unset] []))
  refine Go.by (fun t => XS.aloadN X142.here hx rfl (hb hby d10_38) rfl rfl) ?_
  show Go p e below _ (T142.setTop (mkF m 39 #[.val (.ref a1), .val (.ref b2), .val (.int (0 : Int32)), .val (.ref t_a1), .val (.ref t_b2), .val (.int (0 : Int32)), .val (.int (1 : Int32)), .unset] [(.ref a1)]))
  obtain ⟨cq144, kq144, q144a, q144b, q144c⟩ := isOf hZ e142 E_a1
  obtain ⟨_, _, ⟨T144, L144, k144, n144⟩, -, X144, ⟨Lc144, hQ144, l144, y144, z144⟩, st144⟩ := X142.virtualBack hx (y := (⟨"java/lang/String", "coder", "()B"⟩ : MethodName)) (z := (⟨"java/lang/String", "coder", "()B"⟩ : MethodName)) hown (mvT hZ (hw _ (List.mem_of_getElem? (i := 56) rfl))) (mvT hZ (hw _ (List.mem_of_getElem? (i := 57) rfl))) (notFace_of_selects (args := #[]) (mvT hZ (hw _ (List.mem_of_getElem? (i := 59) rfl)))) (mvT hZ (hw _ (List.mem_of_getElem? (i := 59) rfl))) (mvT hZ (hw _ (List.mem_of_getElem? (i := 58) rfl))) (by decide) (backOf (W := 0) (rm12 l Z a0 hw [] a1 G1 h0 n0 Od O2 P5 F_coder_a1) hZ (hw _ (List.mem_of_getElem? (i := 60) rfl)) (hw _ (List.mem_of_getElem? (i := 6) rfl)) (by decide) (by decide)) q144a q144c (g := (mkF m 39 #[.val (.ref a1), .val (.ref b2), .val (.int (0 : Int32)), .val (.ref t_a1), .val (.ref t_b2), .val (.int (0 : Int32)), .val (.int (1 : Int32)), .unset] [(.ref a1)])) rfl (by rw [hml]; rfl) (Steps.refl _) (argsL := []) (rest := []) (lenOf pd_12 rfl) rfl (by show 2 * 0 + _ ≤ _; exact Nat.le_of_eq rfl) (hb hby d10_39) (fun _ _ => ⟨rfl, e142, (by decide : 0 + 0 ≤ _), (by decide : 0 + 0 ≤ _)⟩)
  dsimp only [Pt.U, Pt.locs, Pt.cells, Pt.slots] at X144 l144 y144 z144 st144 hQ144
  subst l144 y144 z144
  obtain ⟨rfl, Nq144, e144⟩ := hQ144
  have N144 := Fr.app N140 Nq144
  refine Go.by (fun t => st144.trans) ?_
  show Go p e below _ (T144.setTop (mkF m 42 #[.val (.ref a1), .val (.ref b2), .val (.int (0 : Int32)), .val (.ref t_a1), .val (.ref t_b2), .val (.int (0 : Int32)), .val (.int (1 : Int32)), .unset] [(.int (0 : Int32))]))
  show Go p e below _ (T144.setTop (mkF m 42 #[.val (.ref a1), .val (.ref b2), .val (.int (0 : Int32)), .val (.ref t_a1), .val (.ref t_b2), .val (.int (0 : Int32)), .val (.int (1 : Int32)), .unset] [(.int (0 : Int32))]))
  refine Go.by (fun t => XS.istore X144.here hx rfl (hb hby d10_42) rfl (l' := #[.val (.ref a1), .val (.ref b2), .val (.int (0 : Int32)), .val (.ref t_a1), .val (.ref t_b2), .val (.int (0 : Int32)), .val (.int (1 : Int32)), .val (.int (0 : Int32))]) rfl) ?_
  show Go p e below _ (T144.setTop (mkF m 44 #[.val (.ref a1), .val (.ref b2), .val (.int (0 : Int32)), .val (.ref t_a1), .val (.ref t_b2), .val (.int (0 : Int32)), .val (.int (1 : Int32)), .val (.int (0 : Int32))] []))
  refine Go.by (fun t => XS.iload X144.here hx rfl (hb hby d10_44) rfl ) ?_
  show Go p e below _ (T144.setTop (mkF m 46 #[.val (.ref a1), .val (.ref b2), .val (.int (0 : Int32)), .val (.ref t_a1), .val (.ref t_b2), .val (.int (0 : Int32)), .val (.int (1 : Int32)), .val (.int (0 : Int32))] [(.int (0 : Int32))]))
  refine Go.by (fun t => XS.aloadN X144.here hx rfl (hb hby d10_46) rfl rfl) ?_
  show Go p e below _ (T144.setTop (mkF m 47 #[.val (.ref a1), .val (.ref b2), .val (.int (0 : Int32)), .val (.ref t_a1), .val (.ref t_b2), .val (.int (0 : Int32)), .val (.int (1 : Int32)), .val (.int (0 : Int32))] [(.ref b2), (.int (0 : Int32))]))
  obtain ⟨cq145, kq145, q145a, q145b, q145c⟩ := isOf hZ e144 E_b2
  obtain ⟨_, _, ⟨T145, L145, k145, n145⟩, -, X145, ⟨Lc145, hQ145, l145, y145, z145⟩, st145⟩ := X144.virtualBack hx (y := (⟨"java/lang/String", "coder", "()B"⟩ : MethodName)) (z := (⟨"java/lang/String", "coder", "()B"⟩ : MethodName)) hown (mvT hZ (hw _ (List.mem_of_getElem? (i := 56) rfl))) (mvT hZ (hw _ (List.mem_of_getElem? (i := 57) rfl))) (notFace_of_selects (args := #[]) (mvT hZ (hw _ (List.mem_of_getElem? (i := 59) rfl)))) (mvT hZ (hw _ (List.mem_of_getElem? (i := 59) rfl))) (mvT hZ (hw _ (List.mem_of_getElem? (i := 58) rfl))) (by decide) (backOf (W := 1) (rm12 l Z a0 hw [] b2 G1 h0 n0 Od O2 P5 F_coder_b2) hZ (hw _ (List.mem_of_getElem? (i := 60) rfl)) (hw _ (List.mem_of_getElem? (i := 6) rfl)) (by decide) (by decide)) q145a q145c (g := (mkF m 47 #[.val (.ref a1), .val (.ref b2), .val (.int (0 : Int32)), .val (.ref t_a1), .val (.ref t_b2), .val (.int (0 : Int32)), .val (.int (1 : Int32)), .val (.int (0 : Int32))] [(.ref b2), (.int (0 : Int32))])) rfl (by rw [hml]; rfl) (Steps.refl _) (argsL := []) (rest := [(.int (0 : Int32))]) (lenOf pd_12 rfl) rfl (by show 2 * 0 + _ ≤ _; exact Nat.le_of_eq rfl) (hb hby d10_47) (fun _ _ => ⟨rfl, e144, (by decide : 0 + 0 ≤ _), (by decide : 0 + 0 ≤ _)⟩)
  dsimp only [Pt.U, Pt.locs, Pt.cells, Pt.slots] at X145 l145 y145 z145 st145 hQ145
  subst l145 y145 z145
  obtain ⟨rfl, Nq145, e145⟩ := hQ145
  have N145 := Fr.app N144 Nq145
  refine Go.by (fun t => st145.trans) ?_
  show Go p e below _ (T145.setTop (mkF m 50 #[.val (.ref a1), .val (.ref b2), .val (.int (0 : Int32)), .val (.ref t_a1), .val (.ref t_b2), .val (.int (0 : Int32)), .val (.int (1 : Int32)), .val (.int (0 : Int32))] [(.int (0 : Int32)), (.int (0 : Int32))]))
  refine Go.by (fun t => XS.icmpNo X145.here hx rfl (hb hby d10_50) rfl (teq (rfl : (0 : Int32) = (0 : Int32))).2) ?_
  show Go p e below _ (T145.setTop (mkF m 53 #[.val (.ref a1), .val (.ref b2), .val (.int (0 : Int32)), .val (.ref t_a1), .val (.ref t_b2), .val (.int (0 : Int32)), .val (.int (1 : Int32)), .val (.int (0 : Int32))] []))
  show Go p e below _ (T145.setTop (mkF m 53 #[.val (.ref a1), .val (.ref b2), .val (.int (0 : Int32)), .val (.ref t_a1), .val (.ref t_b2), .val (.int (0 : Int32)), .val (.int (1 : Int32)), .val (.int (0 : Int32))] []))
  refine Go.by (fun t => XS.iload X145.here hx rfl (hb hby d10_53) rfl ) ?_
  show Go p e below _ (T145.setTop (mkF m 55 #[.val (.ref a1), .val (.ref b2), .val (.int (0 : Int32)), .val (.ref t_a1), .val (.ref t_b2), .val (.int (0 : Int32)), .val (.int (1 : Int32)), .val (.int (0 : Int32))] [(.int (0 : Int32))]))
  refine Go.by (fun t => XS.iconst X145.here hx rfl (hb hby d10_55)) ?_
  show Go p e below _ (T145.setTop (mkF m 56 #[.val (.ref a1), .val (.ref b2), .val (.int (0 : Int32)), .val (.ref t_a1), .val (.ref t_b2), .val (.int (0 : Int32)), .val (.int (1 : Int32)), .val (.int (0 : Int32))] [(.int (1 : Int32)), (.int (0 : Int32))]))
  refine Go.by (fun t => XS.icmpYes X145.here hx rfl (pc0 := 56) (pc' := 63) rfl (hb hby d10_56) rfl (feq (by decide : ¬ ((0 : Int32) = (1 : Int32)))).2 (by decide) (by decide)) ?_
  show Go p e below _ (T145.setTop (mkF m 63 #[.val (.ref a1), .val (.ref b2), .val (.int (0 : Int32)), .val (.ref t_a1), .val (.ref t_b2), .val (.int (0 : Int32)), .val (.int (1 : Int32)), .val (.int (0 : Int32))] []))
  show Go p e below _ (T145.setTop (mkF m 63 #[.val (.ref a1), .val (.ref b2), .val (.int (0 : Int32)), .val (.ref t_a1), .val (.ref t_b2), .val (.int (0 : Int32)), .val (.int (1 : Int32)), .val (.int (0 : Int32))] []))
  refine Go.by (fun t => XS.aloadN X145.here hx rfl (hb hby d10_63) rfl rfl) ?_
  show Go p e below _ (T145.setTop (mkF m 64 #[.val (.ref a1), .val (.ref b2), .val (.int (0 : Int32)), .val (.ref t_a1), .val (.ref t_b2), .val (.int (0 : Int32)), .val (.int (1 : Int32)), .val (.int (0 : Int32))] [(.ref t_a1)]))
  refine Go.by (fun t => XS.iloadN X145.here hx rfl (hb hby d10_64) rfl ) ?_
  show Go p e below _ (T145.setTop (mkF m 65 #[.val (.ref a1), .val (.ref b2), .val (.int (0 : Int32)), .val (.ref t_a1), .val (.ref t_b2), .val (.int (0 : Int32)), .val (.int (1 : Int32)), .val (.int (0 : Int32))] [(.int (0 : Int32)), (.ref t_a1)]))
  refine Go.by (fun t => XS.aload X145.here hx rfl (hb hby d10_65) rfl rfl) ?_
  show Go p e below _ (T145.setTop (mkF m 67 #[.val (.ref a1), .val (.ref b2), .val (.int (0 : Int32)), .val (.ref t_a1), .val (.ref t_b2), .val (.int (0 : Int32)), .val (.int (1 : Int32)), .val (.int (0 : Int32))] [(.ref t_b2), (.int (0 : Int32)), (.ref t_a1)]))
  refine Go.by (fun t => XS.iconst X145.here hx rfl (hb hby d10_67)) ?_
  show Go p e below _ (T145.setTop (mkF m 68 #[.val (.ref a1), .val (.ref b2), .val (.int (0 : Int32)), .val (.ref t_a1), .val (.ref t_b2), .val (.int (0 : Int32)), .val (.int (1 : Int32)), .val (.int (0 : Int32))] [(.int (0 : Int32)), (.ref t_b2), (.int (0 : Int32)), (.ref t_a1)]))
  refine Go.by (fun t => XS.iload X145.here hx rfl (hb hby d10_68) rfl ) ?_
  show Go p e below _ (T145.setTop (mkF m 70 #[.val (.ref a1), .val (.ref b2), .val (.int (0 : Int32)), .val (.ref t_a1), .val (.ref t_b2), .val (.int (0 : Int32)), .val (.int (1 : Int32)), .val (.int (0 : Int32))] [(.int (1 : Int32)), (.int (0 : Int32)), (.ref t_b2), (.int (0 : Int32)), (.ref t_a1)]))
  obtain ⟨_, _, ⟨T146, L146, k146, n146⟩, -, X146, ⟨Lc146, hQ146, l146, y146, z146⟩, st146⟩ := Jvm.LawKit.callS X145 hx (y := (⟨"jdk/internal/util/ArraysSupport", "mismatch", "([BI[BII)I"⟩ : MethodName)) hown (mvT hZ (hw _ (List.mem_of_getElem? (i := 61) rfl))) (mvT hZ (hw _ (List.mem_of_getElem? (i := 62) rfl))) (mvT hZ (hw _ (List.mem_of_getElem? (i := 63) rfl))) (mvT hZ (hw _ (List.mem_of_getElem? (i := 64) rfl))) (by decide) (backOf (W := 0) (rm13 l Z a0 hw [] t_a1 t_b2 _ _ _ _ _ _ _ _ h0 n0 (by show (0 : Int32) < (3 : Int32); decide) (by show (0 : Int32) < (1 : Int32); decide) V_t_a1 V_t_b2) hZ (hw _ (List.mem_of_getElem? (i := 64) rfl)) (hw _ (List.mem_of_getElem? (i := 63) rfl)) (by decide) (by decide)) (g := (mkF m 70 #[.val (.ref a1), .val (.ref b2), .val (.int (0 : Int32)), .val (.ref t_a1), .val (.ref t_b2), .val (.int (0 : Int32)), .val (.int (1 : Int32)), .val (.int (0 : Int32))] [(.int (1 : Int32)), (.int (0 : Int32)), (.ref t_b2), (.int (0 : Int32)), (.ref t_a1)])) rfl (by rw [hml]; rfl) (argsL := [(.ref t_a1), (.int (0 : Int32)), (.ref t_b2), (.int (0 : Int32)), (.int (1 : Int32))]) (rest := []) (lenOf pd_13 rfl) rfl (by show 2 * 0 + _ ≤ _; exact Nat.le_of_eq rfl) (hb hby d10_70) (fun _ _ => ⟨rfl, e145, (by decide : 0 + 0 ≤ _), (by decide : 0 + 0 ≤ _)⟩)
  dsimp only [Pt.U, Pt.locs, Pt.cells, Pt.slots] at X146 l146 y146 z146 st146 hQ146
  subst l146 y146 z146
  obtain ⟨hv146, Nq146, e146⟩ := hQ146
  by_cases hq : c0.toInt8.toInt32 = (95 : Int32).toInt8.toInt32
  ·
    rw [if_pos hq] at hv146
    subst hv146
    have N146 := Fr.app N145 Nq146
    refine Go.by (fun t => st146 t) ?_
    show Go p e below _ (T146.setTop (mkF m 73 #[.val (.ref a1), .val (.ref b2), .val (.int (0 : Int32)), .val (.ref t_a1), .val (.ref t_b2), .val (.int (0 : Int32)), .val (.int (1 : Int32)), .val (.int (0 : Int32))] [(.int (-1 : Int32))]))
    refine Go.by (fun t => XS.ifNo X146.here hx rfl (hb hby d10_73) rfl ((if0 _ _).trans (tlt (by decide : (-1 : Int32) < (0 : Int32))).2.1)) ?_
    show Go p e below _ (T146.setTop (mkF m 76 #[.val (.ref a1), .val (.ref b2), .val (.int (0 : Int32)), .val (.ref t_a1), .val (.ref t_b2), .val (.int (0 : Int32)), .val (.int (1 : Int32)), .val (.int (0 : Int32))] []))
    show Go p e below _ (T146.setTop (mkF m 76 #[.val (.ref a1), .val (.ref b2), .val (.int (0 : Int32)), .val (.ref t_a1), .val (.ref t_b2), .val (.int (0 : Int32)), .val (.int (1 : Int32)), .val (.int (0 : Int32))] []))
    refine Go.by (fun t => XS.iconst X146.here hx rfl (hb hby d10_76)) ?_
    show Go p e below _ (T146.setTop (mkF m 77 #[.val (.ref a1), .val (.ref b2), .val (.int (0 : Int32)), .val (.ref t_a1), .val (.ref t_b2), .val (.int (0 : Int32)), .val (.int (1 : Int32)), .val (.int (0 : Int32))] [(.int (1 : Int32))]))
    refine Go.by (fun t => XS.goto X146.here hx rfl (pc0 := 77) (pc' := 81) rfl (hb hby d10_77) (by decide) (by decide)) ?_
    show Go p e below _ (T146.setTop (mkF m 81 #[.val (.ref a1), .val (.ref b2), .val (.int (0 : Int32)), .val (.ref t_a1), .val (.ref t_b2), .val (.int (0 : Int32)), .val (.int (1 : Int32)), .val (.int (0 : Int32))] [(.int (1 : Int32))]))
    exact Go.ret1 X146 hx Bd.returns Bd.notSynchronized (by first | rfl | decide) (Or.inl ⟨rfl, by simp, _, rfl⟩) (hb hby d10_81) (by decide) (by decide) (by first | (rw [e146]; exact ⟨by rw [if_pos (lo8_inj95 ⟨hb0, hl_a1 _ (List.mem_cons_self ..)⟩ hq)], N146, rfl⟩) | exact ⟨by rw [if_pos (lo8_inj95 ⟨hb0, hl_a1 _ (List.mem_cons_self ..)⟩ hq)], N146, rfl⟩)
  ·
    rw [if_neg hq] at hv146
    subst hv146
    have N146 := Fr.app N145 Nq146
    refine Go.by (fun t => st146 t) ?_
    show Go p e below _ (T146.setTop (mkF m 73 #[.val (.ref a1), .val (.ref b2), .val (.int (0 : Int32)), .val (.ref t_a1), .val (.ref t_b2), .val (.int (0 : Int32)), .val (.int (1 : Int32)), .val (.int (0 : Int32))] [(.int (0 : Int32))]))
    refine Go.by (fun t => XS.ifYes X146.here hx rfl (pc0 := 73) (pc' := 80) rfl (hb hby d10_73) rfl ((if0 _ _).trans (flt (by decide : ¬ ((0 : Int32) < (0 : Int32)))).2.1) (by decide) (by decide)) ?_
    show Go p e below _ (T146.setTop (mkF m 80 #[.val (.ref a1), .val (.ref b2), .val (.int (0 : Int32)), .val (.ref t_a1), .val (.ref t_b2), .val (.int (0 : Int32)), .val (.int (1 : Int32)), .val (.int (0 : Int32))] []))
    show Go p e below _ (T146.setTop (mkF m 80 #[.val (.ref a1), .val (.ref b2), .val (.int (0 : Int32)), .val (.ref t_a1), .val (.ref t_b2), .val (.int (0 : Int32)), .val (.int (1 : Int32)), .val (.int (0 : Int32))] []))
    refine Go.by (fun t => XS.iconst X146.here hx rfl (hb hby d10_80)) ?_
    show Go p e below _ (T146.setTop (mkF m 81 #[.val (.ref a1), .val (.ref b2), .val (.int (0 : Int32)), .val (.ref t_a1), .val (.ref t_b2), .val (.int (0 : Int32)), .val (.int (1 : Int32)), .val (.int (0 : Int32))] [(.int (0 : Int32))]))
    exact Go.ret1 X146 hx Bd.returns Bd.notSynchronized (by first | rfl | decide) (Or.inl ⟨rfl, by simp, _, rfl⟩) (hb hby d10_81) (by decide) (by decide) (by first | (rw [e146]; exact ⟨by rw [if_neg (fun z => hq (by rw [z]))], N146, rfl⟩) | exact ⟨by rw [if_neg (fun z => hq (by rw [z]))], N146, rfl⟩)
def Q_rmSW1_3 (Z : State) (a1 b2 : Addr) (c0 c1 c2 : Int32) (G1 : Int32) (h0 : Heap) (n0 : Nat) : Option Value → Heap → List Loc → Prop := fun v h L => v = some (.int (if c0 = 95 then 1 else 0)) ∧ Fr n0 L ∧ h = h0
set_option maxRecDepth 65536 in
set_option maxHeartbeats 40000000 in
theorem rmSW1_3 (l : Launch) (Z : State) (a0 : Array Value) (hw : ∀ d ∈ tables_1, d.before a0 Z = true) (ws : List Jvm.Cond) (a1 b2 : Addr) (c0 c1 c2 : Int32) (G1 : Int32) (h0 : Heap) (n0 : Nat) (Od : Old Z n0 h0) (O2 : Sta Z Z.heap "java/lang/String" "COMPACT_STRINGS" "Z" (.int G1)) (P5 : ¬ (G1 = (0 : Int32))) (S_a1 : StrAt Z h0 a1 [c0, c1, c2]) (S_b2 : StrAt Z h0 b2 [95]) (hb0 : ¬ c0 < 0) :
    MetFree l (⟨"java/lang/String", "startsWith", "(Ljava/lang/String;)Z"⟩ : MethodName) (head1 (Jvm.Cond.code (⟨"java/lang/String", "startsWith", "(Ljava/lang/String;)Z"⟩ : MethodName) jdk_42_method_76_code 2 (some .boolean) :: ws) ({ frames := 3, cells := 0, slots := 0, locals := 59 } : Room)) (fun a U => a = #[(.ref a1), (.ref b2)] ∧ Z.Warmed39 U.vm ∧ U.heap = h0) (fun _ _ _ _ _ => True) (fun _ U o U' => ∃ v L, o = .returned v ∧ Q_rmSW1_3 Z a1 b2 c0 c1 c2 G1 h0 n0 v U'.heap L ∧ FrameEnd U o U' L ({ frames := 3, cells := 0, slots := 0, locals := 59 } : Room).cells ({ frames := 3, cells := 0, slots := 0, locals := 59 } : Room).slots) := by
  refine MetFree.of_bodySF (plainFor_of_name pn_1) hisR ?_
  intro p e s m args below meth c s₁ Bd hml0 hP hK
  obtain ⟨rfl, hZ, hh⟩ := hP
  have hx := Bd.exec
  have hby := Bd.bytes
  have hml : c.maxLocals = 2 := hml0
  have hown : s.vm.findClass "java/lang/String" = some m.cls := findClass_of_methodNamed Bd.named
  have hnm := (name_of_methodNamed Bd.named Bd.method).1
  have X0 : Stand p l e ({ frames := 3, cells := 0, slots := 0, locals := 59 } : Room) s m #[(.ref a1), (.ref b2)] below meth c s₁ [] 0 0 := Stand.of_body Bd
  have e0 : s₁.heap = h0 := by rw [← hh, Bd.state]; rfl
  have N0 := Fr.nil n0
  have ef : entryFrame m #[(.ref a1), (.ref b2)] 2 = (mkF m 0 #[.val (.ref a1), .val (.ref b2)] []) := by first | rfl | (simp [entryFrame, mkF, argsToLocals, Value.category, maxLocals]; done)
  show Go p e below (End (fun v h L => v = some (.int (if c0 = 95 then 1 else 0)) ∧ Fr n0 L ∧ h = h0) s 0 0) (s₁.setTop (entryFrame m #[(.ref a1), (.ref b2)] 2))
  rw [ef]
  show Go p e below _ (s₁.setTop (mkF m 0 #[.val (.ref a1), .val (.ref b2)] []))
  show Go p e below _ (s₁.setTop (mkF m 0 #[.val (.ref a1), .val (.ref b2)] []))
  refine Go.by (fun t => XS.aloadN X0.here hx rfl (hb hby d9_0) rfl rfl) ?_
  show Go p e below _ (s₁.setTop (mkF m 1 #[.val (.ref a1), .val (.ref b2)] [(.ref a1)]))
  refine Go.by (fun t => XS.aloadN X0.here hx rfl (hb hby d9_1) rfl rfl) ?_
  show Go p e below _ (s₁.setTop (mkF m 2 #[.val (.ref a1), .val (.ref b2)] [(.ref b2), (.ref a1)]))
  refine Go.by (fun t => XS.iconst X0.here hx rfl (hb hby d9_2)) ?_
  show Go p e below _ (s₁.setTop (mkF m 3 #[.val (.ref a1), .val (.ref b2)] [(.int (0 : Int32)), (.ref b2), (.ref a1)]))
  obtain ⟨cq147, kq147, q147a, q147b, q147c⟩ := isOf hZ e0 S_a1.exa
  obtain ⟨_, _, ⟨T147, L147, k147, n147⟩, -, X147, ⟨Lc147, hQ147, l147, y147, z147⟩, st147⟩ := X0.virtualBack hx (y := (⟨"java/lang/String", "startsWith", "(Ljava/lang/String;I)Z"⟩ : MethodName)) (z := (⟨"java/lang/String", "startsWith", "(Ljava/lang/String;I)Z"⟩ : MethodName)) hown (mvT hZ (hw _ (List.mem_of_getElem? (i := 46) rfl))) (mvT hZ (hw _ (List.mem_of_getElem? (i := 47) rfl))) (notFace_of_selects (args := #[]) (mvT hZ (hw _ (List.mem_of_getElem? (i := 49) rfl)))) (mvT hZ (hw _ (List.mem_of_getElem? (i := 49) rfl))) (mvT hZ (hw _ (List.mem_of_getElem? (i := 48) rfl))) (by decide) (backOf (W := 0) (rmSW2_3 l Z a0 hw [] a1 b2 c0 c1 c2 G1 h0 n0 Od O2 P5 S_a1 S_b2 hb0) hZ (hw _ (List.mem_of_getElem? (i := 50) rfl)) (hw _ (List.mem_of_getElem? (i := 6) rfl)) (by decide) (by decide)) q147a q147c (g := (mkF m 3 #[.val (.ref a1), .val (.ref b2)] [(.int (0 : Int32)), (.ref b2), (.ref a1)])) rfl (by rw [hml]; rfl) (Steps.refl _) (argsL := [(.ref b2), (.int (0 : Int32))]) (rest := []) (lenOf pd_10 rfl) rfl (by show 2 * 0 + _ ≤ _; exact Nat.le_of_eq rfl) (hb hby d9_3) (fun _ _ => ⟨rfl, e0, (by decide : 0 + 0 ≤ _), (by decide : 0 + 0 ≤ _)⟩)
  dsimp only [Pt.U, Pt.locs, Pt.cells, Pt.slots] at X147 l147 y147 z147 st147 hQ147
  subst l147 y147 z147
  obtain ⟨hv147, Nq147, e147⟩ := hQ147
  by_cases hq : c0 = 95
  ·
    rw [if_pos hq] at hv147
    subst hv147
    have N147 := Fr.app N0 Nq147
    refine Go.by (fun t => st147.trans) ?_
    show Go p e below _ (T147.setTop (mkF m 6 #[.val (.ref a1), .val (.ref b2)] [(.int (1 : Int32))]))
    show Go p e below _ (T147.setTop (mkF m 6 #[.val (.ref a1), .val (.ref b2)] [(.int (1 : Int32))]))
    exact Go.ret1 X147 hx Bd.returns Bd.notSynchronized (by first | rfl | decide) (Or.inl ⟨rfl, by simp, _, rfl⟩) (hb hby d9_6) (by decide) (by decide) (by first | (rw [e147]; exact ⟨by rw [if_pos hq], N147, rfl⟩) | exact ⟨by rw [if_pos hq], N147, rfl⟩)
  ·
    rw [if_neg hq] at hv147
    subst hv147
    have N147 := Fr.app N0 Nq147
    refine Go.by (fun t => st147.trans) ?_
    show Go p e below _ (T147.setTop (mkF m 6 #[.val (.ref a1), .val (.ref b2)] [(.int (0 : Int32))]))
    show Go p e below _ (T147.setTop (mkF m 6 #[.val (.ref a1), .val (.ref b2)] [(.int (0 : Int32))]))
    exact Go.ret1 X147 hx Bd.returns Bd.notSynchronized (by first | rfl | decide) (Or.inl ⟨rfl, by simp, _, rfl⟩) (hb hby d9_6) (by decide) (by decide) (by first | (rw [e147]; exact ⟨by rw [if_neg hq], N147, rfl⟩) | exact ⟨by rw [if_neg hq], N147, rfl⟩)
def Q_rm26 (Z : State) (a1 b2 : Addr) (h0 : Heap) (n0 : Nat) : Option Value → Heap → List Loc → Prop := fun v h L => v = none ∧ Fr n0 L ∧ Keep h0 h [a1] ∧ Exa Z h a1 "java/lang/String" ∧ Fld Z h a1 "java/lang/String" "value" "[B" (.ref b2) ∧ Fld Z h a1 "java/lang/String" "coder" "B" (.int 0)
set_option maxRecDepth 65536 in
set_option maxHeartbeats 40000000 in
theorem rm26 (l : Launch) (Z : State) (a0 : Array Value) (hw : ∀ d ∈ tables_1, d.before a0 Z = true) (ws : List Jvm.Cond) (a1 b2 : Addr) (h0 : Heap) (n0 : Nat) (E_a1 : Exa Z h0 a1 "java/lang/String") (F_value_a1 : Fld Z h0 a1 "java/lang/String" "value" "[B" .null) (F_coder_a1 : Fld Z h0 a1 "java/lang/String" "coder" "B" (.int 0)) (g_a1 : n0 ≤ a1) :
    MetFree l (⟨"java/lang/String", "<init>", "([BB)V"⟩ : MethodName) (head1 (Jvm.Cond.code (⟨"java/lang/String", "<init>", "([BB)V"⟩ : MethodName) jdk_42_method_151_code 3 none :: ws) ({ frames := 1, cells := 0, slots := 0, locals := 12 } : Room)) (fun a U => a = #[(.ref a1), (.ref b2), (.int (0 : Int32))] ∧ Z.Warmed39 U.vm ∧ U.heap = h0) (fun _ _ _ _ _ => True) (fun _ U o U' => ∃ v L, o = .returned v ∧ Q_rm26 Z a1 b2 h0 n0 v U'.heap L ∧ FrameEnd U o U' L ({ frames := 1, cells := 0, slots := 0, locals := 12 } : Room).cells ({ frames := 1, cells := 0, slots := 0, locals := 12 } : Room).slots) := by
  refine MetFree.of_bodySF (plainFor_of_name pn_1) hisR ?_
  intro p e s m args below meth c s₁ Bd hml0 hP hK
  obtain ⟨rfl, hZ, hh⟩ := hP
  have hx := Bd.exec
  have hby := Bd.bytes
  have hml : c.maxLocals = 3 := hml0
  have hown : s.vm.findClass "java/lang/String" = some m.cls := findClass_of_methodNamed Bd.named
  have hnm := (name_of_methodNamed Bd.named Bd.method).1
  have X0 : Stand p l e ({ frames := 1, cells := 0, slots := 0, locals := 12 } : Room) s m #[(.ref a1), (.ref b2), (.int (0 : Int32))] below meth c s₁ [] 0 0 := Stand.of_body Bd
  have e0 : s₁.heap = h0 := by rw [← hh, Bd.state]; rfl
  have N0 := Fr.nil n0
  have ef : entryFrame m #[(.ref a1), (.ref b2), (.int (0 : Int32))] 3 = (mkF m 0 #[.val (.ref a1), .val (.ref b2), .val (.int (0 : Int32))] []) := by first | rfl | (simp [entryFrame, mkF, argsToLocals, Value.category, maxLocals]; done)
  show Go p e below (End (fun v h L => v = none ∧ Fr n0 L ∧ Keep h0 h [a1] ∧ Exa Z h a1 "java/lang/String" ∧ Fld Z h a1 "java/lang/String" "value" "[B" (.ref b2) ∧ Fld Z h a1 "java/lang/String" "coder" "B" (.int 0)) s 0 0) (s₁.setTop (entryFrame m #[(.ref a1), (.ref b2), (.int (0 : Int32))] 3))
  rw [ef]
  show Go p e below _ (s₁.setTop (mkF m 0 #[.val (.ref a1), .val (.ref b2), .val (.int (0 : Int32))] []))
  have K0 : Keep h0 h0 [a1] := Keep.refl _ _
  show Go p e below _ (s₁.setTop (mkF m 0 #[.val (.ref a1), .val (.ref b2), .val (.int (0 : Int32))] []))
  refine Go.by (fun t => XS.aloadN X0.here hx rfl (hb hby d26_0) rfl rfl) ?_
  show Go p e below _ (s₁.setTop (mkF m 1 #[.val (.ref a1), .val (.ref b2), .val (.int (0 : Int32))] [(.ref a1)]))
  obtain ⟨T148, X148, e148, st148⟩ := initO X0 hx hZ hown (hw _ (List.mem_of_getElem? (i := 15) rfl)) (hw _ (List.mem_of_getElem? (i := 16) rfl)) (hw _ (List.mem_of_getElem? (i := 17) rfl)) e0 (g := (mkF m 1 #[.val (.ref a1), .val (.ref b2), .val (.int (0 : Int32))] [(.ref a1)])) rfl (by rw [hml]; rfl) rfl (hb hby d26_1) (by decide) (W := 0) (by show 2 * 0 + _ ≤ _; exact Nat.le_of_eq rfl) (by decide)
  refine Go.by (fun t => st148 t) ?_
  show Go p e below _ (T148.setTop (mkF m 4 #[.val (.ref a1), .val (.ref b2), .val (.int (0 : Int32))] []))
  show Go p e below _ (T148.setTop (mkF m 4 #[.val (.ref a1), .val (.ref b2), .val (.int (0 : Int32))] []))
  refine Go.by (fun t => XS.aloadN X148.here hx rfl (hb hby d26_4) rfl rfl) ?_
  show Go p e below _ (T148.setTop (mkF m 5 #[.val (.ref a1), .val (.ref b2), .val (.int (0 : Int32))] [(.ref a1)]))
  refine Go.by (fun t => XS.aloadN X148.here hx rfl (hb hby d26_5) rfl rfl) ?_
  show Go p e below _ (T148.setTop (mkF m 6 #[.val (.ref a1), .val (.ref b2), .val (.int (0 : Int32))] [(.ref b2), (.ref a1)]))
  obtain ⟨T149, h149, X149, e149, W149, st149⟩ := putF X148 hx hZ hown (host := "") (Or.inl (hw _ (List.mem_of_getElem? (i := 32) rfl))) Via.refl e148 F_value_a1 E_a1 (Or.inr ⟨(hw _ (List.mem_of_getElem? (i := 33) rfl)), rfl, hnm⟩) (hw _ (List.mem_of_getElem? (i := 5) rfl)) (ty := (.array .byte)) (by decide) rfl rfl (g := (mkF m 6 #[.val (.ref a1), .val (.ref b2), .val (.int (0 : Int32))] [(.ref b2), (.ref a1)])) rfl rfl (hb hby d26_6)
  refine Go.by (fun t => st149 t) ?_
  replace F_value_a1 := F_value_a1.same W149
  replace E_a1 := E_a1.wr W149
  replace F_coder_a1 := F_coder_a1.other W149 (Or.inr (slot_ne (Or.inr (hw _ (List.mem_of_getElem? (i := 31) rfl))) (Or.inr (hw _ (List.mem_of_getElem? (i := 33) rfl))) (by decide) (t := .byte) (t' := (.array .byte)) (by decide) (by decide)))
  replace K0 := K0.wr W149 (Or.inl (List.mem_of_getElem? (i := 0) rfl))
  have N149 := Fr.snoc X149 N0 g_a1
  show Go p e below _ (T149.setTop (mkF m 9 #[.val (.ref a1), .val (.ref b2), .val (.int (0 : Int32))] []))
  show Go p e below _ (T149.setTop (mkF m 9 #[.val (.ref a1), .val (.ref b2), .val (.int (0 : Int32))] []))
  refine Go.by (fun t => XS.aloadN X149.here hx rfl (hb hby d26_9) rfl rfl) ?_
  show Go p e below _ (T149.setTop (mkF m 10 #[.val (.ref a1), .val (.ref b2), .val (.int (0 : Int32))] [(.ref a1)]))
  refine Go.by (fun t => XS.iloadN X149.here hx rfl (hb hby d26_10) rfl ) ?_
  show Go p e below _ (T149.setTop (mkF m 11 #[.val (.ref a1), .val (.ref b2), .val (.int (0 : Int32))] [(.int (0 : Int32)), (.ref a1)]))
  obtain ⟨T150, h150, X150, e150, W150, st150⟩ := putFN X149 hx hZ hown (hw _ (List.mem_of_getElem? (i := 30) rfl)) Via.refl e149 F_coder_a1 E_a1 (Or.inr ⟨(hw _ (List.mem_of_getElem? (i := 31) rfl)), rfl, hnm⟩) (hw _ (List.mem_of_getElem? (i := 5) rfl)) (ty := .byte) (v' := (.int (0 : Int32))) (by decide) (by first | rfl | decide) (by first | rfl | decide | exact fits_nar_byte _) (g := (mkF m 11 #[.val (.ref a1), .val (.ref b2), .val (.int (0 : Int32))] [(.int (0 : Int32)), (.ref a1)])) rfl rfl (hb hby d26_11)
  refine Go.by (fun t => st150 t) ?_
  replace F_coder_a1 := F_coder_a1.same W150
  replace E_a1 := E_a1.wr W150
  replace F_value_a1 := F_value_a1.other W150 (Or.inr (slot_ne (Or.inr (hw _ (List.mem_of_getElem? (i := 33) rfl))) (Or.inr (hw _ (List.mem_of_getElem? (i := 31) rfl))) (by decide) (t := (.array .byte)) (t' := .byte) (by decide) (by decide)))
  replace K0 := K0.wr W150 (Or.inl (List.mem_of_getElem? (i := 0) rfl))
  have N150 := Fr.snoc X150 N149 g_a1
  show Go p e below _ (T150.setTop (mkF m 14 #[.val (.ref a1), .val (.ref b2), .val (.int (0 : Int32))] []))
  show Go p e below _ (T150.setTop (mkF m 14 #[.val (.ref a1), .val (.ref b2), .val (.int (0 : Int32))] []))
  exact Go.ret0 X150 hx Bd.returns Bd.notSynchronized (hb hby d26_14) (by decide) (by decide) (by first | (rw [e150]; exact ⟨rfl, N150, K0, E_a1, F_value_a1, F_coder_a1⟩) | exact ⟨rfl, N150, K0, E_a1, F_value_a1, F_coder_a1⟩)
def Q_rmCRB2 (Z : State) (a1 : Addr) (k1 : ClassId) (x0 x1 : Int32) (h0 : Heap) (n0 : Nat) : Option Value → Heap → List Loc → Prop := fun v h L => ∃ (b : Addr) (kb : ClassId), v = some (.ref b) ∧ h0.size ≤ b ∧ Fr n0 L ∧ Keep h0 h [] ∧ Arv Z h b kb .byte (1 : Int32) [(.int x1)] (.int 0)
set_option maxRecDepth 65536 in
set_option maxHeartbeats 40000000 in
theorem rmCRB2 (l : Launch) (Z : State) (a0 : Array Value) (hw : ∀ d ∈ tables_1, d.before a0 Z = true) (ws : List Jvm.Cond) (a1 : Addr) (k1 : ClassId) (x0 x1 : Int32) (h0 : Heap) (n0 : Nat) (Z0 : n0 ≤ h0.size) (V_a1 : Arv Z h0 a1 k1 .byte (2 : Int32) [(.int x0), (.int x1)] (.int 0)) :
    MetFree l (⟨"java/util/Arrays", "copyOfRangeByte", "([BII)[B"⟩ : MethodName) (head1 (Jvm.Cond.code (⟨"java/util/Arrays", "copyOfRangeByte", "([BII)[B"⟩ : MethodName) jdk_65_method_133_code 5 (some (.array .byte)) :: ws) ({ frames := 1, cells := 1, slots := 1, locals := 40 } : Room)) (fun a U => a = #[(.ref a1), (.int (1 : Int32)), (.int (2 : Int32))] ∧ Z.Warmed39 U.vm ∧ U.heap = h0) (fun _ _ _ _ _ => True) (fun _ U o U' => ∃ v L, o = .returned v ∧ Q_rmCRB2 Z a1 k1 x0 x1 h0 n0 v U'.heap L ∧ FrameEnd U o U' L ({ frames := 1, cells := 1, slots := 1, locals := 40 } : Room).cells ({ frames := 1, cells := 1, slots := 1, locals := 40 } : Room).slots) := by
  refine MetFree.of_bodySF (plainFor_of_name pn_6) hisR ?_
  intro p e s m args below meth c s₁ Bd hml0 hP hK
  obtain ⟨rfl, hZ, hh⟩ := hP
  have hx := Bd.exec
  have hby := Bd.bytes
  have hml : c.maxLocals = 5 := hml0
  have hown : s.vm.findClass "java/util/Arrays" = some m.cls := findClass_of_methodNamed Bd.named
  have hnm := (name_of_methodNamed Bd.named Bd.method).1
  have X0 : Stand p l e ({ frames := 1, cells := 1, slots := 1, locals := 40 } : Room) s m #[(.ref a1), (.int (1 : Int32)), (.int (2 : Int32))] below meth c s₁ [] 0 0 := Stand.of_body Bd
  have e0 : s₁.heap = h0 := by rw [← hh, Bd.state]; rfl
  have N0 := Fr.nil n0
  have ef : entryFrame m #[(.ref a1), (.int (1 : Int32)), (.int (2 : Int32))] 5 = (mkF m 0 #[.val (.ref a1), .val (.int (1 : Int32)), .val (.int (2 : Int32)), .unset, .unset] []) := by first | rfl | (simp [entryFrame, mkF, argsToLocals, Value.category, maxLocals]; done)
  show Go p e below (End (fun v h L => ∃ (b : Addr) (kb : ClassId), v = some (.ref b) ∧ h0.size ≤ b ∧ Fr n0 L ∧ Keep h0 h [] ∧ Arv Z h b kb .byte (1 : Int32) [(.int x1)] (.int 0)) s 1 1) (s₁.setTop (entryFrame m #[(.ref a1), (.int (1 : Int32)), (.int (2 : Int32))] 5))
  rw [ef]
  show Go p e below _ (s₁.setTop (mkF m 0 #[.val (.ref a1), .val (.int (1 : Int32)), .val (.int (2 : Int32)), .unset, .unset] []))
  have K0 : Keep h0 h0 [] := Keep.refl _ _
  show Go p e below _ (s₁.setTop (mkF m 0 #[.val (.ref a1), .val (.int (1 : Int32)), .val (.int (2 : Int32)), .unset, .unset] []))
  refine Go.by (fun t => XS.iloadN X0.here hx rfl (hb hby d23_0) rfl ) ?_
  show Go p e below _ (s₁.setTop (mkF m 1 #[.val (.ref a1), .val (.int (1 : Int32)), .val (.int (2 : Int32)), .unset, .unset] [(.int (1 : Int32))]))
  refine Go.by (fun t => XS.iloadN X0.here hx rfl (hb hby d23_1) rfl ) ?_
  show Go p e below _ (s₁.setTop (mkF m 2 #[.val (.ref a1), .val (.int (1 : Int32)), .val (.int (2 : Int32)), .unset, .unset] [(.int (2 : Int32)), (.int (1 : Int32))]))
  obtain ⟨_, _, ⟨T151, L151, k151, n151⟩, -, X151, ⟨Lc151, hQ151, l151, y151, z151⟩, st151⟩ := Jvm.LawKit.callS X0 hx (y := (⟨"java/util/Arrays", "checkLength", "(II)V"⟩ : MethodName)) hown (mvT hZ (hw _ (List.mem_of_getElem? (i := 110) rfl))) (mvT hZ (hw _ (List.mem_of_getElem? (i := 111) rfl))) (mvT hZ (hw _ (List.mem_of_getElem? (i := 105) rfl))) (mvT hZ (hw _ (List.mem_of_getElem? (i := 112) rfl))) (by decide) (backOf (W := 0) (rm24 l Z a0 hw [] 1 2 h0 n0 (by decide)) hZ (hw _ (List.mem_of_getElem? (i := 112) rfl)) (hw _ (List.mem_of_getElem? (i := 105) rfl)) (by decide) (by decide)) (g := (mkF m 2 #[.val (.ref a1), .val (.int (1 : Int32)), .val (.int (2 : Int32)), .unset, .unset] [(.int (2 : Int32)), (.int (1 : Int32))])) rfl (by rw [hml]; rfl) (argsL := [(.int (1 : Int32)), (.int (2 : Int32))]) (rest := []) (lenOf pd_22 rfl) rfl (by show 2 * 0 + _ ≤ _; exact Nat.le_of_eq rfl) (hb hby d23_2) (fun _ _ => ⟨rfl, e0, (by decide : 0 + 0 ≤ _), (by decide : 0 + 0 ≤ _)⟩)
  dsimp only [Pt.U, Pt.locs, Pt.cells, Pt.slots] at X151 l151 y151 z151 st151 hQ151
  subst l151 y151 z151
  obtain ⟨rfl, Nq151, e151⟩ := hQ151
  have N151 := Fr.app N0 Nq151
  refine Go.by (fun t => st151 t) ?_
  show Go p e below _ (T151.setTop (mkF m 5 #[.val (.ref a1), .val (.int (1 : Int32)), .val (.int (2 : Int32)), .unset, .unset] []))
  show Go p e below _ (T151.setTop (mkF m 5 #[.val (.ref a1), .val (.int (1 : Int32)), .val (.int (2 : Int32)), .unset, .unset] []))
  refine Go.by (fun t => XS.iloadN X151.here hx rfl (hb hby d23_5) rfl ) ?_
  show Go p e below _ (T151.setTop (mkF m 6 #[.val (.ref a1), .val (.int (1 : Int32)), .val (.int (2 : Int32)), .unset, .unset] [(.int (2 : Int32))]))
  refine Go.by (fun t => XS.iloadN X151.here hx rfl (hb hby d23_6) rfl ) ?_
  show Go p e below _ (T151.setTop (mkF m 7 #[.val (.ref a1), .val (.int (1 : Int32)), .val (.int (2 : Int32)), .unset, .unset] [(.int (1 : Int32)), (.int (2 : Int32))]))
  refine Go.by (fun t => XS.isub X151.here hx rfl (hb hby d23_7) rfl) ?_
  show Go p e below _ (T151.setTop (mkF m 8 #[.val (.ref a1), .val (.int (1 : Int32)), .val (.int (2 : Int32)), .unset, .unset] [(.int ((2 : Int32) - (1 : Int32)))]))
  rw [show (2 : Int32) - (1 : Int32) = 1 from rfl]
  show Go p e below _ (T151.setTop (mkF m 8 #[.val (.ref a1), .val (.int (1 : Int32)), .val (.int (2 : Int32)), .unset, .unset] [(.int (1 : Int32))]))
  show Go p e below _ (T151.setTop (mkF m 8 #[.val (.ref a1), .val (.int (1 : Int32)), .val (.int (2 : Int32)), .unset, .unset] [(.int (1 : Int32))]))
  refine Go.by (fun t => XS.istoreN X151.here hx rfl (hb hby d23_8) rfl (l' := #[.val (.ref a1), .val (.int (1 : Int32)), .val (.int (2 : Int32)), .val (.int (1 : Int32)), .unset]) rfl) ?_
  show Go p e below _ (T151.setTop (mkF m 9 #[.val (.ref a1), .val (.int (1 : Int32)), .val (.int (2 : Int32)), .val (.int (1 : Int32)), .unset] []))
  refine Go.by (fun t => XS.iloadN X151.here hx rfl (hb hby d23_9) rfl ) ?_
  show Go p e below _ (T151.setTop (mkF m 10 #[.val (.ref a1), .val (.int (1 : Int32)), .val (.int (2 : Int32)), .val (.int (1 : Int32)), .unset] [(.int (1 : Int32))]))
  obtain ⟨T152, h152, k152, X152, e152, E152, A152, st152⟩ := newP X151 hx hZ (hw _ (List.mem_of_getElem? (i := 23) rfl)) e151 (g := (mkF m 10 #[.val (.ref a1), .val (.int (1 : Int32)), .val (.int (2 : Int32)), .val (.int (1 : Int32)), .unset] [(.int (1 : Int32))])) rfl (hb hby d23_10) rfl (by decide) (cap := 1) (by decide) (by decide) (by decide) (by decide)
  obtain ⟨nb, g152⟩ : ∃ z, z = h0.size := ⟨_, rfl⟩
  rw [← g152] at A152 st152
  refine Go.by (fun t => st152 t) ?_
  have g_nb : n0 ≤ nb := Nat.le_trans Z0 (Nat.le_of_eq g152.symm)
  have sz_nb : h0.size ≤ nb := Nat.le_trans K0.1 (Nat.le_of_eq g152.symm)
  have ne_a1_nb : a1 ≠ nb := Nat.ne_of_lt (Nat.lt_of_lt_of_le V_a1.lt (Nat.le_of_eq g152.symm))
  replace V_a1 := V_a1.ext E152
  replace Z0 := Nat.le_trans Z0 E152.1
  replace K0 := K0.ext E152
  have V_nb : Arv Z h152 nb k152 .byte (1 : Int32) [(.int (0 : Int32))] (.int (0 : Int32)) := (Arv.new A152 (by decide)).pad (pad_rep [] (.int (0 : Int32)) 1)
  show Go p e below _ (T152.setTop (mkF m 12 #[.val (.ref a1), .val (.int (1 : Int32)), .val (.int (2 : Int32)), .val (.int (1 : Int32)), .unset] [(.ref nb)]))
  show Go p e below _ (T152.setTop (mkF m 12 #[.val (.ref a1), .val (.int (1 : Int32)), .val (.int (2 : Int32)), .val (.int (1 : Int32)), .unset] [(.ref nb)]))
  refine Go.by (fun t => XS.astore X152.here hx rfl (hb hby d23_12) rfl rfl (l' := #[.val (.ref a1), .val (.int (1 : Int32)), .val (.int (2 : Int32)), .val (.int (1 : Int32)), .val (.ref nb)]) rfl) ?_
  show Go p e below _ (T152.setTop (mkF m 14 #[.val (.ref a1), .val (.int (1 : Int32)), .val (.int (2 : Int32)), .val (.int (1 : Int32)), .val (.ref nb)] []))
  refine Go.by (fun t => XS.aloadN X152.here hx rfl (hb hby d23_14) rfl rfl) ?_
  show Go p e below _ (T152.setTop (mkF m 15 #[.val (.ref a1), .val (.int (1 : Int32)), .val (.int (2 : Int32)), .val (.int (1 : Int32)), .val (.ref nb)] [(.ref a1)]))
  refine Go.by (fun t => XS.iloadN X152.here hx rfl (hb hby d23_15) rfl ) ?_
  show Go p e below _ (T152.setTop (mkF m 16 #[.val (.ref a1), .val (.int (1 : Int32)), .val (.int (2 : Int32)), .val (.int (1 : Int32)), .val (.ref nb)] [(.int (1 : Int32)), (.ref a1)]))
  refine Go.by (fun t => XS.aload X152.here hx rfl (hb hby d23_16) rfl rfl) ?_
  show Go p e below _ (T152.setTop (mkF m 18 #[.val (.ref a1), .val (.int (1 : Int32)), .val (.int (2 : Int32)), .val (.int (1 : Int32)), .val (.ref nb)] [(.ref nb), (.int (1 : Int32)), (.ref a1)]))
  refine Go.by (fun t => XS.iconst X152.here hx rfl (hb hby d23_18)) ?_
  show Go p e below _ (T152.setTop (mkF m 19 #[.val (.ref a1), .val (.int (1 : Int32)), .val (.int (2 : Int32)), .val (.int (1 : Int32)), .val (.ref nb)] [(.int (0 : Int32)), (.ref nb), (.int (1 : Int32)), (.ref a1)]))
  refine Go.by (fun t => XS.aloadN X152.here hx rfl (hb hby d23_19) rfl rfl) ?_
  show Go p e below _ (T152.setTop (mkF m 20 #[.val (.ref a1), .val (.int (1 : Int32)), .val (.int (2 : Int32)), .val (.int (1 : Int32)), .val (.ref nb)] [(.ref a1), (.int (0 : Int32)), (.ref nb), (.int (1 : Int32)), (.ref a1)]))
  obtain ⟨cl_153, Ar_153, q_153, S_153, M_153, -, -⟩ := id V_a1
  refine Go.by (fun t => X152.arraylength hx (by rw [e152]; exact Ar_153.1) (State.isArrayOf_alike hZ.alike Ar_153.2.1) (g := (mkF m 20 #[.val (.ref a1), .val (.int (1 : Int32)), .val (.int (2 : Int32)), .val (.int (1 : Int32)), .val (.ref nb)] [(.ref a1), (.int (0 : Int32)), (.ref nb), (.int (1 : Int32)), (.ref a1)])) rfl rfl (hb hby d23_20) t) ?_
  rw [len_of S_153 M_153]
  show Go p e below _ (T152.setTop (mkF m 21 #[.val (.ref a1), .val (.int (1 : Int32)), .val (.int (2 : Int32)), .val (.int (1 : Int32)), .val (.ref nb)] [(.int (2 : Int32)), (.int (0 : Int32)), (.ref nb), (.int (1 : Int32)), (.ref a1)]))
  show Go p e below _ (T152.setTop (mkF m 21 #[.val (.ref a1), .val (.int (1 : Int32)), .val (.int (2 : Int32)), .val (.int (1 : Int32)), .val (.ref nb)] [(.int (2 : Int32)), (.int (0 : Int32)), (.ref nb), (.int (1 : Int32)), (.ref a1)]))
  refine Go.by (fun t => XS.iloadN X152.here hx rfl (hb hby d23_21) rfl ) ?_
  show Go p e below _ (T152.setTop (mkF m 22 #[.val (.ref a1), .val (.int (1 : Int32)), .val (.int (2 : Int32)), .val (.int (1 : Int32)), .val (.ref nb)] [(.int (1 : Int32)), (.int (2 : Int32)), (.int (0 : Int32)), (.ref nb), (.int (1 : Int32)), (.ref a1)]))
  refine Go.by (fun t => XS.isub X152.here hx rfl (hb hby d23_22) rfl) ?_
  show Go p e below _ (T152.setTop (mkF m 23 #[.val (.ref a1), .val (.int (1 : Int32)), .val (.int (2 : Int32)), .val (.int (1 : Int32)), .val (.ref nb)] [(.int ((2 : Int32) - (1 : Int32))), (.int (0 : Int32)), (.ref nb), (.int (1 : Int32)), (.ref a1)]))
  rw [show (2 : Int32) - (1 : Int32) = 1 from rfl]
  show Go p e below _ (T152.setTop (mkF m 23 #[.val (.ref a1), .val (.int (1 : Int32)), .val (.int (2 : Int32)), .val (.int (1 : Int32)), .val (.ref nb)] [(.int (1 : Int32)), (.int (0 : Int32)), (.ref nb), (.int (1 : Int32)), (.ref a1)]))
  show Go p e below _ (T152.setTop (mkF m 23 #[.val (.ref a1), .val (.int (1 : Int32)), .val (.int (2 : Int32)), .val (.int (1 : Int32)), .val (.ref nb)] [(.int (1 : Int32)), (.int (0 : Int32)), (.ref nb), (.int (1 : Int32)), (.ref a1)]))
  refine Go.by (fun t => XS.iloadN X152.here hx rfl (hb hby d23_23) rfl ) ?_
  show Go p e below _ (T152.setTop (mkF m 24 #[.val (.ref a1), .val (.int (1 : Int32)), .val (.int (2 : Int32)), .val (.int (1 : Int32)), .val (.ref nb)] [(.int (1 : Int32)), (.int (1 : Int32)), (.int (0 : Int32)), (.ref nb), (.int (1 : Int32)), (.ref a1)]))
  obtain ⟨_, _, ⟨T154, L154, k154, n154⟩, -, X154, ⟨Lc154, hQ154, l154, y154, z154⟩, st154⟩ := Jvm.LawKit.callS X152 hx (y := (⟨"java/lang/Math", "min", "(II)I"⟩ : MethodName)) hown (mvT hZ (hw _ (List.mem_of_getElem? (i := 113) rfl))) (mvT hZ (hw _ (List.mem_of_getElem? (i := 114) rfl))) (mvT hZ (hw _ (List.mem_of_getElem? (i := 115) rfl))) (mvT hZ (hw _ (List.mem_of_getElem? (i := 116) rfl))) (by decide) (backOf (W := 4) (rm25 l Z a0 hw [] 1 1 h152 n0 (by decide)) hZ (hw _ (List.mem_of_getElem? (i := 116) rfl)) (hw _ (List.mem_of_getElem? (i := 115) rfl)) (by decide) (by decide)) (g := (mkF m 24 #[.val (.ref a1), .val (.int (1 : Int32)), .val (.int (2 : Int32)), .val (.int (1 : Int32)), .val (.ref nb)] [(.int (1 : Int32)), (.int (1 : Int32)), (.int (0 : Int32)), (.ref nb), (.int (1 : Int32)), (.ref a1)])) rfl (by rw [hml]; rfl) (argsL := [(.int (1 : Int32)), (.int (1 : Int32))]) (rest := [(.int (0 : Int32)), (.ref nb), (.int (1 : Int32)), (.ref a1)]) (lenOf pd_23 rfl) rfl (by show 2 * 0 + _ ≤ _; exact Nat.le_of_eq rfl) (hb hby d23_24) (fun _ _ => ⟨rfl, e152, (by decide : 1 + 0 ≤ _), (by decide : 1 + 0 ≤ _)⟩)
  dsimp only [Pt.U, Pt.locs, Pt.cells, Pt.slots] at X154 l154 y154 z154 st154 hQ154
  subst l154 y154 z154
  obtain ⟨rfl, Nq154, e154⟩ := hQ154
  have N154 := Fr.app N151 Nq154
  refine Go.by (fun t => st154 t) ?_
  show Go p e below _ (T154.setTop (mkF m 27 #[.val (.ref a1), .val (.int (1 : Int32)), .val (.int (2 : Int32)), .val (.int (1 : Int32)), .val (.ref nb)] [(.int (1 : Int32)), (.int (0 : Int32)), (.ref nb), (.int (1 : Int32)), (.ref a1)]))
  obtain ⟨T155, h155, L155, X155, e155, N155, K155, Vn155, st155⟩ := cpA X154 hx hZ hown (hw _ (List.mem_of_getElem? (i := 117) rfl)) (hw _ (List.mem_of_getElem? (i := 120) rfl)) (hw _ (List.mem_of_getElem? (i := 118) rfl)) (hw _ (List.mem_of_getElem? (i := 119) rfl)) e154 V_a1 V_nb (us := [(.int x1)]) (Or.inl ⟨rfl, rfl⟩) (by decide) (by decide) (by decide) (by decide) (by decide) (by first | rfl | decide) (by decide) N154 g_nb (g := (mkF m 27 #[.val (.ref a1), .val (.int (1 : Int32)), .val (.int (2 : Int32)), .val (.int (1 : Int32)), .val (.ref nb)] [(.int (1 : Int32)), (.int (0 : Int32)), (.ref nb), (.int (1 : Int32)), (.ref a1)])) rfl (by rw [hml]; rfl) rfl (hb hby d23_27) (by decide) (W := 0) (by show 2 * 0 + _ ≤ _; exact Nat.le_of_eq rfl) (by decide)
  refine Go.by (fun t => st155 t) ?_
  replace V_a1 := V_a1.keep K155 (ninS ne_a1_nb nin0)
  replace Z0 := Nat.le_trans Z0 K155.1
  replace K0 := K0.trans K155 (allS (P := fun x => x ∈ _ ∨ _ ≤ x) (Or.inr sz_nb) all0)
  clear V_nb
  have V_nb := Vn155
  show Go p e below _ (T155.setTop (mkF m 30 #[.val (.ref a1), .val (.int (1 : Int32)), .val (.int (2 : Int32)), .val (.int (1 : Int32)), .val (.ref nb)] []))
  have V_res : Arv Z h155 nb k152 .byte (1 : Int32) [(.int x1)] (.int 0) := V_nb
  show Go p e below _ (T155.setTop (mkF m 30 #[.val (.ref a1), .val (.int (1 : Int32)), .val (.int (2 : Int32)), .val (.int (1 : Int32)), .val (.ref nb)] []))
  refine Go.by (fun t => XS.aload X155.here hx rfl (hb hby d23_30) rfl rfl) ?_
  show Go p e below _ (T155.setTop (mkF m 32 #[.val (.ref a1), .val (.int (1 : Int32)), .val (.int (2 : Int32)), .val (.int (1 : Int32)), .val (.ref nb)] [(.ref nb)]))
  exact Go.ret1 X155 hx Bd.returns Bd.notSynchronized rfl (Or.inr (Or.inr (Or.inr (Or.inr ⟨rfl, rfl, rfl⟩)))) (hb hby d23_32) (by decide) (by decide) (by first | (rw [e155]; exact ⟨nb, _, rfl, sz_nb, N155, K0, V_res⟩) | exact ⟨nb, _, rfl, sz_nb, N155, K0, V_res⟩)
def Q_rmCR2 (Z : State) (a1 : Addr) (k1 : ClassId) (x0 x1 : Int32) (h0 : Heap) (n0 : Nat) : Option Value → Heap → List Loc → Prop := fun v h L => ∃ (b : Addr) (kb : ClassId), v = some (.ref b) ∧ h0.size ≤ b ∧ Fr n0 L ∧ Keep h0 h [] ∧ Arv Z h b kb .byte (1 : Int32) [(.int x1)] (.int 0)
set_option maxRecDepth 65536 in
set_option maxHeartbeats 40000000 in
theorem rmCR2 (l : Launch) (Z : State) (a0 : Array Value) (hw : ∀ d ∈ tables_1, d.before a0 Z = true) (ws : List Jvm.Cond) (a1 : Addr) (k1 : ClassId) (x0 x1 : Int32) (h0 : Heap) (n0 : Nat) (Z0 : n0 ≤ h0.size) (V_a1 : Arv Z h0 a1 k1 .byte (2 : Int32) [(.int x0), (.int x1)] (.int 0)) :
    MetFree l (⟨"java/util/Arrays", "copyOfRange", "([BII)[B"⟩ : MethodName) (head1 (Jvm.Cond.code (⟨"java/util/Arrays", "copyOfRange", "([BII)[B"⟩ : MethodName) jdk_65_method_132_code 3 (some (.array .byte)) :: ws) ({ frames := 2, cells := 1, slots := 1, locals := 56 } : Room)) (fun a U => a = #[(.ref a1), (.int (1 : Int32)), (.int (2 : Int32))] ∧ Z.Warmed39 U.vm ∧ U.heap = h0) (fun _ _ _ _ _ => True) (fun _ U o U' => ∃ v L, o = .returned v ∧ Q_rmCR2 Z a1 k1 x0 x1 h0 n0 v U'.heap L ∧ FrameEnd U o U' L ({ frames := 2, cells := 1, slots := 1, locals := 56 } : Room).cells ({ frames := 2, cells := 1, slots := 1, locals := 56 } : Room).slots) := by
  refine MetFree.of_bodySF (plainFor_of_name pn_6) hisR ?_
  intro p e s m args below meth c s₁ Bd hml0 hP hK
  obtain ⟨rfl, hZ, hh⟩ := hP
  have hx := Bd.exec
  have hby := Bd.bytes
  have hml : c.maxLocals = 3 := hml0
  have hown : s.vm.findClass "java/util/Arrays" = some m.cls := findClass_of_methodNamed Bd.named
  have hnm := (name_of_methodNamed Bd.named Bd.method).1
  have X0 : Stand p l e ({ frames := 2, cells := 1, slots := 1, locals := 56 } : Room) s m #[(.ref a1), (.int (1 : Int32)), (.int (2 : Int32))] below meth c s₁ [] 0 0 := Stand.of_body Bd
  have e0 : s₁.heap = h0 := by rw [← hh, Bd.state]; rfl
  have N0 := Fr.nil n0
  have ef : entryFrame m #[(.ref a1), (.int (1 : Int32)), (.int (2 : Int32))] 3 = (mkF m 0 #[.val (.ref a1), .val (.int (1 : Int32)), .val (.int (2 : Int32))] []) := by first | rfl | (simp [entryFrame, mkF, argsToLocals, Value.category, maxLocals]; done)
  show Go p e below (End (fun v h L => ∃ (b : Addr) (kb : ClassId), v = some (.ref b) ∧ h0.size ≤ b ∧ Fr n0 L ∧ Keep h0 h [] ∧ Arv Z h b kb .byte (1 : Int32) [(.int x1)] (.int 0)) s 1 1) (s₁.setTop (entryFrame m #[(.ref a1), (.int (1 : Int32)), (.int (2 : Int32))] 3))
  rw [ef]
  show Go p e below _ (s₁.setTop (mkF m 0 #[.val (.ref a1), .val (.int (1 : Int32)), .val (.int (2 : Int32))] []))
  show Go p e below _ (s₁.setTop (mkF m 0 #[.val (.ref a1), .val (.int (1 : Int32)), .val (.int (2 : Int32))] []))
  refine Go.by (fun t => XS.iloadN X0.here hx rfl (hb hby d22_0) rfl ) ?_
  show Go p e below _ (s₁.setTop (mkF m 1 #[.val (.ref a1), .val (.int (1 : Int32)), .val (.int (2 : Int32))] [(.int (1 : Int32))]))
  refine Go.by (fun t => XS.ifYes X0.here hx rfl (pc0 := 1) (pc' := 10) rfl (hb hby d22_1) rfl ((if0 _ _).trans (feq (by decide : ¬ ((1 : Int32) = (0 : Int32)))).2) (by decide) (by decide)) ?_
  show Go p e below _ (s₁.setTop (mkF m 10 #[.val (.ref a1), .val (.int (1 : Int32)), .val (.int (2 : Int32))] []))
  show Go p e below _ (s₁.setTop (mkF m 10 #[.val (.ref a1), .val (.int (1 : Int32)), .val (.int (2 : Int32))] []))
  refine Go.by (fun t => XS.aloadN X0.here hx rfl (hb hby d22_10) rfl rfl) ?_
  show Go p e below _ (s₁.setTop (mkF m 11 #[.val (.ref a1), .val (.int (1 : Int32)), .val (.int (2 : Int32))] [(.ref a1)]))
  refine Go.by (fun t => XS.iloadN X0.here hx rfl (hb hby d22_11) rfl ) ?_
  show Go p e below _ (s₁.setTop (mkF m 12 #[.val (.ref a1), .val (.int (1 : Int32)), .val (.int (2 : Int32))] [(.int (1 : Int32)), (.ref a1)]))
  refine Go.by (fun t => XS.iloadN X0.here hx rfl (hb hby d22_12) rfl ) ?_
  show Go p e below _ (s₁.setTop (mkF m 13 #[.val (.ref a1), .val (.int (1 : Int32)), .val (.int (2 : Int32))] [(.int (2 : Int32)), (.int (1 : Int32)), (.ref a1)]))
  obtain ⟨_, _, ⟨T156, L156, k156, n156⟩, -, X156, ⟨Lc156, hQ156, l156, y156, z156⟩, st156⟩ := Jvm.LawKit.callS X0 hx (y := (⟨"java/util/Arrays", "copyOfRangeByte", "([BII)[B"⟩ : MethodName)) hown (mvT hZ (hw _ (List.mem_of_getElem? (i := 107) rfl))) (mvT hZ (hw _ (List.mem_of_getElem? (i := 108) rfl))) (mvT hZ (hw _ (List.mem_of_getElem? (i := 105) rfl))) (mvT hZ (hw _ (List.mem_of_getElem? (i := 109) rfl))) (by decide) (backOf (W := 0) (rmCRB2 l Z a0 hw [] a1 k1 x0 x1 h0 n0 Z0 V_a1) hZ (hw _ (List.mem_of_getElem? (i := 109) rfl)) (hw _ (List.mem_of_getElem? (i := 105) rfl)) (by decide) (by decide)) (g := (mkF m 13 #[.val (.ref a1), .val (.int (1 : Int32)), .val (.int (2 : Int32))] [(.int (2 : Int32)), (.int (1 : Int32)), (.ref a1)])) rfl (by rw [hml]; rfl) (argsL := [(.ref a1), (.int (1 : Int32)), (.int (2 : Int32))]) (rest := []) (lenOf pd_20 rfl) rfl (by show 2 * 0 + _ ≤ _; exact Nat.le_of_eq rfl) (hb hby d22_13) (fun _ _ => ⟨rfl, e0, (by decide : 0 + 1 ≤ _), (by decide : 0 + 1 ≤ _)⟩)
  dsimp only [Pt.U, Pt.locs, Pt.cells, Pt.slots] at X156 l156 y156 z156 st156 hQ156
  subst l156 y156 z156
  obtain ⟨b, kb, rfl, hbq, Nq156, K156, Vb⟩ := hQ156
  have N156 := Fr.app N0 Nq156
  refine Go.by (fun t => st156 t) ?_
  replace Z0 := Nat.le_trans Z0 K156.1
  show Go p e below _ (T156.setTop (mkF m 16 #[.val (.ref a1), .val (.int (1 : Int32)), .val (.int (2 : Int32))] [(.ref b)]))
  show Go p e below _ (T156.setTop (mkF m 16 #[.val (.ref a1), .val (.int (1 : Int32)), .val (.int (2 : Int32))] [(.ref b)]))
  exact Go.ret1 X156 hx Bd.returns Bd.notSynchronized rfl (Or.inr (Or.inr (Or.inr (Or.inr ⟨rfl, rfl, rfl⟩)))) (hb hby d22_16) (by decide) (by decide) ⟨b, kb, rfl, hbq, N156, K156, Vb⟩
def Q_rmCRB3 (Z : State) (a1 : Addr) (k1 : ClassId) (x0 x1 x2 : Int32) (h0 : Heap) (n0 : Nat) : Option Value → Heap → List Loc → Prop := fun v h L => ∃ (b : Addr) (kb : ClassId), v = some (.ref b) ∧ h0.size ≤ b ∧ Fr n0 L ∧ Keep h0 h [] ∧ Arv Z h b kb .byte (2 : Int32) [(.int x1), (.int x2)] (.int 0)
set_option maxRecDepth 65536 in
set_option maxHeartbeats 40000000 in
theorem rmCRB3 (l : Launch) (Z : State) (a0 : Array Value) (hw : ∀ d ∈ tables_1, d.before a0 Z = true) (ws : List Jvm.Cond) (a1 : Addr) (k1 : ClassId) (x0 x1 x2 : Int32) (h0 : Heap) (n0 : Nat) (Z0 : n0 ≤ h0.size) (V_a1 : Arv Z h0 a1 k1 .byte (3 : Int32) [(.int x0), (.int x1), (.int x2)] (.int 0)) :
    MetFree l (⟨"java/util/Arrays", "copyOfRangeByte", "([BII)[B"⟩ : MethodName) (head1 (Jvm.Cond.code (⟨"java/util/Arrays", "copyOfRangeByte", "([BII)[B"⟩ : MethodName) jdk_65_method_133_code 5 (some (.array .byte)) :: ws) ({ frames := 1, cells := 1, slots := 2, locals := 40 } : Room)) (fun a U => a = #[(.ref a1), (.int (1 : Int32)), (.int (3 : Int32))] ∧ Z.Warmed39 U.vm ∧ U.heap = h0) (fun _ _ _ _ _ => True) (fun _ U o U' => ∃ v L, o = .returned v ∧ Q_rmCRB3 Z a1 k1 x0 x1 x2 h0 n0 v U'.heap L ∧ FrameEnd U o U' L ({ frames := 1, cells := 1, slots := 2, locals := 40 } : Room).cells ({ frames := 1, cells := 1, slots := 2, locals := 40 } : Room).slots) := by
  refine MetFree.of_bodySF (plainFor_of_name pn_6) hisR ?_
  intro p e s m args below meth c s₁ Bd hml0 hP hK
  obtain ⟨rfl, hZ, hh⟩ := hP
  have hx := Bd.exec
  have hby := Bd.bytes
  have hml : c.maxLocals = 5 := hml0
  have hown : s.vm.findClass "java/util/Arrays" = some m.cls := findClass_of_methodNamed Bd.named
  have hnm := (name_of_methodNamed Bd.named Bd.method).1
  have X0 : Stand p l e ({ frames := 1, cells := 1, slots := 2, locals := 40 } : Room) s m #[(.ref a1), (.int (1 : Int32)), (.int (3 : Int32))] below meth c s₁ [] 0 0 := Stand.of_body Bd
  have e0 : s₁.heap = h0 := by rw [← hh, Bd.state]; rfl
  have N0 := Fr.nil n0
  have ef : entryFrame m #[(.ref a1), (.int (1 : Int32)), (.int (3 : Int32))] 5 = (mkF m 0 #[.val (.ref a1), .val (.int (1 : Int32)), .val (.int (3 : Int32)), .unset, .unset] []) := by first | rfl | (simp [entryFrame, mkF, argsToLocals, Value.category, maxLocals]; done)
  show Go p e below (End (fun v h L => ∃ (b : Addr) (kb : ClassId), v = some (.ref b) ∧ h0.size ≤ b ∧ Fr n0 L ∧ Keep h0 h [] ∧ Arv Z h b kb .byte (2 : Int32) [(.int x1), (.int x2)] (.int 0)) s 1 2) (s₁.setTop (entryFrame m #[(.ref a1), (.int (1 : Int32)), (.int (3 : Int32))] 5))
  rw [ef]
  show Go p e below _ (s₁.setTop (mkF m 0 #[.val (.ref a1), .val (.int (1 : Int32)), .val (.int (3 : Int32)), .unset, .unset] []))
  have K0 : Keep h0 h0 [] := Keep.refl _ _
  show Go p e below _ (s₁.setTop (mkF m 0 #[.val (.ref a1), .val (.int (1 : Int32)), .val (.int (3 : Int32)), .unset, .unset] []))
  refine Go.by (fun t => XS.iloadN X0.here hx rfl (hb hby d23_0) rfl ) ?_
  show Go p e below _ (s₁.setTop (mkF m 1 #[.val (.ref a1), .val (.int (1 : Int32)), .val (.int (3 : Int32)), .unset, .unset] [(.int (1 : Int32))]))
  refine Go.by (fun t => XS.iloadN X0.here hx rfl (hb hby d23_1) rfl ) ?_
  show Go p e below _ (s₁.setTop (mkF m 2 #[.val (.ref a1), .val (.int (1 : Int32)), .val (.int (3 : Int32)), .unset, .unset] [(.int (3 : Int32)), (.int (1 : Int32))]))
  obtain ⟨_, _, ⟨T157, L157, k157, n157⟩, -, X157, ⟨Lc157, hQ157, l157, y157, z157⟩, st157⟩ := Jvm.LawKit.callS X0 hx (y := (⟨"java/util/Arrays", "checkLength", "(II)V"⟩ : MethodName)) hown (mvT hZ (hw _ (List.mem_of_getElem? (i := 110) rfl))) (mvT hZ (hw _ (List.mem_of_getElem? (i := 111) rfl))) (mvT hZ (hw _ (List.mem_of_getElem? (i := 105) rfl))) (mvT hZ (hw _ (List.mem_of_getElem? (i := 112) rfl))) (by decide) (backOf (W := 0) (rm24 l Z a0 hw [] 1 3 h0 n0 (by decide)) hZ (hw _ (List.mem_of_getElem? (i := 112) rfl)) (hw _ (List.mem_of_getElem? (i := 105) rfl)) (by decide) (by decide)) (g := (mkF m 2 #[.val (.ref a1), .val (.int (1 : Int32)), .val (.int (3 : Int32)), .unset, .unset] [(.int (3 : Int32)), (.int (1 : Int32))])) rfl (by rw [hml]; rfl) (argsL := [(.int (1 : Int32)), (.int (3 : Int32))]) (rest := []) (lenOf pd_22 rfl) rfl (by show 2 * 0 + _ ≤ _; exact Nat.le_of_eq rfl) (hb hby d23_2) (fun _ _ => ⟨rfl, e0, (by decide : 0 + 0 ≤ _), (by decide : 0 + 0 ≤ _)⟩)
  dsimp only [Pt.U, Pt.locs, Pt.cells, Pt.slots] at X157 l157 y157 z157 st157 hQ157
  subst l157 y157 z157
  obtain ⟨rfl, Nq157, e157⟩ := hQ157
  have N157 := Fr.app N0 Nq157
  refine Go.by (fun t => st157 t) ?_
  show Go p e below _ (T157.setTop (mkF m 5 #[.val (.ref a1), .val (.int (1 : Int32)), .val (.int (3 : Int32)), .unset, .unset] []))
  show Go p e below _ (T157.setTop (mkF m 5 #[.val (.ref a1), .val (.int (1 : Int32)), .val (.int (3 : Int32)), .unset, .unset] []))
  refine Go.by (fun t => XS.iloadN X157.here hx rfl (hb hby d23_5) rfl ) ?_
  show Go p e below _ (T157.setTop (mkF m 6 #[.val (.ref a1), .val (.int (1 : Int32)), .val (.int (3 : Int32)), .unset, .unset] [(.int (3 : Int32))]))
  refine Go.by (fun t => XS.iloadN X157.here hx rfl (hb hby d23_6) rfl ) ?_
  show Go p e below _ (T157.setTop (mkF m 7 #[.val (.ref a1), .val (.int (1 : Int32)), .val (.int (3 : Int32)), .unset, .unset] [(.int (1 : Int32)), (.int (3 : Int32))]))
  refine Go.by (fun t => XS.isub X157.here hx rfl (hb hby d23_7) rfl) ?_
  show Go p e below _ (T157.setTop (mkF m 8 #[.val (.ref a1), .val (.int (1 : Int32)), .val (.int (3 : Int32)), .unset, .unset] [(.int ((3 : Int32) - (1 : Int32)))]))
  rw [show (3 : Int32) - (1 : Int32) = 2 from rfl]
  show Go p e below _ (T157.setTop (mkF m 8 #[.val (.ref a1), .val (.int (1 : Int32)), .val (.int (3 : Int32)), .unset, .unset] [(.int (2 : Int32))]))
  show Go p e below _ (T157.setTop (mkF m 8 #[.val (.ref a1), .val (.int (1 : Int32)), .val (.int (3 : Int32)), .unset, .unset] [(.int (2 : Int32))]))
  refine Go.by (fun t => XS.istoreN X157.here hx rfl (hb hby d23_8) rfl (l' := #[.val (.ref a1), .val (.int (1 : Int32)), .val (.int (3 : Int32)), .val (.int (2 : Int32)), .unset]) rfl) ?_
  show Go p e below _ (T157.setTop (mkF m 9 #[.val (.ref a1), .val (.int (1 : Int32)), .val (.int (3 : Int32)), .val (.int (2 : Int32)), .unset] []))
  refine Go.by (fun t => XS.iloadN X157.here hx rfl (hb hby d23_9) rfl ) ?_
  show Go p e below _ (T157.setTop (mkF m 10 #[.val (.ref a1), .val (.int (1 : Int32)), .val (.int (3 : Int32)), .val (.int (2 : Int32)), .unset] [(.int (2 : Int32))]))
  obtain ⟨T158, h158, k158, X158, e158, E158, A158, st158⟩ := newP X157 hx hZ (hw _ (List.mem_of_getElem? (i := 23) rfl)) e157 (g := (mkF m 10 #[.val (.ref a1), .val (.int (1 : Int32)), .val (.int (3 : Int32)), .val (.int (2 : Int32)), .unset] [(.int (2 : Int32))])) rfl (hb hby d23_10) rfl (by decide) (cap := 2) (by decide) (by decide) (by decide) (by decide)
  obtain ⟨nb, g158⟩ : ∃ z, z = h0.size := ⟨_, rfl⟩
  rw [← g158] at A158 st158
  refine Go.by (fun t => st158 t) ?_
  have g_nb : n0 ≤ nb := Nat.le_trans Z0 (Nat.le_of_eq g158.symm)
  have sz_nb : h0.size ≤ nb := Nat.le_trans K0.1 (Nat.le_of_eq g158.symm)
  have ne_a1_nb : a1 ≠ nb := Nat.ne_of_lt (Nat.lt_of_lt_of_le V_a1.lt (Nat.le_of_eq g158.symm))
  replace V_a1 := V_a1.ext E158
  replace Z0 := Nat.le_trans Z0 E158.1
  replace K0 := K0.ext E158
  have V_nb : Arv Z h158 nb k158 .byte (2 : Int32) [(.int (0 : Int32)), (.int (0 : Int32))] (.int (0 : Int32)) := (Arv.new A158 (by decide)).pad (pad_rep [] (.int (0 : Int32)) 2)
  show Go p e below _ (T158.setTop (mkF m 12 #[.val (.ref a1), .val (.int (1 : Int32)), .val (.int (3 : Int32)), .val (.int (2 : Int32)), .unset] [(.ref nb)]))
  show Go p e below _ (T158.setTop (mkF m 12 #[.val (.ref a1), .val (.int (1 : Int32)), .val (.int (3 : Int32)), .val (.int (2 : Int32)), .unset] [(.ref nb)]))
  refine Go.by (fun t => XS.astore X158.here hx rfl (hb hby d23_12) rfl rfl (l' := #[.val (.ref a1), .val (.int (1 : Int32)), .val (.int (3 : Int32)), .val (.int (2 : Int32)), .val (.ref nb)]) rfl) ?_
  show Go p e below _ (T158.setTop (mkF m 14 #[.val (.ref a1), .val (.int (1 : Int32)), .val (.int (3 : Int32)), .val (.int (2 : Int32)), .val (.ref nb)] []))
  refine Go.by (fun t => XS.aloadN X158.here hx rfl (hb hby d23_14) rfl rfl) ?_
  show Go p e below _ (T158.setTop (mkF m 15 #[.val (.ref a1), .val (.int (1 : Int32)), .val (.int (3 : Int32)), .val (.int (2 : Int32)), .val (.ref nb)] [(.ref a1)]))
  refine Go.by (fun t => XS.iloadN X158.here hx rfl (hb hby d23_15) rfl ) ?_
  show Go p e below _ (T158.setTop (mkF m 16 #[.val (.ref a1), .val (.int (1 : Int32)), .val (.int (3 : Int32)), .val (.int (2 : Int32)), .val (.ref nb)] [(.int (1 : Int32)), (.ref a1)]))
  refine Go.by (fun t => XS.aload X158.here hx rfl (hb hby d23_16) rfl rfl) ?_
  show Go p e below _ (T158.setTop (mkF m 18 #[.val (.ref a1), .val (.int (1 : Int32)), .val (.int (3 : Int32)), .val (.int (2 : Int32)), .val (.ref nb)] [(.ref nb), (.int (1 : Int32)), (.ref a1)]))
  refine Go.by (fun t => XS.iconst X158.here hx rfl (hb hby d23_18)) ?_
  show Go p e below _ (T158.setTop (mkF m 19 #[.val (.ref a1), .val (.int (1 : Int32)), .val (.int (3 : Int32)), .val (.int (2 : Int32)), .val (.ref nb)] [(.int (0 : Int32)), (.ref nb), (.int (1 : Int32)), (.ref a1)]))
  refine Go.by (fun t => XS.aloadN X158.here hx rfl (hb hby d23_19) rfl rfl) ?_
  show Go p e below _ (T158.setTop (mkF m 20 #[.val (.ref a1), .val (.int (1 : Int32)), .val (.int (3 : Int32)), .val (.int (2 : Int32)), .val (.ref nb)] [(.ref a1), (.int (0 : Int32)), (.ref nb), (.int (1 : Int32)), (.ref a1)]))
  obtain ⟨cl_159, Ar_159, q_159, S_159, M_159, -, -⟩ := id V_a1
  refine Go.by (fun t => X158.arraylength hx (by rw [e158]; exact Ar_159.1) (State.isArrayOf_alike hZ.alike Ar_159.2.1) (g := (mkF m 20 #[.val (.ref a1), .val (.int (1 : Int32)), .val (.int (3 : Int32)), .val (.int (2 : Int32)), .val (.ref nb)] [(.ref a1), (.int (0 : Int32)), (.ref nb), (.int (1 : Int32)), (.ref a1)])) rfl rfl (hb hby d23_20) t) ?_
  rw [len_of S_159 M_159]
  show Go p e below _ (T158.setTop (mkF m 21 #[.val (.ref a1), .val (.int (1 : Int32)), .val (.int (3 : Int32)), .val (.int (2 : Int32)), .val (.ref nb)] [(.int (3 : Int32)), (.int (0 : Int32)), (.ref nb), (.int (1 : Int32)), (.ref a1)]))
  show Go p e below _ (T158.setTop (mkF m 21 #[.val (.ref a1), .val (.int (1 : Int32)), .val (.int (3 : Int32)), .val (.int (2 : Int32)), .val (.ref nb)] [(.int (3 : Int32)), (.int (0 : Int32)), (.ref nb), (.int (1 : Int32)), (.ref a1)]))
  refine Go.by (fun t => XS.iloadN X158.here hx rfl (hb hby d23_21) rfl ) ?_
  show Go p e below _ (T158.setTop (mkF m 22 #[.val (.ref a1), .val (.int (1 : Int32)), .val (.int (3 : Int32)), .val (.int (2 : Int32)), .val (.ref nb)] [(.int (1 : Int32)), (.int (3 : Int32)), (.int (0 : Int32)), (.ref nb), (.int (1 : Int32)), (.ref a1)]))
  refine Go.by (fun t => XS.isub X158.here hx rfl (hb hby d23_22) rfl) ?_
  show Go p e below _ (T158.setTop (mkF m 23 #[.val (.ref a1), .val (.int (1 : Int32)), .val (.int (3 : Int32)), .val (.int (2 : Int32)), .val (.ref nb)] [(.int ((3 : Int32) - (1 : Int32))), (.int (0 : Int32)), (.ref nb), (.int (1 : Int32)), (.ref a1)]))
  rw [show (3 : Int32) - (1 : Int32) = 2 from rfl]
  show Go p e below _ (T158.setTop (mkF m 23 #[.val (.ref a1), .val (.int (1 : Int32)), .val (.int (3 : Int32)), .val (.int (2 : Int32)), .val (.ref nb)] [(.int (2 : Int32)), (.int (0 : Int32)), (.ref nb), (.int (1 : Int32)), (.ref a1)]))
  show Go p e below _ (T158.setTop (mkF m 23 #[.val (.ref a1), .val (.int (1 : Int32)), .val (.int (3 : Int32)), .val (.int (2 : Int32)), .val (.ref nb)] [(.int (2 : Int32)), (.int (0 : Int32)), (.ref nb), (.int (1 : Int32)), (.ref a1)]))
  refine Go.by (fun t => XS.iloadN X158.here hx rfl (hb hby d23_23) rfl ) ?_
  show Go p e below _ (T158.setTop (mkF m 24 #[.val (.ref a1), .val (.int (1 : Int32)), .val (.int (3 : Int32)), .val (.int (2 : Int32)), .val (.ref nb)] [(.int (2 : Int32)), (.int (2 : Int32)), (.int (0 : Int32)), (.ref nb), (.int (1 : Int32)), (.ref a1)]))
  obtain ⟨_, _, ⟨T160, L160, k160, n160⟩, -, X160, ⟨Lc160, hQ160, l160, y160, z160⟩, st160⟩ := Jvm.LawKit.callS X158 hx (y := (⟨"java/lang/Math", "min", "(II)I"⟩ : MethodName)) hown (mvT hZ (hw _ (List.mem_of_getElem? (i := 113) rfl))) (mvT hZ (hw _ (List.mem_of_getElem? (i := 114) rfl))) (mvT hZ (hw _ (List.mem_of_getElem? (i := 115) rfl))) (mvT hZ (hw _ (List.mem_of_getElem? (i := 116) rfl))) (by decide) (backOf (W := 4) (rm25 l Z a0 hw [] 2 2 h158 n0 (by decide)) hZ (hw _ (List.mem_of_getElem? (i := 116) rfl)) (hw _ (List.mem_of_getElem? (i := 115) rfl)) (by decide) (by decide)) (g := (mkF m 24 #[.val (.ref a1), .val (.int (1 : Int32)), .val (.int (3 : Int32)), .val (.int (2 : Int32)), .val (.ref nb)] [(.int (2 : Int32)), (.int (2 : Int32)), (.int (0 : Int32)), (.ref nb), (.int (1 : Int32)), (.ref a1)])) rfl (by rw [hml]; rfl) (argsL := [(.int (2 : Int32)), (.int (2 : Int32))]) (rest := [(.int (0 : Int32)), (.ref nb), (.int (1 : Int32)), (.ref a1)]) (lenOf pd_23 rfl) rfl (by show 2 * 0 + _ ≤ _; exact Nat.le_of_eq rfl) (hb hby d23_24) (fun _ _ => ⟨rfl, e158, (by decide : 1 + 0 ≤ _), (by decide : 2 + 0 ≤ _)⟩)
  dsimp only [Pt.U, Pt.locs, Pt.cells, Pt.slots] at X160 l160 y160 z160 st160 hQ160
  subst l160 y160 z160
  obtain ⟨rfl, Nq160, e160⟩ := hQ160
  have N160 := Fr.app N157 Nq160
  refine Go.by (fun t => st160 t) ?_
  show Go p e below _ (T160.setTop (mkF m 27 #[.val (.ref a1), .val (.int (1 : Int32)), .val (.int (3 : Int32)), .val (.int (2 : Int32)), .val (.ref nb)] [(.int (2 : Int32)), (.int (0 : Int32)), (.ref nb), (.int (1 : Int32)), (.ref a1)]))
  obtain ⟨T161, h161, L161, X161, e161, N161, K161, Vn161, st161⟩ := cpA X160 hx hZ hown (hw _ (List.mem_of_getElem? (i := 117) rfl)) (hw _ (List.mem_of_getElem? (i := 120) rfl)) (hw _ (List.mem_of_getElem? (i := 118) rfl)) (hw _ (List.mem_of_getElem? (i := 119) rfl)) e160 V_a1 V_nb (us := [(.int x1), (.int x2)]) (Or.inl ⟨rfl, rfl⟩) (by decide) (by decide) (by decide) (by decide) (by decide) (by first | rfl | decide) (by decide) N160 g_nb (g := (mkF m 27 #[.val (.ref a1), .val (.int (1 : Int32)), .val (.int (3 : Int32)), .val (.int (2 : Int32)), .val (.ref nb)] [(.int (2 : Int32)), (.int (0 : Int32)), (.ref nb), (.int (1 : Int32)), (.ref a1)])) rfl (by rw [hml]; rfl) rfl (hb hby d23_27) (by decide) (W := 0) (by show 2 * 0 + _ ≤ _; exact Nat.le_of_eq rfl) (by decide)
  refine Go.by (fun t => st161 t) ?_
  replace V_a1 := V_a1.keep K161 (ninS ne_a1_nb nin0)
  replace Z0 := Nat.le_trans Z0 K161.1
  replace K0 := K0.trans K161 (allS (P := fun x => x ∈ _ ∨ _ ≤ x) (Or.inr sz_nb) all0)
  clear V_nb
  have V_nb := Vn161
  show Go p e below _ (T161.setTop (mkF m 30 #[.val (.ref a1), .val (.int (1 : Int32)), .val (.int (3 : Int32)), .val (.int (2 : Int32)), .val (.ref nb)] []))
  have V_res : Arv Z h161 nb k158 .byte (2 : Int32) [(.int x1), (.int x2)] (.int 0) := V_nb
  show Go p e below _ (T161.setTop (mkF m 30 #[.val (.ref a1), .val (.int (1 : Int32)), .val (.int (3 : Int32)), .val (.int (2 : Int32)), .val (.ref nb)] []))
  refine Go.by (fun t => XS.aload X161.here hx rfl (hb hby d23_30) rfl rfl) ?_
  show Go p e below _ (T161.setTop (mkF m 32 #[.val (.ref a1), .val (.int (1 : Int32)), .val (.int (3 : Int32)), .val (.int (2 : Int32)), .val (.ref nb)] [(.ref nb)]))
  exact Go.ret1 X161 hx Bd.returns Bd.notSynchronized rfl (Or.inr (Or.inr (Or.inr (Or.inr ⟨rfl, rfl, rfl⟩)))) (hb hby d23_32) (by decide) (by decide) (by first | (rw [e161]; exact ⟨nb, _, rfl, sz_nb, N161, K0, V_res⟩) | exact ⟨nb, _, rfl, sz_nb, N161, K0, V_res⟩)
def Q_rmCR3 (Z : State) (a1 : Addr) (k1 : ClassId) (x0 x1 x2 : Int32) (h0 : Heap) (n0 : Nat) : Option Value → Heap → List Loc → Prop := fun v h L => ∃ (b : Addr) (kb : ClassId), v = some (.ref b) ∧ h0.size ≤ b ∧ Fr n0 L ∧ Keep h0 h [] ∧ Arv Z h b kb .byte (2 : Int32) [(.int x1), (.int x2)] (.int 0)
set_option maxRecDepth 65536 in
set_option maxHeartbeats 40000000 in
theorem rmCR3 (l : Launch) (Z : State) (a0 : Array Value) (hw : ∀ d ∈ tables_1, d.before a0 Z = true) (ws : List Jvm.Cond) (a1 : Addr) (k1 : ClassId) (x0 x1 x2 : Int32) (h0 : Heap) (n0 : Nat) (Z0 : n0 ≤ h0.size) (V_a1 : Arv Z h0 a1 k1 .byte (3 : Int32) [(.int x0), (.int x1), (.int x2)] (.int 0)) :
    MetFree l (⟨"java/util/Arrays", "copyOfRange", "([BII)[B"⟩ : MethodName) (head1 (Jvm.Cond.code (⟨"java/util/Arrays", "copyOfRange", "([BII)[B"⟩ : MethodName) jdk_65_method_132_code 3 (some (.array .byte)) :: ws) ({ frames := 2, cells := 1, slots := 2, locals := 56 } : Room)) (fun a U => a = #[(.ref a1), (.int (1 : Int32)), (.int (3 : Int32))] ∧ Z.Warmed39 U.vm ∧ U.heap = h0) (fun _ _ _ _ _ => True) (fun _ U o U' => ∃ v L, o = .returned v ∧ Q_rmCR3 Z a1 k1 x0 x1 x2 h0 n0 v U'.heap L ∧ FrameEnd U o U' L ({ frames := 2, cells := 1, slots := 2, locals := 56 } : Room).cells ({ frames := 2, cells := 1, slots := 2, locals := 56 } : Room).slots) := by
  refine MetFree.of_bodySF (plainFor_of_name pn_6) hisR ?_
  intro p e s m args below meth c s₁ Bd hml0 hP hK
  obtain ⟨rfl, hZ, hh⟩ := hP
  have hx := Bd.exec
  have hby := Bd.bytes
  have hml : c.maxLocals = 3 := hml0
  have hown : s.vm.findClass "java/util/Arrays" = some m.cls := findClass_of_methodNamed Bd.named
  have hnm := (name_of_methodNamed Bd.named Bd.method).1
  have X0 : Stand p l e ({ frames := 2, cells := 1, slots := 2, locals := 56 } : Room) s m #[(.ref a1), (.int (1 : Int32)), (.int (3 : Int32))] below meth c s₁ [] 0 0 := Stand.of_body Bd
  have e0 : s₁.heap = h0 := by rw [← hh, Bd.state]; rfl
  have N0 := Fr.nil n0
  have ef : entryFrame m #[(.ref a1), (.int (1 : Int32)), (.int (3 : Int32))] 3 = (mkF m 0 #[.val (.ref a1), .val (.int (1 : Int32)), .val (.int (3 : Int32))] []) := by first | rfl | (simp [entryFrame, mkF, argsToLocals, Value.category, maxLocals]; done)
  show Go p e below (End (fun v h L => ∃ (b : Addr) (kb : ClassId), v = some (.ref b) ∧ h0.size ≤ b ∧ Fr n0 L ∧ Keep h0 h [] ∧ Arv Z h b kb .byte (2 : Int32) [(.int x1), (.int x2)] (.int 0)) s 1 2) (s₁.setTop (entryFrame m #[(.ref a1), (.int (1 : Int32)), (.int (3 : Int32))] 3))
  rw [ef]
  show Go p e below _ (s₁.setTop (mkF m 0 #[.val (.ref a1), .val (.int (1 : Int32)), .val (.int (3 : Int32))] []))
  show Go p e below _ (s₁.setTop (mkF m 0 #[.val (.ref a1), .val (.int (1 : Int32)), .val (.int (3 : Int32))] []))
  refine Go.by (fun t => XS.iloadN X0.here hx rfl (hb hby d22_0) rfl ) ?_
  show Go p e below _ (s₁.setTop (mkF m 1 #[.val (.ref a1), .val (.int (1 : Int32)), .val (.int (3 : Int32))] [(.int (1 : Int32))]))
  refine Go.by (fun t => XS.ifYes X0.here hx rfl (pc0 := 1) (pc' := 10) rfl (hb hby d22_1) rfl ((if0 _ _).trans (feq (by decide : ¬ ((1 : Int32) = (0 : Int32)))).2) (by decide) (by decide)) ?_
  show Go p e below _ (s₁.setTop (mkF m 10 #[.val (.ref a1), .val (.int (1 : Int32)), .val (.int (3 : Int32))] []))
  show Go p e below _ (s₁.setTop (mkF m 10 #[.val (.ref a1), .val (.int (1 : Int32)), .val (.int (3 : Int32))] []))
  refine Go.by (fun t => XS.aloadN X0.here hx rfl (hb hby d22_10) rfl rfl) ?_
  show Go p e below _ (s₁.setTop (mkF m 11 #[.val (.ref a1), .val (.int (1 : Int32)), .val (.int (3 : Int32))] [(.ref a1)]))
  refine Go.by (fun t => XS.iloadN X0.here hx rfl (hb hby d22_11) rfl ) ?_
  show Go p e below _ (s₁.setTop (mkF m 12 #[.val (.ref a1), .val (.int (1 : Int32)), .val (.int (3 : Int32))] [(.int (1 : Int32)), (.ref a1)]))
  refine Go.by (fun t => XS.iloadN X0.here hx rfl (hb hby d22_12) rfl ) ?_
  show Go p e below _ (s₁.setTop (mkF m 13 #[.val (.ref a1), .val (.int (1 : Int32)), .val (.int (3 : Int32))] [(.int (3 : Int32)), (.int (1 : Int32)), (.ref a1)]))
  obtain ⟨_, _, ⟨T162, L162, k162, n162⟩, -, X162, ⟨Lc162, hQ162, l162, y162, z162⟩, st162⟩ := Jvm.LawKit.callS X0 hx (y := (⟨"java/util/Arrays", "copyOfRangeByte", "([BII)[B"⟩ : MethodName)) hown (mvT hZ (hw _ (List.mem_of_getElem? (i := 107) rfl))) (mvT hZ (hw _ (List.mem_of_getElem? (i := 108) rfl))) (mvT hZ (hw _ (List.mem_of_getElem? (i := 105) rfl))) (mvT hZ (hw _ (List.mem_of_getElem? (i := 109) rfl))) (by decide) (backOf (W := 0) (rmCRB3 l Z a0 hw [] a1 k1 x0 x1 x2 h0 n0 Z0 V_a1) hZ (hw _ (List.mem_of_getElem? (i := 109) rfl)) (hw _ (List.mem_of_getElem? (i := 105) rfl)) (by decide) (by decide)) (g := (mkF m 13 #[.val (.ref a1), .val (.int (1 : Int32)), .val (.int (3 : Int32))] [(.int (3 : Int32)), (.int (1 : Int32)), (.ref a1)])) rfl (by rw [hml]; rfl) (argsL := [(.ref a1), (.int (1 : Int32)), (.int (3 : Int32))]) (rest := []) (lenOf pd_20 rfl) rfl (by show 2 * 0 + _ ≤ _; exact Nat.le_of_eq rfl) (hb hby d22_13) (fun _ _ => ⟨rfl, e0, (by decide : 0 + 1 ≤ _), (by decide : 0 + 2 ≤ _)⟩)
  dsimp only [Pt.U, Pt.locs, Pt.cells, Pt.slots] at X162 l162 y162 z162 st162 hQ162
  subst l162 y162 z162
  obtain ⟨b, kb, rfl, hbq, Nq162, K162, Vb⟩ := hQ162
  have N162 := Fr.app N0 Nq162
  refine Go.by (fun t => st162 t) ?_
  replace Z0 := Nat.le_trans Z0 K162.1
  show Go p e below _ (T162.setTop (mkF m 16 #[.val (.ref a1), .val (.int (1 : Int32)), .val (.int (3 : Int32))] [(.ref b)]))
  show Go p e below _ (T162.setTop (mkF m 16 #[.val (.ref a1), .val (.int (1 : Int32)), .val (.int (3 : Int32))] [(.ref b)]))
  exact Go.ret1 X162 hx Bd.returns Bd.notSynchronized rfl (Or.inr (Or.inr (Or.inr (Or.inr ⟨rfl, rfl, rfl⟩)))) (hb hby d22_16) (by decide) (by decide) ⟨b, kb, rfl, hbq, N162, K162, Vb⟩
def Q_rmNS1 (Z : State) (a1 : Addr) (k1 : ClassId) (c0 : Int32) (h0 : Heap) (n0 : Nat) : Option Value → Heap → List Loc → Prop := fun v h L => ∃ r : Addr, v = some (.ref r) ∧ Fr n0 L ∧ Keep h0 h [] ∧ StrAt Z h r []
set_option maxRecDepth 65536 in
set_option maxHeartbeats 40000000 in
theorem rmNS1 (l : Launch) (Z : State) (a0 : Array Value) (hw : ∀ d ∈ tables_1, d.before a0 Z = true) (ws : List Jvm.Cond) (a1 : Addr) (k1 : ClassId) (c0 : Int32) (h0 : Heap) (n0 : Nat) (Z0 : n0 ≤ h0.size) (V_a1 : Arv Z h0 a1 k1 .byte (1 : Int32) ([c0].map fun c => Value.int (c.toInt8.toInt32)) (.int 0)) (hb0 : ¬ c0 < 0 ∧ ¬ (255 : Int32) < c0) :
    MetFree l (⟨"java/lang/StringLatin1", "newString", "([BII)Ljava/lang/String;"⟩ : MethodName) (head1 (Jvm.Cond.code (⟨"java/lang/StringLatin1", "newString", "([BII)Ljava/lang/String;"⟩ : MethodName) jdk_43_method_47_code 3 (some (.object "java/lang/String")) :: ws) ({ frames := 3, cells := 2, slots := 4, locals := 75 } : Room)) (fun a U => a = #[(.ref a1), (.int (1 : Int32)), (.int (0 : Int32))] ∧ Z.Warmed39 U.vm ∧ U.heap = h0 ∧ CHv Z EL U.vm h0) (fun _ _ _ _ _ => True) (fun _ U o U' => ∃ v L, o = .returned v ∧ Q_rmNS1 Z a1 k1 c0 h0 n0 v U'.heap L ∧ CHr Z EL U.vm U.heap U'.vm U'.heap ∧ ReturnedEndW U o U' L ({ frames := 3, cells := 2, slots := 4, locals := 75 } : Room).cells ({ frames := 3, cells := 2, slots := 4, locals := 75 } : Room).slots) := by
  refine MetFree.of_bodySF (plainFor_of_name pn_5) hisR ?_
  intro p e s m args below meth c s₁ Bd hml0 hP hK
  obtain ⟨rfl, hZ, hh, CH0⟩ := hP
  have hx := Bd.exec
  have hby := Bd.bytes
  have hml : c.maxLocals = 3 := hml0
  have hown : s.vm.findClass "java/lang/StringLatin1" = some m.cls := findClass_of_methodNamed Bd.named
  have hnm := (name_of_methodNamed Bd.named Bd.method).1
  have X0 : Stand p l e ({ frames := 3, cells := 2, slots := 4, locals := 75 } : Room) (s.setVm s.vm) m #[(.ref a1), (.int (1 : Int32)), (.int (0 : Int32))] below meth c s₁ [] 0 0 := Stand.of_body Bd
  have e0 : s₁.heap = h0 := by rw [← hh, Bd.state]; rfl
  have N0 := Fr.nil n0
  have hS : s.Since s.vm 0 := (State.WarmedH.refl s).since 0
  have hk : 0 ≤ h0.size := Nat.zero_le _
  have CR : CHr Z EL s.vm s.heap s.vm h0 := by rw [hh]; exact CHr.refl CH0
  have hEL := ew_of hw
  have hwS := ws_of hw
  have ef : entryFrame m #[(.ref a1), (.int (1 : Int32)), (.int (0 : Int32))] 3 = (mkF m 0 #[.val (.ref a1), .val (.int (1 : Int32)), .val (.int (0 : Int32))] []) := by first | rfl | (simp [entryFrame, mkF, argsToLocals, Value.category, maxLocals]; done)
  show Go p e below (EndW EL Z (fun v h L => ∃ r : Addr, v = some (.ref r) ∧ Fr n0 L ∧ Keep h0 h [] ∧ StrAt Z h r []) s 2 4) (s₁.setTop (entryFrame m #[(.ref a1), (.int (1 : Int32)), (.int (0 : Int32))] 3))
  rw [ef]
  show Go p e below _ (s₁.setTop (mkF m 0 #[.val (.ref a1), .val (.int (1 : Int32)), .val (.int (0 : Int32))] []))
  have K0 : Keep h0 h0 [] := Keep.refl _ _
  show Go p e below _ (s₁.setTop (mkF m 0 #[.val (.ref a1), .val (.int (1 : Int32)), .val (.int (0 : Int32))] []))
  refine Go.by (fun t => XS.iloadN X0.here hx rfl (hb hby d21_0) rfl ) ?_
  show Go p e below _ (s₁.setTop (mkF m 1 #[.val (.ref a1), .val (.int (1 : Int32)), .val (.int (0 : Int32))] [(.int (0 : Int32))]))
  refine Go.by (fun t => XS.ifNo X0.here hx rfl (hb hby d21_1) rfl ((if0 _ _).trans (teq (rfl : (0 : Int32) = (0 : Int32))).2)) ?_
  show Go p e below _ (s₁.setTop (mkF m 4 #[.val (.ref a1), .val (.int (1 : Int32)), .val (.int (0 : Int32))] []))
  show Go p e below _ (s₁.setTop (mkF m 4 #[.val (.ref a1), .val (.int (1 : Int32)), .val (.int (0 : Int32))] []))
  obtain ⟨cc, T163, h163, k163, t_cc, kb_cc, X163, e163, E163, hS163, hk163, hZ163, hown163, E_cc, F_coder_cc, F_value_cc, V_t_cc, lt_cc, ltb_cc, CRn, Lit163, sf163, st163⟩ := ldcCH X0 hx hZ hown (hw _ (List.mem_of_getElem? (i := 124) rfl)) hwS e0 hS hk hEL (by decide) CR.1 (vs := []) (z := 0) (by decide) (by decide) rfl (g := (mkF m 4 #[.val (.ref a1), .val (.int (1 : Int32)), .val (.int (0 : Int32))] [])) rfl (hb hby d21_4) (n := 0) (by decide) (by decide) (by decide) (by decide)
  refine Go.by (fun t => st163 t) ?_
  replace CR := CR.trans CRn
  replace V_a1 := V_a1.ext E163
  replace Z0 := Nat.le_trans Z0 E163.1
  replace K0 := K0.ext E163
  clear CRn hS hk
  have hS := hS163
  have hk := hk163
  replace hZ := hZ163
  replace hown := hown163
  show Go p e below _ (T163.setTop (mkF m 6 #[.val (.ref a1), .val (.int (1 : Int32)), .val (.int (0 : Int32))] [(.ref cc)]))
  show Go p e below _ (T163.setTop (mkF m 6 #[.val (.ref a1), .val (.int (1 : Int32)), .val (.int (0 : Int32))] [(.ref cc)]))
  exact Go.ret1W X163 hS (by rw [e163]; exact hk) (by rw [e163]; exact CR) hZ hEL hx Bd.returns Bd.notSynchronized rfl (Or.inr (Or.inr (Or.inr (Or.inr ⟨rfl, rfl, rfl⟩)))) (hb hby d21_6) (by decide) (by decide) (by first | (rw [e163]; exact ⟨cc, rfl, N0, K0, t_cc, kb_cc, _, _, E_cc, F_value_cc, F_coder_cc, V_t_cc, Or.inl ⟨rfl, rfl, rfl, allN⟩, allN, Nat.zero_le _⟩) | exact ⟨cc, rfl, N0, K0, t_cc, kb_cc, _, _, E_cc, F_value_cc, F_coder_cc, V_t_cc, Or.inl ⟨rfl, rfl, rfl, allN⟩, allN, Nat.zero_le _⟩)
def Q_rmNS2 (Z : State) (a1 : Addr) (k1 : ClassId) (c0 c1 : Int32) (h0 : Heap) (n0 : Nat) : Option Value → Heap → List Loc → Prop := fun v h L => ∃ r : Addr, v = some (.ref r) ∧ Fr n0 L ∧ Keep h0 h [] ∧ StrAt Z h r [c1]
set_option maxRecDepth 65536 in
set_option maxHeartbeats 40000000 in
theorem rmNS2 (l : Launch) (Z : State) (a0 : Array Value) (hw : ∀ d ∈ tables_1, d.before a0 Z = true) (ws : List Jvm.Cond) (a1 : Addr) (k1 : ClassId) (c0 c1 : Int32) (h0 : Heap) (n0 : Nat) (Z0 : n0 ≤ h0.size) (V_a1 : Arv Z h0 a1 k1 .byte (2 : Int32) ([c0, c1].map fun c => Value.int (c.toInt8.toInt32)) (.int 0)) (hb0 : ¬ c0 < 0 ∧ ¬ (255 : Int32) < c0) (hb1 : ¬ c1 < 0 ∧ ¬ (255 : Int32) < c1) :
    MetFree l (⟨"java/lang/StringLatin1", "newString", "([BII)Ljava/lang/String;"⟩ : MethodName) (head1 (Jvm.Cond.code (⟨"java/lang/StringLatin1", "newString", "([BII)Ljava/lang/String;"⟩ : MethodName) jdk_43_method_47_code 3 (some (.object "java/lang/String")) :: ws) ({ frames := 3, cells := 2, slots := 5, locals := 75 } : Room)) (fun a U => a = #[(.ref a1), (.int (1 : Int32)), (.int (1 : Int32))] ∧ Z.Warmed39 U.vm ∧ U.heap = h0 ∧ CHv Z EL U.vm h0) (fun _ _ _ _ _ => True) (fun _ U o U' => ∃ v L, o = .returned v ∧ Q_rmNS2 Z a1 k1 c0 c1 h0 n0 v U'.heap L ∧ CHr Z EL U.vm U.heap U'.vm U'.heap ∧ ReturnedEndW U o U' L ({ frames := 3, cells := 2, slots := 5, locals := 75 } : Room).cells ({ frames := 3, cells := 2, slots := 5, locals := 75 } : Room).slots) := by
  refine MetFree.of_bodySF (plainFor_of_name pn_5) hisR ?_
  intro p e s m args below meth c s₁ Bd hml0 hP hK
  obtain ⟨rfl, hZ, hh, CH0⟩ := hP
  have hx := Bd.exec
  have hby := Bd.bytes
  have hml : c.maxLocals = 3 := hml0
  have hown : s.vm.findClass "java/lang/StringLatin1" = some m.cls := findClass_of_methodNamed Bd.named
  have hnm := (name_of_methodNamed Bd.named Bd.method).1
  have X0 : Stand p l e ({ frames := 3, cells := 2, slots := 5, locals := 75 } : Room) (s.setVm s.vm) m #[(.ref a1), (.int (1 : Int32)), (.int (1 : Int32))] below meth c s₁ [] 0 0 := Stand.of_body Bd
  have e0 : s₁.heap = h0 := by rw [← hh, Bd.state]; rfl
  have N0 := Fr.nil n0
  have hS : s.Since s.vm 0 := (State.WarmedH.refl s).since 0
  have hk : 0 ≤ h0.size := Nat.zero_le _
  have CR : CHr Z EL s.vm s.heap s.vm h0 := by rw [hh]; exact CHr.refl CH0
  have hEL := ew_of hw
  have hwS := ws_of hw
  have ef : entryFrame m #[(.ref a1), (.int (1 : Int32)), (.int (1 : Int32))] 3 = (mkF m 0 #[.val (.ref a1), .val (.int (1 : Int32)), .val (.int (1 : Int32))] []) := by first | rfl | (simp [entryFrame, mkF, argsToLocals, Value.category, maxLocals]; done)
  show Go p e below (EndW EL Z (fun v h L => ∃ r : Addr, v = some (.ref r) ∧ Fr n0 L ∧ Keep h0 h [] ∧ StrAt Z h r [c1]) s 2 5) (s₁.setTop (entryFrame m #[(.ref a1), (.int (1 : Int32)), (.int (1 : Int32))] 3))
  rw [ef]
  show Go p e below _ (s₁.setTop (mkF m 0 #[.val (.ref a1), .val (.int (1 : Int32)), .val (.int (1 : Int32))] []))
  have K0 : Keep h0 h0 [] := Keep.refl _ _
  show Go p e below _ (s₁.setTop (mkF m 0 #[.val (.ref a1), .val (.int (1 : Int32)), .val (.int (1 : Int32))] []))
  refine Go.by (fun t => XS.iloadN X0.here hx rfl (hb hby d21_0) rfl ) ?_
  show Go p e below _ (s₁.setTop (mkF m 1 #[.val (.ref a1), .val (.int (1 : Int32)), .val (.int (1 : Int32))] [(.int (1 : Int32))]))
  refine Go.by (fun t => XS.ifYes X0.here hx rfl (pc0 := 1) (pc' := 7) rfl (hb hby d21_1) rfl ((if0 _ _).trans (feq (by decide : ¬ ((1 : Int32) = (0 : Int32)))).2) (by decide) (by decide)) ?_
  show Go p e below _ (s₁.setTop (mkF m 7 #[.val (.ref a1), .val (.int (1 : Int32)), .val (.int (1 : Int32))] []))
  show Go p e below _ (s₁.setTop (mkF m 7 #[.val (.ref a1), .val (.int (1 : Int32)), .val (.int (1 : Int32))] []))
  obtain ⟨T164, h164, X164, e164, E164, A164, D164, -, st164⟩ := newO X0 hx hZ hown (hw _ (List.mem_of_getElem? (i := 102) rfl)) (hw _ (List.mem_of_getElem? (i := 5) rfl)) (hw _ (List.mem_of_getElem? (i := 6) rfl)) e0 (g := (mkF m 7 #[.val (.ref a1), .val (.int (1 : Int32)), .val (.int (1 : Int32))] [])) rfl (hb hby d21_7) (by decide) (by decide)
  obtain ⟨r, g164⟩ : ∃ z, z = h0.size := ⟨_, rfl⟩
  rw [← g164] at A164 D164 st164
  refine Go.by (fun t => st164 t) ?_
  have g_r : n0 ≤ r := Nat.le_trans Z0 (Nat.le_of_eq g164.symm)
  have sz_r : h0.size ≤ r := Nat.le_trans K0.1 (Nat.le_of_eq g164.symm)
  have ne_a1_r : a1 ≠ r := Nat.ne_of_lt (Nat.lt_of_lt_of_le V_a1.lt (Nat.le_of_eq g164.symm))
  have Sf_r : Safe Z EL s.vm h0 r := Safe.new (Nat.le_of_eq g164.symm)
  replace Sf_r := Sf_r.ext E164 CR.1
  replace CR := CR.trans (CHr.ext E164 CR.1)
  replace hk := Nat.le_trans hk E164.1
  replace V_a1 := V_a1.ext E164
  replace Z0 := Nat.le_trans Z0 E164.1
  replace K0 := K0.ext E164
  have E_r := A164
  have F_coder_r : Fld Z h164 r "java/lang/String" "coder" "B" (.int (0 : Int32)) := D164 (Or.inr (hw _ (List.mem_of_getElem? (i := 31) rfl))) (ty := .byte) (by decide)
  have F_value_r : Fld Z h164 r "java/lang/String" "value" "[B" .null := D164 (Or.inr (hw _ (List.mem_of_getElem? (i := 33) rfl))) (ty := (.array .byte)) (by decide)
  show Go p e below _ (T164.setTop (mkF m 10 #[.val (.ref a1), .val (.int (1 : Int32)), .val (.int (1 : Int32))] [(.ref r)]))
  show Go p e below _ (T164.setTop (mkF m 10 #[.val (.ref a1), .val (.int (1 : Int32)), .val (.int (1 : Int32))] [(.ref r)]))
  refine Go.by (fun t => XS.dup X164.here hx rfl (hb hby d21_10) rfl rfl) ?_
  show Go p e below _ (T164.setTop (mkF m 11 #[.val (.ref a1), .val (.int (1 : Int32)), .val (.int (1 : Int32))] [(.ref r), (.ref r)]))
  refine Go.by (fun t => XS.aloadN X164.here hx rfl (hb hby d21_11) rfl rfl) ?_
  show Go p e below _ (T164.setTop (mkF m 12 #[.val (.ref a1), .val (.int (1 : Int32)), .val (.int (1 : Int32))] [(.ref a1), (.ref r), (.ref r)]))
  refine Go.by (fun t => XS.iloadN X164.here hx rfl (hb hby d21_12) rfl ) ?_
  show Go p e below _ (T164.setTop (mkF m 13 #[.val (.ref a1), .val (.int (1 : Int32)), .val (.int (1 : Int32))] [(.int (1 : Int32)), (.ref a1), (.ref r), (.ref r)]))
  refine Go.by (fun t => XS.iloadN X164.here hx rfl (hb hby d21_13) rfl ) ?_
  show Go p e below _ (T164.setTop (mkF m 14 #[.val (.ref a1), .val (.int (1 : Int32)), .val (.int (1 : Int32))] [(.int (1 : Int32)), (.int (1 : Int32)), (.ref a1), (.ref r), (.ref r)]))
  refine Go.by (fun t => XS.iloadN X164.here hx rfl (hb hby d21_14) rfl ) ?_
  show Go p e below _ (T164.setTop (mkF m 15 #[.val (.ref a1), .val (.int (1 : Int32)), .val (.int (1 : Int32))] [(.int (1 : Int32)), (.int (1 : Int32)), (.int (1 : Int32)), (.ref a1), (.ref r), (.ref r)]))
  refine Go.by (fun t => XS.iadd X164.here hx rfl (hb hby d21_15) rfl) ?_
  show Go p e below _ (T164.setTop (mkF m 16 #[.val (.ref a1), .val (.int (1 : Int32)), .val (.int (1 : Int32))] [(.int ((1 : Int32) + (1 : Int32))), (.int (1 : Int32)), (.ref a1), (.ref r), (.ref r)]))
  rw [show (1 : Int32) + (1 : Int32) = 2 from rfl]
  show Go p e below _ (T164.setTop (mkF m 16 #[.val (.ref a1), .val (.int (1 : Int32)), .val (.int (1 : Int32))] [(.int (2 : Int32)), (.int (1 : Int32)), (.ref a1), (.ref r), (.ref r)]))
  obtain ⟨_, _, ⟨T165, L165, k165, n165⟩, -, X165, ⟨Lc165, hQ165, l165, y165, z165⟩, st165⟩ := Jvm.LawKit.callS X164 hx (y := (⟨"java/util/Arrays", "copyOfRange", "([BII)[B"⟩ : MethodName)) hown (mvT hZ (hw _ (List.mem_of_getElem? (i := 103) rfl))) (mvT hZ (hw _ (List.mem_of_getElem? (i := 104) rfl))) (mvT hZ (hw _ (List.mem_of_getElem? (i := 105) rfl))) (mvT hZ (hw _ (List.mem_of_getElem? (i := 106) rfl))) (by decide) (backOf (W := 2) (rmCR2 l Z a0 hw [] a1 k1 _ _ h164 n0 Z0 V_a1) hZ (hw _ (List.mem_of_getElem? (i := 106) rfl)) (hw _ (List.mem_of_getElem? (i := 105) rfl)) (by decide) (by decide)) (g := (mkF m 16 #[.val (.ref a1), .val (.int (1 : Int32)), .val (.int (1 : Int32))] [(.int (2 : Int32)), (.int (1 : Int32)), (.ref a1), (.ref r), (.ref r)])) rfl (by rw [hml]; rfl) (argsL := [(.ref a1), (.int (1 : Int32)), (.int (2 : Int32))]) (rest := [(.ref r), (.ref r)]) (lenOf pd_20 rfl) rfl (by show 2 * 0 + _ ≤ _; exact Nat.le_of_eq rfl) (hb hby d21_16) (fun _ _ => ⟨rfl, e164, (by decide : 1 + 1 ≤ _), (by decide : 4 + 1 ≤ _)⟩)
  dsimp only [Pt.U, Pt.locs, Pt.cells, Pt.slots] at X165 l165 y165 z165 st165 hQ165
  subst l165 y165 z165
  obtain ⟨b, kb, rfl, hbq, Nq165, K165, V_b⟩ := hQ165
  have N165 := Fr.app N0 Nq165
  refine Go.by (fun t => st165 t) ?_
  have Sfw := (sf0 : ∀ x ∈ [], Safe Z EL s.vm h164 x)
  replace Sf_r := Safe.keep K165 Sfw CR.1 Sf_r
  replace CR := CR.trans (CHr.keep K165 Sfw CR.1)
  clear Sfw
  replace hk := Nat.le_trans hk K165.1
  replace E_r := E_r.keep K165
  replace F_coder_r := F_coder_r.keep K165 nin0
  replace F_value_r := F_value_r.keep K165 nin0
  replace Z0 := Nat.le_trans Z0 K165.1
  replace K0 := K0.trans K165 all0
  show Go p e below _ (T165.setTop (mkF m 19 #[.val (.ref a1), .val (.int (1 : Int32)), .val (.int (1 : Int32))] [(.ref b), (.ref r), (.ref r)]))
  show Go p e below _ (T165.setTop (mkF m 19 #[.val (.ref a1), .val (.int (1 : Int32)), .val (.int (1 : Int32))] [(.ref b), (.ref r), (.ref r)]))
  refine Go.by (fun t => XS.iconst X165.here hx rfl (hb hby d21_19)) ?_
  show Go p e below _ (T165.setTop (mkF m 20 #[.val (.ref a1), .val (.int (1 : Int32)), .val (.int (1 : Int32))] [(.int (0 : Int32)), (.ref b), (.ref r), (.ref r)]))
  obtain ⟨_, _, ⟨T166, L166, k166, n166⟩, -, X166, ⟨Lc166, hQ166, l166, y166, z166⟩, st166⟩ := X165.specialBack hx (y := (⟨"java/lang/String", "<init>", "([BB)V"⟩ : MethodName)) rfl hown (mvT hZ (hw _ (List.mem_of_getElem? (i := 121) rfl))) (mvT hZ (hw _ (List.mem_of_getElem? (i := 122) rfl))) (mvT hZ (hw _ (List.mem_of_getElem? (i := 123) rfl))) (by decide) (backOf (W := 1) (rm26 l Z a0 hw [] r b T165.heap n0 E_r F_value_r F_coder_r g_r) hZ (hw _ (List.mem_of_getElem? (i := 123) rfl)) (hw _ (List.mem_of_getElem? (i := 6) rfl)) (by decide) (by decide)) (g := (mkF m 20 #[.val (.ref a1), .val (.int (1 : Int32)), .val (.int (1 : Int32))] [(.int (0 : Int32)), (.ref b), (.ref r), (.ref r)])) rfl (by rw [hml]; rfl) (Steps.refl _) (a := r) (argsL := [(.ref b), (.int (0 : Int32))]) (rest := [(.ref r)]) (lenOf pd_21 rfl) rfl (by show 2 * 0 + _ ≤ _; exact Nat.le_of_eq rfl) (hb hby d21_20) (fun _ _ => ⟨rfl, rfl, (by decide : 2 + 0 ≤ _), (by decide : 5 + 0 ≤ _)⟩)
  dsimp only [Pt.U, Pt.locs, Pt.cells, Pt.slots] at X166 l166 y166 z166 st166 hQ166
  subst l166 y166 z166
  obtain ⟨rfl, Nq166, K166, E_r', F_v, F_c⟩ := hQ166
  have N166 := Fr.app N165 Nq166
  refine Go.by (fun t => st166.trans) ?_
  have Sfw := ((sfS Sf_r sf0) : ∀ x ∈ [r], Safe Z EL s.vm T165.heap x)
  replace Sf_r := Safe.keep K166 Sfw CR.1 Sf_r
  replace CR := CR.trans (CHr.keep K166 Sfw CR.1)
  clear Sfw
  replace hk := Nat.le_trans hk K166.1
  have ne_b_r : b ≠ r := Ne.symm (Exa.neArv E_r V_b (hw _ (List.mem_of_getElem? (i := 5) rfl)))
  replace E_r := E_r.keep K166
  replace V_b := V_b.keep K166 (ninS ne_b_r nin0)
  replace Z0 := Nat.le_trans Z0 K166.1
  replace K0 := K0.trans K166 (allS (P := fun x => x ∈ _ ∨ _ ≤ x) (Or.inr sz_r) all0)
  show Go p e below _ (T166.setTop (mkF m 23 #[.val (.ref a1), .val (.int (1 : Int32)), .val (.int (1 : Int32))] [(.ref r)]))
  show Go p e below _ (T166.setTop (mkF m 23 #[.val (.ref a1), .val (.int (1 : Int32)), .val (.int (1 : Int32))] [(.ref r)]))
  have hp : ∀ c ∈ ([c1] : List Int32), ¬ c < 0 ∧ ¬ (255 : Int32) < c := allC hb1 allN
  exact Go.ret1W X166 hS hk CR hZ hEL hx Bd.returns Bd.notSynchronized rfl (Or.inr (Or.inr (Or.inr (Or.inr ⟨rfl, rfl, rfl⟩)))) (hb hby d21_23) (by decide) (by decide) ⟨r, rfl, N166, K0, b, kb, _, _, E_r', F_v, F_c, V_b, Or.inl ⟨rfl, rfl, rfl, fun c hc => (hp c hc).2⟩, up _ hp, Nat.le_of_ble_eq_true rfl⟩
def Q_rmNS3 (Z : State) (a1 : Addr) (k1 : ClassId) (c0 c1 c2 : Int32) (h0 : Heap) (n0 : Nat) : Option Value → Heap → List Loc → Prop := fun v h L => ∃ r : Addr, v = some (.ref r) ∧ Fr n0 L ∧ Keep h0 h [] ∧ StrAt Z h r [c1, c2]
set_option maxRecDepth 65536 in
set_option maxHeartbeats 40000000 in
theorem rmNS3 (l : Launch) (Z : State) (a0 : Array Value) (hw : ∀ d ∈ tables_1, d.before a0 Z = true) (ws : List Jvm.Cond) (a1 : Addr) (k1 : ClassId) (c0 c1 c2 : Int32) (h0 : Heap) (n0 : Nat) (Z0 : n0 ≤ h0.size) (V_a1 : Arv Z h0 a1 k1 .byte (3 : Int32) ([c0, c1, c2].map fun c => Value.int (c.toInt8.toInt32)) (.int 0)) (hb0 : ¬ c0 < 0 ∧ ¬ (255 : Int32) < c0) (hb1 : ¬ c1 < 0 ∧ ¬ (255 : Int32) < c1) (hb2 : ¬ c2 < 0 ∧ ¬ (255 : Int32) < c2) :
    MetFree l (⟨"java/lang/StringLatin1", "newString", "([BII)Ljava/lang/String;"⟩ : MethodName) (head1 (Jvm.Cond.code (⟨"java/lang/StringLatin1", "newString", "([BII)Ljava/lang/String;"⟩ : MethodName) jdk_43_method_47_code 3 (some (.object "java/lang/String")) :: ws) ({ frames := 3, cells := 2, slots := 6, locals := 75 } : Room)) (fun a U => a = #[(.ref a1), (.int (1 : Int32)), (.int (2 : Int32))] ∧ Z.Warmed39 U.vm ∧ U.heap = h0 ∧ CHv Z EL U.vm h0) (fun _ _ _ _ _ => True) (fun _ U o U' => ∃ v L, o = .returned v ∧ Q_rmNS3 Z a1 k1 c0 c1 c2 h0 n0 v U'.heap L ∧ CHr Z EL U.vm U.heap U'.vm U'.heap ∧ ReturnedEndW U o U' L ({ frames := 3, cells := 2, slots := 6, locals := 75 } : Room).cells ({ frames := 3, cells := 2, slots := 6, locals := 75 } : Room).slots) := by
  refine MetFree.of_bodySF (plainFor_of_name pn_5) hisR ?_
  intro p e s m args below meth c s₁ Bd hml0 hP hK
  obtain ⟨rfl, hZ, hh, CH0⟩ := hP
  have hx := Bd.exec
  have hby := Bd.bytes
  have hml : c.maxLocals = 3 := hml0
  have hown : s.vm.findClass "java/lang/StringLatin1" = some m.cls := findClass_of_methodNamed Bd.named
  have hnm := (name_of_methodNamed Bd.named Bd.method).1
  have X0 : Stand p l e ({ frames := 3, cells := 2, slots := 6, locals := 75 } : Room) (s.setVm s.vm) m #[(.ref a1), (.int (1 : Int32)), (.int (2 : Int32))] below meth c s₁ [] 0 0 := Stand.of_body Bd
  have e0 : s₁.heap = h0 := by rw [← hh, Bd.state]; rfl
  have N0 := Fr.nil n0
  have hS : s.Since s.vm 0 := (State.WarmedH.refl s).since 0
  have hk : 0 ≤ h0.size := Nat.zero_le _
  have CR : CHr Z EL s.vm s.heap s.vm h0 := by rw [hh]; exact CHr.refl CH0
  have hEL := ew_of hw
  have hwS := ws_of hw
  have ef : entryFrame m #[(.ref a1), (.int (1 : Int32)), (.int (2 : Int32))] 3 = (mkF m 0 #[.val (.ref a1), .val (.int (1 : Int32)), .val (.int (2 : Int32))] []) := by first | rfl | (simp [entryFrame, mkF, argsToLocals, Value.category, maxLocals]; done)
  show Go p e below (EndW EL Z (fun v h L => ∃ r : Addr, v = some (.ref r) ∧ Fr n0 L ∧ Keep h0 h [] ∧ StrAt Z h r [c1, c2]) s 2 6) (s₁.setTop (entryFrame m #[(.ref a1), (.int (1 : Int32)), (.int (2 : Int32))] 3))
  rw [ef]
  show Go p e below _ (s₁.setTop (mkF m 0 #[.val (.ref a1), .val (.int (1 : Int32)), .val (.int (2 : Int32))] []))
  have K0 : Keep h0 h0 [] := Keep.refl _ _
  show Go p e below _ (s₁.setTop (mkF m 0 #[.val (.ref a1), .val (.int (1 : Int32)), .val (.int (2 : Int32))] []))
  refine Go.by (fun t => XS.iloadN X0.here hx rfl (hb hby d21_0) rfl ) ?_
  show Go p e below _ (s₁.setTop (mkF m 1 #[.val (.ref a1), .val (.int (1 : Int32)), .val (.int (2 : Int32))] [(.int (2 : Int32))]))
  refine Go.by (fun t => XS.ifYes X0.here hx rfl (pc0 := 1) (pc' := 7) rfl (hb hby d21_1) rfl ((if0 _ _).trans (feq (by decide : ¬ ((2 : Int32) = (0 : Int32)))).2) (by decide) (by decide)) ?_
  show Go p e below _ (s₁.setTop (mkF m 7 #[.val (.ref a1), .val (.int (1 : Int32)), .val (.int (2 : Int32))] []))
  show Go p e below _ (s₁.setTop (mkF m 7 #[.val (.ref a1), .val (.int (1 : Int32)), .val (.int (2 : Int32))] []))
  obtain ⟨T167, h167, X167, e167, E167, A167, D167, -, st167⟩ := newO X0 hx hZ hown (hw _ (List.mem_of_getElem? (i := 102) rfl)) (hw _ (List.mem_of_getElem? (i := 5) rfl)) (hw _ (List.mem_of_getElem? (i := 6) rfl)) e0 (g := (mkF m 7 #[.val (.ref a1), .val (.int (1 : Int32)), .val (.int (2 : Int32))] [])) rfl (hb hby d21_7) (by decide) (by decide)
  obtain ⟨r, g167⟩ : ∃ z, z = h0.size := ⟨_, rfl⟩
  rw [← g167] at A167 D167 st167
  refine Go.by (fun t => st167 t) ?_
  have g_r : n0 ≤ r := Nat.le_trans Z0 (Nat.le_of_eq g167.symm)
  have sz_r : h0.size ≤ r := Nat.le_trans K0.1 (Nat.le_of_eq g167.symm)
  have ne_a1_r : a1 ≠ r := Nat.ne_of_lt (Nat.lt_of_lt_of_le V_a1.lt (Nat.le_of_eq g167.symm))
  have Sf_r : Safe Z EL s.vm h0 r := Safe.new (Nat.le_of_eq g167.symm)
  replace Sf_r := Sf_r.ext E167 CR.1
  replace CR := CR.trans (CHr.ext E167 CR.1)
  replace hk := Nat.le_trans hk E167.1
  replace V_a1 := V_a1.ext E167
  replace Z0 := Nat.le_trans Z0 E167.1
  replace K0 := K0.ext E167
  have E_r := A167
  have F_coder_r : Fld Z h167 r "java/lang/String" "coder" "B" (.int (0 : Int32)) := D167 (Or.inr (hw _ (List.mem_of_getElem? (i := 31) rfl))) (ty := .byte) (by decide)
  have F_value_r : Fld Z h167 r "java/lang/String" "value" "[B" .null := D167 (Or.inr (hw _ (List.mem_of_getElem? (i := 33) rfl))) (ty := (.array .byte)) (by decide)
  show Go p e below _ (T167.setTop (mkF m 10 #[.val (.ref a1), .val (.int (1 : Int32)), .val (.int (2 : Int32))] [(.ref r)]))
  show Go p e below _ (T167.setTop (mkF m 10 #[.val (.ref a1), .val (.int (1 : Int32)), .val (.int (2 : Int32))] [(.ref r)]))
  refine Go.by (fun t => XS.dup X167.here hx rfl (hb hby d21_10) rfl rfl) ?_
  show Go p e below _ (T167.setTop (mkF m 11 #[.val (.ref a1), .val (.int (1 : Int32)), .val (.int (2 : Int32))] [(.ref r), (.ref r)]))
  refine Go.by (fun t => XS.aloadN X167.here hx rfl (hb hby d21_11) rfl rfl) ?_
  show Go p e below _ (T167.setTop (mkF m 12 #[.val (.ref a1), .val (.int (1 : Int32)), .val (.int (2 : Int32))] [(.ref a1), (.ref r), (.ref r)]))
  refine Go.by (fun t => XS.iloadN X167.here hx rfl (hb hby d21_12) rfl ) ?_
  show Go p e below _ (T167.setTop (mkF m 13 #[.val (.ref a1), .val (.int (1 : Int32)), .val (.int (2 : Int32))] [(.int (1 : Int32)), (.ref a1), (.ref r), (.ref r)]))
  refine Go.by (fun t => XS.iloadN X167.here hx rfl (hb hby d21_13) rfl ) ?_
  show Go p e below _ (T167.setTop (mkF m 14 #[.val (.ref a1), .val (.int (1 : Int32)), .val (.int (2 : Int32))] [(.int (1 : Int32)), (.int (1 : Int32)), (.ref a1), (.ref r), (.ref r)]))
  refine Go.by (fun t => XS.iloadN X167.here hx rfl (hb hby d21_14) rfl ) ?_
  show Go p e below _ (T167.setTop (mkF m 15 #[.val (.ref a1), .val (.int (1 : Int32)), .val (.int (2 : Int32))] [(.int (2 : Int32)), (.int (1 : Int32)), (.int (1 : Int32)), (.ref a1), (.ref r), (.ref r)]))
  refine Go.by (fun t => XS.iadd X167.here hx rfl (hb hby d21_15) rfl) ?_
  show Go p e below _ (T167.setTop (mkF m 16 #[.val (.ref a1), .val (.int (1 : Int32)), .val (.int (2 : Int32))] [(.int ((1 : Int32) + (2 : Int32))), (.int (1 : Int32)), (.ref a1), (.ref r), (.ref r)]))
  rw [show (1 : Int32) + (2 : Int32) = 3 from rfl]
  show Go p e below _ (T167.setTop (mkF m 16 #[.val (.ref a1), .val (.int (1 : Int32)), .val (.int (2 : Int32))] [(.int (3 : Int32)), (.int (1 : Int32)), (.ref a1), (.ref r), (.ref r)]))
  obtain ⟨_, _, ⟨T168, L168, k168, n168⟩, -, X168, ⟨Lc168, hQ168, l168, y168, z168⟩, st168⟩ := Jvm.LawKit.callS X167 hx (y := (⟨"java/util/Arrays", "copyOfRange", "([BII)[B"⟩ : MethodName)) hown (mvT hZ (hw _ (List.mem_of_getElem? (i := 103) rfl))) (mvT hZ (hw _ (List.mem_of_getElem? (i := 104) rfl))) (mvT hZ (hw _ (List.mem_of_getElem? (i := 105) rfl))) (mvT hZ (hw _ (List.mem_of_getElem? (i := 106) rfl))) (by decide) (backOf (W := 2) (rmCR3 l Z a0 hw [] a1 k1 _ _ _ h167 n0 Z0 V_a1) hZ (hw _ (List.mem_of_getElem? (i := 106) rfl)) (hw _ (List.mem_of_getElem? (i := 105) rfl)) (by decide) (by decide)) (g := (mkF m 16 #[.val (.ref a1), .val (.int (1 : Int32)), .val (.int (2 : Int32))] [(.int (3 : Int32)), (.int (1 : Int32)), (.ref a1), (.ref r), (.ref r)])) rfl (by rw [hml]; rfl) (argsL := [(.ref a1), (.int (1 : Int32)), (.int (3 : Int32))]) (rest := [(.ref r), (.ref r)]) (lenOf pd_20 rfl) rfl (by show 2 * 0 + _ ≤ _; exact Nat.le_of_eq rfl) (hb hby d21_16) (fun _ _ => ⟨rfl, e167, (by decide : 1 + 1 ≤ _), (by decide : 4 + 2 ≤ _)⟩)
  dsimp only [Pt.U, Pt.locs, Pt.cells, Pt.slots] at X168 l168 y168 z168 st168 hQ168
  subst l168 y168 z168
  obtain ⟨b, kb, rfl, hbq, Nq168, K168, V_b⟩ := hQ168
  have N168 := Fr.app N0 Nq168
  refine Go.by (fun t => st168 t) ?_
  have Sfw := (sf0 : ∀ x ∈ [], Safe Z EL s.vm h167 x)
  replace Sf_r := Safe.keep K168 Sfw CR.1 Sf_r
  replace CR := CR.trans (CHr.keep K168 Sfw CR.1)
  clear Sfw
  replace hk := Nat.le_trans hk K168.1
  replace E_r := E_r.keep K168
  replace F_coder_r := F_coder_r.keep K168 nin0
  replace F_value_r := F_value_r.keep K168 nin0
  replace Z0 := Nat.le_trans Z0 K168.1
  replace K0 := K0.trans K168 all0
  show Go p e below _ (T168.setTop (mkF m 19 #[.val (.ref a1), .val (.int (1 : Int32)), .val (.int (2 : Int32))] [(.ref b), (.ref r), (.ref r)]))
  show Go p e below _ (T168.setTop (mkF m 19 #[.val (.ref a1), .val (.int (1 : Int32)), .val (.int (2 : Int32))] [(.ref b), (.ref r), (.ref r)]))
  refine Go.by (fun t => XS.iconst X168.here hx rfl (hb hby d21_19)) ?_
  show Go p e below _ (T168.setTop (mkF m 20 #[.val (.ref a1), .val (.int (1 : Int32)), .val (.int (2 : Int32))] [(.int (0 : Int32)), (.ref b), (.ref r), (.ref r)]))
  obtain ⟨_, _, ⟨T169, L169, k169, n169⟩, -, X169, ⟨Lc169, hQ169, l169, y169, z169⟩, st169⟩ := X168.specialBack hx (y := (⟨"java/lang/String", "<init>", "([BB)V"⟩ : MethodName)) rfl hown (mvT hZ (hw _ (List.mem_of_getElem? (i := 121) rfl))) (mvT hZ (hw _ (List.mem_of_getElem? (i := 122) rfl))) (mvT hZ (hw _ (List.mem_of_getElem? (i := 123) rfl))) (by decide) (backOf (W := 1) (rm26 l Z a0 hw [] r b T168.heap n0 E_r F_value_r F_coder_r g_r) hZ (hw _ (List.mem_of_getElem? (i := 123) rfl)) (hw _ (List.mem_of_getElem? (i := 6) rfl)) (by decide) (by decide)) (g := (mkF m 20 #[.val (.ref a1), .val (.int (1 : Int32)), .val (.int (2 : Int32))] [(.int (0 : Int32)), (.ref b), (.ref r), (.ref r)])) rfl (by rw [hml]; rfl) (Steps.refl _) (a := r) (argsL := [(.ref b), (.int (0 : Int32))]) (rest := [(.ref r)]) (lenOf pd_21 rfl) rfl (by show 2 * 0 + _ ≤ _; exact Nat.le_of_eq rfl) (hb hby d21_20) (fun _ _ => ⟨rfl, rfl, (by decide : 2 + 0 ≤ _), (by decide : 6 + 0 ≤ _)⟩)
  dsimp only [Pt.U, Pt.locs, Pt.cells, Pt.slots] at X169 l169 y169 z169 st169 hQ169
  subst l169 y169 z169
  obtain ⟨rfl, Nq169, K169, E_r', F_v, F_c⟩ := hQ169
  have N169 := Fr.app N168 Nq169
  refine Go.by (fun t => st169.trans) ?_
  have Sfw := ((sfS Sf_r sf0) : ∀ x ∈ [r], Safe Z EL s.vm T168.heap x)
  replace Sf_r := Safe.keep K169 Sfw CR.1 Sf_r
  replace CR := CR.trans (CHr.keep K169 Sfw CR.1)
  clear Sfw
  replace hk := Nat.le_trans hk K169.1
  have ne_b_r : b ≠ r := Ne.symm (Exa.neArv E_r V_b (hw _ (List.mem_of_getElem? (i := 5) rfl)))
  replace E_r := E_r.keep K169
  replace V_b := V_b.keep K169 (ninS ne_b_r nin0)
  replace Z0 := Nat.le_trans Z0 K169.1
  replace K0 := K0.trans K169 (allS (P := fun x => x ∈ _ ∨ _ ≤ x) (Or.inr sz_r) all0)
  show Go p e below _ (T169.setTop (mkF m 23 #[.val (.ref a1), .val (.int (1 : Int32)), .val (.int (2 : Int32))] [(.ref r)]))
  show Go p e below _ (T169.setTop (mkF m 23 #[.val (.ref a1), .val (.int (1 : Int32)), .val (.int (2 : Int32))] [(.ref r)]))
  have hp : ∀ c ∈ ([c1, c2] : List Int32), ¬ c < 0 ∧ ¬ (255 : Int32) < c := allC hb1 (allC hb2 allN)
  exact Go.ret1W X169 hS hk CR hZ hEL hx Bd.returns Bd.notSynchronized rfl (Or.inr (Or.inr (Or.inr (Or.inr ⟨rfl, rfl, rfl⟩)))) (hb hby d21_23) (by decide) (by decide) ⟨r, rfl, N169, K0, b, kb, _, _, E_r', F_v, F_c, V_b, Or.inl ⟨rfl, rfl, rfl, fun c hc => (hp c hc).2⟩, up _ hp, Nat.le_of_ble_eq_true rfl⟩
def Q_rmSB2_1 (Z : State) (a1 : Addr) (c0 : Int32) (G1 : Int32) (G3 : Value) (h0 : Heap) (n0 : Nat) : Option Value → Heap → List Loc → Prop := fun v h L => ∃ r : Addr, v = some (.ref r) ∧ Fr n0 L ∧ Keep h0 h [] ∧ StrAt Z h r []
set_option maxRecDepth 65536 in
set_option maxHeartbeats 40000000 in
theorem rmSB2_1 (l : Launch) (Z : State) (a0 : Array Value) (hw : ∀ d ∈ tables_1, d.before a0 Z = true) (ws : List Jvm.Cond) (a1 : Addr) (c0 : Int32) (G1 : Int32) (G3 : Value) (h0 : Heap) (n0 : Nat) (Z0 : n0 ≤ h0.size) (Od : Old Z n0 h0) (O2 : Sta Z Z.heap "java/lang/String" "COMPACT_STRINGS" "Z" (.int G1)) (P5 : ¬ (G1 = (0 : Int32))) (O4 : Sta Z Z.heap "jdk/internal/util/Preconditions" "SIOOBE_FORMATTER" "Ljava/util/function/BiFunction;" G3) (rG3 : G3.isRef = true) (S_a1 : StrAt Z h0 a1 [c0]) (hb0 : ¬ c0 < 0 ∧ ¬ (255 : Int32) < c0) :
    MetFree l (⟨"java/lang/String", "substring", "(II)Ljava/lang/String;"⟩ : MethodName) (head1 (Jvm.Cond.code (⟨"java/lang/String", "substring", "(II)Ljava/lang/String;"⟩ : MethodName) jdk_42_method_92_code 5 (some (.object "java/lang/String")) :: ws) ({ frames := 4, cells := 2, slots := 4, locals := 92 } : Room)) (fun a U => a = #[(.ref a1), (.int (1 : Int32)), (.int (1 : Int32))] ∧ Z.Warmed39 U.vm ∧ U.heap = h0 ∧ CHv Z EL U.vm h0) (fun _ _ _ _ _ => True) (fun _ U o U' => ∃ v L, o = .returned v ∧ Q_rmSB2_1 Z a1 c0 G1 G3 h0 n0 v U'.heap L ∧ CHr Z EL U.vm U.heap U'.vm U'.heap ∧ ReturnedEndW U o U' L ({ frames := 4, cells := 2, slots := 4, locals := 92 } : Room).cells ({ frames := 4, cells := 2, slots := 4, locals := 92 } : Room).slots) := by
  refine MetFree.of_bodySF (plainFor_of_name pn_1) hisR ?_
  intro p e s m args below meth c s₁ Bd hml0 hP hK
  obtain ⟨rfl, hZ, hh, CH0⟩ := hP
  have hx := Bd.exec
  have hby := Bd.bytes
  have hml : c.maxLocals = 5 := hml0
  have hown : s.vm.findClass "java/lang/String" = some m.cls := findClass_of_methodNamed Bd.named
  have hnm := (name_of_methodNamed Bd.named Bd.method).1
  have X0 : Stand p l e ({ frames := 4, cells := 2, slots := 4, locals := 92 } : Room) (s.setVm s.vm) m #[(.ref a1), (.int (1 : Int32)), (.int (1 : Int32))] below meth c s₁ [] 0 0 := Stand.of_body Bd
  have e0 : s₁.heap = h0 := by rw [← hh, Bd.state]; rfl
  have N0 := Fr.nil n0
  have hS : s.Since s.vm 0 := (State.WarmedH.refl s).since 0
  have hk : 0 ≤ h0.size := Nat.zero_le _
  have CR : CHr Z EL s.vm s.heap s.vm h0 := by rw [hh]; exact CHr.refl CH0
  have hEL := ew_of hw
  have hwS := ws_of hw
  have hln : ∀ d ∈ StrChars.Road.wordsLen, d.before a0 Z = true := fun d hd => hw d ((by decide +kernel : ∀ d ∈ StrChars.Road.wordsLen, d ∈ tables_1) d hd)
  have ef : entryFrame m #[(.ref a1), (.int (1 : Int32)), (.int (1 : Int32))] 5 = (mkF m 0 #[.val (.ref a1), .val (.int (1 : Int32)), .val (.int (1 : Int32)), .unset, .unset] []) := by first | rfl | (simp [entryFrame, mkF, argsToLocals, Value.category, maxLocals]; done)
  show Go p e below (EndW EL Z (fun v h L => ∃ r : Addr, v = some (.ref r) ∧ Fr n0 L ∧ Keep h0 h [] ∧ StrAt Z h r []) s 2 4) (s₁.setTop (entryFrame m #[(.ref a1), (.int (1 : Int32)), (.int (1 : Int32))] 5))
  rw [ef]
  show Go p e below _ (s₁.setTop (mkF m 0 #[.val (.ref a1), .val (.int (1 : Int32)), .val (.int (1 : Int32)), .unset, .unset] []))
  show Go p e below _ (s₁.setTop (mkF m 0 #[.val (.ref a1), .val (.int (1 : Int32)), .val (.int (1 : Int32)), .unset, .unset] []))
  refine Go.by (fun t => XS.aloadN X0.here hx rfl (hb hby d17_0) rfl rfl) ?_
  show Go p e below _ (s₁.setTop (mkF m 1 #[.val (.ref a1), .val (.int (1 : Int32)), .val (.int (1 : Int32)), .unset, .unset] [(.ref a1)]))
  obtain ⟨cq170, kq170, q170a, q170b, q170c⟩ := isOf hZ e0 S_a1.exa
  obtain ⟨_, _, ⟨T170, L170, k170, n170⟩, -, X170, ⟨Lc170, hQ170, l170, y170, z170⟩, st170⟩ := X0.virtualBack hx (y := (⟨"java/lang/String", "length", "()I"⟩ : MethodName)) (z := (⟨"java/lang/String", "length", "()I"⟩ : MethodName)) hown (mvT hZ (hw _ (List.mem_of_getElem? (i := 51) rfl))) (mvT hZ (hw _ (List.mem_of_getElem? (i := 52) rfl))) (notFace_of_selects (args := #[]) (mvT hZ (hw _ (List.mem_of_getElem? (i := 54) rfl)))) (mvT hZ (hw _ (List.mem_of_getElem? (i := 54) rfl))) (mvT hZ (hw _ (List.mem_of_getElem? (i := 53) rfl))) (by decide) (lenS (W := 0) hZ hln (hw _ (List.mem_of_getElem? (i := 5) rfl)) S_a1 (O2.ext Od.2) P5 (by decide) (by decide)) q170a q170c (g := (mkF m 1 #[.val (.ref a1), .val (.int (1 : Int32)), .val (.int (1 : Int32)), .unset, .unset] [(.ref a1)])) rfl (by rw [hml]; rfl) (Steps.refl _) (argsL := []) (rest := []) (lenOf pd_11 rfl) rfl (by show 2 * 0 + _ ≤ _; exact Nat.le_of_eq rfl) (hb hby d17_1) (fun _ _ => ⟨rfl, e0, (by decide : 0 + 0 ≤ _), (by decide : 0 + 0 ≤ _)⟩)
  dsimp only [Pt.U, Pt.locs, Pt.cells, Pt.slots] at X170 l170 y170 z170 st170 hQ170
  subst l170 y170 z170
  obtain ⟨rfl, rfl, e170⟩ := hQ170
  have Nq170 : Fr n0 ([] : List Loc) := Fr.nil n0
  have N170 := Fr.app N0 Nq170
  refine Go.by (fun t => st170.trans) ?_
  show Go p e below _ (T170.setTop (mkF m 4 #[.val (.ref a1), .val (.int (1 : Int32)), .val (.int (1 : Int32)), .unset, .unset] [(.int (1 : Int32))]))
  show Go p e below _ (T170.setTop (mkF m 4 #[.val (.ref a1), .val (.int (1 : Int32)), .val (.int (1 : Int32)), .unset, .unset] [(.int (1 : Int32))]))
  refine Go.by (fun t => XS.istoreN X170.here hx rfl (hb hby d17_4) rfl (l' := #[.val (.ref a1), .val (.int (1 : Int32)), .val (.int (1 : Int32)), .val (.int (1 : Int32)), .unset]) rfl) ?_
  show Go p e below _ (T170.setTop (mkF m 5 #[.val (.ref a1), .val (.int (1 : Int32)), .val (.int (1 : Int32)), .val (.int (1 : Int32)), .unset] []))
  refine Go.by (fun t => XS.iloadN X170.here hx rfl (hb hby d17_5) rfl ) ?_
  show Go p e below _ (T170.setTop (mkF m 6 #[.val (.ref a1), .val (.int (1 : Int32)), .val (.int (1 : Int32)), .val (.int (1 : Int32)), .unset] [(.int (1 : Int32))]))
  refine Go.by (fun t => XS.iloadN X170.here hx rfl (hb hby d17_6) rfl ) ?_
  show Go p e below _ (T170.setTop (mkF m 7 #[.val (.ref a1), .val (.int (1 : Int32)), .val (.int (1 : Int32)), .val (.int (1 : Int32)), .unset] [(.int (1 : Int32)), (.int (1 : Int32))]))
  refine Go.by (fun t => XS.iloadN X170.here hx rfl (hb hby d17_7) rfl ) ?_
  show Go p e below _ (T170.setTop (mkF m 8 #[.val (.ref a1), .val (.int (1 : Int32)), .val (.int (1 : Int32)), .val (.int (1 : Int32)), .unset] [(.int (1 : Int32)), (.int (1 : Int32)), (.int (1 : Int32))]))
  obtain ⟨_, _, ⟨T171, L171, k171, n171⟩, -, X171, ⟨Lc171, hQ171, l171, y171, z171⟩, st171⟩ := Jvm.LawKit.callS X170 hx (y := (⟨"java/lang/String", "checkBoundsBeginEnd", "(III)V"⟩ : MethodName)) hown (mvT hZ (hw _ (List.mem_of_getElem? (i := 86) rfl))) (mvT hZ (hw _ (List.mem_of_getElem? (i := 87) rfl))) (mvT hZ (hw _ (List.mem_of_getElem? (i := 6) rfl))) (mvT hZ (hw _ (List.mem_of_getElem? (i := 88) rfl))) (by decide) (backOf (W := 0) (rm18 l Z a0 hw [] 1 1 1 G3 h0 n0 Od O4 rG3 (by decide) (by decide) (by decide)) hZ (hw _ (List.mem_of_getElem? (i := 88) rfl)) (hw _ (List.mem_of_getElem? (i := 6) rfl)) (by decide) (by decide)) (g := (mkF m 8 #[.val (.ref a1), .val (.int (1 : Int32)), .val (.int (1 : Int32)), .val (.int (1 : Int32)), .unset] [(.int (1 : Int32)), (.int (1 : Int32)), (.int (1 : Int32))])) rfl (by rw [hml]; rfl) (argsL := [(.int (1 : Int32)), (.int (1 : Int32)), (.int (1 : Int32))]) (rest := []) (lenOf pd_16 rfl) rfl (by show 2 * 0 + _ ≤ _; exact Nat.le_of_eq rfl) (hb hby d17_8) (fun _ _ => ⟨rfl, e170, (by decide : 0 + 0 ≤ _), (by decide : 0 + 0 ≤ _)⟩)
  dsimp only [Pt.U, Pt.locs, Pt.cells, Pt.slots] at X171 l171 y171 z171 st171 hQ171
  subst l171 y171 z171
  obtain ⟨rfl, Nq171, e171⟩ := hQ171
  have N171 := Fr.app N170 Nq171
  refine Go.by (fun t => st171 t) ?_
  show Go p e below _ (T171.setTop (mkF m 11 #[.val (.ref a1), .val (.int (1 : Int32)), .val (.int (1 : Int32)), .val (.int (1 : Int32)), .unset] []))
  show Go p e below _ (T171.setTop (mkF m 11 #[.val (.ref a1), .val (.int (1 : Int32)), .val (.int (1 : Int32)), .val (.int (1 : Int32)), .unset] []))
  refine Go.by (fun t => XS.iloadN X171.here hx rfl (hb hby d17_11) rfl ) ?_
  show Go p e below _ (T171.setTop (mkF m 12 #[.val (.ref a1), .val (.int (1 : Int32)), .val (.int (1 : Int32)), .val (.int (1 : Int32)), .unset] [(.int (1 : Int32))]))
  refine Go.by (fun t => XS.ifYes X171.here hx rfl (pc0 := 12) (pc' := 22) rfl (hb hby d17_12) rfl ((if0 _ _).trans (feq (by decide : ¬ ((1 : Int32) = (0 : Int32)))).2) (by decide) (by decide)) ?_
  show Go p e below _ (T171.setTop (mkF m 22 #[.val (.ref a1), .val (.int (1 : Int32)), .val (.int (1 : Int32)), .val (.int (1 : Int32)), .unset] []))
  show Go p e below _ (T171.setTop (mkF m 22 #[.val (.ref a1), .val (.int (1 : Int32)), .val (.int (1 : Int32)), .val (.int (1 : Int32)), .unset] []))
  refine Go.by (fun t => XS.iloadN X171.here hx rfl (hb hby d17_22) rfl ) ?_
  show Go p e below _ (T171.setTop (mkF m 23 #[.val (.ref a1), .val (.int (1 : Int32)), .val (.int (1 : Int32)), .val (.int (1 : Int32)), .unset] [(.int (1 : Int32))]))
  refine Go.by (fun t => XS.iloadN X171.here hx rfl (hb hby d17_23) rfl ) ?_
  show Go p e below _ (T171.setTop (mkF m 24 #[.val (.ref a1), .val (.int (1 : Int32)), .val (.int (1 : Int32)), .val (.int (1 : Int32)), .unset] [(.int (1 : Int32)), (.int (1 : Int32))]))
  refine Go.by (fun t => XS.isub X171.here hx rfl (hb hby d17_24) rfl) ?_
  show Go p e below _ (T171.setTop (mkF m 25 #[.val (.ref a1), .val (.int (1 : Int32)), .val (.int (1 : Int32)), .val (.int (1 : Int32)), .unset] [(.int ((1 : Int32) - (1 : Int32)))]))
  rw [show (1 : Int32) - (1 : Int32) = 0 from rfl]
  show Go p e below _ (T171.setTop (mkF m 25 #[.val (.ref a1), .val (.int (1 : Int32)), .val (.int (1 : Int32)), .val (.int (1 : Int32)), .unset] [(.int (0 : Int32))]))
  show Go p e below _ (T171.setTop (mkF m 25 #[.val (.ref a1), .val (.int (1 : Int32)), .val (.int (1 : Int32)), .val (.int (1 : Int32)), .unset] [(.int (0 : Int32))]))
  refine Go.by (fun t => XS.istore X171.here hx rfl (hb hby d17_25) rfl (l' := #[.val (.ref a1), .val (.int (1 : Int32)), .val (.int (1 : Int32)), .val (.int (1 : Int32)), .val (.int (0 : Int32))]) rfl) ?_
  show Go p e below _ (T171.setTop (mkF m 27 #[.val (.ref a1), .val (.int (1 : Int32)), .val (.int (1 : Int32)), .val (.int (1 : Int32)), .val (.int (0 : Int32))] []))
  refine Go.by (fun t => XS.aloadN X171.here hx rfl (hb hby d17_27) rfl rfl) ?_
  show Go p e below _ (T171.setTop (mkF m 28 #[.val (.ref a1), .val (.int (1 : Int32)), .val (.int (1 : Int32)), .val (.int (1 : Int32)), .val (.int (0 : Int32))] [(.ref a1)]))
  obtain ⟨t_a1, kb_a1, E_a1, F_value_a1, F_coder_a1, V_t_a1, hl_a1⟩ := S_a1.open
  obtain ⟨cq172, kq172, q172a, q172b, q172c⟩ := isOf hZ e171 E_a1
  obtain ⟨_, _, ⟨T172, L172, k172, n172⟩, -, X172, ⟨Lc172, hQ172, l172, y172, z172⟩, st172⟩ := X171.virtualBack hx (y := (⟨"java/lang/String", "isLatin1", "()Z"⟩ : MethodName)) (z := (⟨"java/lang/String", "isLatin1", "()Z"⟩ : MethodName)) hown (mvT hZ (hw _ (List.mem_of_getElem? (i := 94) rfl))) (mvT hZ (hw _ (List.mem_of_getElem? (i := 95) rfl))) (notFace_of_selects (args := #[]) (mvT hZ (hw _ (List.mem_of_getElem? (i := 97) rfl)))) (mvT hZ (hw _ (List.mem_of_getElem? (i := 97) rfl))) (mvT hZ (hw _ (List.mem_of_getElem? (i := 96) rfl))) (by decide) (backOf (W := 0) (rm20 l Z a0 hw [] a1 G1 h0 n0 Od O2 P5 F_coder_a1) hZ (hw _ (List.mem_of_getElem? (i := 98) rfl)) (hw _ (List.mem_of_getElem? (i := 6) rfl)) (by decide) (by decide)) q172a q172c (g := (mkF m 28 #[.val (.ref a1), .val (.int (1 : Int32)), .val (.int (1 : Int32)), .val (.int (1 : Int32)), .val (.int (0 : Int32))] [(.ref a1)])) rfl (by rw [hml]; rfl) (Steps.refl _) (argsL := []) (rest := []) (lenOf pd_17 rfl) rfl (by show 2 * 0 + _ ≤ _; exact Nat.le_of_eq rfl) (hb hby d17_28) (fun _ _ => ⟨rfl, e171, (by decide : 0 + 0 ≤ _), (by decide : 0 + 0 ≤ _)⟩)
  dsimp only [Pt.U, Pt.locs, Pt.cells, Pt.slots] at X172 l172 y172 z172 st172 hQ172
  subst l172 y172 z172
  obtain ⟨rfl, Nq172, e172⟩ := hQ172
  have N172 := Fr.app N171 Nq172
  refine Go.by (fun t => st172.trans) ?_
  show Go p e below _ (T172.setTop (mkF m 31 #[.val (.ref a1), .val (.int (1 : Int32)), .val (.int (1 : Int32)), .val (.int (1 : Int32)), .val (.int (0 : Int32))] [(.int (1 : Int32))]))
  refine Go.by (fun t => XS.ifNo X172.here hx rfl (hb hby d17_31) rfl ((if0 _ _).trans (feq (by decide : ¬ ((1 : Int32) = (0 : Int32)))).1)) ?_
  show Go p e below _ (T172.setTop (mkF m 34 #[.val (.ref a1), .val (.int (1 : Int32)), .val (.int (1 : Int32)), .val (.int (1 : Int32)), .val (.int (0 : Int32))] []))
  show Go p e below _ (T172.setTop (mkF m 34 #[.val (.ref a1), .val (.int (1 : Int32)), .val (.int (1 : Int32)), .val (.int (1 : Int32)), .val (.int (0 : Int32))] []))
  refine Go.by (fun t => XS.aloadN X172.here hx rfl (hb hby d17_34) rfl rfl) ?_
  show Go p e below _ (T172.setTop (mkF m 35 #[.val (.ref a1), .val (.int (1 : Int32)), .val (.int (1 : Int32)), .val (.int (1 : Int32)), .val (.int (0 : Int32))] [(.ref a1)]))
  obtain ⟨T173, X173, e173, st173⟩ := getF X172 hx hZ hown (host := "") (Or.inl (hw _ (List.mem_of_getElem? (i := 32) rfl))) Via.refl e172 F_value_a1 (g := (mkF m 35 #[.val (.ref a1), .val (.int (1 : Int32)), .val (.int (1 : Int32)), .val (.int (1 : Int32)), .val (.int (0 : Int32))] [(.ref a1)])) rfl rfl (hb hby d17_35)
  refine Go.by (fun t => st173 t) ?_
  show Go p e below _ (T173.setTop (mkF m 38 #[.val (.ref a1), .val (.int (1 : Int32)), .val (.int (1 : Int32)), .val (.int (1 : Int32)), .val (.int (0 : Int32))] [(.ref t_a1)]))
  show Go p e below _ (T173.setTop (mkF m 38 #[.val (.ref a1), .val (.int (1 : Int32)), .val (.int (1 : Int32)), .val (.int (1 : Int32)), .val (.int (0 : Int32))] [(.ref t_a1)]))
  refine Go.by (fun t => XS.iloadN X173.here hx rfl (hb hby d17_38) rfl ) ?_
  show Go p e below _ (T173.setTop (mkF m 39 #[.val (.ref a1), .val (.int (1 : Int32)), .val (.int (1 : Int32)), .val (.int (1 : Int32)), .val (.int (0 : Int32))] [(.int (1 : Int32)), (.ref t_a1)]))
  refine Go.by (fun t => XS.iload X173.here hx rfl (hb hby d17_39) rfl ) ?_
  show Go p e below _ (T173.setTop (mkF m 41 #[.val (.ref a1), .val (.int (1 : Int32)), .val (.int (1 : Int32)), .val (.int (1 : Int32)), .val (.int (0 : Int32))] [(.int (0 : Int32)), (.int (1 : Int32)), (.ref t_a1)]))
  obtain ⟨_, _, ⟨T174, L174, k174, n174⟩, -, X174, hSn, hgn, ⟨Lc174, hQ174, l174, y174, z174, CRn⟩, st174⟩ := callSS X173 hx (y := (⟨"java/lang/StringLatin1", "newString", "([BII)Ljava/lang/String;"⟩ : MethodName)) hown (mvT (s := s.setVm s.vm) hZ (hw _ (List.mem_of_getElem? (i := 99) rfl))) (mvT (s := s.setVm s.vm) hZ (hw _ (List.mem_of_getElem? (i := 100) rfl))) (mvT (s := s.setVm s.vm) hZ (hw _ (List.mem_of_getElem? (i := 73) rfl))) (mvT (s := s.setVm s.vm) hZ (hw _ (List.mem_of_getElem? (i := 101) rfl))) (by decide) (backOfSH (W := 0) (rmNS1 l Z a0 hw [] t_a1 kb_a1 c0 h0 n0 Z0 V_t_a1 hb0) hZ (hw _ (List.mem_of_getElem? (i := 101) rfl)) (hw _ (List.mem_of_getElem? (i := 73) rfl)) (by decide) (by decide) hEL CR.1) (g := (mkF m 41 #[.val (.ref a1), .val (.int (1 : Int32)), .val (.int (1 : Int32)), .val (.int (1 : Int32)), .val (.int (0 : Int32))] [(.int (0 : Int32)), (.int (1 : Int32)), (.ref t_a1)])) rfl (by rw [hml]; rfl) (argsL := [(.ref t_a1), (.int (1 : Int32)), (.int (0 : Int32))]) (rest := []) (lenOf pd_18 rfl) rfl (by show 2 * 0 + _ ≤ _; exact Nat.le_of_eq rfl) (hb hby d17_41) (fun _ _ => ⟨rfl, e173, (by decide : 0 + 2 ≤ _), (by decide : 0 + 4 ≤ _)⟩)
  dsimp only [Pt.U, Pt.locs, Pt.cells, Pt.slots] at X174 l174 y174 z174 st174 hQ174 hSn hgn CRn
  subst l174 y174 z174
  rw [e173] at hgn
  obtain ⟨X174', hS174, hZ174, hown174⟩ := rebS hS hk X174 hSn hgn hZ hown
  obtain ⟨r, rfl, Nq174, K174, S_r⟩ := hQ174
  have N174 := Fr.app N172 Nq174
  refine Go.by (fun t => st174.trans) ?_
  replace CR := CR.trans CRn
  replace Z0 := Nat.le_trans Z0 K174.1
  clear CRn hS hk hSn
  have hS := hS174
  have hk : T174.heap.size ≤ T174.heap.size := Nat.le_refl _
  replace hZ := hZ174
  replace hown := hown174
  show Go p e below _ (T174.setTop (mkF m 44 #[.val (.ref a1), .val (.int (1 : Int32)), .val (.int (1 : Int32)), .val (.int (1 : Int32)), .val (.int (0 : Int32))] [(.ref r)]))
  show Go p e below _ (T174.setTop (mkF m 44 #[.val (.ref a1), .val (.int (1 : Int32)), .val (.int (1 : Int32)), .val (.int (1 : Int32)), .val (.int (0 : Int32))] [(.ref r)]))
  refine Go.by (fun t => XS.goto X174'.here hx rfl (pc0 := 44) (pc' := 57) rfl (hb hby d17_44) (by decide) (by decide)) ?_
  show Go p e below _ (T174.setTop (mkF m 57 #[.val (.ref a1), .val (.int (1 : Int32)), .val (.int (1 : Int32)), .val (.int (1 : Int32)), .val (.int (0 : Int32))] [(.ref r)]))
  exact Go.ret1W X174' hS hk CR hZ hEL hx Bd.returns Bd.notSynchronized rfl (Or.inr (Or.inr (Or.inr (Or.inr ⟨rfl, rfl, rfl⟩)))) (hb hby d17_57) (by decide) (by decide) ⟨r, rfl, N174, K174, S_r⟩
def Q_rmSB1_1 (Z : State) (a1 : Addr) (c0 : Int32) (G1 : Int32) (G3 : Value) (h0 : Heap) (n0 : Nat) : Option Value → Heap → List Loc → Prop := fun v h L => ∃ r : Addr, v = some (.ref r) ∧ Fr n0 L ∧ Keep h0 h [] ∧ StrAt Z h r []
set_option maxRecDepth 65536 in
set_option maxHeartbeats 40000000 in
theorem rmSB1_1 (l : Launch) (Z : State) (a0 : Array Value) (hw : ∀ d ∈ tables_1, d.before a0 Z = true) (ws : List Jvm.Cond) (a1 : Addr) (c0 : Int32) (G1 : Int32) (G3 : Value) (h0 : Heap) (n0 : Nat) (Z0 : n0 ≤ h0.size) (Od : Old Z n0 h0) (O2 : Sta Z Z.heap "java/lang/String" "COMPACT_STRINGS" "Z" (.int G1)) (P5 : ¬ (G1 = (0 : Int32))) (O4 : Sta Z Z.heap "jdk/internal/util/Preconditions" "SIOOBE_FORMATTER" "Ljava/util/function/BiFunction;" G3) (rG3 : G3.isRef = true) (S_a1 : StrAt Z h0 a1 [c0]) (hb0 : ¬ c0 < 0 ∧ ¬ (255 : Int32) < c0) :
    MetFree l (⟨"java/lang/String", "substring", "(I)Ljava/lang/String;"⟩ : MethodName) (head1 (Jvm.Cond.code (⟨"java/lang/String", "substring", "(I)Ljava/lang/String;"⟩ : MethodName) jdk_42_method_91_code 2 (some (.object "java/lang/String")) :: ws) ({ frames := 5, cells := 2, slots := 4, locals := 110 } : Room)) (fun a U => a = #[(.ref a1), (.int (1 : Int32))] ∧ Z.Warmed39 U.vm ∧ U.heap = h0 ∧ CHv Z EL U.vm h0) (fun _ _ _ _ _ => True) (fun _ U o U' => ∃ v L, o = .returned v ∧ Q_rmSB1_1 Z a1 c0 G1 G3 h0 n0 v U'.heap L ∧ CHr Z EL U.vm U.heap U'.vm U'.heap ∧ ReturnedEndW U o U' L ({ frames := 5, cells := 2, slots := 4, locals := 110 } : Room).cells ({ frames := 5, cells := 2, slots := 4, locals := 110 } : Room).slots) := by
  refine MetFree.of_bodySF (plainFor_of_name pn_1) hisR ?_
  intro p e s m args below meth c s₁ Bd hml0 hP hK
  obtain ⟨rfl, hZ, hh, CH0⟩ := hP
  have hx := Bd.exec
  have hby := Bd.bytes
  have hml : c.maxLocals = 2 := hml0
  have hown : s.vm.findClass "java/lang/String" = some m.cls := findClass_of_methodNamed Bd.named
  have hnm := (name_of_methodNamed Bd.named Bd.method).1
  have X0 : Stand p l e ({ frames := 5, cells := 2, slots := 4, locals := 110 } : Room) (s.setVm s.vm) m #[(.ref a1), (.int (1 : Int32))] below meth c s₁ [] 0 0 := Stand.of_body Bd
  have e0 : s₁.heap = h0 := by rw [← hh, Bd.state]; rfl
  have N0 := Fr.nil n0
  have hS : s.Since s.vm 0 := (State.WarmedH.refl s).since 0
  have hk : 0 ≤ h0.size := Nat.zero_le _
  have CR : CHr Z EL s.vm s.heap s.vm h0 := by rw [hh]; exact CHr.refl CH0
  have hEL := ew_of hw
  have hwS := ws_of hw
  have hln : ∀ d ∈ StrChars.Road.wordsLen, d.before a0 Z = true := fun d hd => hw d ((by decide +kernel : ∀ d ∈ StrChars.Road.wordsLen, d ∈ tables_1) d hd)
  have ef : entryFrame m #[(.ref a1), (.int (1 : Int32))] 2 = (mkF m 0 #[.val (.ref a1), .val (.int (1 : Int32))] []) := by first | rfl | (simp [entryFrame, mkF, argsToLocals, Value.category, maxLocals]; done)
  show Go p e below (EndW EL Z (fun v h L => ∃ r : Addr, v = some (.ref r) ∧ Fr n0 L ∧ Keep h0 h [] ∧ StrAt Z h r []) s 2 4) (s₁.setTop (entryFrame m #[(.ref a1), (.int (1 : Int32))] 2))
  rw [ef]
  show Go p e below _ (s₁.setTop (mkF m 0 #[.val (.ref a1), .val (.int (1 : Int32))] []))
  show Go p e below _ (s₁.setTop (mkF m 0 #[.val (.ref a1), .val (.int (1 : Int32))] []))
  refine Go.by (fun t => XS.aloadN X0.here hx rfl (hb hby d16_0) rfl rfl) ?_
  show Go p e below _ (s₁.setTop (mkF m 1 #[.val (.ref a1), .val (.int (1 : Int32))] [(.ref a1)]))
  refine Go.by (fun t => XS.iloadN X0.here hx rfl (hb hby d16_1) rfl ) ?_
  show Go p e below _ (s₁.setTop (mkF m 2 #[.val (.ref a1), .val (.int (1 : Int32))] [(.int (1 : Int32)), (.ref a1)]))
  refine Go.by (fun t => XS.aloadN X0.here hx rfl (hb hby d16_2) rfl rfl) ?_
  show Go p e below _ (s₁.setTop (mkF m 3 #[.val (.ref a1), .val (.int (1 : Int32))] [(.ref a1), (.int (1 : Int32)), (.ref a1)]))
  obtain ⟨cq175, kq175, q175a, q175b, q175c⟩ := isOf hZ e0 S_a1.exa
  obtain ⟨_, _, ⟨T175, L175, k175, n175⟩, -, X175, ⟨Lc175, hQ175, l175, y175, z175⟩, st175⟩ := X0.virtualBack hx (y := (⟨"java/lang/String", "length", "()I"⟩ : MethodName)) (z := (⟨"java/lang/String", "length", "()I"⟩ : MethodName)) hown (mvT hZ (hw _ (List.mem_of_getElem? (i := 51) rfl))) (mvT hZ (hw _ (List.mem_of_getElem? (i := 52) rfl))) (notFace_of_selects (args := #[]) (mvT hZ (hw _ (List.mem_of_getElem? (i := 54) rfl)))) (mvT hZ (hw _ (List.mem_of_getElem? (i := 54) rfl))) (mvT hZ (hw _ (List.mem_of_getElem? (i := 53) rfl))) (by decide) (lenS (W := 2) hZ hln (hw _ (List.mem_of_getElem? (i := 5) rfl)) S_a1 (O2.ext Od.2) P5 (by decide) (by decide)) q175a q175c (g := (mkF m 3 #[.val (.ref a1), .val (.int (1 : Int32))] [(.ref a1), (.int (1 : Int32)), (.ref a1)])) rfl (by rw [hml]; rfl) (Steps.refl _) (argsL := []) (rest := [(.int (1 : Int32)), (.ref a1)]) (lenOf pd_11 rfl) rfl (by show 2 * 0 + _ ≤ _; exact Nat.le_of_eq rfl) (hb hby d16_3) (fun _ _ => ⟨rfl, e0, (by decide : 0 + 0 ≤ _), (by decide : 0 + 0 ≤ _)⟩)
  dsimp only [Pt.U, Pt.locs, Pt.cells, Pt.slots] at X175 l175 y175 z175 st175 hQ175
  subst l175 y175 z175
  obtain ⟨rfl, rfl, e175⟩ := hQ175
  have Nq175 : Fr n0 ([] : List Loc) := Fr.nil n0
  have N175 := Fr.app N0 Nq175
  refine Go.by (fun t => st175.trans) ?_
  show Go p e below _ (T175.setTop (mkF m 6 #[.val (.ref a1), .val (.int (1 : Int32))] [(.int (1 : Int32)), (.int (1 : Int32)), (.ref a1)]))
  show Go p e below _ (T175.setTop (mkF m 6 #[.val (.ref a1), .val (.int (1 : Int32))] [(.int (1 : Int32)), (.int (1 : Int32)), (.ref a1)]))
  obtain ⟨cq176, kq176, q176a, q176b, q176c⟩ := isOf (s := s.setVm s.vm) hZ e175 S_a1.exa
  obtain ⟨_, _, ⟨T176, L176, k176, n176⟩, -, X176, hSn, hgn, ⟨Lc176, hQ176, l176, y176, z176, CRn⟩, st176⟩ := X175.virtualBackS hx (y := (⟨"java/lang/String", "substring", "(II)Ljava/lang/String;"⟩ : MethodName)) (z := (⟨"java/lang/String", "substring", "(II)Ljava/lang/String;"⟩ : MethodName)) hown (mvT (s := s.setVm s.vm) hZ (hw _ (List.mem_of_getElem? (i := 81) rfl))) (mvT (s := s.setVm s.vm) hZ (hw _ (List.mem_of_getElem? (i := 82) rfl))) (notFace_of_selects (args := #[]) (mvT (s := s.setVm s.vm) hZ (hw _ (List.mem_of_getElem? (i := 84) rfl)))) (mvT (s := s.setVm s.vm) hZ (hw _ (List.mem_of_getElem? (i := 84) rfl))) (mvT (s := s.setVm s.vm) hZ (hw _ (List.mem_of_getElem? (i := 83) rfl))) (by decide) (backOfSH (W := 0) (rmSB2_1 l Z a0 hw [] a1 c0 G1 G3 h0 n0 Z0 Od O2 P5 O4 rG3 S_a1 hb0) hZ (hw _ (List.mem_of_getElem? (i := 85) rfl)) (hw _ (List.mem_of_getElem? (i := 6) rfl)) (by decide) (by decide) hEL CR.1) q176a q176c (g := (mkF m 6 #[.val (.ref a1), .val (.int (1 : Int32))] [(.int (1 : Int32)), (.int (1 : Int32)), (.ref a1)])) rfl (by rw [hml]; rfl) (Steps.refl _) (argsL := [(.int (1 : Int32)), (.int (1 : Int32))]) (rest := []) (lenOf pd_15 rfl) rfl (by show 2 * 0 + _ ≤ _; exact Nat.le_of_eq rfl) (hb hby d16_6) (fun _ _ => ⟨rfl, e175, (by decide : 0 + 2 ≤ _), (by decide : 0 + 4 ≤ _)⟩)
  dsimp only [Pt.U, Pt.locs, Pt.cells, Pt.slots] at X176 l176 y176 z176 st176 hQ176 hSn hgn CRn
  subst l176 y176 z176
  rw [e175] at hgn
  obtain ⟨X176', hS176, hZ176, hown176⟩ := rebS hS hk X176 hSn hgn hZ hown
  obtain ⟨r, rfl, Nq176, K176, S_r⟩ := hQ176
  have N176 := Fr.app N175 Nq176
  refine Go.by (fun t => st176.trans) ?_
  replace CR := CR.trans CRn
  replace Z0 := Nat.le_trans Z0 K176.1
  clear CRn hS hk hSn
  have hS := hS176
  have hk : T176.heap.size ≤ T176.heap.size := Nat.le_refl _
  replace hZ := hZ176
  replace hown := hown176
  show Go p e below _ (T176.setTop (mkF m 9 #[.val (.ref a1), .val (.int (1 : Int32))] [(.ref r)]))
  show Go p e below _ (T176.setTop (mkF m 9 #[.val (.ref a1), .val (.int (1 : Int32))] [(.ref r)]))
  exact Go.ret1W X176' hS hk CR hZ hEL hx Bd.returns Bd.notSynchronized rfl (Or.inr (Or.inr (Or.inr (Or.inr ⟨rfl, rfl, rfl⟩)))) (hb hby d16_9) (by decide) (by decide) ⟨r, rfl, N176, K176, S_r⟩
def Q_rmSB2_2 (Z : State) (a1 : Addr) (c0 c1 : Int32) (G1 : Int32) (G3 : Value) (h0 : Heap) (n0 : Nat) : Option Value → Heap → List Loc → Prop := fun v h L => ∃ r : Addr, v = some (.ref r) ∧ Fr n0 L ∧ Keep h0 h [] ∧ StrAt Z h r [c1]
set_option maxRecDepth 65536 in
set_option maxHeartbeats 40000000 in
theorem rmSB2_2 (l : Launch) (Z : State) (a0 : Array Value) (hw : ∀ d ∈ tables_1, d.before a0 Z = true) (ws : List Jvm.Cond) (a1 : Addr) (c0 c1 : Int32) (G1 : Int32) (G3 : Value) (h0 : Heap) (n0 : Nat) (Z0 : n0 ≤ h0.size) (Od : Old Z n0 h0) (O2 : Sta Z Z.heap "java/lang/String" "COMPACT_STRINGS" "Z" (.int G1)) (P5 : ¬ (G1 = (0 : Int32))) (O4 : Sta Z Z.heap "jdk/internal/util/Preconditions" "SIOOBE_FORMATTER" "Ljava/util/function/BiFunction;" G3) (rG3 : G3.isRef = true) (S_a1 : StrAt Z h0 a1 [c0, c1]) (hb0 : ¬ c0 < 0 ∧ ¬ (255 : Int32) < c0) (hb1 : ¬ c1 < 0 ∧ ¬ (255 : Int32) < c1) :
    MetFree l (⟨"java/lang/String", "substring", "(II)Ljava/lang/String;"⟩ : MethodName) (head1 (Jvm.Cond.code (⟨"java/lang/String", "substring", "(II)Ljava/lang/String;"⟩ : MethodName) jdk_42_method_92_code 5 (some (.object "java/lang/String")) :: ws) ({ frames := 4, cells := 2, slots := 5, locals := 92 } : Room)) (fun a U => a = #[(.ref a1), (.int (1 : Int32)), (.int (2 : Int32))] ∧ Z.Warmed39 U.vm ∧ U.heap = h0 ∧ CHv Z EL U.vm h0) (fun _ _ _ _ _ => True) (fun _ U o U' => ∃ v L, o = .returned v ∧ Q_rmSB2_2 Z a1 c0 c1 G1 G3 h0 n0 v U'.heap L ∧ CHr Z EL U.vm U.heap U'.vm U'.heap ∧ ReturnedEndW U o U' L ({ frames := 4, cells := 2, slots := 5, locals := 92 } : Room).cells ({ frames := 4, cells := 2, slots := 5, locals := 92 } : Room).slots) := by
  refine MetFree.of_bodySF (plainFor_of_name pn_1) hisR ?_
  intro p e s m args below meth c s₁ Bd hml0 hP hK
  obtain ⟨rfl, hZ, hh, CH0⟩ := hP
  have hx := Bd.exec
  have hby := Bd.bytes
  have hml : c.maxLocals = 5 := hml0
  have hown : s.vm.findClass "java/lang/String" = some m.cls := findClass_of_methodNamed Bd.named
  have hnm := (name_of_methodNamed Bd.named Bd.method).1
  have X0 : Stand p l e ({ frames := 4, cells := 2, slots := 5, locals := 92 } : Room) (s.setVm s.vm) m #[(.ref a1), (.int (1 : Int32)), (.int (2 : Int32))] below meth c s₁ [] 0 0 := Stand.of_body Bd
  have e0 : s₁.heap = h0 := by rw [← hh, Bd.state]; rfl
  have N0 := Fr.nil n0
  have hS : s.Since s.vm 0 := (State.WarmedH.refl s).since 0
  have hk : 0 ≤ h0.size := Nat.zero_le _
  have CR : CHr Z EL s.vm s.heap s.vm h0 := by rw [hh]; exact CHr.refl CH0
  have hEL := ew_of hw
  have hwS := ws_of hw
  have hln : ∀ d ∈ StrChars.Road.wordsLen, d.before a0 Z = true := fun d hd => hw d ((by decide +kernel : ∀ d ∈ StrChars.Road.wordsLen, d ∈ tables_1) d hd)
  have ef : entryFrame m #[(.ref a1), (.int (1 : Int32)), (.int (2 : Int32))] 5 = (mkF m 0 #[.val (.ref a1), .val (.int (1 : Int32)), .val (.int (2 : Int32)), .unset, .unset] []) := by first | rfl | (simp [entryFrame, mkF, argsToLocals, Value.category, maxLocals]; done)
  show Go p e below (EndW EL Z (fun v h L => ∃ r : Addr, v = some (.ref r) ∧ Fr n0 L ∧ Keep h0 h [] ∧ StrAt Z h r [c1]) s 2 5) (s₁.setTop (entryFrame m #[(.ref a1), (.int (1 : Int32)), (.int (2 : Int32))] 5))
  rw [ef]
  show Go p e below _ (s₁.setTop (mkF m 0 #[.val (.ref a1), .val (.int (1 : Int32)), .val (.int (2 : Int32)), .unset, .unset] []))
  show Go p e below _ (s₁.setTop (mkF m 0 #[.val (.ref a1), .val (.int (1 : Int32)), .val (.int (2 : Int32)), .unset, .unset] []))
  refine Go.by (fun t => XS.aloadN X0.here hx rfl (hb hby d17_0) rfl rfl) ?_
  show Go p e below _ (s₁.setTop (mkF m 1 #[.val (.ref a1), .val (.int (1 : Int32)), .val (.int (2 : Int32)), .unset, .unset] [(.ref a1)]))
  obtain ⟨cq177, kq177, q177a, q177b, q177c⟩ := isOf hZ e0 S_a1.exa
  obtain ⟨_, _, ⟨T177, L177, k177, n177⟩, -, X177, ⟨Lc177, hQ177, l177, y177, z177⟩, st177⟩ := X0.virtualBack hx (y := (⟨"java/lang/String", "length", "()I"⟩ : MethodName)) (z := (⟨"java/lang/String", "length", "()I"⟩ : MethodName)) hown (mvT hZ (hw _ (List.mem_of_getElem? (i := 51) rfl))) (mvT hZ (hw _ (List.mem_of_getElem? (i := 52) rfl))) (notFace_of_selects (args := #[]) (mvT hZ (hw _ (List.mem_of_getElem? (i := 54) rfl)))) (mvT hZ (hw _ (List.mem_of_getElem? (i := 54) rfl))) (mvT hZ (hw _ (List.mem_of_getElem? (i := 53) rfl))) (by decide) (lenS (W := 0) hZ hln (hw _ (List.mem_of_getElem? (i := 5) rfl)) S_a1 (O2.ext Od.2) P5 (by decide) (by decide)) q177a q177c (g := (mkF m 1 #[.val (.ref a1), .val (.int (1 : Int32)), .val (.int (2 : Int32)), .unset, .unset] [(.ref a1)])) rfl (by rw [hml]; rfl) (Steps.refl _) (argsL := []) (rest := []) (lenOf pd_11 rfl) rfl (by show 2 * 0 + _ ≤ _; exact Nat.le_of_eq rfl) (hb hby d17_1) (fun _ _ => ⟨rfl, e0, (by decide : 0 + 0 ≤ _), (by decide : 0 + 0 ≤ _)⟩)
  dsimp only [Pt.U, Pt.locs, Pt.cells, Pt.slots] at X177 l177 y177 z177 st177 hQ177
  subst l177 y177 z177
  obtain ⟨rfl, rfl, e177⟩ := hQ177
  have Nq177 : Fr n0 ([] : List Loc) := Fr.nil n0
  have N177 := Fr.app N0 Nq177
  refine Go.by (fun t => st177.trans) ?_
  show Go p e below _ (T177.setTop (mkF m 4 #[.val (.ref a1), .val (.int (1 : Int32)), .val (.int (2 : Int32)), .unset, .unset] [(.int (2 : Int32))]))
  show Go p e below _ (T177.setTop (mkF m 4 #[.val (.ref a1), .val (.int (1 : Int32)), .val (.int (2 : Int32)), .unset, .unset] [(.int (2 : Int32))]))
  refine Go.by (fun t => XS.istoreN X177.here hx rfl (hb hby d17_4) rfl (l' := #[.val (.ref a1), .val (.int (1 : Int32)), .val (.int (2 : Int32)), .val (.int (2 : Int32)), .unset]) rfl) ?_
  show Go p e below _ (T177.setTop (mkF m 5 #[.val (.ref a1), .val (.int (1 : Int32)), .val (.int (2 : Int32)), .val (.int (2 : Int32)), .unset] []))
  refine Go.by (fun t => XS.iloadN X177.here hx rfl (hb hby d17_5) rfl ) ?_
  show Go p e below _ (T177.setTop (mkF m 6 #[.val (.ref a1), .val (.int (1 : Int32)), .val (.int (2 : Int32)), .val (.int (2 : Int32)), .unset] [(.int (1 : Int32))]))
  refine Go.by (fun t => XS.iloadN X177.here hx rfl (hb hby d17_6) rfl ) ?_
  show Go p e below _ (T177.setTop (mkF m 7 #[.val (.ref a1), .val (.int (1 : Int32)), .val (.int (2 : Int32)), .val (.int (2 : Int32)), .unset] [(.int (2 : Int32)), (.int (1 : Int32))]))
  refine Go.by (fun t => XS.iloadN X177.here hx rfl (hb hby d17_7) rfl ) ?_
  show Go p e below _ (T177.setTop (mkF m 8 #[.val (.ref a1), .val (.int (1 : Int32)), .val (.int (2 : Int32)), .val (.int (2 : Int32)), .unset] [(.int (2 : Int32)), (.int (2 : Int32)), (.int (1 : Int32))]))
  obtain ⟨_, _, ⟨T178, L178, k178, n178⟩, -, X178, ⟨Lc178, hQ178, l178, y178, z178⟩, st178⟩ := Jvm.LawKit.callS X177 hx (y := (⟨"java/lang/String", "checkBoundsBeginEnd", "(III)V"⟩ : MethodName)) hown (mvT hZ (hw _ (List.mem_of_getElem? (i := 86) rfl))) (mvT hZ (hw _ (List.mem_of_getElem? (i := 87) rfl))) (mvT hZ (hw _ (List.mem_of_getElem? (i := 6) rfl))) (mvT hZ (hw _ (List.mem_of_getElem? (i := 88) rfl))) (by decide) (backOf (W := 0) (rm18 l Z a0 hw [] 1 2 2 G3 h0 n0 Od O4 rG3 (by decide) (by decide) (by decide)) hZ (hw _ (List.mem_of_getElem? (i := 88) rfl)) (hw _ (List.mem_of_getElem? (i := 6) rfl)) (by decide) (by decide)) (g := (mkF m 8 #[.val (.ref a1), .val (.int (1 : Int32)), .val (.int (2 : Int32)), .val (.int (2 : Int32)), .unset] [(.int (2 : Int32)), (.int (2 : Int32)), (.int (1 : Int32))])) rfl (by rw [hml]; rfl) (argsL := [(.int (1 : Int32)), (.int (2 : Int32)), (.int (2 : Int32))]) (rest := []) (lenOf pd_16 rfl) rfl (by show 2 * 0 + _ ≤ _; exact Nat.le_of_eq rfl) (hb hby d17_8) (fun _ _ => ⟨rfl, e177, (by decide : 0 + 0 ≤ _), (by decide : 0 + 0 ≤ _)⟩)
  dsimp only [Pt.U, Pt.locs, Pt.cells, Pt.slots] at X178 l178 y178 z178 st178 hQ178
  subst l178 y178 z178
  obtain ⟨rfl, Nq178, e178⟩ := hQ178
  have N178 := Fr.app N177 Nq178
  refine Go.by (fun t => st178 t) ?_
  show Go p e below _ (T178.setTop (mkF m 11 #[.val (.ref a1), .val (.int (1 : Int32)), .val (.int (2 : Int32)), .val (.int (2 : Int32)), .unset] []))
  show Go p e below _ (T178.setTop (mkF m 11 #[.val (.ref a1), .val (.int (1 : Int32)), .val (.int (2 : Int32)), .val (.int (2 : Int32)), .unset] []))
  refine Go.by (fun t => XS.iloadN X178.here hx rfl (hb hby d17_11) rfl ) ?_
  show Go p e below _ (T178.setTop (mkF m 12 #[.val (.ref a1), .val (.int (1 : Int32)), .val (.int (2 : Int32)), .val (.int (2 : Int32)), .unset] [(.int (1 : Int32))]))
  refine Go.by (fun t => XS.ifYes X178.here hx rfl (pc0 := 12) (pc' := 22) rfl (hb hby d17_12) rfl ((if0 _ _).trans (feq (by decide : ¬ ((1 : Int32) = (0 : Int32)))).2) (by decide) (by decide)) ?_
  show Go p e below _ (T178.setTop (mkF m 22 #[.val (.ref a1), .val (.int (1 : Int32)), .val (.int (2 : Int32)), .val (.int (2 : Int32)), .unset] []))
  show Go p e below _ (T178.setTop (mkF m 22 #[.val (.ref a1), .val (.int (1 : Int32)), .val (.int (2 : Int32)), .val (.int (2 : Int32)), .unset] []))
  refine Go.by (fun t => XS.iloadN X178.here hx rfl (hb hby d17_22) rfl ) ?_
  show Go p e below _ (T178.setTop (mkF m 23 #[.val (.ref a1), .val (.int (1 : Int32)), .val (.int (2 : Int32)), .val (.int (2 : Int32)), .unset] [(.int (2 : Int32))]))
  refine Go.by (fun t => XS.iloadN X178.here hx rfl (hb hby d17_23) rfl ) ?_
  show Go p e below _ (T178.setTop (mkF m 24 #[.val (.ref a1), .val (.int (1 : Int32)), .val (.int (2 : Int32)), .val (.int (2 : Int32)), .unset] [(.int (1 : Int32)), (.int (2 : Int32))]))
  refine Go.by (fun t => XS.isub X178.here hx rfl (hb hby d17_24) rfl) ?_
  show Go p e below _ (T178.setTop (mkF m 25 #[.val (.ref a1), .val (.int (1 : Int32)), .val (.int (2 : Int32)), .val (.int (2 : Int32)), .unset] [(.int ((2 : Int32) - (1 : Int32)))]))
  rw [show (2 : Int32) - (1 : Int32) = 1 from rfl]
  show Go p e below _ (T178.setTop (mkF m 25 #[.val (.ref a1), .val (.int (1 : Int32)), .val (.int (2 : Int32)), .val (.int (2 : Int32)), .unset] [(.int (1 : Int32))]))
  show Go p e below _ (T178.setTop (mkF m 25 #[.val (.ref a1), .val (.int (1 : Int32)), .val (.int (2 : Int32)), .val (.int (2 : Int32)), .unset] [(.int (1 : Int32))]))
  refine Go.by (fun t => XS.istore X178.here hx rfl (hb hby d17_25) rfl (l' := #[.val (.ref a1), .val (.int (1 : Int32)), .val (.int (2 : Int32)), .val (.int (2 : Int32)), .val (.int (1 : Int32))]) rfl) ?_
  show Go p e below _ (T178.setTop (mkF m 27 #[.val (.ref a1), .val (.int (1 : Int32)), .val (.int (2 : Int32)), .val (.int (2 : Int32)), .val (.int (1 : Int32))] []))
  refine Go.by (fun t => XS.aloadN X178.here hx rfl (hb hby d17_27) rfl rfl) ?_
  show Go p e below _ (T178.setTop (mkF m 28 #[.val (.ref a1), .val (.int (1 : Int32)), .val (.int (2 : Int32)), .val (.int (2 : Int32)), .val (.int (1 : Int32))] [(.ref a1)]))
  obtain ⟨t_a1, kb_a1, E_a1, F_value_a1, F_coder_a1, V_t_a1, hl_a1⟩ := S_a1.open
  obtain ⟨cq179, kq179, q179a, q179b, q179c⟩ := isOf hZ e178 E_a1
  obtain ⟨_, _, ⟨T179, L179, k179, n179⟩, -, X179, ⟨Lc179, hQ179, l179, y179, z179⟩, st179⟩ := X178.virtualBack hx (y := (⟨"java/lang/String", "isLatin1", "()Z"⟩ : MethodName)) (z := (⟨"java/lang/String", "isLatin1", "()Z"⟩ : MethodName)) hown (mvT hZ (hw _ (List.mem_of_getElem? (i := 94) rfl))) (mvT hZ (hw _ (List.mem_of_getElem? (i := 95) rfl))) (notFace_of_selects (args := #[]) (mvT hZ (hw _ (List.mem_of_getElem? (i := 97) rfl)))) (mvT hZ (hw _ (List.mem_of_getElem? (i := 97) rfl))) (mvT hZ (hw _ (List.mem_of_getElem? (i := 96) rfl))) (by decide) (backOf (W := 0) (rm20 l Z a0 hw [] a1 G1 h0 n0 Od O2 P5 F_coder_a1) hZ (hw _ (List.mem_of_getElem? (i := 98) rfl)) (hw _ (List.mem_of_getElem? (i := 6) rfl)) (by decide) (by decide)) q179a q179c (g := (mkF m 28 #[.val (.ref a1), .val (.int (1 : Int32)), .val (.int (2 : Int32)), .val (.int (2 : Int32)), .val (.int (1 : Int32))] [(.ref a1)])) rfl (by rw [hml]; rfl) (Steps.refl _) (argsL := []) (rest := []) (lenOf pd_17 rfl) rfl (by show 2 * 0 + _ ≤ _; exact Nat.le_of_eq rfl) (hb hby d17_28) (fun _ _ => ⟨rfl, e178, (by decide : 0 + 0 ≤ _), (by decide : 0 + 0 ≤ _)⟩)
  dsimp only [Pt.U, Pt.locs, Pt.cells, Pt.slots] at X179 l179 y179 z179 st179 hQ179
  subst l179 y179 z179
  obtain ⟨rfl, Nq179, e179⟩ := hQ179
  have N179 := Fr.app N178 Nq179
  refine Go.by (fun t => st179.trans) ?_
  show Go p e below _ (T179.setTop (mkF m 31 #[.val (.ref a1), .val (.int (1 : Int32)), .val (.int (2 : Int32)), .val (.int (2 : Int32)), .val (.int (1 : Int32))] [(.int (1 : Int32))]))
  refine Go.by (fun t => XS.ifNo X179.here hx rfl (hb hby d17_31) rfl ((if0 _ _).trans (feq (by decide : ¬ ((1 : Int32) = (0 : Int32)))).1)) ?_
  show Go p e below _ (T179.setTop (mkF m 34 #[.val (.ref a1), .val (.int (1 : Int32)), .val (.int (2 : Int32)), .val (.int (2 : Int32)), .val (.int (1 : Int32))] []))
  show Go p e below _ (T179.setTop (mkF m 34 #[.val (.ref a1), .val (.int (1 : Int32)), .val (.int (2 : Int32)), .val (.int (2 : Int32)), .val (.int (1 : Int32))] []))
  refine Go.by (fun t => XS.aloadN X179.here hx rfl (hb hby d17_34) rfl rfl) ?_
  show Go p e below _ (T179.setTop (mkF m 35 #[.val (.ref a1), .val (.int (1 : Int32)), .val (.int (2 : Int32)), .val (.int (2 : Int32)), .val (.int (1 : Int32))] [(.ref a1)]))
  obtain ⟨T180, X180, e180, st180⟩ := getF X179 hx hZ hown (host := "") (Or.inl (hw _ (List.mem_of_getElem? (i := 32) rfl))) Via.refl e179 F_value_a1 (g := (mkF m 35 #[.val (.ref a1), .val (.int (1 : Int32)), .val (.int (2 : Int32)), .val (.int (2 : Int32)), .val (.int (1 : Int32))] [(.ref a1)])) rfl rfl (hb hby d17_35)
  refine Go.by (fun t => st180 t) ?_
  show Go p e below _ (T180.setTop (mkF m 38 #[.val (.ref a1), .val (.int (1 : Int32)), .val (.int (2 : Int32)), .val (.int (2 : Int32)), .val (.int (1 : Int32))] [(.ref t_a1)]))
  show Go p e below _ (T180.setTop (mkF m 38 #[.val (.ref a1), .val (.int (1 : Int32)), .val (.int (2 : Int32)), .val (.int (2 : Int32)), .val (.int (1 : Int32))] [(.ref t_a1)]))
  refine Go.by (fun t => XS.iloadN X180.here hx rfl (hb hby d17_38) rfl ) ?_
  show Go p e below _ (T180.setTop (mkF m 39 #[.val (.ref a1), .val (.int (1 : Int32)), .val (.int (2 : Int32)), .val (.int (2 : Int32)), .val (.int (1 : Int32))] [(.int (1 : Int32)), (.ref t_a1)]))
  refine Go.by (fun t => XS.iload X180.here hx rfl (hb hby d17_39) rfl ) ?_
  show Go p e below _ (T180.setTop (mkF m 41 #[.val (.ref a1), .val (.int (1 : Int32)), .val (.int (2 : Int32)), .val (.int (2 : Int32)), .val (.int (1 : Int32))] [(.int (1 : Int32)), (.int (1 : Int32)), (.ref t_a1)]))
  obtain ⟨_, _, ⟨T181, L181, k181, n181⟩, -, X181, hSn, hgn, ⟨Lc181, hQ181, l181, y181, z181, CRn⟩, st181⟩ := callSS X180 hx (y := (⟨"java/lang/StringLatin1", "newString", "([BII)Ljava/lang/String;"⟩ : MethodName)) hown (mvT (s := s.setVm s.vm) hZ (hw _ (List.mem_of_getElem? (i := 99) rfl))) (mvT (s := s.setVm s.vm) hZ (hw _ (List.mem_of_getElem? (i := 100) rfl))) (mvT (s := s.setVm s.vm) hZ (hw _ (List.mem_of_getElem? (i := 73) rfl))) (mvT (s := s.setVm s.vm) hZ (hw _ (List.mem_of_getElem? (i := 101) rfl))) (by decide) (backOfSH (W := 0) (rmNS2 l Z a0 hw [] t_a1 kb_a1 c0 c1 h0 n0 Z0 V_t_a1 hb0 hb1) hZ (hw _ (List.mem_of_getElem? (i := 101) rfl)) (hw _ (List.mem_of_getElem? (i := 73) rfl)) (by decide) (by decide) hEL CR.1) (g := (mkF m 41 #[.val (.ref a1), .val (.int (1 : Int32)), .val (.int (2 : Int32)), .val (.int (2 : Int32)), .val (.int (1 : Int32))] [(.int (1 : Int32)), (.int (1 : Int32)), (.ref t_a1)])) rfl (by rw [hml]; rfl) (argsL := [(.ref t_a1), (.int (1 : Int32)), (.int (1 : Int32))]) (rest := []) (lenOf pd_18 rfl) rfl (by show 2 * 0 + _ ≤ _; exact Nat.le_of_eq rfl) (hb hby d17_41) (fun _ _ => ⟨rfl, e180, (by decide : 0 + 2 ≤ _), (by decide : 0 + 5 ≤ _)⟩)
  dsimp only [Pt.U, Pt.locs, Pt.cells, Pt.slots] at X181 l181 y181 z181 st181 hQ181 hSn hgn CRn
  subst l181 y181 z181
  rw [e180] at hgn
  obtain ⟨X181', hS181, hZ181, hown181⟩ := rebS hS hk X181 hSn hgn hZ hown
  obtain ⟨r, rfl, Nq181, K181, S_r⟩ := hQ181
  have N181 := Fr.app N179 Nq181
  refine Go.by (fun t => st181.trans) ?_
  replace CR := CR.trans CRn
  replace Z0 := Nat.le_trans Z0 K181.1
  clear CRn hS hk hSn
  have hS := hS181
  have hk : T181.heap.size ≤ T181.heap.size := Nat.le_refl _
  replace hZ := hZ181
  replace hown := hown181
  show Go p e below _ (T181.setTop (mkF m 44 #[.val (.ref a1), .val (.int (1 : Int32)), .val (.int (2 : Int32)), .val (.int (2 : Int32)), .val (.int (1 : Int32))] [(.ref r)]))
  show Go p e below _ (T181.setTop (mkF m 44 #[.val (.ref a1), .val (.int (1 : Int32)), .val (.int (2 : Int32)), .val (.int (2 : Int32)), .val (.int (1 : Int32))] [(.ref r)]))
  refine Go.by (fun t => XS.goto X181'.here hx rfl (pc0 := 44) (pc' := 57) rfl (hb hby d17_44) (by decide) (by decide)) ?_
  show Go p e below _ (T181.setTop (mkF m 57 #[.val (.ref a1), .val (.int (1 : Int32)), .val (.int (2 : Int32)), .val (.int (2 : Int32)), .val (.int (1 : Int32))] [(.ref r)]))
  exact Go.ret1W X181' hS hk CR hZ hEL hx Bd.returns Bd.notSynchronized rfl (Or.inr (Or.inr (Or.inr (Or.inr ⟨rfl, rfl, rfl⟩)))) (hb hby d17_57) (by decide) (by decide) ⟨r, rfl, N181, K181, S_r⟩
def Q_rmSB1_2 (Z : State) (a1 : Addr) (c0 c1 : Int32) (G1 : Int32) (G3 : Value) (h0 : Heap) (n0 : Nat) : Option Value → Heap → List Loc → Prop := fun v h L => ∃ r : Addr, v = some (.ref r) ∧ Fr n0 L ∧ Keep h0 h [] ∧ StrAt Z h r [c1]
set_option maxRecDepth 65536 in
set_option maxHeartbeats 40000000 in
theorem rmSB1_2 (l : Launch) (Z : State) (a0 : Array Value) (hw : ∀ d ∈ tables_1, d.before a0 Z = true) (ws : List Jvm.Cond) (a1 : Addr) (c0 c1 : Int32) (G1 : Int32) (G3 : Value) (h0 : Heap) (n0 : Nat) (Z0 : n0 ≤ h0.size) (Od : Old Z n0 h0) (O2 : Sta Z Z.heap "java/lang/String" "COMPACT_STRINGS" "Z" (.int G1)) (P5 : ¬ (G1 = (0 : Int32))) (O4 : Sta Z Z.heap "jdk/internal/util/Preconditions" "SIOOBE_FORMATTER" "Ljava/util/function/BiFunction;" G3) (rG3 : G3.isRef = true) (S_a1 : StrAt Z h0 a1 [c0, c1]) (hb0 : ¬ c0 < 0 ∧ ¬ (255 : Int32) < c0) (hb1 : ¬ c1 < 0 ∧ ¬ (255 : Int32) < c1) :
    MetFree l (⟨"java/lang/String", "substring", "(I)Ljava/lang/String;"⟩ : MethodName) (head1 (Jvm.Cond.code (⟨"java/lang/String", "substring", "(I)Ljava/lang/String;"⟩ : MethodName) jdk_42_method_91_code 2 (some (.object "java/lang/String")) :: ws) ({ frames := 5, cells := 2, slots := 5, locals := 110 } : Room)) (fun a U => a = #[(.ref a1), (.int (1 : Int32))] ∧ Z.Warmed39 U.vm ∧ U.heap = h0 ∧ CHv Z EL U.vm h0) (fun _ _ _ _ _ => True) (fun _ U o U' => ∃ v L, o = .returned v ∧ Q_rmSB1_2 Z a1 c0 c1 G1 G3 h0 n0 v U'.heap L ∧ CHr Z EL U.vm U.heap U'.vm U'.heap ∧ ReturnedEndW U o U' L ({ frames := 5, cells := 2, slots := 5, locals := 110 } : Room).cells ({ frames := 5, cells := 2, slots := 5, locals := 110 } : Room).slots) := by
  refine MetFree.of_bodySF (plainFor_of_name pn_1) hisR ?_
  intro p e s m args below meth c s₁ Bd hml0 hP hK
  obtain ⟨rfl, hZ, hh, CH0⟩ := hP
  have hx := Bd.exec
  have hby := Bd.bytes
  have hml : c.maxLocals = 2 := hml0
  have hown : s.vm.findClass "java/lang/String" = some m.cls := findClass_of_methodNamed Bd.named
  have hnm := (name_of_methodNamed Bd.named Bd.method).1
  have X0 : Stand p l e ({ frames := 5, cells := 2, slots := 5, locals := 110 } : Room) (s.setVm s.vm) m #[(.ref a1), (.int (1 : Int32))] below meth c s₁ [] 0 0 := Stand.of_body Bd
  have e0 : s₁.heap = h0 := by rw [← hh, Bd.state]; rfl
  have N0 := Fr.nil n0
  have hS : s.Since s.vm 0 := (State.WarmedH.refl s).since 0
  have hk : 0 ≤ h0.size := Nat.zero_le _
  have CR : CHr Z EL s.vm s.heap s.vm h0 := by rw [hh]; exact CHr.refl CH0
  have hEL := ew_of hw
  have hwS := ws_of hw
  have hln : ∀ d ∈ StrChars.Road.wordsLen, d.before a0 Z = true := fun d hd => hw d ((by decide +kernel : ∀ d ∈ StrChars.Road.wordsLen, d ∈ tables_1) d hd)
  have ef : entryFrame m #[(.ref a1), (.int (1 : Int32))] 2 = (mkF m 0 #[.val (.ref a1), .val (.int (1 : Int32))] []) := by first | rfl | (simp [entryFrame, mkF, argsToLocals, Value.category, maxLocals]; done)
  show Go p e below (EndW EL Z (fun v h L => ∃ r : Addr, v = some (.ref r) ∧ Fr n0 L ∧ Keep h0 h [] ∧ StrAt Z h r [c1]) s 2 5) (s₁.setTop (entryFrame m #[(.ref a1), (.int (1 : Int32))] 2))
  rw [ef]
  show Go p e below _ (s₁.setTop (mkF m 0 #[.val (.ref a1), .val (.int (1 : Int32))] []))
  show Go p e below _ (s₁.setTop (mkF m 0 #[.val (.ref a1), .val (.int (1 : Int32))] []))
  refine Go.by (fun t => XS.aloadN X0.here hx rfl (hb hby d16_0) rfl rfl) ?_
  show Go p e below _ (s₁.setTop (mkF m 1 #[.val (.ref a1), .val (.int (1 : Int32))] [(.ref a1)]))
  refine Go.by (fun t => XS.iloadN X0.here hx rfl (hb hby d16_1) rfl ) ?_
  show Go p e below _ (s₁.setTop (mkF m 2 #[.val (.ref a1), .val (.int (1 : Int32))] [(.int (1 : Int32)), (.ref a1)]))
  refine Go.by (fun t => XS.aloadN X0.here hx rfl (hb hby d16_2) rfl rfl) ?_
  show Go p e below _ (s₁.setTop (mkF m 3 #[.val (.ref a1), .val (.int (1 : Int32))] [(.ref a1), (.int (1 : Int32)), (.ref a1)]))
  obtain ⟨cq182, kq182, q182a, q182b, q182c⟩ := isOf hZ e0 S_a1.exa
  obtain ⟨_, _, ⟨T182, L182, k182, n182⟩, -, X182, ⟨Lc182, hQ182, l182, y182, z182⟩, st182⟩ := X0.virtualBack hx (y := (⟨"java/lang/String", "length", "()I"⟩ : MethodName)) (z := (⟨"java/lang/String", "length", "()I"⟩ : MethodName)) hown (mvT hZ (hw _ (List.mem_of_getElem? (i := 51) rfl))) (mvT hZ (hw _ (List.mem_of_getElem? (i := 52) rfl))) (notFace_of_selects (args := #[]) (mvT hZ (hw _ (List.mem_of_getElem? (i := 54) rfl)))) (mvT hZ (hw _ (List.mem_of_getElem? (i := 54) rfl))) (mvT hZ (hw _ (List.mem_of_getElem? (i := 53) rfl))) (by decide) (lenS (W := 2) hZ hln (hw _ (List.mem_of_getElem? (i := 5) rfl)) S_a1 (O2.ext Od.2) P5 (by decide) (by decide)) q182a q182c (g := (mkF m 3 #[.val (.ref a1), .val (.int (1 : Int32))] [(.ref a1), (.int (1 : Int32)), (.ref a1)])) rfl (by rw [hml]; rfl) (Steps.refl _) (argsL := []) (rest := [(.int (1 : Int32)), (.ref a1)]) (lenOf pd_11 rfl) rfl (by show 2 * 0 + _ ≤ _; exact Nat.le_of_eq rfl) (hb hby d16_3) (fun _ _ => ⟨rfl, e0, (by decide : 0 + 0 ≤ _), (by decide : 0 + 0 ≤ _)⟩)
  dsimp only [Pt.U, Pt.locs, Pt.cells, Pt.slots] at X182 l182 y182 z182 st182 hQ182
  subst l182 y182 z182
  obtain ⟨rfl, rfl, e182⟩ := hQ182
  have Nq182 : Fr n0 ([] : List Loc) := Fr.nil n0
  have N182 := Fr.app N0 Nq182
  refine Go.by (fun t => st182.trans) ?_
  show Go p e below _ (T182.setTop (mkF m 6 #[.val (.ref a1), .val (.int (1 : Int32))] [(.int (2 : Int32)), (.int (1 : Int32)), (.ref a1)]))
  show Go p e below _ (T182.setTop (mkF m 6 #[.val (.ref a1), .val (.int (1 : Int32))] [(.int (2 : Int32)), (.int (1 : Int32)), (.ref a1)]))
  obtain ⟨cq183, kq183, q183a, q183b, q183c⟩ := isOf (s := s.setVm s.vm) hZ e182 S_a1.exa
  obtain ⟨_, _, ⟨T183, L183, k183, n183⟩, -, X183, hSn, hgn, ⟨Lc183, hQ183, l183, y183, z183, CRn⟩, st183⟩ := X182.virtualBackS hx (y := (⟨"java/lang/String", "substring", "(II)Ljava/lang/String;"⟩ : MethodName)) (z := (⟨"java/lang/String", "substring", "(II)Ljava/lang/String;"⟩ : MethodName)) hown (mvT (s := s.setVm s.vm) hZ (hw _ (List.mem_of_getElem? (i := 81) rfl))) (mvT (s := s.setVm s.vm) hZ (hw _ (List.mem_of_getElem? (i := 82) rfl))) (notFace_of_selects (args := #[]) (mvT (s := s.setVm s.vm) hZ (hw _ (List.mem_of_getElem? (i := 84) rfl)))) (mvT (s := s.setVm s.vm) hZ (hw _ (List.mem_of_getElem? (i := 84) rfl))) (mvT (s := s.setVm s.vm) hZ (hw _ (List.mem_of_getElem? (i := 83) rfl))) (by decide) (backOfSH (W := 0) (rmSB2_2 l Z a0 hw [] a1 c0 c1 G1 G3 h0 n0 Z0 Od O2 P5 O4 rG3 S_a1 hb0 hb1) hZ (hw _ (List.mem_of_getElem? (i := 85) rfl)) (hw _ (List.mem_of_getElem? (i := 6) rfl)) (by decide) (by decide) hEL CR.1) q183a q183c (g := (mkF m 6 #[.val (.ref a1), .val (.int (1 : Int32))] [(.int (2 : Int32)), (.int (1 : Int32)), (.ref a1)])) rfl (by rw [hml]; rfl) (Steps.refl _) (argsL := [(.int (1 : Int32)), (.int (2 : Int32))]) (rest := []) (lenOf pd_15 rfl) rfl (by show 2 * 0 + _ ≤ _; exact Nat.le_of_eq rfl) (hb hby d16_6) (fun _ _ => ⟨rfl, e182, (by decide : 0 + 2 ≤ _), (by decide : 0 + 5 ≤ _)⟩)
  dsimp only [Pt.U, Pt.locs, Pt.cells, Pt.slots] at X183 l183 y183 z183 st183 hQ183 hSn hgn CRn
  subst l183 y183 z183
  rw [e182] at hgn
  obtain ⟨X183', hS183, hZ183, hown183⟩ := rebS hS hk X183 hSn hgn hZ hown
  obtain ⟨r, rfl, Nq183, K183, S_r⟩ := hQ183
  have N183 := Fr.app N182 Nq183
  refine Go.by (fun t => st183.trans) ?_
  replace CR := CR.trans CRn
  replace Z0 := Nat.le_trans Z0 K183.1
  clear CRn hS hk hSn
  have hS := hS183
  have hk : T183.heap.size ≤ T183.heap.size := Nat.le_refl _
  replace hZ := hZ183
  replace hown := hown183
  show Go p e below _ (T183.setTop (mkF m 9 #[.val (.ref a1), .val (.int (1 : Int32))] [(.ref r)]))
  show Go p e below _ (T183.setTop (mkF m 9 #[.val (.ref a1), .val (.int (1 : Int32))] [(.ref r)]))
  exact Go.ret1W X183' hS hk CR hZ hEL hx Bd.returns Bd.notSynchronized rfl (Or.inr (Or.inr (Or.inr (Or.inr ⟨rfl, rfl, rfl⟩)))) (hb hby d16_9) (by decide) (by decide) ⟨r, rfl, N183, K183, S_r⟩
def Q_rmSB2_3 (Z : State) (a1 : Addr) (c0 c1 c2 : Int32) (G1 : Int32) (G3 : Value) (h0 : Heap) (n0 : Nat) : Option Value → Heap → List Loc → Prop := fun v h L => ∃ r : Addr, v = some (.ref r) ∧ Fr n0 L ∧ Keep h0 h [] ∧ StrAt Z h r [c1, c2]
set_option maxRecDepth 65536 in
set_option maxHeartbeats 40000000 in
theorem rmSB2_3 (l : Launch) (Z : State) (a0 : Array Value) (hw : ∀ d ∈ tables_1, d.before a0 Z = true) (ws : List Jvm.Cond) (a1 : Addr) (c0 c1 c2 : Int32) (G1 : Int32) (G3 : Value) (h0 : Heap) (n0 : Nat) (Z0 : n0 ≤ h0.size) (Od : Old Z n0 h0) (O2 : Sta Z Z.heap "java/lang/String" "COMPACT_STRINGS" "Z" (.int G1)) (P5 : ¬ (G1 = (0 : Int32))) (O4 : Sta Z Z.heap "jdk/internal/util/Preconditions" "SIOOBE_FORMATTER" "Ljava/util/function/BiFunction;" G3) (rG3 : G3.isRef = true) (S_a1 : StrAt Z h0 a1 [c0, c1, c2]) (hb0 : ¬ c0 < 0 ∧ ¬ (255 : Int32) < c0) (hb1 : ¬ c1 < 0 ∧ ¬ (255 : Int32) < c1) (hb2 : ¬ c2 < 0 ∧ ¬ (255 : Int32) < c2) :
    MetFree l (⟨"java/lang/String", "substring", "(II)Ljava/lang/String;"⟩ : MethodName) (head1 (Jvm.Cond.code (⟨"java/lang/String", "substring", "(II)Ljava/lang/String;"⟩ : MethodName) jdk_42_method_92_code 5 (some (.object "java/lang/String")) :: ws) ({ frames := 4, cells := 2, slots := 6, locals := 92 } : Room)) (fun a U => a = #[(.ref a1), (.int (1 : Int32)), (.int (3 : Int32))] ∧ Z.Warmed39 U.vm ∧ U.heap = h0 ∧ CHv Z EL U.vm h0) (fun _ _ _ _ _ => True) (fun _ U o U' => ∃ v L, o = .returned v ∧ Q_rmSB2_3 Z a1 c0 c1 c2 G1 G3 h0 n0 v U'.heap L ∧ CHr Z EL U.vm U.heap U'.vm U'.heap ∧ ReturnedEndW U o U' L ({ frames := 4, cells := 2, slots := 6, locals := 92 } : Room).cells ({ frames := 4, cells := 2, slots := 6, locals := 92 } : Room).slots) := by
  refine MetFree.of_bodySF (plainFor_of_name pn_1) hisR ?_
  intro p e s m args below meth c s₁ Bd hml0 hP hK
  obtain ⟨rfl, hZ, hh, CH0⟩ := hP
  have hx := Bd.exec
  have hby := Bd.bytes
  have hml : c.maxLocals = 5 := hml0
  have hown : s.vm.findClass "java/lang/String" = some m.cls := findClass_of_methodNamed Bd.named
  have hnm := (name_of_methodNamed Bd.named Bd.method).1
  have X0 : Stand p l e ({ frames := 4, cells := 2, slots := 6, locals := 92 } : Room) (s.setVm s.vm) m #[(.ref a1), (.int (1 : Int32)), (.int (3 : Int32))] below meth c s₁ [] 0 0 := Stand.of_body Bd
  have e0 : s₁.heap = h0 := by rw [← hh, Bd.state]; rfl
  have N0 := Fr.nil n0
  have hS : s.Since s.vm 0 := (State.WarmedH.refl s).since 0
  have hk : 0 ≤ h0.size := Nat.zero_le _
  have CR : CHr Z EL s.vm s.heap s.vm h0 := by rw [hh]; exact CHr.refl CH0
  have hEL := ew_of hw
  have hwS := ws_of hw
  have hln : ∀ d ∈ StrChars.Road.wordsLen, d.before a0 Z = true := fun d hd => hw d ((by decide +kernel : ∀ d ∈ StrChars.Road.wordsLen, d ∈ tables_1) d hd)
  have ef : entryFrame m #[(.ref a1), (.int (1 : Int32)), (.int (3 : Int32))] 5 = (mkF m 0 #[.val (.ref a1), .val (.int (1 : Int32)), .val (.int (3 : Int32)), .unset, .unset] []) := by first | rfl | (simp [entryFrame, mkF, argsToLocals, Value.category, maxLocals]; done)
  show Go p e below (EndW EL Z (fun v h L => ∃ r : Addr, v = some (.ref r) ∧ Fr n0 L ∧ Keep h0 h [] ∧ StrAt Z h r [c1, c2]) s 2 6) (s₁.setTop (entryFrame m #[(.ref a1), (.int (1 : Int32)), (.int (3 : Int32))] 5))
  rw [ef]
  show Go p e below _ (s₁.setTop (mkF m 0 #[.val (.ref a1), .val (.int (1 : Int32)), .val (.int (3 : Int32)), .unset, .unset] []))
  show Go p e below _ (s₁.setTop (mkF m 0 #[.val (.ref a1), .val (.int (1 : Int32)), .val (.int (3 : Int32)), .unset, .unset] []))
  refine Go.by (fun t => XS.aloadN X0.here hx rfl (hb hby d17_0) rfl rfl) ?_
  show Go p e below _ (s₁.setTop (mkF m 1 #[.val (.ref a1), .val (.int (1 : Int32)), .val (.int (3 : Int32)), .unset, .unset] [(.ref a1)]))
  obtain ⟨cq184, kq184, q184a, q184b, q184c⟩ := isOf hZ e0 S_a1.exa
  obtain ⟨_, _, ⟨T184, L184, k184, n184⟩, -, X184, ⟨Lc184, hQ184, l184, y184, z184⟩, st184⟩ := X0.virtualBack hx (y := (⟨"java/lang/String", "length", "()I"⟩ : MethodName)) (z := (⟨"java/lang/String", "length", "()I"⟩ : MethodName)) hown (mvT hZ (hw _ (List.mem_of_getElem? (i := 51) rfl))) (mvT hZ (hw _ (List.mem_of_getElem? (i := 52) rfl))) (notFace_of_selects (args := #[]) (mvT hZ (hw _ (List.mem_of_getElem? (i := 54) rfl)))) (mvT hZ (hw _ (List.mem_of_getElem? (i := 54) rfl))) (mvT hZ (hw _ (List.mem_of_getElem? (i := 53) rfl))) (by decide) (lenS (W := 0) hZ hln (hw _ (List.mem_of_getElem? (i := 5) rfl)) S_a1 (O2.ext Od.2) P5 (by decide) (by decide)) q184a q184c (g := (mkF m 1 #[.val (.ref a1), .val (.int (1 : Int32)), .val (.int (3 : Int32)), .unset, .unset] [(.ref a1)])) rfl (by rw [hml]; rfl) (Steps.refl _) (argsL := []) (rest := []) (lenOf pd_11 rfl) rfl (by show 2 * 0 + _ ≤ _; exact Nat.le_of_eq rfl) (hb hby d17_1) (fun _ _ => ⟨rfl, e0, (by decide : 0 + 0 ≤ _), (by decide : 0 + 0 ≤ _)⟩)
  dsimp only [Pt.U, Pt.locs, Pt.cells, Pt.slots] at X184 l184 y184 z184 st184 hQ184
  subst l184 y184 z184
  obtain ⟨rfl, rfl, e184⟩ := hQ184
  have Nq184 : Fr n0 ([] : List Loc) := Fr.nil n0
  have N184 := Fr.app N0 Nq184
  refine Go.by (fun t => st184.trans) ?_
  show Go p e below _ (T184.setTop (mkF m 4 #[.val (.ref a1), .val (.int (1 : Int32)), .val (.int (3 : Int32)), .unset, .unset] [(.int (3 : Int32))]))
  show Go p e below _ (T184.setTop (mkF m 4 #[.val (.ref a1), .val (.int (1 : Int32)), .val (.int (3 : Int32)), .unset, .unset] [(.int (3 : Int32))]))
  refine Go.by (fun t => XS.istoreN X184.here hx rfl (hb hby d17_4) rfl (l' := #[.val (.ref a1), .val (.int (1 : Int32)), .val (.int (3 : Int32)), .val (.int (3 : Int32)), .unset]) rfl) ?_
  show Go p e below _ (T184.setTop (mkF m 5 #[.val (.ref a1), .val (.int (1 : Int32)), .val (.int (3 : Int32)), .val (.int (3 : Int32)), .unset] []))
  refine Go.by (fun t => XS.iloadN X184.here hx rfl (hb hby d17_5) rfl ) ?_
  show Go p e below _ (T184.setTop (mkF m 6 #[.val (.ref a1), .val (.int (1 : Int32)), .val (.int (3 : Int32)), .val (.int (3 : Int32)), .unset] [(.int (1 : Int32))]))
  refine Go.by (fun t => XS.iloadN X184.here hx rfl (hb hby d17_6) rfl ) ?_
  show Go p e below _ (T184.setTop (mkF m 7 #[.val (.ref a1), .val (.int (1 : Int32)), .val (.int (3 : Int32)), .val (.int (3 : Int32)), .unset] [(.int (3 : Int32)), (.int (1 : Int32))]))
  refine Go.by (fun t => XS.iloadN X184.here hx rfl (hb hby d17_7) rfl ) ?_
  show Go p e below _ (T184.setTop (mkF m 8 #[.val (.ref a1), .val (.int (1 : Int32)), .val (.int (3 : Int32)), .val (.int (3 : Int32)), .unset] [(.int (3 : Int32)), (.int (3 : Int32)), (.int (1 : Int32))]))
  obtain ⟨_, _, ⟨T185, L185, k185, n185⟩, -, X185, ⟨Lc185, hQ185, l185, y185, z185⟩, st185⟩ := Jvm.LawKit.callS X184 hx (y := (⟨"java/lang/String", "checkBoundsBeginEnd", "(III)V"⟩ : MethodName)) hown (mvT hZ (hw _ (List.mem_of_getElem? (i := 86) rfl))) (mvT hZ (hw _ (List.mem_of_getElem? (i := 87) rfl))) (mvT hZ (hw _ (List.mem_of_getElem? (i := 6) rfl))) (mvT hZ (hw _ (List.mem_of_getElem? (i := 88) rfl))) (by decide) (backOf (W := 0) (rm18 l Z a0 hw [] 1 3 3 G3 h0 n0 Od O4 rG3 (by decide) (by decide) (by decide)) hZ (hw _ (List.mem_of_getElem? (i := 88) rfl)) (hw _ (List.mem_of_getElem? (i := 6) rfl)) (by decide) (by decide)) (g := (mkF m 8 #[.val (.ref a1), .val (.int (1 : Int32)), .val (.int (3 : Int32)), .val (.int (3 : Int32)), .unset] [(.int (3 : Int32)), (.int (3 : Int32)), (.int (1 : Int32))])) rfl (by rw [hml]; rfl) (argsL := [(.int (1 : Int32)), (.int (3 : Int32)), (.int (3 : Int32))]) (rest := []) (lenOf pd_16 rfl) rfl (by show 2 * 0 + _ ≤ _; exact Nat.le_of_eq rfl) (hb hby d17_8) (fun _ _ => ⟨rfl, e184, (by decide : 0 + 0 ≤ _), (by decide : 0 + 0 ≤ _)⟩)
  dsimp only [Pt.U, Pt.locs, Pt.cells, Pt.slots] at X185 l185 y185 z185 st185 hQ185
  subst l185 y185 z185
  obtain ⟨rfl, Nq185, e185⟩ := hQ185
  have N185 := Fr.app N184 Nq185
  refine Go.by (fun t => st185 t) ?_
  show Go p e below _ (T185.setTop (mkF m 11 #[.val (.ref a1), .val (.int (1 : Int32)), .val (.int (3 : Int32)), .val (.int (3 : Int32)), .unset] []))
  show Go p e below _ (T185.setTop (mkF m 11 #[.val (.ref a1), .val (.int (1 : Int32)), .val (.int (3 : Int32)), .val (.int (3 : Int32)), .unset] []))
  refine Go.by (fun t => XS.iloadN X185.here hx rfl (hb hby d17_11) rfl ) ?_
  show Go p e below _ (T185.setTop (mkF m 12 #[.val (.ref a1), .val (.int (1 : Int32)), .val (.int (3 : Int32)), .val (.int (3 : Int32)), .unset] [(.int (1 : Int32))]))
  refine Go.by (fun t => XS.ifYes X185.here hx rfl (pc0 := 12) (pc' := 22) rfl (hb hby d17_12) rfl ((if0 _ _).trans (feq (by decide : ¬ ((1 : Int32) = (0 : Int32)))).2) (by decide) (by decide)) ?_
  show Go p e below _ (T185.setTop (mkF m 22 #[.val (.ref a1), .val (.int (1 : Int32)), .val (.int (3 : Int32)), .val (.int (3 : Int32)), .unset] []))
  show Go p e below _ (T185.setTop (mkF m 22 #[.val (.ref a1), .val (.int (1 : Int32)), .val (.int (3 : Int32)), .val (.int (3 : Int32)), .unset] []))
  refine Go.by (fun t => XS.iloadN X185.here hx rfl (hb hby d17_22) rfl ) ?_
  show Go p e below _ (T185.setTop (mkF m 23 #[.val (.ref a1), .val (.int (1 : Int32)), .val (.int (3 : Int32)), .val (.int (3 : Int32)), .unset] [(.int (3 : Int32))]))
  refine Go.by (fun t => XS.iloadN X185.here hx rfl (hb hby d17_23) rfl ) ?_
  show Go p e below _ (T185.setTop (mkF m 24 #[.val (.ref a1), .val (.int (1 : Int32)), .val (.int (3 : Int32)), .val (.int (3 : Int32)), .unset] [(.int (1 : Int32)), (.int (3 : Int32))]))
  refine Go.by (fun t => XS.isub X185.here hx rfl (hb hby d17_24) rfl) ?_
  show Go p e below _ (T185.setTop (mkF m 25 #[.val (.ref a1), .val (.int (1 : Int32)), .val (.int (3 : Int32)), .val (.int (3 : Int32)), .unset] [(.int ((3 : Int32) - (1 : Int32)))]))
  rw [show (3 : Int32) - (1 : Int32) = 2 from rfl]
  show Go p e below _ (T185.setTop (mkF m 25 #[.val (.ref a1), .val (.int (1 : Int32)), .val (.int (3 : Int32)), .val (.int (3 : Int32)), .unset] [(.int (2 : Int32))]))
  show Go p e below _ (T185.setTop (mkF m 25 #[.val (.ref a1), .val (.int (1 : Int32)), .val (.int (3 : Int32)), .val (.int (3 : Int32)), .unset] [(.int (2 : Int32))]))
  refine Go.by (fun t => XS.istore X185.here hx rfl (hb hby d17_25) rfl (l' := #[.val (.ref a1), .val (.int (1 : Int32)), .val (.int (3 : Int32)), .val (.int (3 : Int32)), .val (.int (2 : Int32))]) rfl) ?_
  show Go p e below _ (T185.setTop (mkF m 27 #[.val (.ref a1), .val (.int (1 : Int32)), .val (.int (3 : Int32)), .val (.int (3 : Int32)), .val (.int (2 : Int32))] []))
  refine Go.by (fun t => XS.aloadN X185.here hx rfl (hb hby d17_27) rfl rfl) ?_
  show Go p e below _ (T185.setTop (mkF m 28 #[.val (.ref a1), .val (.int (1 : Int32)), .val (.int (3 : Int32)), .val (.int (3 : Int32)), .val (.int (2 : Int32))] [(.ref a1)]))
  obtain ⟨t_a1, kb_a1, E_a1, F_value_a1, F_coder_a1, V_t_a1, hl_a1⟩ := S_a1.open
  obtain ⟨cq186, kq186, q186a, q186b, q186c⟩ := isOf hZ e185 E_a1
  obtain ⟨_, _, ⟨T186, L186, k186, n186⟩, -, X186, ⟨Lc186, hQ186, l186, y186, z186⟩, st186⟩ := X185.virtualBack hx (y := (⟨"java/lang/String", "isLatin1", "()Z"⟩ : MethodName)) (z := (⟨"java/lang/String", "isLatin1", "()Z"⟩ : MethodName)) hown (mvT hZ (hw _ (List.mem_of_getElem? (i := 94) rfl))) (mvT hZ (hw _ (List.mem_of_getElem? (i := 95) rfl))) (notFace_of_selects (args := #[]) (mvT hZ (hw _ (List.mem_of_getElem? (i := 97) rfl)))) (mvT hZ (hw _ (List.mem_of_getElem? (i := 97) rfl))) (mvT hZ (hw _ (List.mem_of_getElem? (i := 96) rfl))) (by decide) (backOf (W := 0) (rm20 l Z a0 hw [] a1 G1 h0 n0 Od O2 P5 F_coder_a1) hZ (hw _ (List.mem_of_getElem? (i := 98) rfl)) (hw _ (List.mem_of_getElem? (i := 6) rfl)) (by decide) (by decide)) q186a q186c (g := (mkF m 28 #[.val (.ref a1), .val (.int (1 : Int32)), .val (.int (3 : Int32)), .val (.int (3 : Int32)), .val (.int (2 : Int32))] [(.ref a1)])) rfl (by rw [hml]; rfl) (Steps.refl _) (argsL := []) (rest := []) (lenOf pd_17 rfl) rfl (by show 2 * 0 + _ ≤ _; exact Nat.le_of_eq rfl) (hb hby d17_28) (fun _ _ => ⟨rfl, e185, (by decide : 0 + 0 ≤ _), (by decide : 0 + 0 ≤ _)⟩)
  dsimp only [Pt.U, Pt.locs, Pt.cells, Pt.slots] at X186 l186 y186 z186 st186 hQ186
  subst l186 y186 z186
  obtain ⟨rfl, Nq186, e186⟩ := hQ186
  have N186 := Fr.app N185 Nq186
  refine Go.by (fun t => st186.trans) ?_
  show Go p e below _ (T186.setTop (mkF m 31 #[.val (.ref a1), .val (.int (1 : Int32)), .val (.int (3 : Int32)), .val (.int (3 : Int32)), .val (.int (2 : Int32))] [(.int (1 : Int32))]))
  refine Go.by (fun t => XS.ifNo X186.here hx rfl (hb hby d17_31) rfl ((if0 _ _).trans (feq (by decide : ¬ ((1 : Int32) = (0 : Int32)))).1)) ?_
  show Go p e below _ (T186.setTop (mkF m 34 #[.val (.ref a1), .val (.int (1 : Int32)), .val (.int (3 : Int32)), .val (.int (3 : Int32)), .val (.int (2 : Int32))] []))
  show Go p e below _ (T186.setTop (mkF m 34 #[.val (.ref a1), .val (.int (1 : Int32)), .val (.int (3 : Int32)), .val (.int (3 : Int32)), .val (.int (2 : Int32))] []))
  refine Go.by (fun t => XS.aloadN X186.here hx rfl (hb hby d17_34) rfl rfl) ?_
  show Go p e below _ (T186.setTop (mkF m 35 #[.val (.ref a1), .val (.int (1 : Int32)), .val (.int (3 : Int32)), .val (.int (3 : Int32)), .val (.int (2 : Int32))] [(.ref a1)]))
  obtain ⟨T187, X187, e187, st187⟩ := getF X186 hx hZ hown (host := "") (Or.inl (hw _ (List.mem_of_getElem? (i := 32) rfl))) Via.refl e186 F_value_a1 (g := (mkF m 35 #[.val (.ref a1), .val (.int (1 : Int32)), .val (.int (3 : Int32)), .val (.int (3 : Int32)), .val (.int (2 : Int32))] [(.ref a1)])) rfl rfl (hb hby d17_35)
  refine Go.by (fun t => st187 t) ?_
  show Go p e below _ (T187.setTop (mkF m 38 #[.val (.ref a1), .val (.int (1 : Int32)), .val (.int (3 : Int32)), .val (.int (3 : Int32)), .val (.int (2 : Int32))] [(.ref t_a1)]))
  show Go p e below _ (T187.setTop (mkF m 38 #[.val (.ref a1), .val (.int (1 : Int32)), .val (.int (3 : Int32)), .val (.int (3 : Int32)), .val (.int (2 : Int32))] [(.ref t_a1)]))
  refine Go.by (fun t => XS.iloadN X187.here hx rfl (hb hby d17_38) rfl ) ?_
  show Go p e below _ (T187.setTop (mkF m 39 #[.val (.ref a1), .val (.int (1 : Int32)), .val (.int (3 : Int32)), .val (.int (3 : Int32)), .val (.int (2 : Int32))] [(.int (1 : Int32)), (.ref t_a1)]))
  refine Go.by (fun t => XS.iload X187.here hx rfl (hb hby d17_39) rfl ) ?_
  show Go p e below _ (T187.setTop (mkF m 41 #[.val (.ref a1), .val (.int (1 : Int32)), .val (.int (3 : Int32)), .val (.int (3 : Int32)), .val (.int (2 : Int32))] [(.int (2 : Int32)), (.int (1 : Int32)), (.ref t_a1)]))
  obtain ⟨_, _, ⟨T188, L188, k188, n188⟩, -, X188, hSn, hgn, ⟨Lc188, hQ188, l188, y188, z188, CRn⟩, st188⟩ := callSS X187 hx (y := (⟨"java/lang/StringLatin1", "newString", "([BII)Ljava/lang/String;"⟩ : MethodName)) hown (mvT (s := s.setVm s.vm) hZ (hw _ (List.mem_of_getElem? (i := 99) rfl))) (mvT (s := s.setVm s.vm) hZ (hw _ (List.mem_of_getElem? (i := 100) rfl))) (mvT (s := s.setVm s.vm) hZ (hw _ (List.mem_of_getElem? (i := 73) rfl))) (mvT (s := s.setVm s.vm) hZ (hw _ (List.mem_of_getElem? (i := 101) rfl))) (by decide) (backOfSH (W := 0) (rmNS3 l Z a0 hw [] t_a1 kb_a1 c0 c1 c2 h0 n0 Z0 V_t_a1 hb0 hb1 hb2) hZ (hw _ (List.mem_of_getElem? (i := 101) rfl)) (hw _ (List.mem_of_getElem? (i := 73) rfl)) (by decide) (by decide) hEL CR.1) (g := (mkF m 41 #[.val (.ref a1), .val (.int (1 : Int32)), .val (.int (3 : Int32)), .val (.int (3 : Int32)), .val (.int (2 : Int32))] [(.int (2 : Int32)), (.int (1 : Int32)), (.ref t_a1)])) rfl (by rw [hml]; rfl) (argsL := [(.ref t_a1), (.int (1 : Int32)), (.int (2 : Int32))]) (rest := []) (lenOf pd_18 rfl) rfl (by show 2 * 0 + _ ≤ _; exact Nat.le_of_eq rfl) (hb hby d17_41) (fun _ _ => ⟨rfl, e187, (by decide : 0 + 2 ≤ _), (by decide : 0 + 6 ≤ _)⟩)
  dsimp only [Pt.U, Pt.locs, Pt.cells, Pt.slots] at X188 l188 y188 z188 st188 hQ188 hSn hgn CRn
  subst l188 y188 z188
  rw [e187] at hgn
  obtain ⟨X188', hS188, hZ188, hown188⟩ := rebS hS hk X188 hSn hgn hZ hown
  obtain ⟨r, rfl, Nq188, K188, S_r⟩ := hQ188
  have N188 := Fr.app N186 Nq188
  refine Go.by (fun t => st188.trans) ?_
  replace CR := CR.trans CRn
  replace Z0 := Nat.le_trans Z0 K188.1
  clear CRn hS hk hSn
  have hS := hS188
  have hk : T188.heap.size ≤ T188.heap.size := Nat.le_refl _
  replace hZ := hZ188
  replace hown := hown188
  show Go p e below _ (T188.setTop (mkF m 44 #[.val (.ref a1), .val (.int (1 : Int32)), .val (.int (3 : Int32)), .val (.int (3 : Int32)), .val (.int (2 : Int32))] [(.ref r)]))
  show Go p e below _ (T188.setTop (mkF m 44 #[.val (.ref a1), .val (.int (1 : Int32)), .val (.int (3 : Int32)), .val (.int (3 : Int32)), .val (.int (2 : Int32))] [(.ref r)]))
  refine Go.by (fun t => XS.goto X188'.here hx rfl (pc0 := 44) (pc' := 57) rfl (hb hby d17_44) (by decide) (by decide)) ?_
  show Go p e below _ (T188.setTop (mkF m 57 #[.val (.ref a1), .val (.int (1 : Int32)), .val (.int (3 : Int32)), .val (.int (3 : Int32)), .val (.int (2 : Int32))] [(.ref r)]))
  exact Go.ret1W X188' hS hk CR hZ hEL hx Bd.returns Bd.notSynchronized rfl (Or.inr (Or.inr (Or.inr (Or.inr ⟨rfl, rfl, rfl⟩)))) (hb hby d17_57) (by decide) (by decide) ⟨r, rfl, N188, K188, S_r⟩
def Q_rmSB1_3 (Z : State) (a1 : Addr) (c0 c1 c2 : Int32) (G1 : Int32) (G3 : Value) (h0 : Heap) (n0 : Nat) : Option Value → Heap → List Loc → Prop := fun v h L => ∃ r : Addr, v = some (.ref r) ∧ Fr n0 L ∧ Keep h0 h [] ∧ StrAt Z h r [c1, c2]
set_option maxRecDepth 65536 in
set_option maxHeartbeats 40000000 in
theorem rmSB1_3 (l : Launch) (Z : State) (a0 : Array Value) (hw : ∀ d ∈ tables_1, d.before a0 Z = true) (ws : List Jvm.Cond) (a1 : Addr) (c0 c1 c2 : Int32) (G1 : Int32) (G3 : Value) (h0 : Heap) (n0 : Nat) (Z0 : n0 ≤ h0.size) (Od : Old Z n0 h0) (O2 : Sta Z Z.heap "java/lang/String" "COMPACT_STRINGS" "Z" (.int G1)) (P5 : ¬ (G1 = (0 : Int32))) (O4 : Sta Z Z.heap "jdk/internal/util/Preconditions" "SIOOBE_FORMATTER" "Ljava/util/function/BiFunction;" G3) (rG3 : G3.isRef = true) (S_a1 : StrAt Z h0 a1 [c0, c1, c2]) (hb0 : ¬ c0 < 0 ∧ ¬ (255 : Int32) < c0) (hb1 : ¬ c1 < 0 ∧ ¬ (255 : Int32) < c1) (hb2 : ¬ c2 < 0 ∧ ¬ (255 : Int32) < c2) :
    MetFree l (⟨"java/lang/String", "substring", "(I)Ljava/lang/String;"⟩ : MethodName) (head1 (Jvm.Cond.code (⟨"java/lang/String", "substring", "(I)Ljava/lang/String;"⟩ : MethodName) jdk_42_method_91_code 2 (some (.object "java/lang/String")) :: ws) ({ frames := 5, cells := 2, slots := 6, locals := 110 } : Room)) (fun a U => a = #[(.ref a1), (.int (1 : Int32))] ∧ Z.Warmed39 U.vm ∧ U.heap = h0 ∧ CHv Z EL U.vm h0) (fun _ _ _ _ _ => True) (fun _ U o U' => ∃ v L, o = .returned v ∧ Q_rmSB1_3 Z a1 c0 c1 c2 G1 G3 h0 n0 v U'.heap L ∧ CHr Z EL U.vm U.heap U'.vm U'.heap ∧ ReturnedEndW U o U' L ({ frames := 5, cells := 2, slots := 6, locals := 110 } : Room).cells ({ frames := 5, cells := 2, slots := 6, locals := 110 } : Room).slots) := by
  refine MetFree.of_bodySF (plainFor_of_name pn_1) hisR ?_
  intro p e s m args below meth c s₁ Bd hml0 hP hK
  obtain ⟨rfl, hZ, hh, CH0⟩ := hP
  have hx := Bd.exec
  have hby := Bd.bytes
  have hml : c.maxLocals = 2 := hml0
  have hown : s.vm.findClass "java/lang/String" = some m.cls := findClass_of_methodNamed Bd.named
  have hnm := (name_of_methodNamed Bd.named Bd.method).1
  have X0 : Stand p l e ({ frames := 5, cells := 2, slots := 6, locals := 110 } : Room) (s.setVm s.vm) m #[(.ref a1), (.int (1 : Int32))] below meth c s₁ [] 0 0 := Stand.of_body Bd
  have e0 : s₁.heap = h0 := by rw [← hh, Bd.state]; rfl
  have N0 := Fr.nil n0
  have hS : s.Since s.vm 0 := (State.WarmedH.refl s).since 0
  have hk : 0 ≤ h0.size := Nat.zero_le _
  have CR : CHr Z EL s.vm s.heap s.vm h0 := by rw [hh]; exact CHr.refl CH0
  have hEL := ew_of hw
  have hwS := ws_of hw
  have hln : ∀ d ∈ StrChars.Road.wordsLen, d.before a0 Z = true := fun d hd => hw d ((by decide +kernel : ∀ d ∈ StrChars.Road.wordsLen, d ∈ tables_1) d hd)
  have ef : entryFrame m #[(.ref a1), (.int (1 : Int32))] 2 = (mkF m 0 #[.val (.ref a1), .val (.int (1 : Int32))] []) := by first | rfl | (simp [entryFrame, mkF, argsToLocals, Value.category, maxLocals]; done)
  show Go p e below (EndW EL Z (fun v h L => ∃ r : Addr, v = some (.ref r) ∧ Fr n0 L ∧ Keep h0 h [] ∧ StrAt Z h r [c1, c2]) s 2 6) (s₁.setTop (entryFrame m #[(.ref a1), (.int (1 : Int32))] 2))
  rw [ef]
  show Go p e below _ (s₁.setTop (mkF m 0 #[.val (.ref a1), .val (.int (1 : Int32))] []))
  show Go p e below _ (s₁.setTop (mkF m 0 #[.val (.ref a1), .val (.int (1 : Int32))] []))
  refine Go.by (fun t => XS.aloadN X0.here hx rfl (hb hby d16_0) rfl rfl) ?_
  show Go p e below _ (s₁.setTop (mkF m 1 #[.val (.ref a1), .val (.int (1 : Int32))] [(.ref a1)]))
  refine Go.by (fun t => XS.iloadN X0.here hx rfl (hb hby d16_1) rfl ) ?_
  show Go p e below _ (s₁.setTop (mkF m 2 #[.val (.ref a1), .val (.int (1 : Int32))] [(.int (1 : Int32)), (.ref a1)]))
  refine Go.by (fun t => XS.aloadN X0.here hx rfl (hb hby d16_2) rfl rfl) ?_
  show Go p e below _ (s₁.setTop (mkF m 3 #[.val (.ref a1), .val (.int (1 : Int32))] [(.ref a1), (.int (1 : Int32)), (.ref a1)]))
  obtain ⟨cq189, kq189, q189a, q189b, q189c⟩ := isOf hZ e0 S_a1.exa
  obtain ⟨_, _, ⟨T189, L189, k189, n189⟩, -, X189, ⟨Lc189, hQ189, l189, y189, z189⟩, st189⟩ := X0.virtualBack hx (y := (⟨"java/lang/String", "length", "()I"⟩ : MethodName)) (z := (⟨"java/lang/String", "length", "()I"⟩ : MethodName)) hown (mvT hZ (hw _ (List.mem_of_getElem? (i := 51) rfl))) (mvT hZ (hw _ (List.mem_of_getElem? (i := 52) rfl))) (notFace_of_selects (args := #[]) (mvT hZ (hw _ (List.mem_of_getElem? (i := 54) rfl)))) (mvT hZ (hw _ (List.mem_of_getElem? (i := 54) rfl))) (mvT hZ (hw _ (List.mem_of_getElem? (i := 53) rfl))) (by decide) (lenS (W := 2) hZ hln (hw _ (List.mem_of_getElem? (i := 5) rfl)) S_a1 (O2.ext Od.2) P5 (by decide) (by decide)) q189a q189c (g := (mkF m 3 #[.val (.ref a1), .val (.int (1 : Int32))] [(.ref a1), (.int (1 : Int32)), (.ref a1)])) rfl (by rw [hml]; rfl) (Steps.refl _) (argsL := []) (rest := [(.int (1 : Int32)), (.ref a1)]) (lenOf pd_11 rfl) rfl (by show 2 * 0 + _ ≤ _; exact Nat.le_of_eq rfl) (hb hby d16_3) (fun _ _ => ⟨rfl, e0, (by decide : 0 + 0 ≤ _), (by decide : 0 + 0 ≤ _)⟩)
  dsimp only [Pt.U, Pt.locs, Pt.cells, Pt.slots] at X189 l189 y189 z189 st189 hQ189
  subst l189 y189 z189
  obtain ⟨rfl, rfl, e189⟩ := hQ189
  have Nq189 : Fr n0 ([] : List Loc) := Fr.nil n0
  have N189 := Fr.app N0 Nq189
  refine Go.by (fun t => st189.trans) ?_
  show Go p e below _ (T189.setTop (mkF m 6 #[.val (.ref a1), .val (.int (1 : Int32))] [(.int (3 : Int32)), (.int (1 : Int32)), (.ref a1)]))
  show Go p e below _ (T189.setTop (mkF m 6 #[.val (.ref a1), .val (.int (1 : Int32))] [(.int (3 : Int32)), (.int (1 : Int32)), (.ref a1)]))
  obtain ⟨cq190, kq190, q190a, q190b, q190c⟩ := isOf (s := s.setVm s.vm) hZ e189 S_a1.exa
  obtain ⟨_, _, ⟨T190, L190, k190, n190⟩, -, X190, hSn, hgn, ⟨Lc190, hQ190, l190, y190, z190, CRn⟩, st190⟩ := X189.virtualBackS hx (y := (⟨"java/lang/String", "substring", "(II)Ljava/lang/String;"⟩ : MethodName)) (z := (⟨"java/lang/String", "substring", "(II)Ljava/lang/String;"⟩ : MethodName)) hown (mvT (s := s.setVm s.vm) hZ (hw _ (List.mem_of_getElem? (i := 81) rfl))) (mvT (s := s.setVm s.vm) hZ (hw _ (List.mem_of_getElem? (i := 82) rfl))) (notFace_of_selects (args := #[]) (mvT (s := s.setVm s.vm) hZ (hw _ (List.mem_of_getElem? (i := 84) rfl)))) (mvT (s := s.setVm s.vm) hZ (hw _ (List.mem_of_getElem? (i := 84) rfl))) (mvT (s := s.setVm s.vm) hZ (hw _ (List.mem_of_getElem? (i := 83) rfl))) (by decide) (backOfSH (W := 0) (rmSB2_3 l Z a0 hw [] a1 c0 c1 c2 G1 G3 h0 n0 Z0 Od O2 P5 O4 rG3 S_a1 hb0 hb1 hb2) hZ (hw _ (List.mem_of_getElem? (i := 85) rfl)) (hw _ (List.mem_of_getElem? (i := 6) rfl)) (by decide) (by decide) hEL CR.1) q190a q190c (g := (mkF m 6 #[.val (.ref a1), .val (.int (1 : Int32))] [(.int (3 : Int32)), (.int (1 : Int32)), (.ref a1)])) rfl (by rw [hml]; rfl) (Steps.refl _) (argsL := [(.int (1 : Int32)), (.int (3 : Int32))]) (rest := []) (lenOf pd_15 rfl) rfl (by show 2 * 0 + _ ≤ _; exact Nat.le_of_eq rfl) (hb hby d16_6) (fun _ _ => ⟨rfl, e189, (by decide : 0 + 2 ≤ _), (by decide : 0 + 6 ≤ _)⟩)
  dsimp only [Pt.U, Pt.locs, Pt.cells, Pt.slots] at X190 l190 y190 z190 st190 hQ190 hSn hgn CRn
  subst l190 y190 z190
  rw [e189] at hgn
  obtain ⟨X190', hS190, hZ190, hown190⟩ := rebS hS hk X190 hSn hgn hZ hown
  obtain ⟨r, rfl, Nq190, K190, S_r⟩ := hQ190
  have N190 := Fr.app N189 Nq190
  refine Go.by (fun t => st190.trans) ?_
  replace CR := CR.trans CRn
  replace Z0 := Nat.le_trans Z0 K190.1
  clear CRn hS hk hSn
  have hS := hS190
  have hk : T190.heap.size ≤ T190.heap.size := Nat.le_refl _
  replace hZ := hZ190
  replace hown := hown190
  show Go p e below _ (T190.setTop (mkF m 9 #[.val (.ref a1), .val (.int (1 : Int32))] [(.ref r)]))
  show Go p e below _ (T190.setTop (mkF m 9 #[.val (.ref a1), .val (.int (1 : Int32))] [(.ref r)]))
  exact Go.ret1W X190' hS hk CR hZ hEL hx Bd.returns Bd.notSynchronized rfl (Or.inr (Or.inr (Or.inr (Or.inr ⟨rfl, rfl, rfl⟩)))) (hb hby d16_9) (by decide) (by decide) ⟨r, rfl, N190, K190, S_r⟩
def Q_rmEN0 (Z : State) (a1 : Addr)  (G1 : Int32) (G3 : Value) (h0 : Heap) (n0 : Nat) : Option Value → Heap → List Loc → Prop := fun v h L => ∃ r : Addr, v = some (.ref r) ∧ Fr n0 L ∧ Keep h0 h [] ∧ StrAt Z h r []
set_option maxRecDepth 65536 in
set_option maxHeartbeats 40000000 in
theorem rmEN0 (l : Launch) (Z : State) (a0 : Array Value) (hw : ∀ d ∈ tables_1, d.before a0 Z = true) (ws : List Jvm.Cond) (a1 : Addr)  (G1 : Int32) (G3 : Value) (h0 : Heap) (n0 : Nat) (Z0 : n0 ≤ h0.size) (Od : Old Z n0 h0) (O2 : Sta Z Z.heap "java/lang/String" "COMPACT_STRINGS" "Z" (.int G1)) (P5 : ¬ (G1 = (0 : Int32))) (O4 : Sta Z Z.heap "jdk/internal/util/Preconditions" "SIOOBE_FORMATTER" "Ljava/util/function/BiFunction;" G3) (rG3 : G3.isRef = true) (S_a1 : StrAt Z h0 a1 []) :
    MetFree l (⟨"com/example/slicewright/slicewright/slicing/Occurrence", "elementName", "(Ljava/lang/String;)Ljava/lang/String;"⟩ : MethodName) (head1 (Jvm.Cond.code (⟨"com/example/slicewright/slicewright/slicing/Occurrence", "elementName", "(Ljava/lang/String;)Ljava/lang/String;"⟩ : MethodName) prog_32_method_3_code 1 (some (.object "java/lang/String")) :: ws) ({ frames := 6, cells := 4, slots := 20, locals := 130 } : Room)) (fun a U => a = #[(.ref a1)] ∧ Z.Warmed39 U.vm ∧ U.heap = h0 ∧ CHv Z EL U.vm h0) (fun _ _ _ _ _ => True) (fun _ U o U' => ∃ v L, o = .returned v ∧ Q_rmEN0 Z a1 G1 G3 h0 n0 v U'.heap L ∧ CHr Z EL U.vm U.heap U'.vm U'.heap ∧ ReturnedEndW U o U' L ({ frames := 6, cells := 4, slots := 20, locals := 130 } : Room).cells ({ frames := 6, cells := 4, slots := 20, locals := 130 } : Room).slots) := by
  refine MetFree.of_bodySF (plainFor_of_name pn_2) hisR ?_
  intro p e s m args below meth c s₁ Bd hml0 hP hK
  obtain ⟨rfl, hZ, hh, CH0⟩ := hP
  have hx := Bd.exec
  have hby := Bd.bytes
  have hml : c.maxLocals = 1 := hml0
  have hown : s.vm.findClass "com/example/slicewright/slicewright/slicing/Occurrence" = some m.cls := findClass_of_methodNamed Bd.named
  have hnm := (name_of_methodNamed Bd.named Bd.method).1
  have X0 : Stand p l e ({ frames := 6, cells := 4, slots := 20, locals := 130 } : Room) (s.setVm s.vm) m #[(.ref a1)] below meth c s₁ [] 0 0 := Stand.of_body Bd
  have e0 : s₁.heap = h0 := by rw [← hh, Bd.state]; rfl
  have N0 := Fr.nil n0
  have hS : s.Since s.vm 0 := (State.WarmedH.refl s).since 0
  have hk : 0 ≤ h0.size := Nat.zero_le _
  have CR : CHr Z EL s.vm s.heap s.vm h0 := by rw [hh]; exact CHr.refl CH0
  have hEL := ew_of hw
  have hwS := ws_of hw
  have ef : entryFrame m #[(.ref a1)] 1 = (mkF m 0 #[.val (.ref a1)] []) := by first | rfl | (simp [entryFrame, mkF, argsToLocals, Value.category, maxLocals]; done)
  show Go p e below (EndW EL Z (fun v h L => ∃ r : Addr, v = some (.ref r) ∧ Fr n0 L ∧ Keep h0 h [] ∧ StrAt Z h r []) s 4 20) (s₁.setTop (entryFrame m #[(.ref a1)] 1))
  rw [ef]
  show Go p e below _ (s₁.setTop (mkF m 0 #[.val (.ref a1)] []))
  have K0 : Keep h0 h0 [] := Keep.refl _ _
  show Go p e below _ (s₁.setTop (mkF m 0 #[.val (.ref a1)] []))
  refine Go.by (fun t => XS.aloadN X0.here hx rfl (hb hby d8_0) rfl rfl) ?_
  show Go p e below _ (s₁.setTop (mkF m 1 #[.val (.ref a1)] [(.ref a1)]))
  obtain ⟨cu, T191, h191, k191, t_cu, kb_cu, X191, e191, E191, hS191, hk191, hZ191, hown191, E_cu, F_coder_cu, F_value_cu, V_t_cu, lt_cu, ltb_cu, CRn, Lit191, sf191, st191⟩ := ldcCH X0 hx hZ hown (hw _ (List.mem_of_getElem? (i := 38) rfl)) hwS e0 hS hk hEL (by decide) CR.1 (vs := [(.int (95 : Int32))]) (z := 1) (by decide) (by decide) rfl (g := (mkF m 1 #[.val (.ref a1)] [(.ref a1)])) rfl (hb hby d8_1) (n := 4) (by decide) (by decide) (by decide) (by decide)
  refine Go.by (fun t => st191 t) ?_
  replace CR := CR.trans CRn
  replace S_a1 := S_a1.ext E191
  replace Od := Od.ext E191
  replace Z0 := Nat.le_trans Z0 E191.1
  replace K0 := K0.ext E191
  clear CRn hS hk
  have hS := hS191
  have hk := hk191
  replace hZ := hZ191
  replace hown := hown191
  show Go p e below _ (T191.setTop (mkF m 3 #[.val (.ref a1)] [(.ref cu), (.ref a1)]))
  have S_cu : StrAt Z h191 cu [95] := ⟨t_cu, kb_cu, _, _, E_cu, F_value_cu, F_coder_cu, V_t_cu, Or.inl ⟨rfl, rfl, rfl, all1 (by decide)⟩, all1 (by decide), by decide⟩
  show Go p e below _ (T191.setTop (mkF m 3 #[.val (.ref a1)] [(.ref cu), (.ref a1)]))
  obtain ⟨cq192, kq192, q192a, q192b, q192c⟩ := isOf hZ e191 S_a1.exa
  obtain ⟨_, _, ⟨T192, L192, k192, n192⟩, -, X192, ⟨Lc192, hQ192, l192, y192, z192⟩, st192⟩ := X191.virtualBack hx (y := (⟨"java/lang/String", "startsWith", "(Ljava/lang/String;)Z"⟩ : MethodName)) (z := (⟨"java/lang/String", "startsWith", "(Ljava/lang/String;)Z"⟩ : MethodName)) hown (mvT hZ (hw _ (List.mem_of_getElem? (i := 41) rfl))) (mvT hZ (hw _ (List.mem_of_getElem? (i := 42) rfl))) (notFace_of_selects (args := #[]) (mvT hZ (hw _ (List.mem_of_getElem? (i := 44) rfl)))) (mvT hZ (hw _ (List.mem_of_getElem? (i := 44) rfl))) (mvT hZ (hw _ (List.mem_of_getElem? (i := 43) rfl))) (by decide) (backOf (W := 0) (rmSW1_0 l Z a0 hw [] a1 cu G1 h191 n0 Od O2 P5 S_a1 S_cu) hZ (hw _ (List.mem_of_getElem? (i := 45) rfl)) (hw _ (List.mem_of_getElem? (i := 6) rfl)) (by decide) (by decide)) q192a q192c (g := (mkF m 3 #[.val (.ref a1)] [(.ref cu), (.ref a1)])) rfl (by rw [hml]; rfl) (Steps.refl _) (argsL := [(.ref cu)]) (rest := []) (lenOf pd_8 rfl) rfl (by show 2 * 0 + _ ≤ _; exact Nat.le_of_eq rfl) (hb hby d8_3) (fun _ _ => ⟨rfl, e191, (by decide : 2 + 0 ≤ _), (by decide : 8 + 0 ≤ _)⟩)
  dsimp only [Pt.U, Pt.locs, Pt.cells, Pt.slots] at X192 l192 y192 z192 st192 hQ192
  subst l192 y192 z192
  obtain ⟨hv192, Nq192, e192⟩ := hQ192
  subst hv192
  have N192 := Fr.app N0 Nq192
  refine Go.by (fun t => st192.trans) ?_
  show Go p e below _ (T192.setTop (mkF m 6 #[.val (.ref a1)] [(.int (0 : Int32))]))
  refine Go.by (fun t => XS.ifYes X192.here hx rfl (pc0 := 6) (pc' := 17) rfl (hb hby d8_6) rfl ((if0 _ _).trans (teq (rfl : (0 : Int32) = (0 : Int32))).1) (by decide) (by decide)) ?_
  show Go p e below _ (T192.setTop (mkF m 17 #[.val (.ref a1)] []))
  show Go p e below _ (T192.setTop (mkF m 17 #[.val (.ref a1)] []))
  refine Go.by (fun t => XS.aloadN X192.here hx rfl (hb hby d8_17) rfl rfl) ?_
  show Go p e below _ (T192.setTop (mkF m 18 #[.val (.ref a1)] [(.ref a1)]))
  exact Go.ret1W X192 hS (by rw [e192]; exact hk) (by rw [e192]; exact CR) hZ hEL hx Bd.returns Bd.notSynchronized rfl (Or.inr (Or.inr (Or.inr (Or.inr ⟨rfl, rfl, rfl⟩)))) (hb hby d8_18) (by decide) (by decide) (by first | (rw [e192]; exact ⟨a1, rfl, N192, K0, S_a1⟩) | exact ⟨a1, rfl, N192, K0, S_a1⟩)
def Q_rmEN1 (Z : State) (a1 : Addr) (c0 : Int32) (G1 : Int32) (G3 : Value) (h0 : Heap) (n0 : Nat) : Option Value → Heap → List Loc → Prop := fun v h L => ∃ r : Addr, v = some (.ref r) ∧ Fr n0 L ∧ Keep h0 h [] ∧ StrAt Z h r (if c0 = 95 then [] else [c0])
set_option maxRecDepth 65536 in
set_option maxHeartbeats 40000000 in
theorem rmEN1 (l : Launch) (Z : State) (a0 : Array Value) (hw : ∀ d ∈ tables_1, d.before a0 Z = true) (ws : List Jvm.Cond) (a1 : Addr) (c0 : Int32) (G1 : Int32) (G3 : Value) (h0 : Heap) (n0 : Nat) (Z0 : n0 ≤ h0.size) (Od : Old Z n0 h0) (O2 : Sta Z Z.heap "java/lang/String" "COMPACT_STRINGS" "Z" (.int G1)) (P5 : ¬ (G1 = (0 : Int32))) (O4 : Sta Z Z.heap "jdk/internal/util/Preconditions" "SIOOBE_FORMATTER" "Ljava/util/function/BiFunction;" G3) (rG3 : G3.isRef = true) (S_a1 : StrAt Z h0 a1 [c0]) (hb0 : ¬ c0 < 0 ∧ ¬ (255 : Int32) < c0) :
    MetFree l (⟨"com/example/slicewright/slicewright/slicing/Occurrence", "elementName", "(Ljava/lang/String;)Ljava/lang/String;"⟩ : MethodName) (head1 (Jvm.Cond.code (⟨"com/example/slicewright/slicewright/slicing/Occurrence", "elementName", "(Ljava/lang/String;)Ljava/lang/String;"⟩ : MethodName) prog_32_method_3_code 1 (some (.object "java/lang/String")) :: ws) ({ frames := 6, cells := 4, slots := 20, locals := 130 } : Room)) (fun a U => a = #[(.ref a1)] ∧ Z.Warmed39 U.vm ∧ U.heap = h0 ∧ CHv Z EL U.vm h0) (fun _ _ _ _ _ => True) (fun _ U o U' => ∃ v L, o = .returned v ∧ Q_rmEN1 Z a1 c0 G1 G3 h0 n0 v U'.heap L ∧ CHr Z EL U.vm U.heap U'.vm U'.heap ∧ ReturnedEndW U o U' L ({ frames := 6, cells := 4, slots := 20, locals := 130 } : Room).cells ({ frames := 6, cells := 4, slots := 20, locals := 130 } : Room).slots) := by
  refine MetFree.of_bodySF (plainFor_of_name pn_2) hisR ?_
  intro p e s m args below meth c s₁ Bd hml0 hP hK
  obtain ⟨rfl, hZ, hh, CH0⟩ := hP
  have hx := Bd.exec
  have hby := Bd.bytes
  have hml : c.maxLocals = 1 := hml0
  have hown : s.vm.findClass "com/example/slicewright/slicewright/slicing/Occurrence" = some m.cls := findClass_of_methodNamed Bd.named
  have hnm := (name_of_methodNamed Bd.named Bd.method).1
  have X0 : Stand p l e ({ frames := 6, cells := 4, slots := 20, locals := 130 } : Room) (s.setVm s.vm) m #[(.ref a1)] below meth c s₁ [] 0 0 := Stand.of_body Bd
  have e0 : s₁.heap = h0 := by rw [← hh, Bd.state]; rfl
  have N0 := Fr.nil n0
  have hS : s.Since s.vm 0 := (State.WarmedH.refl s).since 0
  have hk : 0 ≤ h0.size := Nat.zero_le _
  have CR : CHr Z EL s.vm s.heap s.vm h0 := by rw [hh]; exact CHr.refl CH0
  have hEL := ew_of hw
  have hwS := ws_of hw
  have ef : entryFrame m #[(.ref a1)] 1 = (mkF m 0 #[.val (.ref a1)] []) := by first | rfl | (simp [entryFrame, mkF, argsToLocals, Value.category, maxLocals]; done)
  show Go p e below (EndW EL Z (fun v h L => ∃ r : Addr, v = some (.ref r) ∧ Fr n0 L ∧ Keep h0 h [] ∧ StrAt Z h r (if c0 = 95 then [] else [c0])) s 4 20) (s₁.setTop (entryFrame m #[(.ref a1)] 1))
  rw [ef]
  show Go p e below _ (s₁.setTop (mkF m 0 #[.val (.ref a1)] []))
  have K0 : Keep h0 h0 [] := Keep.refl _ _
  show Go p e below _ (s₁.setTop (mkF m 0 #[.val (.ref a1)] []))
  refine Go.by (fun t => XS.aloadN X0.here hx rfl (hb hby d8_0) rfl rfl) ?_
  show Go p e below _ (s₁.setTop (mkF m 1 #[.val (.ref a1)] [(.ref a1)]))
  obtain ⟨cu, T193, h193, k193, t_cu, kb_cu, X193, e193, E193, hS193, hk193, hZ193, hown193, E_cu, F_coder_cu, F_value_cu, V_t_cu, lt_cu, ltb_cu, CRn, Lit193, sf193, st193⟩ := ldcCH X0 hx hZ hown (hw _ (List.mem_of_getElem? (i := 38) rfl)) hwS e0 hS hk hEL (by decide) CR.1 (vs := [(.int (95 : Int32))]) (z := 1) (by decide) (by decide) rfl (g := (mkF m 1 #[.val (.ref a1)] [(.ref a1)])) rfl (hb hby d8_1) (n := 4) (by decide) (by decide) (by decide) (by decide)
  refine Go.by (fun t => st193 t) ?_
  replace CR := CR.trans CRn
  replace S_a1 := S_a1.ext E193
  replace Od := Od.ext E193
  replace Z0 := Nat.le_trans Z0 E193.1
  replace K0 := K0.ext E193
  clear CRn hS hk
  have hS := hS193
  have hk := hk193
  replace hZ := hZ193
  replace hown := hown193
  show Go p e below _ (T193.setTop (mkF m 3 #[.val (.ref a1)] [(.ref cu), (.ref a1)]))
  have S_cu : StrAt Z h193 cu [95] := ⟨t_cu, kb_cu, _, _, E_cu, F_value_cu, F_coder_cu, V_t_cu, Or.inl ⟨rfl, rfl, rfl, all1 (by decide)⟩, all1 (by decide), by decide⟩
  show Go p e below _ (T193.setTop (mkF m 3 #[.val (.ref a1)] [(.ref cu), (.ref a1)]))
  obtain ⟨cq194, kq194, q194a, q194b, q194c⟩ := isOf hZ e193 S_a1.exa
  obtain ⟨_, _, ⟨T194, L194, k194, n194⟩, -, X194, ⟨Lc194, hQ194, l194, y194, z194⟩, st194⟩ := X193.virtualBack hx (y := (⟨"java/lang/String", "startsWith", "(Ljava/lang/String;)Z"⟩ : MethodName)) (z := (⟨"java/lang/String", "startsWith", "(Ljava/lang/String;)Z"⟩ : MethodName)) hown (mvT hZ (hw _ (List.mem_of_getElem? (i := 41) rfl))) (mvT hZ (hw _ (List.mem_of_getElem? (i := 42) rfl))) (notFace_of_selects (args := #[]) (mvT hZ (hw _ (List.mem_of_getElem? (i := 44) rfl)))) (mvT hZ (hw _ (List.mem_of_getElem? (i := 44) rfl))) (mvT hZ (hw _ (List.mem_of_getElem? (i := 43) rfl))) (by decide) (backOf (W := 0) (rmSW1_1 l Z a0 hw [] a1 cu c0 G1 h193 n0 Od O2 P5 S_a1 S_cu hb0.1) hZ (hw _ (List.mem_of_getElem? (i := 45) rfl)) (hw _ (List.mem_of_getElem? (i := 6) rfl)) (by decide) (by decide)) q194a q194c (g := (mkF m 3 #[.val (.ref a1)] [(.ref cu), (.ref a1)])) rfl (by rw [hml]; rfl) (Steps.refl _) (argsL := [(.ref cu)]) (rest := []) (lenOf pd_8 rfl) rfl (by show 2 * 0 + _ ≤ _; exact Nat.le_of_eq rfl) (hb hby d8_3) (fun _ _ => ⟨rfl, e193, (by decide : 2 + 0 ≤ _), (by decide : 8 + 0 ≤ _)⟩)
  dsimp only [Pt.U, Pt.locs, Pt.cells, Pt.slots] at X194 l194 y194 z194 st194 hQ194
  subst l194 y194 z194
  obtain ⟨hv194, Nq194, e194⟩ := hQ194
  by_cases hq : c0 = 95
  ·
    rw [if_pos hq] at hv194
    subst hv194
    have N194 := Fr.app N0 Nq194
    refine Go.by (fun t => st194.trans) ?_
    show Go p e below _ (T194.setTop (mkF m 6 #[.val (.ref a1)] [(.int (1 : Int32))]))
    refine Go.by (fun t => XS.ifNo X194.here hx rfl (hb hby d8_6) rfl ((if0 _ _).trans (feq (by decide : ¬ ((1 : Int32) = (0 : Int32)))).1)) ?_
    show Go p e below _ (T194.setTop (mkF m 9 #[.val (.ref a1)] []))
    show Go p e below _ (T194.setTop (mkF m 9 #[.val (.ref a1)] []))
    refine Go.by (fun t => XS.aloadN X194.here hx rfl (hb hby d8_9) rfl rfl) ?_
    show Go p e below _ (T194.setTop (mkF m 10 #[.val (.ref a1)] [(.ref a1)]))
    refine Go.by (fun t => XS.iconst X194.here hx rfl (hb hby d8_10)) ?_
    show Go p e below _ (T194.setTop (mkF m 11 #[.val (.ref a1)] [(.int (1 : Int32)), (.ref a1)]))
    obtain ⟨cq195, kq195, q195a, q195b, q195c⟩ := isOf (s := s.setVm T193.vm) hZ e194 S_a1.exa
    obtain ⟨_, _, ⟨T195, L195, k195, n195⟩, -, X195, hSn, hgn, ⟨Lc195, hQ195, l195, y195, z195, CRn⟩, st195⟩ := X194.virtualBackS hx (y := (⟨"java/lang/String", "substring", "(I)Ljava/lang/String;"⟩ : MethodName)) (z := (⟨"java/lang/String", "substring", "(I)Ljava/lang/String;"⟩ : MethodName)) hown (mvT (s := s.setVm T193.vm) hZ (hw _ (List.mem_of_getElem? (i := 76) rfl))) (mvT (s := s.setVm T193.vm) hZ (hw _ (List.mem_of_getElem? (i := 77) rfl))) (notFace_of_selects (args := #[]) (mvT (s := s.setVm T193.vm) hZ (hw _ (List.mem_of_getElem? (i := 79) rfl)))) (mvT (s := s.setVm T193.vm) hZ (hw _ (List.mem_of_getElem? (i := 79) rfl))) (mvT (s := s.setVm T193.vm) hZ (hw _ (List.mem_of_getElem? (i := 78) rfl))) (by decide) (backOfSH (W := 0) (rmSB1_1 l Z a0 hw [] a1 c0 G1 G3 h193 n0 Z0 Od O2 P5 O4 rG3 S_a1 hb0) hZ (hw _ (List.mem_of_getElem? (i := 80) rfl)) (hw _ (List.mem_of_getElem? (i := 6) rfl)) (by decide) (by decide) hEL CR.1) q195a q195c (g := (mkF m 11 #[.val (.ref a1)] [(.int (1 : Int32)), (.ref a1)])) rfl (by rw [hml]; rfl) (Steps.refl _) (argsL := [(.int (1 : Int32))]) (rest := []) (lenOf pd_9 rfl) rfl (by show 2 * 0 + _ ≤ _; exact Nat.le_of_eq rfl) (hb hby d8_11) (fun _ _ => ⟨rfl, e194, (by decide : 2 + 2 ≤ _), (by decide : 8 + 4 ≤ _)⟩)
    dsimp only [Pt.U, Pt.locs, Pt.cells, Pt.slots] at X195 l195 y195 z195 st195 hQ195 hSn hgn CRn
    subst l195 y195 z195
    rw [e194] at hgn
    obtain ⟨X195', hS195, hZ195, hown195⟩ := rebS hS hk X195 hSn hgn hZ hown
    obtain ⟨r, rfl, Nq195, K195, S_r⟩ := hQ195
    have N195 := Fr.app N194 Nq195
    refine Go.by (fun t => st195.trans) ?_
    replace CR := CR.trans CRn
    replace Z0 := Nat.le_trans Z0 K195.1
    replace K0 := K0.trans K195 all0
    clear CRn hS hk hSn
    have hS := hS195
    have hk : T195.heap.size ≤ T195.heap.size := Nat.le_refl _
    replace hZ := hZ195
    replace hown := hown195
    show Go p e below _ (T195.setTop (mkF m 14 #[.val (.ref a1)] [(.ref r)]))
    show Go p e below _ (T195.setTop (mkF m 14 #[.val (.ref a1)] [(.ref r)]))
    refine Go.by (fun t => XS.goto X195'.here hx rfl (pc0 := 14) (pc' := 18) rfl (hb hby d8_14) (by decide) (by decide)) ?_
    show Go p e below _ (T195.setTop (mkF m 18 #[.val (.ref a1)] [(.ref r)]))
    exact Go.ret1W X195' hS hk CR hZ hEL hx Bd.returns Bd.notSynchronized rfl (Or.inr (Or.inr (Or.inr (Or.inr ⟨rfl, rfl, rfl⟩)))) (hb hby d8_18) (by decide) (by decide) ⟨r, rfl, N195, K0, by rw [if_pos hq]; exact S_r⟩
  ·
    rw [if_neg hq] at hv194
    subst hv194
    have N194 := Fr.app N0 Nq194
    refine Go.by (fun t => st194.trans) ?_
    show Go p e below _ (T194.setTop (mkF m 6 #[.val (.ref a1)] [(.int (0 : Int32))]))
    refine Go.by (fun t => XS.ifYes X194.here hx rfl (pc0 := 6) (pc' := 17) rfl (hb hby d8_6) rfl ((if0 _ _).trans (teq (rfl : (0 : Int32) = (0 : Int32))).1) (by decide) (by decide)) ?_
    show Go p e below _ (T194.setTop (mkF m 17 #[.val (.ref a1)] []))
    show Go p e below _ (T194.setTop (mkF m 17 #[.val (.ref a1)] []))
    refine Go.by (fun t => XS.aloadN X194.here hx rfl (hb hby d8_17) rfl rfl) ?_
    show Go p e below _ (T194.setTop (mkF m 18 #[.val (.ref a1)] [(.ref a1)]))
    exact Go.ret1W X194 hS (by rw [e194]; exact hk) (by rw [e194]; exact CR) hZ hEL hx Bd.returns Bd.notSynchronized rfl (Or.inr (Or.inr (Or.inr (Or.inr ⟨rfl, rfl, rfl⟩)))) (hb hby d8_18) (by decide) (by decide) (by first | (rw [e194]; exact ⟨a1, rfl, N194, K0, by rw [if_neg hq]; exact S_a1⟩) | exact ⟨a1, rfl, N194, K0, by rw [if_neg hq]; exact S_a1⟩)
def Q_rmEN2 (Z : State) (a1 : Addr) (c0 c1 : Int32) (G1 : Int32) (G3 : Value) (h0 : Heap) (n0 : Nat) : Option Value → Heap → List Loc → Prop := fun v h L => ∃ r : Addr, v = some (.ref r) ∧ Fr n0 L ∧ Keep h0 h [] ∧ StrAt Z h r (if c0 = 95 then [c1] else [c0, c1])
set_option maxRecDepth 65536 in
set_option maxHeartbeats 40000000 in
theorem rmEN2 (l : Launch) (Z : State) (a0 : Array Value) (hw : ∀ d ∈ tables_1, d.before a0 Z = true) (ws : List Jvm.Cond) (a1 : Addr) (c0 c1 : Int32) (G1 : Int32) (G3 : Value) (h0 : Heap) (n0 : Nat) (Z0 : n0 ≤ h0.size) (Od : Old Z n0 h0) (O2 : Sta Z Z.heap "java/lang/String" "COMPACT_STRINGS" "Z" (.int G1)) (P5 : ¬ (G1 = (0 : Int32))) (O4 : Sta Z Z.heap "jdk/internal/util/Preconditions" "SIOOBE_FORMATTER" "Ljava/util/function/BiFunction;" G3) (rG3 : G3.isRef = true) (S_a1 : StrAt Z h0 a1 [c0, c1]) (hb0 : ¬ c0 < 0 ∧ ¬ (255 : Int32) < c0) (hb1 : ¬ c1 < 0 ∧ ¬ (255 : Int32) < c1) :
    MetFree l (⟨"com/example/slicewright/slicewright/slicing/Occurrence", "elementName", "(Ljava/lang/String;)Ljava/lang/String;"⟩ : MethodName) (head1 (Jvm.Cond.code (⟨"com/example/slicewright/slicewright/slicing/Occurrence", "elementName", "(Ljava/lang/String;)Ljava/lang/String;"⟩ : MethodName) prog_32_method_3_code 1 (some (.object "java/lang/String")) :: ws) ({ frames := 6, cells := 4, slots := 20, locals := 130 } : Room)) (fun a U => a = #[(.ref a1)] ∧ Z.Warmed39 U.vm ∧ U.heap = h0 ∧ CHv Z EL U.vm h0) (fun _ _ _ _ _ => True) (fun _ U o U' => ∃ v L, o = .returned v ∧ Q_rmEN2 Z a1 c0 c1 G1 G3 h0 n0 v U'.heap L ∧ CHr Z EL U.vm U.heap U'.vm U'.heap ∧ ReturnedEndW U o U' L ({ frames := 6, cells := 4, slots := 20, locals := 130 } : Room).cells ({ frames := 6, cells := 4, slots := 20, locals := 130 } : Room).slots) := by
  refine MetFree.of_bodySF (plainFor_of_name pn_2) hisR ?_
  intro p e s m args below meth c s₁ Bd hml0 hP hK
  obtain ⟨rfl, hZ, hh, CH0⟩ := hP
  have hx := Bd.exec
  have hby := Bd.bytes
  have hml : c.maxLocals = 1 := hml0
  have hown : s.vm.findClass "com/example/slicewright/slicewright/slicing/Occurrence" = some m.cls := findClass_of_methodNamed Bd.named
  have hnm := (name_of_methodNamed Bd.named Bd.method).1
  have X0 : Stand p l e ({ frames := 6, cells := 4, slots := 20, locals := 130 } : Room) (s.setVm s.vm) m #[(.ref a1)] below meth c s₁ [] 0 0 := Stand.of_body Bd
  have e0 : s₁.heap = h0 := by rw [← hh, Bd.state]; rfl
  have N0 := Fr.nil n0
  have hS : s.Since s.vm 0 := (State.WarmedH.refl s).since 0
  have hk : 0 ≤ h0.size := Nat.zero_le _
  have CR : CHr Z EL s.vm s.heap s.vm h0 := by rw [hh]; exact CHr.refl CH0
  have hEL := ew_of hw
  have hwS := ws_of hw
  have ef : entryFrame m #[(.ref a1)] 1 = (mkF m 0 #[.val (.ref a1)] []) := by first | rfl | (simp [entryFrame, mkF, argsToLocals, Value.category, maxLocals]; done)
  show Go p e below (EndW EL Z (fun v h L => ∃ r : Addr, v = some (.ref r) ∧ Fr n0 L ∧ Keep h0 h [] ∧ StrAt Z h r (if c0 = 95 then [c1] else [c0, c1])) s 4 20) (s₁.setTop (entryFrame m #[(.ref a1)] 1))
  rw [ef]
  show Go p e below _ (s₁.setTop (mkF m 0 #[.val (.ref a1)] []))
  have K0 : Keep h0 h0 [] := Keep.refl _ _
  show Go p e below _ (s₁.setTop (mkF m 0 #[.val (.ref a1)] []))
  refine Go.by (fun t => XS.aloadN X0.here hx rfl (hb hby d8_0) rfl rfl) ?_
  show Go p e below _ (s₁.setTop (mkF m 1 #[.val (.ref a1)] [(.ref a1)]))
  obtain ⟨cu, T196, h196, k196, t_cu, kb_cu, X196, e196, E196, hS196, hk196, hZ196, hown196, E_cu, F_coder_cu, F_value_cu, V_t_cu, lt_cu, ltb_cu, CRn, Lit196, sf196, st196⟩ := ldcCH X0 hx hZ hown (hw _ (List.mem_of_getElem? (i := 38) rfl)) hwS e0 hS hk hEL (by decide) CR.1 (vs := [(.int (95 : Int32))]) (z := 1) (by decide) (by decide) rfl (g := (mkF m 1 #[.val (.ref a1)] [(.ref a1)])) rfl (hb hby d8_1) (n := 4) (by decide) (by decide) (by decide) (by decide)
  refine Go.by (fun t => st196 t) ?_
  replace CR := CR.trans CRn
  replace S_a1 := S_a1.ext E196
  replace Od := Od.ext E196
  replace Z0 := Nat.le_trans Z0 E196.1
  replace K0 := K0.ext E196
  clear CRn hS hk
  have hS := hS196
  have hk := hk196
  replace hZ := hZ196
  replace hown := hown196
  show Go p e below _ (T196.setTop (mkF m 3 #[.val (.ref a1)] [(.ref cu), (.ref a1)]))
  have S_cu : StrAt Z h196 cu [95] := ⟨t_cu, kb_cu, _, _, E_cu, F_value_cu, F_coder_cu, V_t_cu, Or.inl ⟨rfl, rfl, rfl, all1 (by decide)⟩, all1 (by decide), by decide⟩
  show Go p e below _ (T196.setTop (mkF m 3 #[.val (.ref a1)] [(.ref cu), (.ref a1)]))
  obtain ⟨cq197, kq197, q197a, q197b, q197c⟩ := isOf hZ e196 S_a1.exa
  obtain ⟨_, _, ⟨T197, L197, k197, n197⟩, -, X197, ⟨Lc197, hQ197, l197, y197, z197⟩, st197⟩ := X196.virtualBack hx (y := (⟨"java/lang/String", "startsWith", "(Ljava/lang/String;)Z"⟩ : MethodName)) (z := (⟨"java/lang/String", "startsWith", "(Ljava/lang/String;)Z"⟩ : MethodName)) hown (mvT hZ (hw _ (List.mem_of_getElem? (i := 41) rfl))) (mvT hZ (hw _ (List.mem_of_getElem? (i := 42) rfl))) (notFace_of_selects (args := #[]) (mvT hZ (hw _ (List.mem_of_getElem? (i := 44) rfl)))) (mvT hZ (hw _ (List.mem_of_getElem? (i := 44) rfl))) (mvT hZ (hw _ (List.mem_of_getElem? (i := 43) rfl))) (by decide) (backOf (W := 0) (rmSW1_2 l Z a0 hw [] a1 cu c0 c1 G1 h196 n0 Od O2 P5 S_a1 S_cu hb0.1) hZ (hw _ (List.mem_of_getElem? (i := 45) rfl)) (hw _ (List.mem_of_getElem? (i := 6) rfl)) (by decide) (by decide)) q197a q197c (g := (mkF m 3 #[.val (.ref a1)] [(.ref cu), (.ref a1)])) rfl (by rw [hml]; rfl) (Steps.refl _) (argsL := [(.ref cu)]) (rest := []) (lenOf pd_8 rfl) rfl (by show 2 * 0 + _ ≤ _; exact Nat.le_of_eq rfl) (hb hby d8_3) (fun _ _ => ⟨rfl, e196, (by decide : 2 + 0 ≤ _), (by decide : 8 + 0 ≤ _)⟩)
  dsimp only [Pt.U, Pt.locs, Pt.cells, Pt.slots] at X197 l197 y197 z197 st197 hQ197
  subst l197 y197 z197
  obtain ⟨hv197, Nq197, e197⟩ := hQ197
  by_cases hq : c0 = 95
  ·
    rw [if_pos hq] at hv197
    subst hv197
    have N197 := Fr.app N0 Nq197
    refine Go.by (fun t => st197.trans) ?_
    show Go p e below _ (T197.setTop (mkF m 6 #[.val (.ref a1)] [(.int (1 : Int32))]))
    refine Go.by (fun t => XS.ifNo X197.here hx rfl (hb hby d8_6) rfl ((if0 _ _).trans (feq (by decide : ¬ ((1 : Int32) = (0 : Int32)))).1)) ?_
    show Go p e below _ (T197.setTop (mkF m 9 #[.val (.ref a1)] []))
    show Go p e below _ (T197.setTop (mkF m 9 #[.val (.ref a1)] []))
    refine Go.by (fun t => XS.aloadN X197.here hx rfl (hb hby d8_9) rfl rfl) ?_
    show Go p e below _ (T197.setTop (mkF m 10 #[.val (.ref a1)] [(.ref a1)]))
    refine Go.by (fun t => XS.iconst X197.here hx rfl (hb hby d8_10)) ?_
    show Go p e below _ (T197.setTop (mkF m 11 #[.val (.ref a1)] [(.int (1 : Int32)), (.ref a1)]))
    obtain ⟨cq198, kq198, q198a, q198b, q198c⟩ := isOf (s := s.setVm T196.vm) hZ e197 S_a1.exa
    obtain ⟨_, _, ⟨T198, L198, k198, n198⟩, -, X198, hSn, hgn, ⟨Lc198, hQ198, l198, y198, z198, CRn⟩, st198⟩ := X197.virtualBackS hx (y := (⟨"java/lang/String", "substring", "(I)Ljava/lang/String;"⟩ : MethodName)) (z := (⟨"java/lang/String", "substring", "(I)Ljava/lang/String;"⟩ : MethodName)) hown (mvT (s := s.setVm T196.vm) hZ (hw _ (List.mem_of_getElem? (i := 76) rfl))) (mvT (s := s.setVm T196.vm) hZ (hw _ (List.mem_of_getElem? (i := 77) rfl))) (notFace_of_selects (args := #[]) (mvT (s := s.setVm T196.vm) hZ (hw _ (List.mem_of_getElem? (i := 79) rfl)))) (mvT (s := s.setVm T196.vm) hZ (hw _ (List.mem_of_getElem? (i := 79) rfl))) (mvT (s := s.setVm T196.vm) hZ (hw _ (List.mem_of_getElem? (i := 78) rfl))) (by decide) (backOfSH (W := 0) (rmSB1_2 l Z a0 hw [] a1 c0 c1 G1 G3 h196 n0 Z0 Od O2 P5 O4 rG3 S_a1 hb0 hb1) hZ (hw _ (List.mem_of_getElem? (i := 80) rfl)) (hw _ (List.mem_of_getElem? (i := 6) rfl)) (by decide) (by decide) hEL CR.1) q198a q198c (g := (mkF m 11 #[.val (.ref a1)] [(.int (1 : Int32)), (.ref a1)])) rfl (by rw [hml]; rfl) (Steps.refl _) (argsL := [(.int (1 : Int32))]) (rest := []) (lenOf pd_9 rfl) rfl (by show 2 * 0 + _ ≤ _; exact Nat.le_of_eq rfl) (hb hby d8_11) (fun _ _ => ⟨rfl, e197, (by decide : 2 + 2 ≤ _), (by decide : 8 + 5 ≤ _)⟩)
    dsimp only [Pt.U, Pt.locs, Pt.cells, Pt.slots] at X198 l198 y198 z198 st198 hQ198 hSn hgn CRn
    subst l198 y198 z198
    rw [e197] at hgn
    obtain ⟨X198', hS198, hZ198, hown198⟩ := rebS hS hk X198 hSn hgn hZ hown
    obtain ⟨r, rfl, Nq198, K198, S_r⟩ := hQ198
    have N198 := Fr.app N197 Nq198
    refine Go.by (fun t => st198.trans) ?_
    replace CR := CR.trans CRn
    replace Z0 := Nat.le_trans Z0 K198.1
    replace K0 := K0.trans K198 all0
    clear CRn hS hk hSn
    have hS := hS198
    have hk : T198.heap.size ≤ T198.heap.size := Nat.le_refl _
    replace hZ := hZ198
    replace hown := hown198
    show Go p e below _ (T198.setTop (mkF m 14 #[.val (.ref a1)] [(.ref r)]))
    show Go p e below _ (T198.setTop (mkF m 14 #[.val (.ref a1)] [(.ref r)]))
    refine Go.by (fun t => XS.goto X198'.here hx rfl (pc0 := 14) (pc' := 18) rfl (hb hby d8_14) (by decide) (by decide)) ?_
    show Go p e below _ (T198.setTop (mkF m 18 #[.val (.ref a1)] [(.ref r)]))
    exact Go.ret1W X198' hS hk CR hZ hEL hx Bd.returns Bd.notSynchronized rfl (Or.inr (Or.inr (Or.inr (Or.inr ⟨rfl, rfl, rfl⟩)))) (hb hby d8_18) (by decide) (by decide) ⟨r, rfl, N198, K0, by rw [if_pos hq]; exact S_r⟩
  ·
    rw [if_neg hq] at hv197
    subst hv197
    have N197 := Fr.app N0 Nq197
    refine Go.by (fun t => st197.trans) ?_
    show Go p e below _ (T197.setTop (mkF m 6 #[.val (.ref a1)] [(.int (0 : Int32))]))
    refine Go.by (fun t => XS.ifYes X197.here hx rfl (pc0 := 6) (pc' := 17) rfl (hb hby d8_6) rfl ((if0 _ _).trans (teq (rfl : (0 : Int32) = (0 : Int32))).1) (by decide) (by decide)) ?_
    show Go p e below _ (T197.setTop (mkF m 17 #[.val (.ref a1)] []))
    show Go p e below _ (T197.setTop (mkF m 17 #[.val (.ref a1)] []))
    refine Go.by (fun t => XS.aloadN X197.here hx rfl (hb hby d8_17) rfl rfl) ?_
    show Go p e below _ (T197.setTop (mkF m 18 #[.val (.ref a1)] [(.ref a1)]))
    exact Go.ret1W X197 hS (by rw [e197]; exact hk) (by rw [e197]; exact CR) hZ hEL hx Bd.returns Bd.notSynchronized rfl (Or.inr (Or.inr (Or.inr (Or.inr ⟨rfl, rfl, rfl⟩)))) (hb hby d8_18) (by decide) (by decide) (by first | (rw [e197]; exact ⟨a1, rfl, N197, K0, by rw [if_neg hq]; exact S_a1⟩) | exact ⟨a1, rfl, N197, K0, by rw [if_neg hq]; exact S_a1⟩)
def Q_rmEN3 (Z : State) (a1 : Addr) (c0 c1 c2 : Int32) (G1 : Int32) (G3 : Value) (h0 : Heap) (n0 : Nat) : Option Value → Heap → List Loc → Prop := fun v h L => ∃ r : Addr, v = some (.ref r) ∧ Fr n0 L ∧ Keep h0 h [] ∧ StrAt Z h r (if c0 = 95 then [c1, c2] else [c0, c1, c2])
set_option maxRecDepth 65536 in
set_option maxHeartbeats 40000000 in
theorem rmEN3 (l : Launch) (Z : State) (a0 : Array Value) (hw : ∀ d ∈ tables_1, d.before a0 Z = true) (ws : List Jvm.Cond) (a1 : Addr) (c0 c1 c2 : Int32) (G1 : Int32) (G3 : Value) (h0 : Heap) (n0 : Nat) (Z0 : n0 ≤ h0.size) (Od : Old Z n0 h0) (O2 : Sta Z Z.heap "java/lang/String" "COMPACT_STRINGS" "Z" (.int G1)) (P5 : ¬ (G1 = (0 : Int32))) (O4 : Sta Z Z.heap "jdk/internal/util/Preconditions" "SIOOBE_FORMATTER" "Ljava/util/function/BiFunction;" G3) (rG3 : G3.isRef = true) (S_a1 : StrAt Z h0 a1 [c0, c1, c2]) (hb0 : ¬ c0 < 0 ∧ ¬ (255 : Int32) < c0) (hb1 : ¬ c1 < 0 ∧ ¬ (255 : Int32) < c1) (hb2 : ¬ c2 < 0 ∧ ¬ (255 : Int32) < c2) :
    MetFree l (⟨"com/example/slicewright/slicewright/slicing/Occurrence", "elementName", "(Ljava/lang/String;)Ljava/lang/String;"⟩ : MethodName) (head1 (Jvm.Cond.code (⟨"com/example/slicewright/slicewright/slicing/Occurrence", "elementName", "(Ljava/lang/String;)Ljava/lang/String;"⟩ : MethodName) prog_32_method_3_code 1 (some (.object "java/lang/String")) :: ws) ({ frames := 6, cells := 4, slots := 20, locals := 130 } : Room)) (fun a U => a = #[(.ref a1)] ∧ Z.Warmed39 U.vm ∧ U.heap = h0 ∧ CHv Z EL U.vm h0) (fun _ _ _ _ _ => True) (fun _ U o U' => ∃ v L, o = .returned v ∧ Q_rmEN3 Z a1 c0 c1 c2 G1 G3 h0 n0 v U'.heap L ∧ CHr Z EL U.vm U.heap U'.vm U'.heap ∧ ReturnedEndW U o U' L ({ frames := 6, cells := 4, slots := 20, locals := 130 } : Room).cells ({ frames := 6, cells := 4, slots := 20, locals := 130 } : Room).slots) := by
  refine MetFree.of_bodySF (plainFor_of_name pn_2) hisR ?_
  intro p e s m args below meth c s₁ Bd hml0 hP hK
  obtain ⟨rfl, hZ, hh, CH0⟩ := hP
  have hx := Bd.exec
  have hby := Bd.bytes
  have hml : c.maxLocals = 1 := hml0
  have hown : s.vm.findClass "com/example/slicewright/slicewright/slicing/Occurrence" = some m.cls := findClass_of_methodNamed Bd.named
  have hnm := (name_of_methodNamed Bd.named Bd.method).1
  have X0 : Stand p l e ({ frames := 6, cells := 4, slots := 20, locals := 130 } : Room) (s.setVm s.vm) m #[(.ref a1)] below meth c s₁ [] 0 0 := Stand.of_body Bd
  have e0 : s₁.heap = h0 := by rw [← hh, Bd.state]; rfl
  have N0 := Fr.nil n0
  have hS : s.Since s.vm 0 := (State.WarmedH.refl s).since 0
  have hk : 0 ≤ h0.size := Nat.zero_le _
  have CR : CHr Z EL s.vm s.heap s.vm h0 := by rw [hh]; exact CHr.refl CH0
  have hEL := ew_of hw
  have hwS := ws_of hw
  have ef : entryFrame m #[(.ref a1)] 1 = (mkF m 0 #[.val (.ref a1)] []) := by first | rfl | (simp [entryFrame, mkF, argsToLocals, Value.category, maxLocals]; done)
  show Go p e below (EndW EL Z (fun v h L => ∃ r : Addr, v = some (.ref r) ∧ Fr n0 L ∧ Keep h0 h [] ∧ StrAt Z h r (if c0 = 95 then [c1, c2] else [c0, c1, c2])) s 4 20) (s₁.setTop (entryFrame m #[(.ref a1)] 1))
  rw [ef]
  show Go p e below _ (s₁.setTop (mkF m 0 #[.val (.ref a1)] []))
  have K0 : Keep h0 h0 [] := Keep.refl _ _
  show Go p e below _ (s₁.setTop (mkF m 0 #[.val (.ref a1)] []))
  refine Go.by (fun t => XS.aloadN X0.here hx rfl (hb hby d8_0) rfl rfl) ?_
  show Go p e below _ (s₁.setTop (mkF m 1 #[.val (.ref a1)] [(.ref a1)]))
  obtain ⟨cu, T199, h199, k199, t_cu, kb_cu, X199, e199, E199, hS199, hk199, hZ199, hown199, E_cu, F_coder_cu, F_value_cu, V_t_cu, lt_cu, ltb_cu, CRn, Lit199, sf199, st199⟩ := ldcCH X0 hx hZ hown (hw _ (List.mem_of_getElem? (i := 38) rfl)) hwS e0 hS hk hEL (by decide) CR.1 (vs := [(.int (95 : Int32))]) (z := 1) (by decide) (by decide) rfl (g := (mkF m 1 #[.val (.ref a1)] [(.ref a1)])) rfl (hb hby d8_1) (n := 4) (by decide) (by decide) (by decide) (by decide)
  refine Go.by (fun t => st199 t) ?_
  replace CR := CR.trans CRn
  replace S_a1 := S_a1.ext E199
  replace Od := Od.ext E199
  replace Z0 := Nat.le_trans Z0 E199.1
  replace K0 := K0.ext E199
  clear CRn hS hk
  have hS := hS199
  have hk := hk199
  replace hZ := hZ199
  replace hown := hown199
  show Go p e below _ (T199.setTop (mkF m 3 #[.val (.ref a1)] [(.ref cu), (.ref a1)]))
  have S_cu : StrAt Z h199 cu [95] := ⟨t_cu, kb_cu, _, _, E_cu, F_value_cu, F_coder_cu, V_t_cu, Or.inl ⟨rfl, rfl, rfl, all1 (by decide)⟩, all1 (by decide), by decide⟩
  show Go p e below _ (T199.setTop (mkF m 3 #[.val (.ref a1)] [(.ref cu), (.ref a1)]))
  obtain ⟨cq200, kq200, q200a, q200b, q200c⟩ := isOf hZ e199 S_a1.exa
  obtain ⟨_, _, ⟨T200, L200, k200, n200⟩, -, X200, ⟨Lc200, hQ200, l200, y200, z200⟩, st200⟩ := X199.virtualBack hx (y := (⟨"java/lang/String", "startsWith", "(Ljava/lang/String;)Z"⟩ : MethodName)) (z := (⟨"java/lang/String", "startsWith", "(Ljava/lang/String;)Z"⟩ : MethodName)) hown (mvT hZ (hw _ (List.mem_of_getElem? (i := 41) rfl))) (mvT hZ (hw _ (List.mem_of_getElem? (i := 42) rfl))) (notFace_of_selects (args := #[]) (mvT hZ (hw _ (List.mem_of_getElem? (i := 44) rfl)))) (mvT hZ (hw _ (List.mem_of_getElem? (i := 44) rfl))) (mvT hZ (hw _ (List.mem_of_getElem? (i := 43) rfl))) (by decide) (backOf (W := 0) (rmSW1_3 l Z a0 hw [] a1 cu c0 c1 c2 G1 h199 n0 Od O2 P5 S_a1 S_cu hb0.1) hZ (hw _ (List.mem_of_getElem? (i := 45) rfl)) (hw _ (List.mem_of_getElem? (i := 6) rfl)) (by decide) (by decide)) q200a q200c (g := (mkF m 3 #[.val (.ref a1)] [(.ref cu), (.ref a1)])) rfl (by rw [hml]; rfl) (Steps.refl _) (argsL := [(.ref cu)]) (rest := []) (lenOf pd_8 rfl) rfl (by show 2 * 0 + _ ≤ _; exact Nat.le_of_eq rfl) (hb hby d8_3) (fun _ _ => ⟨rfl, e199, (by decide : 2 + 0 ≤ _), (by decide : 8 + 0 ≤ _)⟩)
  dsimp only [Pt.U, Pt.locs, Pt.cells, Pt.slots] at X200 l200 y200 z200 st200 hQ200
  subst l200 y200 z200
  obtain ⟨hv200, Nq200, e200⟩ := hQ200
  by_cases hq : c0 = 95
  ·
    rw [if_pos hq] at hv200
    subst hv200
    have N200 := Fr.app N0 Nq200
    refine Go.by (fun t => st200.trans) ?_
    show Go p e below _ (T200.setTop (mkF m 6 #[.val (.ref a1)] [(.int (1 : Int32))]))
    refine Go.by (fun t => XS.ifNo X200.here hx rfl (hb hby d8_6) rfl ((if0 _ _).trans (feq (by decide : ¬ ((1 : Int32) = (0 : Int32)))).1)) ?_
    show Go p e below _ (T200.setTop (mkF m 9 #[.val (.ref a1)] []))
    show Go p e below _ (T200.setTop (mkF m 9 #[.val (.ref a1)] []))
    refine Go.by (fun t => XS.aloadN X200.here hx rfl (hb hby d8_9) rfl rfl) ?_
    show Go p e below _ (T200.setTop (mkF m 10 #[.val (.ref a1)] [(.ref a1)]))
    refine Go.by (fun t => XS.iconst X200.here hx rfl (hb hby d8_10)) ?_
    show Go p e below _ (T200.setTop (mkF m 11 #[.val (.ref a1)] [(.int (1 : Int32)), (.ref a1)]))
    obtain ⟨cq201, kq201, q201a, q201b, q201c⟩ := isOf (s := s.setVm T199.vm) hZ e200 S_a1.exa
    obtain ⟨_, _, ⟨T201, L201, k201, n201⟩, -, X201, hSn, hgn, ⟨Lc201, hQ201, l201, y201, z201, CRn⟩, st201⟩ := X200.virtualBackS hx (y := (⟨"java/lang/String", "substring", "(I)Ljava/lang/String;"⟩ : MethodName)) (z := (⟨"java/lang/String", "substring", "(I)Ljava/lang/String;"⟩ : MethodName)) hown (mvT (s := s.setVm T199.vm) hZ (hw _ (List.mem_of_getElem? (i := 76) rfl))) (mvT (s := s.setVm T199.vm) hZ (hw _ (List.mem_of_getElem? (i := 77) rfl))) (notFace_of_selects (args := #[]) (mvT (s := s.setVm T199.vm) hZ (hw _ (List.mem_of_getElem? (i := 79) rfl)))) (mvT (s := s.setVm T199.vm) hZ (hw _ (List.mem_of_getElem? (i := 79) rfl))) (mvT (s := s.setVm T199.vm) hZ (hw _ (List.mem_of_getElem? (i := 78) rfl))) (by decide) (backOfSH (W := 0) (rmSB1_3 l Z a0 hw [] a1 c0 c1 c2 G1 G3 h199 n0 Z0 Od O2 P5 O4 rG3 S_a1 hb0 hb1 hb2) hZ (hw _ (List.mem_of_getElem? (i := 80) rfl)) (hw _ (List.mem_of_getElem? (i := 6) rfl)) (by decide) (by decide) hEL CR.1) q201a q201c (g := (mkF m 11 #[.val (.ref a1)] [(.int (1 : Int32)), (.ref a1)])) rfl (by rw [hml]; rfl) (Steps.refl _) (argsL := [(.int (1 : Int32))]) (rest := []) (lenOf pd_9 rfl) rfl (by show 2 * 0 + _ ≤ _; exact Nat.le_of_eq rfl) (hb hby d8_11) (fun _ _ => ⟨rfl, e200, (by decide : 2 + 2 ≤ _), (by decide : 8 + 6 ≤ _)⟩)
    dsimp only [Pt.U, Pt.locs, Pt.cells, Pt.slots] at X201 l201 y201 z201 st201 hQ201 hSn hgn CRn
    subst l201 y201 z201
    rw [e200] at hgn
    obtain ⟨X201', hS201, hZ201, hown201⟩ := rebS hS hk X201 hSn hgn hZ hown
    obtain ⟨r, rfl, Nq201, K201, S_r⟩ := hQ201
    have N201 := Fr.app N200 Nq201
    refine Go.by (fun t => st201.trans) ?_
    replace CR := CR.trans CRn
    replace Z0 := Nat.le_trans Z0 K201.1
    replace K0 := K0.trans K201 all0
    clear CRn hS hk hSn
    have hS := hS201
    have hk : T201.heap.size ≤ T201.heap.size := Nat.le_refl _
    replace hZ := hZ201
    replace hown := hown201
    show Go p e below _ (T201.setTop (mkF m 14 #[.val (.ref a1)] [(.ref r)]))
    show Go p e below _ (T201.setTop (mkF m 14 #[.val (.ref a1)] [(.ref r)]))
    refine Go.by (fun t => XS.goto X201'.here hx rfl (pc0 := 14) (pc' := 18) rfl (hb hby d8_14) (by decide) (by decide)) ?_
    show Go p e below _ (T201.setTop (mkF m 18 #[.val (.ref a1)] [(.ref r)]))
    exact Go.ret1W X201' hS hk CR hZ hEL hx Bd.returns Bd.notSynchronized rfl (Or.inr (Or.inr (Or.inr (Or.inr ⟨rfl, rfl, rfl⟩)))) (hb hby d8_18) (by decide) (by decide) ⟨r, rfl, N201, K0, by rw [if_pos hq]; exact S_r⟩
  ·
    rw [if_neg hq] at hv200
    subst hv200
    have N200 := Fr.app N0 Nq200
    refine Go.by (fun t => st200.trans) ?_
    show Go p e below _ (T200.setTop (mkF m 6 #[.val (.ref a1)] [(.int (0 : Int32))]))
    refine Go.by (fun t => XS.ifYes X200.here hx rfl (pc0 := 6) (pc' := 17) rfl (hb hby d8_6) rfl ((if0 _ _).trans (teq (rfl : (0 : Int32) = (0 : Int32))).1) (by decide) (by decide)) ?_
    show Go p e below _ (T200.setTop (mkF m 17 #[.val (.ref a1)] []))
    show Go p e below _ (T200.setTop (mkF m 17 #[.val (.ref a1)] []))
    refine Go.by (fun t => XS.aloadN X200.here hx rfl (hb hby d8_17) rfl rfl) ?_
    show Go p e below _ (T200.setTop (mkF m 18 #[.val (.ref a1)] [(.ref a1)]))
    exact Go.ret1W X200 hS (by rw [e200]; exact hk) (by rw [e200]; exact CR) hZ hEL hx Bd.returns Bd.notSynchronized rfl (Or.inr (Or.inr (Or.inr (Or.inr ⟨rfl, rfl, rfl⟩)))) (hb hby d8_18) (by decide) (by decide) (by first | (rw [e200]; exact ⟨a1, rfl, N200, K0, by rw [if_neg hq]; exact S_a1⟩) | exact ⟨a1, rfl, N200, K0, by rw [if_neg hq]; exact S_a1⟩)
def Q_rm1 (Z : State) (nn x0 x1 x2 G1 : Int32) (h0 : Heap) (n0 : Nat) : Option Value → Heap → List Loc → Prop := fun v h L => ∃ r : Addr, v = some (.ref r) ∧ Fr n0 L ∧ Keep h0 h [] ∧ StrAt Z h r (mkM nn x0 x1 x2)
set_option maxRecDepth 65536 in
set_option maxHeartbeats 40000000 in
theorem rm1 (l : Launch) (Z : State) (a0 : Array Value) (hw : ∀ d ∈ tables_1, d.before a0 Z = true) (ws : List Jvm.Cond) (nn x0 x1 x2 G1 : Int32) (h0 : Heap) (n0 : Nat) (Z0 : n0 ≤ h0.size) (Od : Old Z n0 h0) (O2 : Sta Z Z.heap "java/lang/String" "COMPACT_STRINGS" "Z" (.int G1)) (P5 : ¬ (G1 = (0 : Int32))) (hx0 : ¬ x0 < 0 ∧ ¬ (255 : Int32) < x0) (hx1 : ¬ x1 < 0 ∧ ¬ (255 : Int32) < x1) (hx2 : ¬ x2 < 0 ∧ ¬ (255 : Int32) < x2) :
    MetFree l (⟨"com/example/slicewright/slicewright/slicing/OccurrenceElementNamePinLaw", "make", "(ICCC)Ljava/lang/String;"⟩ : MethodName) (head1 (Jvm.Cond.code (⟨"com/example/slicewright/slicewright/slicing/OccurrenceElementNamePinLaw", "make", "(ICCC)Ljava/lang/String;"⟩ : MethodName) method_3_code 4 (some (.object "java/lang/String")) :: ws) ({ frames := 4, cells := 6, slots := 12, locals := 66 } : Room)) (fun a U => a = #[(.int nn), (.int x0), (.int x1), (.int x2)] ∧ Z.Warmed39 U.vm ∧ U.heap = h0 ∧ CHv Z EL U.vm h0) (fun _ _ _ _ _ => True) (fun _ U o U' => ∃ v L, o = .returned v ∧ Q_rm1 Z nn x0 x1 x2 G1 h0 n0 v U'.heap L ∧ CHr Z EL U.vm U.heap U'.vm U'.heap ∧ ReturnedEndW U o U' L ({ frames := 4, cells := 6, slots := 12, locals := 66 } : Room).cells ({ frames := 4, cells := 6, slots := 12, locals := 66 } : Room).slots) := by
  refine MetFree.of_bodySF (plainFor_of_name pn_0) hisR ?_
  intro p e s m args below meth c s₁ Bd hml0 hP hK
  obtain ⟨rfl, hZ, hh, CH0⟩ := hP
  have hx := Bd.exec
  have hby := Bd.bytes
  have hml : c.maxLocals = 4 := hml0
  have hown : s.vm.findClass "com/example/slicewright/slicewright/slicing/OccurrenceElementNamePinLaw" = some m.cls := findClass_of_methodNamed Bd.named
  have hnm := (name_of_methodNamed Bd.named Bd.method).1
  have X0 : Stand p l e ({ frames := 4, cells := 6, slots := 12, locals := 66 } : Room) (s.setVm s.vm) m #[(.int nn), (.int x0), (.int x1), (.int x2)] below meth c s₁ [] 0 0 := Stand.of_body Bd
  have e0 : s₁.heap = h0 := by rw [← hh, Bd.state]; rfl
  have N0 := Fr.nil n0
  have hS : s.Since s.vm 0 := (State.WarmedH.refl s).since 0
  have hk : 0 ≤ h0.size := Nat.zero_le _
  have CR : CHr Z EL s.vm s.heap s.vm h0 := by rw [hh]; exact CHr.refl CH0
  have hEL := ew_of hw
  have hwS := ws_of hw
  have hws : ∀ d ∈ StrChars.Road.words, d.before a0 Z = true := fun d hd => hw d ((by decide +kernel : ∀ d ∈ StrChars.Road.words, d ∈ tables_1) d hd)
  have ef : entryFrame m #[(.int nn), (.int x0), (.int x1), (.int x2)] 4 = (mkF m 0 #[.val (.int nn), .val (.int x0), .val (.int x1), .val (.int x2)] []) := by first | rfl | (simp [entryFrame, mkF, argsToLocals, Value.category, maxLocals]; done)
  show Go p e below (EndW EL Z (fun v h L => ∃ r : Addr, v = some (.ref r) ∧ Fr n0 L ∧ Keep h0 h [] ∧ StrAt Z h r (mkM nn x0 x1 x2)) s 6 12) (s₁.setTop (entryFrame m #[(.int nn), (.int x0), (.int x1), (.int x2)] 4))
  rw [ef]
  show Go p e below _ (s₁.setTop (mkF m 0 #[.val (.int nn), .val (.int x0), .val (.int x1), .val (.int x2)] []))
  have K0 : Keep h0 h0 [] := Keep.refl _ _
  show Go p e below _ (s₁.setTop (mkF m 0 #[.val (.int nn), .val (.int x0), .val (.int x1), .val (.int x2)] []))
  refine Go.by (fun t => XS.iloadN X0.here hx rfl (hb hby d1_0) rfl ) ?_
  show Go p e below _ (s₁.setTop (mkF m 1 #[.val (.int nn), .val (.int x0), .val (.int x1), .val (.int x2)] [(.int nn)]))
  by_cases hc1 : (0 : Int32) < nn
  · -- hc1 True
    refine Go.by (fun t => XS.ifYes X0.here hx rfl (pc0 := 1) (pc' := 15) rfl (hb hby d1_1) rfl ((if0 _ _).trans (tlt (hc1 : (0 : Int32) < nn)).2.2.1) (by decide) (by decide)) ?_
    show Go p e below _ (s₁.setTop (mkF m 15 #[.val (.int nn), .val (.int x0), .val (.int x1), .val (.int x2)] []))
    show Go p e below _ (s₁.setTop (mkF m 15 #[.val (.int nn), .val (.int x0), .val (.int x1), .val (.int x2)] []))
    refine Go.by (fun t => XS.iloadN X0.here hx rfl (hb hby d1_15) rfl ) ?_
    show Go p e below _ (s₁.setTop (mkF m 16 #[.val (.int nn), .val (.int x0), .val (.int x1), .val (.int x2)] [(.int nn)]))
    refine Go.by (fun t => XS.iconst X0.here hx rfl (hb hby d1_16)) ?_
    show Go p e below _ (s₁.setTop (mkF m 17 #[.val (.int nn), .val (.int x0), .val (.int x1), .val (.int x2)] [(.int (1 : Int32)), (.int nn)]))
    by_cases hc17 : nn = (1 : Int32)
    · -- hc17 True
      refine Go.by (fun t => XS.icmpNo X0.here hx rfl (hb hby d1_17) rfl (teq (hc17 : nn = (1 : Int32))).2) ?_
      show Go p e below _ (s₁.setTop (mkF m 20 #[.val (.int nn), .val (.int x0), .val (.int x1), .val (.int x2)] []))
      show Go p e below _ (s₁.setTop (mkF m 20 #[.val (.int nn), .val (.int x0), .val (.int x1), .val (.int x2)] []))
      obtain ⟨T202, h202, X202, e202, E202, A202, D202, -, st202⟩ := newO X0 hx hZ hown (hw _ (List.mem_of_getElem? (i := 4) rfl)) (hw _ (List.mem_of_getElem? (i := 5) rfl)) (hw _ (List.mem_of_getElem? (i := 6) rfl)) e0 (g := (mkF m 20 #[.val (.int nn), .val (.int x0), .val (.int x1), .val (.int x2)] [])) rfl (hb hby d1_20) (by decide) (by decide)
      obtain ⟨r, g202⟩ : ∃ z, z = h0.size := ⟨_, rfl⟩
      rw [← g202] at A202 D202 st202
      refine Go.by (fun t => st202 t) ?_
      have g_r : n0 ≤ r := Nat.le_trans Z0 (Nat.le_of_eq g202.symm)
      have sz_r : h0.size ≤ r := Nat.le_trans K0.1 (Nat.le_of_eq g202.symm)
      have Sf_r : Safe Z EL s.vm h0 r := Safe.new (Nat.le_of_eq g202.symm)
      replace Sf_r := Sf_r.ext E202 CR.1
      replace CR := CR.trans (CHr.ext E202 CR.1)
      replace hk := Nat.le_trans hk E202.1
      replace Od := Od.ext E202
      replace Z0 := Nat.le_trans Z0 E202.1
      replace K0 := K0.ext E202
      have E_r := A202
      have F_coder_r : Fld Z h202 r "java/lang/String" "coder" "B" (.int (0 : Int32)) := D202 (Or.inr (hw _ (List.mem_of_getElem? (i := 31) rfl))) (ty := .byte) (by decide)
      have F_value_r : Fld Z h202 r "java/lang/String" "value" "[B" .null := D202 (Or.inr (hw _ (List.mem_of_getElem? (i := 33) rfl))) (ty := (.array .byte)) (by decide)
      show Go p e below _ (T202.setTop (mkF m 23 #[.val (.int nn), .val (.int x0), .val (.int x1), .val (.int x2)] [(.ref r)]))
      show Go p e below _ (T202.setTop (mkF m 23 #[.val (.int nn), .val (.int x0), .val (.int x1), .val (.int x2)] [(.ref r)]))
      refine Go.by (fun t => XS.dup X202.here hx rfl (hb hby d1_23) rfl rfl) ?_
      show Go p e below _ (T202.setTop (mkF m 24 #[.val (.int nn), .val (.int x0), .val (.int x1), .val (.int x2)] [(.ref r), (.ref r)]))
      refine Go.by (fun t => XS.iconst X202.here hx rfl (hb hby d1_24)) ?_
      show Go p e below _ (T202.setTop (mkF m 25 #[.val (.int nn), .val (.int x0), .val (.int x1), .val (.int x2)] [(.int (1 : Int32)), (.ref r), (.ref r)]))
      obtain ⟨T203, h203, k203, X203, e203, E203, A203, st203⟩ := newP X202 hx hZ (hw _ (List.mem_of_getElem? (i := 7) rfl)) e202 (g := (mkF m 25 #[.val (.int nn), .val (.int x0), .val (.int x1), .val (.int x2)] [(.int (1 : Int32)), (.ref r), (.ref r)])) rfl (hb hby d1_25) rfl (by decide) (cap := 1) (by decide) (by decide) (by decide) (by decide)
      obtain ⟨b, g203⟩ : ∃ z, z = h202.size := ⟨_, rfl⟩
      rw [← g203] at A203 st203
      refine Go.by (fun t => st203 t) ?_
      have g_b : n0 ≤ b := Nat.le_trans Z0 (Nat.le_of_eq g203.symm)
      have sz_b : h0.size ≤ b := Nat.le_trans K0.1 (Nat.le_of_eq g203.symm)
      have ne_r_b : r ≠ b := Nat.ne_of_lt (Nat.lt_of_lt_of_le E_r.lt (Nat.le_of_eq g203.symm))
      replace Sf_r := Sf_r.ext E203 CR.1
      replace CR := CR.trans (CHr.ext E203 CR.1)
      replace hk := Nat.le_trans hk E203.1
      replace Od := Od.ext E203
      replace E_r := E_r.ext E203
      replace F_coder_r := F_coder_r.ext E203
      replace F_value_r := F_value_r.ext E203
      replace Z0 := Nat.le_trans Z0 E203.1
      replace K0 := K0.ext E203
      have V_b : Arv Z h203 b k203 .char (1 : Int32) [(.int (0 : Int32))] (.int (0 : Int32)) := (Arv.new A203 (by decide)).pad (pad_rep [] (.int (0 : Int32)) 1)
      show Go p e below _ (T203.setTop (mkF m 27 #[.val (.int nn), .val (.int x0), .val (.int x1), .val (.int x2)] [(.ref b), (.ref r), (.ref r)]))
      show Go p e below _ (T203.setTop (mkF m 27 #[.val (.int nn), .val (.int x0), .val (.int x1), .val (.int x2)] [(.ref b), (.ref r), (.ref r)]))
      refine Go.by (fun t => XS.dup X203.here hx rfl (hb hby d1_27) rfl rfl) ?_
      show Go p e below _ (T203.setTop (mkF m 28 #[.val (.int nn), .val (.int x0), .val (.int x1), .val (.int x2)] [(.ref b), (.ref b), (.ref r), (.ref r)]))
      refine Go.by (fun t => XS.iconst X203.here hx rfl (hb hby d1_28)) ?_
      show Go p e below _ (T203.setTop (mkF m 29 #[.val (.int nn), .val (.int x0), .val (.int x1), .val (.int x2)] [(.int (0 : Int32)), (.ref b), (.ref b), (.ref r), (.ref r)]))
      refine Go.by (fun t => XS.iloadN X203.here hx rfl (hb hby d1_29) rfl ) ?_
      show Go p e below _ (T203.setTop (mkF m 30 #[.val (.int nn), .val (.int x0), .val (.int x1), .val (.int x2)] [(.int x0), (.int (0 : Int32)), (.ref b), (.ref b), (.ref r), (.ref r)]))
      obtain ⟨cl_204, Ar_204, q_204, S_204, M_204, H_204, G_204⟩ := id V_b
      obtain ⟨T204, h204, X204, e204, W204, st204⟩ := stC X203 hx hZ e203 Ar_204 (j := (0 : Int32)) (inb_of S_204 ⟨by decide, by decide⟩) (g := (mkF m 30 #[.val (.int nn), .val (.int x0), .val (.int x1), .val (.int x2)] [(.int x0), (.int (0 : Int32)), (.ref b), (.ref b), (.ref r), (.ref r)])) rfl rfl (hb hby d1_30)
      refine Go.by (fun t => st204 t) ?_
      have Sfw : Safe Z EL s.vm h203 b := (Safe.arv hZ.alike V_b (by decide))
      replace Sf_r := Safe.wr W204 Sfw CR.1 Sf_r
      replace CR := CR.trans (CHr.wr W204 Sfw CR.1)
      clear Sfw
      replace hk := Nat.le_trans hk (Keep.of_wr W204).1
      replace V_b := Arv.set Ar_204 q_204 S_204 M_204 H_204 G_204 (fits_nar_char _) W204 0 rfl (Nat.le_of_ble_eq_true rfl)
      rw [nar_b hx0] at V_b
      replace V_b : Arv Z h204 b k203 .char (1 : Int32) [(.int x0)] (.int (0 : Int32)) := V_b
      replace Od := Od.wr W204 g_b
      replace E_r := E_r.wr W204
      replace F_coder_r := F_coder_r.other W204 (Or.inl ne_r_b)
      replace F_value_r := F_value_r.other W204 (Or.inl ne_r_b)
      replace Z0 := Nat.le_trans Z0 (Keep.of_wr W204).1
      replace K0 := K0.wr W204 (Or.inr sz_b)
      have N204 := Fr.snoc X204 N0 g_b
      show Go p e below _ (T204.setTop (mkF m 31 #[.val (.int nn), .val (.int x0), .val (.int x1), .val (.int x2)] [(.ref b), (.ref r), (.ref r)]))
      show Go p e below _ (T204.setTop (mkF m 31 #[.val (.int nn), .val (.int x0), .val (.int x1), .val (.int x2)] [(.ref b), (.ref r), (.ref r)]))
      have hp : ∀ c ∈ ([x0] : List Int32), ¬ c < 0 ∧ ¬ (255 : Int32) < c := allC hx0 allN
      obtain ⟨_, _, ⟨T205, L205, k205, n205⟩, -, X205, ⟨Lc205, hQ205, l205, y205, z205⟩, st205⟩ := X204.specialBack hx (y := (⟨"java/lang/String", "<init>", "([C)V"⟩ : MethodName)) rfl hown (mvT hZ (hw _ (List.mem_of_getElem? (i := 8) rfl))) (mvT hZ (hw _ (List.mem_of_getElem? (i := 9) rfl))) (mvT hZ (hw _ (List.mem_of_getElem? (i := 10) rfl))) (by decide) (StrChars.Road.backV (W := 1) hZ hws (kI := 4) (hw _ (List.mem_of_getElem? (i := 5) rfl)) (cs := [x0]) (bs := ([x0]).map (fun c => c.toInt8.toInt32)) (n := 1) g_r Z0 E_r F_value_r F_coder_r V_b (O2.ext Od.2) P5 rfl rfl (by decide) (by decide) hp rfl (by decide) (by decide)) (g := (mkF m 31 #[.val (.int nn), .val (.int x0), .val (.int x1), .val (.int x2)] [(.ref b), (.ref r), (.ref r)])) rfl (by rw [hml]; rfl) (Steps.refl _) (a := r) (argsL := [(.ref b)]) (rest := [(.ref r)]) (lenOf pd_3 rfl) rfl (by show 2 * 0 + _ ≤ _; exact Nat.le_of_eq rfl) (hb hby d1_31) (fun _ _ => ⟨rfl, e204, (by decide : 2 + 1 ≤ _), (by decide : 5 + 1 ≤ _)⟩)
      dsimp only [Pt.U, Pt.locs, Pt.cells, Pt.slots] at X205 l205 y205 z205 st205 hQ205
      subst l205 y205 z205
      obtain ⟨rfl, N205q, K205, E205n, F_coder_r, t_r, kb_r, g_t_r, sz_t_r, ne_t_r_r, F_value_r, V_t_r⟩ := hQ205
      have ne_b_t_r : b ≠ t_r := Nat.ne_of_lt (Nat.lt_of_lt_of_le V_b.lt sz_t_r)
      replace sz_t_r : h0.size ≤ t_r := Nat.le_trans K0.1 sz_t_r
      have N205 := Fr.app N204 N205q
      refine Go.by (fun t => st205.trans) ?_
      have Sfw := ((sfS Sf_r sf0) : ∀ x ∈ [r], Safe Z EL s.vm h204 x)
      replace Sf_r := Safe.keep K205 Sfw CR.1 Sf_r
      replace CR := CR.trans (CHr.keep K205 Sfw CR.1)
      clear Sfw
      replace hk := Nat.le_trans hk K205.1
      replace Od := Od.keep K205 (allS g_r all0)
      replace E_r := E_r.keep K205
      replace V_b := V_b.keep K205 (ninS (Ne.symm ne_r_b) nin0)
      replace Z0 := Nat.le_trans Z0 K205.1
      replace K0 := K0.trans K205 (allS (P := fun x => x ∈ _ ∨ _ ≤ x) (Or.inr sz_r) all0)
      show Go p e below _ (T205.setTop (mkF m 34 #[.val (.int nn), .val (.int x0), .val (.int x1), .val (.int x2)] [(.ref r)]))
      have S_r : StrAt Z T205.heap r ([x0]) := ⟨t_r, kb_r, _, _, E_r, F_value_r, F_coder_r, V_t_r, StrChars.Road.codOf (n := 1) rfl (fun c hc => (hp c hc).2), up _ hp, Nat.le_of_ble_eq_true rfl⟩
      show Go p e below _ (T205.setTop (mkF m 34 #[.val (.int nn), .val (.int x0), .val (.int x1), .val (.int x2)] [(.ref r)]))
      exact Go.ret1W X205 hS hk CR hZ hEL hx Bd.returns Bd.notSynchronized rfl (Or.inr (Or.inr (Or.inr (Or.inr ⟨rfl, rfl, rfl⟩)))) (hb hby d1_34) (by decide) (by decide) ⟨r, rfl, N205, K0, by rw [mkM, if_pos hc1, if_pos hc17]; exact S_r⟩
    · -- hc17 False
      refine Go.by (fun t => XS.icmpYes X0.here hx rfl (pc0 := 17) (pc' := 35) rfl (hb hby d1_17) rfl (feq (hc17 : ¬ (nn = (1 : Int32)))).2 (by decide) (by decide)) ?_
      show Go p e below _ (s₁.setTop (mkF m 35 #[.val (.int nn), .val (.int x0), .val (.int x1), .val (.int x2)] []))
      show Go p e below _ (s₁.setTop (mkF m 35 #[.val (.int nn), .val (.int x0), .val (.int x1), .val (.int x2)] []))
      refine Go.by (fun t => XS.iloadN X0.here hx rfl (hb hby d1_35) rfl ) ?_
      show Go p e below _ (s₁.setTop (mkF m 36 #[.val (.int nn), .val (.int x0), .val (.int x1), .val (.int x2)] [(.int nn)]))
      refine Go.by (fun t => XS.iconst X0.here hx rfl (hb hby d1_36)) ?_
      show Go p e below _ (s₁.setTop (mkF m 37 #[.val (.int nn), .val (.int x0), .val (.int x1), .val (.int x2)] [(.int (2 : Int32)), (.int nn)]))
      by_cases hc37 : nn = (2 : Int32)
      · -- hc37 True
        refine Go.by (fun t => XS.icmpNo X0.here hx rfl (hb hby d1_37) rfl (teq (hc37 : nn = (2 : Int32))).2) ?_
        show Go p e below _ (s₁.setTop (mkF m 40 #[.val (.int nn), .val (.int x0), .val (.int x1), .val (.int x2)] []))
        show Go p e below _ (s₁.setTop (mkF m 40 #[.val (.int nn), .val (.int x0), .val (.int x1), .val (.int x2)] []))
        obtain ⟨T206, h206, X206, e206, E206, A206, D206, -, st206⟩ := newO X0 hx hZ hown (hw _ (List.mem_of_getElem? (i := 4) rfl)) (hw _ (List.mem_of_getElem? (i := 5) rfl)) (hw _ (List.mem_of_getElem? (i := 6) rfl)) e0 (g := (mkF m 40 #[.val (.int nn), .val (.int x0), .val (.int x1), .val (.int x2)] [])) rfl (hb hby d1_40) (by decide) (by decide)
        obtain ⟨r, g206⟩ : ∃ z, z = h0.size := ⟨_, rfl⟩
        rw [← g206] at A206 D206 st206
        refine Go.by (fun t => st206 t) ?_
        have g_r : n0 ≤ r := Nat.le_trans Z0 (Nat.le_of_eq g206.symm)
        have sz_r : h0.size ≤ r := Nat.le_trans K0.1 (Nat.le_of_eq g206.symm)
        have Sf_r : Safe Z EL s.vm h0 r := Safe.new (Nat.le_of_eq g206.symm)
        replace Sf_r := Sf_r.ext E206 CR.1
        replace CR := CR.trans (CHr.ext E206 CR.1)
        replace hk := Nat.le_trans hk E206.1
        replace Od := Od.ext E206
        replace Z0 := Nat.le_trans Z0 E206.1
        replace K0 := K0.ext E206
        have E_r := A206
        have F_coder_r : Fld Z h206 r "java/lang/String" "coder" "B" (.int (0 : Int32)) := D206 (Or.inr (hw _ (List.mem_of_getElem? (i := 31) rfl))) (ty := .byte) (by decide)
        have F_value_r : Fld Z h206 r "java/lang/String" "value" "[B" .null := D206 (Or.inr (hw _ (List.mem_of_getElem? (i := 33) rfl))) (ty := (.array .byte)) (by decide)
        show Go p e below _ (T206.setTop (mkF m 43 #[.val (.int nn), .val (.int x0), .val (.int x1), .val (.int x2)] [(.ref r)]))
        show Go p e below _ (T206.setTop (mkF m 43 #[.val (.int nn), .val (.int x0), .val (.int x1), .val (.int x2)] [(.ref r)]))
        refine Go.by (fun t => XS.dup X206.here hx rfl (hb hby d1_43) rfl rfl) ?_
        show Go p e below _ (T206.setTop (mkF m 44 #[.val (.int nn), .val (.int x0), .val (.int x1), .val (.int x2)] [(.ref r), (.ref r)]))
        refine Go.by (fun t => XS.iconst X206.here hx rfl (hb hby d1_44)) ?_
        show Go p e below _ (T206.setTop (mkF m 45 #[.val (.int nn), .val (.int x0), .val (.int x1), .val (.int x2)] [(.int (2 : Int32)), (.ref r), (.ref r)]))
        obtain ⟨T207, h207, k207, X207, e207, E207, A207, st207⟩ := newP X206 hx hZ (hw _ (List.mem_of_getElem? (i := 7) rfl)) e206 (g := (mkF m 45 #[.val (.int nn), .val (.int x0), .val (.int x1), .val (.int x2)] [(.int (2 : Int32)), (.ref r), (.ref r)])) rfl (hb hby d1_45) rfl (by decide) (cap := 2) (by decide) (by decide) (by decide) (by decide)
        obtain ⟨b, g207⟩ : ∃ z, z = h206.size := ⟨_, rfl⟩
        rw [← g207] at A207 st207
        refine Go.by (fun t => st207 t) ?_
        have g_b : n0 ≤ b := Nat.le_trans Z0 (Nat.le_of_eq g207.symm)
        have sz_b : h0.size ≤ b := Nat.le_trans K0.1 (Nat.le_of_eq g207.symm)
        have ne_r_b : r ≠ b := Nat.ne_of_lt (Nat.lt_of_lt_of_le E_r.lt (Nat.le_of_eq g207.symm))
        replace Sf_r := Sf_r.ext E207 CR.1
        replace CR := CR.trans (CHr.ext E207 CR.1)
        replace hk := Nat.le_trans hk E207.1
        replace Od := Od.ext E207
        replace E_r := E_r.ext E207
        replace F_coder_r := F_coder_r.ext E207
        replace F_value_r := F_value_r.ext E207
        replace Z0 := Nat.le_trans Z0 E207.1
        replace K0 := K0.ext E207
        have V_b : Arv Z h207 b k207 .char (2 : Int32) [(.int (0 : Int32)), (.int (0 : Int32))] (.int (0 : Int32)) := (Arv.new A207 (by decide)).pad (pad_rep [] (.int (0 : Int32)) 2)
        show Go p e below _ (T207.setTop (mkF m 47 #[.val (.int nn), .val (.int x0), .val (.int x1), .val (.int x2)] [(.ref b), (.ref r), (.ref r)]))
        show Go p e below _ (T207.setTop (mkF m 47 #[.val (.int nn), .val (.int x0), .val (.int x1), .val (.int x2)] [(.ref b), (.ref r), (.ref r)]))
        refine Go.by (fun t => XS.dup X207.here hx rfl (hb hby d1_47) rfl rfl) ?_
        show Go p e below _ (T207.setTop (mkF m 48 #[.val (.int nn), .val (.int x0), .val (.int x1), .val (.int x2)] [(.ref b), (.ref b), (.ref r), (.ref r)]))
        refine Go.by (fun t => XS.iconst X207.here hx rfl (hb hby d1_48)) ?_
        show Go p e below _ (T207.setTop (mkF m 49 #[.val (.int nn), .val (.int x0), .val (.int x1), .val (.int x2)] [(.int (0 : Int32)), (.ref b), (.ref b), (.ref r), (.ref r)]))
        refine Go.by (fun t => XS.iloadN X207.here hx rfl (hb hby d1_49) rfl ) ?_
        show Go p e below _ (T207.setTop (mkF m 50 #[.val (.int nn), .val (.int x0), .val (.int x1), .val (.int x2)] [(.int x0), (.int (0 : Int32)), (.ref b), (.ref b), (.ref r), (.ref r)]))
        obtain ⟨cl_208, Ar_208, q_208, S_208, M_208, H_208, G_208⟩ := id V_b
        obtain ⟨T208, h208, X208, e208, W208, st208⟩ := stC X207 hx hZ e207 Ar_208 (j := (0 : Int32)) (inb_of S_208 ⟨by decide, by decide⟩) (g := (mkF m 50 #[.val (.int nn), .val (.int x0), .val (.int x1), .val (.int x2)] [(.int x0), (.int (0 : Int32)), (.ref b), (.ref b), (.ref r), (.ref r)])) rfl rfl (hb hby d1_50)
        refine Go.by (fun t => st208 t) ?_
        have Sfw : Safe Z EL s.vm h207 b := (Safe.arv hZ.alike V_b (by decide))
        replace Sf_r := Safe.wr W208 Sfw CR.1 Sf_r
        replace CR := CR.trans (CHr.wr W208 Sfw CR.1)
        clear Sfw
        replace hk := Nat.le_trans hk (Keep.of_wr W208).1
        replace V_b := Arv.set Ar_208 q_208 S_208 M_208 H_208 G_208 (fits_nar_char _) W208 0 rfl (Nat.le_of_ble_eq_true rfl)
        rw [nar_b hx0] at V_b
        replace V_b : Arv Z h208 b k207 .char (2 : Int32) [(.int x0), (.int (0 : Int32))] (.int (0 : Int32)) := V_b
        replace Od := Od.wr W208 g_b
        replace E_r := E_r.wr W208
        replace F_coder_r := F_coder_r.other W208 (Or.inl ne_r_b)
        replace F_value_r := F_value_r.other W208 (Or.inl ne_r_b)
        replace Z0 := Nat.le_trans Z0 (Keep.of_wr W208).1
        replace K0 := K0.wr W208 (Or.inr sz_b)
        have N208 := Fr.snoc X208 N0 g_b
        show Go p e below _ (T208.setTop (mkF m 51 #[.val (.int nn), .val (.int x0), .val (.int x1), .val (.int x2)] [(.ref b), (.ref r), (.ref r)]))
        show Go p e below _ (T208.setTop (mkF m 51 #[.val (.int nn), .val (.int x0), .val (.int x1), .val (.int x2)] [(.ref b), (.ref r), (.ref r)]))
        refine Go.by (fun t => XS.dup X208.here hx rfl (hb hby d1_51) rfl rfl) ?_
        show Go p e below _ (T208.setTop (mkF m 52 #[.val (.int nn), .val (.int x0), .val (.int x1), .val (.int x2)] [(.ref b), (.ref b), (.ref r), (.ref r)]))
        refine Go.by (fun t => XS.iconst X208.here hx rfl (hb hby d1_52)) ?_
        show Go p e below _ (T208.setTop (mkF m 53 #[.val (.int nn), .val (.int x0), .val (.int x1), .val (.int x2)] [(.int (1 : Int32)), (.ref b), (.ref b), (.ref r), (.ref r)]))
        refine Go.by (fun t => XS.iloadN X208.here hx rfl (hb hby d1_53) rfl ) ?_
        show Go p e below _ (T208.setTop (mkF m 54 #[.val (.int nn), .val (.int x0), .val (.int x1), .val (.int x2)] [(.int x1), (.int (1 : Int32)), (.ref b), (.ref b), (.ref r), (.ref r)]))
        obtain ⟨cl_209, Ar_209, q_209, S_209, M_209, H_209, G_209⟩ := id V_b
        obtain ⟨T209, h209, X209, e209, W209, st209⟩ := stC X208 hx hZ e208 Ar_209 (j := (1 : Int32)) (inb_of S_209 ⟨by decide, by decide⟩) (g := (mkF m 54 #[.val (.int nn), .val (.int x0), .val (.int x1), .val (.int x2)] [(.int x1), (.int (1 : Int32)), (.ref b), (.ref b), (.ref r), (.ref r)])) rfl rfl (hb hby d1_54)
        refine Go.by (fun t => st209 t) ?_
        have Sfw : Safe Z EL s.vm h208 b := (Safe.arv hZ.alike V_b (by decide))
        replace Sf_r := Safe.wr W209 Sfw CR.1 Sf_r
        replace CR := CR.trans (CHr.wr W209 Sfw CR.1)
        clear Sfw
        replace hk := Nat.le_trans hk (Keep.of_wr W209).1
        replace V_b := Arv.set Ar_209 q_209 S_209 M_209 H_209 G_209 (fits_nar_char _) W209 1 rfl (Nat.le_of_ble_eq_true rfl)
        rw [nar_b hx1] at V_b
        replace V_b : Arv Z h209 b k207 .char (2 : Int32) [(.int x0), (.int x1)] (.int (0 : Int32)) := V_b
        replace Od := Od.wr W209 g_b
        replace E_r := E_r.wr W209
        replace F_coder_r := F_coder_r.other W209 (Or.inl ne_r_b)
        replace F_value_r := F_value_r.other W209 (Or.inl ne_r_b)
        replace Z0 := Nat.le_trans Z0 (Keep.of_wr W209).1
        replace K0 := K0.wr W209 (Or.inr sz_b)
        have N209 := Fr.snoc X209 N208 g_b
        show Go p e below _ (T209.setTop (mkF m 55 #[.val (.int nn), .val (.int x0), .val (.int x1), .val (.int x2)] [(.ref b), (.ref r), (.ref r)]))
        show Go p e below _ (T209.setTop (mkF m 55 #[.val (.int nn), .val (.int x0), .val (.int x1), .val (.int x2)] [(.ref b), (.ref r), (.ref r)]))
        have hp : ∀ c ∈ ([x0, x1] : List Int32), ¬ c < 0 ∧ ¬ (255 : Int32) < c := allC hx0 (allC hx1 allN)
        obtain ⟨_, _, ⟨T210, L210, k210, n210⟩, -, X210, ⟨Lc210, hQ210, l210, y210, z210⟩, st210⟩ := X209.specialBack hx (y := (⟨"java/lang/String", "<init>", "([C)V"⟩ : MethodName)) rfl hown (mvT hZ (hw _ (List.mem_of_getElem? (i := 8) rfl))) (mvT hZ (hw _ (List.mem_of_getElem? (i := 9) rfl))) (mvT hZ (hw _ (List.mem_of_getElem? (i := 10) rfl))) (by decide) (StrChars.Road.backV (W := 1) hZ hws (kI := 4) (hw _ (List.mem_of_getElem? (i := 5) rfl)) (cs := [x0, x1]) (bs := ([x0, x1]).map (fun c => c.toInt8.toInt32)) (n := 2) g_r Z0 E_r F_value_r F_coder_r V_b (O2.ext Od.2) P5 rfl rfl (by decide) (by decide) hp rfl (by decide) (by decide)) (g := (mkF m 55 #[.val (.int nn), .val (.int x0), .val (.int x1), .val (.int x2)] [(.ref b), (.ref r), (.ref r)])) rfl (by rw [hml]; rfl) (Steps.refl _) (a := r) (argsL := [(.ref b)]) (rest := [(.ref r)]) (lenOf pd_3 rfl) rfl (by show 2 * 0 + _ ≤ _; exact Nat.le_of_eq rfl) (hb hby d1_55) (fun _ _ => ⟨rfl, e209, (by decide : 2 + 1 ≤ _), (by decide : 6 + 2 ≤ _)⟩)
        dsimp only [Pt.U, Pt.locs, Pt.cells, Pt.slots] at X210 l210 y210 z210 st210 hQ210
        subst l210 y210 z210
        obtain ⟨rfl, N210q, K210, E210n, F_coder_r, t_r, kb_r, g_t_r, sz_t_r, ne_t_r_r, F_value_r, V_t_r⟩ := hQ210
        have ne_b_t_r : b ≠ t_r := Nat.ne_of_lt (Nat.lt_of_lt_of_le V_b.lt sz_t_r)
        replace sz_t_r : h0.size ≤ t_r := Nat.le_trans K0.1 sz_t_r
        have N210 := Fr.app N209 N210q
        refine Go.by (fun t => st210.trans) ?_
        have Sfw := ((sfS Sf_r sf0) : ∀ x ∈ [r], Safe Z EL s.vm h209 x)
        replace Sf_r := Safe.keep K210 Sfw CR.1 Sf_r
        replace CR := CR.trans (CHr.keep K210 Sfw CR.1)
        clear Sfw
        replace hk := Nat.le_trans hk K210.1
        replace Od := Od.keep K210 (allS g_r all0)
        replace E_r := E_r.keep K210
        replace V_b := V_b.keep K210 (ninS (Ne.symm ne_r_b) nin0)
        replace Z0 := Nat.le_trans Z0 K210.1
        replace K0 := K0.trans K210 (allS (P := fun x => x ∈ _ ∨ _ ≤ x) (Or.inr sz_r) all0)
        show Go p e below _ (T210.setTop (mkF m 58 #[.val (.int nn), .val (.int x0), .val (.int x1), .val (.int x2)] [(.ref r)]))
        have S_r : StrAt Z T210.heap r ([x0, x1]) := ⟨t_r, kb_r, _, _, E_r, F_value_r, F_coder_r, V_t_r, StrChars.Road.codOf (n := 2) rfl (fun c hc => (hp c hc).2), up _ hp, Nat.le_of_ble_eq_true rfl⟩
        show Go p e below _ (T210.setTop (mkF m 58 #[.val (.int nn), .val (.int x0), .val (.int x1), .val (.int x2)] [(.ref r)]))
        exact Go.ret1W X210 hS hk CR hZ hEL hx Bd.returns Bd.notSynchronized rfl (Or.inr (Or.inr (Or.inr (Or.inr ⟨rfl, rfl, rfl⟩)))) (hb hby d1_58) (by decide) (by decide) ⟨r, rfl, N210, K0, by rw [mkM, if_pos hc1, if_neg hc17, if_pos hc37]; exact S_r⟩
      · -- hc37 False
        refine Go.by (fun t => XS.icmpYes X0.here hx rfl (pc0 := 37) (pc' := 59) rfl (hb hby d1_37) rfl (feq (hc37 : ¬ (nn = (2 : Int32)))).2 (by decide) (by decide)) ?_
        show Go p e below _ (s₁.setTop (mkF m 59 #[.val (.int nn), .val (.int x0), .val (.int x1), .val (.int x2)] []))
        show Go p e below _ (s₁.setTop (mkF m 59 #[.val (.int nn), .val (.int x0), .val (.int x1), .val (.int x2)] []))
        obtain ⟨T211, h211, X211, e211, E211, A211, D211, -, st211⟩ := newO X0 hx hZ hown (hw _ (List.mem_of_getElem? (i := 4) rfl)) (hw _ (List.mem_of_getElem? (i := 5) rfl)) (hw _ (List.mem_of_getElem? (i := 6) rfl)) e0 (g := (mkF m 59 #[.val (.int nn), .val (.int x0), .val (.int x1), .val (.int x2)] [])) rfl (hb hby d1_59) (by decide) (by decide)
        obtain ⟨r, g211⟩ : ∃ z, z = h0.size := ⟨_, rfl⟩
        rw [← g211] at A211 D211 st211
        refine Go.by (fun t => st211 t) ?_
        have g_r : n0 ≤ r := Nat.le_trans Z0 (Nat.le_of_eq g211.symm)
        have sz_r : h0.size ≤ r := Nat.le_trans K0.1 (Nat.le_of_eq g211.symm)
        have Sf_r : Safe Z EL s.vm h0 r := Safe.new (Nat.le_of_eq g211.symm)
        replace Sf_r := Sf_r.ext E211 CR.1
        replace CR := CR.trans (CHr.ext E211 CR.1)
        replace hk := Nat.le_trans hk E211.1
        replace Od := Od.ext E211
        replace Z0 := Nat.le_trans Z0 E211.1
        replace K0 := K0.ext E211
        have E_r := A211
        have F_coder_r : Fld Z h211 r "java/lang/String" "coder" "B" (.int (0 : Int32)) := D211 (Or.inr (hw _ (List.mem_of_getElem? (i := 31) rfl))) (ty := .byte) (by decide)
        have F_value_r : Fld Z h211 r "java/lang/String" "value" "[B" .null := D211 (Or.inr (hw _ (List.mem_of_getElem? (i := 33) rfl))) (ty := (.array .byte)) (by decide)
        show Go p e below _ (T211.setTop (mkF m 62 #[.val (.int nn), .val (.int x0), .val (.int x1), .val (.int x2)] [(.ref r)]))
        show Go p e below _ (T211.setTop (mkF m 62 #[.val (.int nn), .val (.int x0), .val (.int x1), .val (.int x2)] [(.ref r)]))
        refine Go.by (fun t => XS.dup X211.here hx rfl (hb hby d1_62) rfl rfl) ?_
        show Go p e below _ (T211.setTop (mkF m 63 #[.val (.int nn), .val (.int x0), .val (.int x1), .val (.int x2)] [(.ref r), (.ref r)]))
        refine Go.by (fun t => XS.iconst X211.here hx rfl (hb hby d1_63)) ?_
        show Go p e below _ (T211.setTop (mkF m 64 #[.val (.int nn), .val (.int x0), .val (.int x1), .val (.int x2)] [(.int (3 : Int32)), (.ref r), (.ref r)]))
        obtain ⟨T212, h212, k212, X212, e212, E212, A212, st212⟩ := newP X211 hx hZ (hw _ (List.mem_of_getElem? (i := 7) rfl)) e211 (g := (mkF m 64 #[.val (.int nn), .val (.int x0), .val (.int x1), .val (.int x2)] [(.int (3 : Int32)), (.ref r), (.ref r)])) rfl (hb hby d1_64) rfl (by decide) (cap := 3) (by decide) (by decide) (by decide) (by decide)
        obtain ⟨b, g212⟩ : ∃ z, z = h211.size := ⟨_, rfl⟩
        rw [← g212] at A212 st212
        refine Go.by (fun t => st212 t) ?_
        have g_b : n0 ≤ b := Nat.le_trans Z0 (Nat.le_of_eq g212.symm)
        have sz_b : h0.size ≤ b := Nat.le_trans K0.1 (Nat.le_of_eq g212.symm)
        have ne_r_b : r ≠ b := Nat.ne_of_lt (Nat.lt_of_lt_of_le E_r.lt (Nat.le_of_eq g212.symm))
        replace Sf_r := Sf_r.ext E212 CR.1
        replace CR := CR.trans (CHr.ext E212 CR.1)
        replace hk := Nat.le_trans hk E212.1
        replace Od := Od.ext E212
        replace E_r := E_r.ext E212
        replace F_coder_r := F_coder_r.ext E212
        replace F_value_r := F_value_r.ext E212
        replace Z0 := Nat.le_trans Z0 E212.1
        replace K0 := K0.ext E212
        have V_b : Arv Z h212 b k212 .char (3 : Int32) [(.int (0 : Int32)), (.int (0 : Int32)), (.int (0 : Int32))] (.int (0 : Int32)) := (Arv.new A212 (by decide)).pad (pad_rep [] (.int (0 : Int32)) 3)
        show Go p e below _ (T212.setTop (mkF m 66 #[.val (.int nn), .val (.int x0), .val (.int x1), .val (.int x2)] [(.ref b), (.ref r), (.ref r)]))
        show Go p e below _ (T212.setTop (mkF m 66 #[.val (.int nn), .val (.int x0), .val (.int x1), .val (.int x2)] [(.ref b), (.ref r), (.ref r)]))
        refine Go.by (fun t => XS.dup X212.here hx rfl (hb hby d1_66) rfl rfl) ?_
        show Go p e below _ (T212.setTop (mkF m 67 #[.val (.int nn), .val (.int x0), .val (.int x1), .val (.int x2)] [(.ref b), (.ref b), (.ref r), (.ref r)]))
        refine Go.by (fun t => XS.iconst X212.here hx rfl (hb hby d1_67)) ?_
        show Go p e below _ (T212.setTop (mkF m 68 #[.val (.int nn), .val (.int x0), .val (.int x1), .val (.int x2)] [(.int (0 : Int32)), (.ref b), (.ref b), (.ref r), (.ref r)]))
        refine Go.by (fun t => XS.iloadN X212.here hx rfl (hb hby d1_68) rfl ) ?_
        show Go p e below _ (T212.setTop (mkF m 69 #[.val (.int nn), .val (.int x0), .val (.int x1), .val (.int x2)] [(.int x0), (.int (0 : Int32)), (.ref b), (.ref b), (.ref r), (.ref r)]))
        obtain ⟨cl_213, Ar_213, q_213, S_213, M_213, H_213, G_213⟩ := id V_b
        obtain ⟨T213, h213, X213, e213, W213, st213⟩ := stC X212 hx hZ e212 Ar_213 (j := (0 : Int32)) (inb_of S_213 ⟨by decide, by decide⟩) (g := (mkF m 69 #[.val (.int nn), .val (.int x0), .val (.int x1), .val (.int x2)] [(.int x0), (.int (0 : Int32)), (.ref b), (.ref b), (.ref r), (.ref r)])) rfl rfl (hb hby d1_69)
        refine Go.by (fun t => st213 t) ?_
        have Sfw : Safe Z EL s.vm h212 b := (Safe.arv hZ.alike V_b (by decide))
        replace Sf_r := Safe.wr W213 Sfw CR.1 Sf_r
        replace CR := CR.trans (CHr.wr W213 Sfw CR.1)
        clear Sfw
        replace hk := Nat.le_trans hk (Keep.of_wr W213).1
        replace V_b := Arv.set Ar_213 q_213 S_213 M_213 H_213 G_213 (fits_nar_char _) W213 0 rfl (Nat.le_of_ble_eq_true rfl)
        rw [nar_b hx0] at V_b
        replace V_b : Arv Z h213 b k212 .char (3 : Int32) [(.int x0), (.int (0 : Int32)), (.int (0 : Int32))] (.int (0 : Int32)) := V_b
        replace Od := Od.wr W213 g_b
        replace E_r := E_r.wr W213
        replace F_coder_r := F_coder_r.other W213 (Or.inl ne_r_b)
        replace F_value_r := F_value_r.other W213 (Or.inl ne_r_b)
        replace Z0 := Nat.le_trans Z0 (Keep.of_wr W213).1
        replace K0 := K0.wr W213 (Or.inr sz_b)
        have N213 := Fr.snoc X213 N0 g_b
        show Go p e below _ (T213.setTop (mkF m 70 #[.val (.int nn), .val (.int x0), .val (.int x1), .val (.int x2)] [(.ref b), (.ref r), (.ref r)]))
        show Go p e below _ (T213.setTop (mkF m 70 #[.val (.int nn), .val (.int x0), .val (.int x1), .val (.int x2)] [(.ref b), (.ref r), (.ref r)]))
        refine Go.by (fun t => XS.dup X213.here hx rfl (hb hby d1_70) rfl rfl) ?_
        show Go p e below _ (T213.setTop (mkF m 71 #[.val (.int nn), .val (.int x0), .val (.int x1), .val (.int x2)] [(.ref b), (.ref b), (.ref r), (.ref r)]))
        refine Go.by (fun t => XS.iconst X213.here hx rfl (hb hby d1_71)) ?_
        show Go p e below _ (T213.setTop (mkF m 72 #[.val (.int nn), .val (.int x0), .val (.int x1), .val (.int x2)] [(.int (1 : Int32)), (.ref b), (.ref b), (.ref r), (.ref r)]))
        refine Go.by (fun t => XS.iloadN X213.here hx rfl (hb hby d1_72) rfl ) ?_
        show Go p e below _ (T213.setTop (mkF m 73 #[.val (.int nn), .val (.int x0), .val (.int x1), .val (.int x2)] [(.int x1), (.int (1 : Int32)), (.ref b), (.ref b), (.ref r), (.ref r)]))
        obtain ⟨cl_214, Ar_214, q_214, S_214, M_214, H_214, G_214⟩ := id V_b
        obtain ⟨T214, h214, X214, e214, W214, st214⟩ := stC X213 hx hZ e213 Ar_214 (j := (1 : Int32)) (inb_of S_214 ⟨by decide, by decide⟩) (g := (mkF m 73 #[.val (.int nn), .val (.int x0), .val (.int x1), .val (.int x2)] [(.int x1), (.int (1 : Int32)), (.ref b), (.ref b), (.ref r), (.ref r)])) rfl rfl (hb hby d1_73)
        refine Go.by (fun t => st214 t) ?_
        have Sfw : Safe Z EL s.vm h213 b := (Safe.arv hZ.alike V_b (by decide))
        replace Sf_r := Safe.wr W214 Sfw CR.1 Sf_r
        replace CR := CR.trans (CHr.wr W214 Sfw CR.1)
        clear Sfw
        replace hk := Nat.le_trans hk (Keep.of_wr W214).1
        replace V_b := Arv.set Ar_214 q_214 S_214 M_214 H_214 G_214 (fits_nar_char _) W214 1 rfl (Nat.le_of_ble_eq_true rfl)
        rw [nar_b hx1] at V_b
        replace V_b : Arv Z h214 b k212 .char (3 : Int32) [(.int x0), (.int x1), (.int (0 : Int32))] (.int (0 : Int32)) := V_b
        replace Od := Od.wr W214 g_b
        replace E_r := E_r.wr W214
        replace F_coder_r := F_coder_r.other W214 (Or.inl ne_r_b)
        replace F_value_r := F_value_r.other W214 (Or.inl ne_r_b)
        replace Z0 := Nat.le_trans Z0 (Keep.of_wr W214).1
        replace K0 := K0.wr W214 (Or.inr sz_b)
        have N214 := Fr.snoc X214 N213 g_b
        show Go p e below _ (T214.setTop (mkF m 74 #[.val (.int nn), .val (.int x0), .val (.int x1), .val (.int x2)] [(.ref b), (.ref r), (.ref r)]))
        show Go p e below _ (T214.setTop (mkF m 74 #[.val (.int nn), .val (.int x0), .val (.int x1), .val (.int x2)] [(.ref b), (.ref r), (.ref r)]))
        refine Go.by (fun t => XS.dup X214.here hx rfl (hb hby d1_74) rfl rfl) ?_
        show Go p e below _ (T214.setTop (mkF m 75 #[.val (.int nn), .val (.int x0), .val (.int x1), .val (.int x2)] [(.ref b), (.ref b), (.ref r), (.ref r)]))
        refine Go.by (fun t => XS.iconst X214.here hx rfl (hb hby d1_75)) ?_
        show Go p e below _ (T214.setTop (mkF m 76 #[.val (.int nn), .val (.int x0), .val (.int x1), .val (.int x2)] [(.int (2 : Int32)), (.ref b), (.ref b), (.ref r), (.ref r)]))
        refine Go.by (fun t => XS.iloadN X214.here hx rfl (hb hby d1_76) rfl ) ?_
        show Go p e below _ (T214.setTop (mkF m 77 #[.val (.int nn), .val (.int x0), .val (.int x1), .val (.int x2)] [(.int x2), (.int (2 : Int32)), (.ref b), (.ref b), (.ref r), (.ref r)]))
        obtain ⟨cl_215, Ar_215, q_215, S_215, M_215, H_215, G_215⟩ := id V_b
        obtain ⟨T215, h215, X215, e215, W215, st215⟩ := stC X214 hx hZ e214 Ar_215 (j := (2 : Int32)) (inb_of S_215 ⟨by decide, by decide⟩) (g := (mkF m 77 #[.val (.int nn), .val (.int x0), .val (.int x1), .val (.int x2)] [(.int x2), (.int (2 : Int32)), (.ref b), (.ref b), (.ref r), (.ref r)])) rfl rfl (hb hby d1_77)
        refine Go.by (fun t => st215 t) ?_
        have Sfw : Safe Z EL s.vm h214 b := (Safe.arv hZ.alike V_b (by decide))
        replace Sf_r := Safe.wr W215 Sfw CR.1 Sf_r
        replace CR := CR.trans (CHr.wr W215 Sfw CR.1)
        clear Sfw
        replace hk := Nat.le_trans hk (Keep.of_wr W215).1
        replace V_b := Arv.set Ar_215 q_215 S_215 M_215 H_215 G_215 (fits_nar_char _) W215 2 rfl (Nat.le_of_ble_eq_true rfl)
        rw [nar_b hx2] at V_b
        replace V_b : Arv Z h215 b k212 .char (3 : Int32) [(.int x0), (.int x1), (.int x2)] (.int (0 : Int32)) := V_b
        replace Od := Od.wr W215 g_b
        replace E_r := E_r.wr W215
        replace F_coder_r := F_coder_r.other W215 (Or.inl ne_r_b)
        replace F_value_r := F_value_r.other W215 (Or.inl ne_r_b)
        replace Z0 := Nat.le_trans Z0 (Keep.of_wr W215).1
        replace K0 := K0.wr W215 (Or.inr sz_b)
        have N215 := Fr.snoc X215 N214 g_b
        show Go p e below _ (T215.setTop (mkF m 78 #[.val (.int nn), .val (.int x0), .val (.int x1), .val (.int x2)] [(.ref b), (.ref r), (.ref r)]))
        show Go p e below _ (T215.setTop (mkF m 78 #[.val (.int nn), .val (.int x0), .val (.int x1), .val (.int x2)] [(.ref b), (.ref r), (.ref r)]))
        have hp : ∀ c ∈ ([x0, x1, x2] : List Int32), ¬ c < 0 ∧ ¬ (255 : Int32) < c := allC hx0 (allC hx1 (allC hx2 allN))
        obtain ⟨_, _, ⟨T216, L216, k216, n216⟩, -, X216, ⟨Lc216, hQ216, l216, y216, z216⟩, st216⟩ := X215.specialBack hx (y := (⟨"java/lang/String", "<init>", "([C)V"⟩ : MethodName)) rfl hown (mvT hZ (hw _ (List.mem_of_getElem? (i := 8) rfl))) (mvT hZ (hw _ (List.mem_of_getElem? (i := 9) rfl))) (mvT hZ (hw _ (List.mem_of_getElem? (i := 10) rfl))) (by decide) (StrChars.Road.backV (W := 1) hZ hws (kI := 4) (hw _ (List.mem_of_getElem? (i := 5) rfl)) (cs := [x0, x1, x2]) (bs := ([x0, x1, x2]).map (fun c => c.toInt8.toInt32)) (n := 3) g_r Z0 E_r F_value_r F_coder_r V_b (O2.ext Od.2) P5 rfl rfl (by decide) (by decide) hp rfl (by decide) (by decide)) (g := (mkF m 78 #[.val (.int nn), .val (.int x0), .val (.int x1), .val (.int x2)] [(.ref b), (.ref r), (.ref r)])) rfl (by rw [hml]; rfl) (Steps.refl _) (a := r) (argsL := [(.ref b)]) (rest := [(.ref r)]) (lenOf pd_3 rfl) rfl (by show 2 * 0 + _ ≤ _; exact Nat.le_of_eq rfl) (hb hby d1_78) (fun _ _ => ⟨rfl, e215, (by decide : 2 + 1 ≤ _), (by decide : 7 + 3 ≤ _)⟩)
        dsimp only [Pt.U, Pt.locs, Pt.cells, Pt.slots] at X216 l216 y216 z216 st216 hQ216
        subst l216 y216 z216
        obtain ⟨rfl, N216q, K216, E216n, F_coder_r, t_r, kb_r, g_t_r, sz_t_r, ne_t_r_r, F_value_r, V_t_r⟩ := hQ216
        have ne_b_t_r : b ≠ t_r := Nat.ne_of_lt (Nat.lt_of_lt_of_le V_b.lt sz_t_r)
        replace sz_t_r : h0.size ≤ t_r := Nat.le_trans K0.1 sz_t_r
        have N216 := Fr.app N215 N216q
        refine Go.by (fun t => st216.trans) ?_
        have Sfw := ((sfS Sf_r sf0) : ∀ x ∈ [r], Safe Z EL s.vm h215 x)
        replace Sf_r := Safe.keep K216 Sfw CR.1 Sf_r
        replace CR := CR.trans (CHr.keep K216 Sfw CR.1)
        clear Sfw
        replace hk := Nat.le_trans hk K216.1
        replace Od := Od.keep K216 (allS g_r all0)
        replace E_r := E_r.keep K216
        replace V_b := V_b.keep K216 (ninS (Ne.symm ne_r_b) nin0)
        replace Z0 := Nat.le_trans Z0 K216.1
        replace K0 := K0.trans K216 (allS (P := fun x => x ∈ _ ∨ _ ≤ x) (Or.inr sz_r) all0)
        show Go p e below _ (T216.setTop (mkF m 81 #[.val (.int nn), .val (.int x0), .val (.int x1), .val (.int x2)] [(.ref r)]))
        have S_r : StrAt Z T216.heap r ([x0, x1, x2]) := ⟨t_r, kb_r, _, _, E_r, F_value_r, F_coder_r, V_t_r, StrChars.Road.codOf (n := 3) rfl (fun c hc => (hp c hc).2), up _ hp, Nat.le_of_ble_eq_true rfl⟩
        show Go p e below _ (T216.setTop (mkF m 81 #[.val (.int nn), .val (.int x0), .val (.int x1), .val (.int x2)] [(.ref r)]))
        exact Go.ret1W X216 hS hk CR hZ hEL hx Bd.returns Bd.notSynchronized rfl (Or.inr (Or.inr (Or.inr (Or.inr ⟨rfl, rfl, rfl⟩)))) (hb hby d1_81) (by decide) (by decide) ⟨r, rfl, N216, K0, by rw [mkM, if_pos hc1, if_neg hc17, if_neg hc37]; exact S_r⟩
  · -- hc1 False
    refine Go.by (fun t => XS.ifNo X0.here hx rfl (hb hby d1_1) rfl ((if0 _ _).trans (flt (hc1 : ¬ ((0 : Int32) < nn))).2.2.1)) ?_
    show Go p e below _ (s₁.setTop (mkF m 4 #[.val (.int nn), .val (.int x0), .val (.int x1), .val (.int x2)] []))
    show Go p e below _ (s₁.setTop (mkF m 4 #[.val (.int nn), .val (.int x0), .val (.int x1), .val (.int x2)] []))
    obtain ⟨T217, h217, X217, e217, E217, A217, D217, -, st217⟩ := newO X0 hx hZ hown (hw _ (List.mem_of_getElem? (i := 4) rfl)) (hw _ (List.mem_of_getElem? (i := 5) rfl)) (hw _ (List.mem_of_getElem? (i := 6) rfl)) e0 (g := (mkF m 4 #[.val (.int nn), .val (.int x0), .val (.int x1), .val (.int x2)] [])) rfl (hb hby d1_4) (by decide) (by decide)
    obtain ⟨r, g217⟩ : ∃ z, z = h0.size := ⟨_, rfl⟩
    rw [← g217] at A217 D217 st217
    refine Go.by (fun t => st217 t) ?_
    have g_r : n0 ≤ r := Nat.le_trans Z0 (Nat.le_of_eq g217.symm)
    have sz_r : h0.size ≤ r := Nat.le_trans K0.1 (Nat.le_of_eq g217.symm)
    have Sf_r : Safe Z EL s.vm h0 r := Safe.new (Nat.le_of_eq g217.symm)
    replace Sf_r := Sf_r.ext E217 CR.1
    replace CR := CR.trans (CHr.ext E217 CR.1)
    replace hk := Nat.le_trans hk E217.1
    replace Od := Od.ext E217
    replace Z0 := Nat.le_trans Z0 E217.1
    replace K0 := K0.ext E217
    have E_r := A217
    have F_coder_r : Fld Z h217 r "java/lang/String" "coder" "B" (.int (0 : Int32)) := D217 (Or.inr (hw _ (List.mem_of_getElem? (i := 31) rfl))) (ty := .byte) (by decide)
    have F_value_r : Fld Z h217 r "java/lang/String" "value" "[B" .null := D217 (Or.inr (hw _ (List.mem_of_getElem? (i := 33) rfl))) (ty := (.array .byte)) (by decide)
    show Go p e below _ (T217.setTop (mkF m 7 #[.val (.int nn), .val (.int x0), .val (.int x1), .val (.int x2)] [(.ref r)]))
    show Go p e below _ (T217.setTop (mkF m 7 #[.val (.int nn), .val (.int x0), .val (.int x1), .val (.int x2)] [(.ref r)]))
    refine Go.by (fun t => XS.dup X217.here hx rfl (hb hby d1_7) rfl rfl) ?_
    show Go p e below _ (T217.setTop (mkF m 8 #[.val (.int nn), .val (.int x0), .val (.int x1), .val (.int x2)] [(.ref r), (.ref r)]))
    refine Go.by (fun t => XS.iconst X217.here hx rfl (hb hby d1_8)) ?_
    show Go p e below _ (T217.setTop (mkF m 9 #[.val (.int nn), .val (.int x0), .val (.int x1), .val (.int x2)] [(.int (0 : Int32)), (.ref r), (.ref r)]))
    obtain ⟨T218, h218, k218, X218, e218, E218, A218, st218⟩ := newP X217 hx hZ (hw _ (List.mem_of_getElem? (i := 7) rfl)) e217 (g := (mkF m 9 #[.val (.int nn), .val (.int x0), .val (.int x1), .val (.int x2)] [(.int (0 : Int32)), (.ref r), (.ref r)])) rfl (hb hby d1_9) rfl (by decide) (cap := 0) (by decide) (by decide) (by decide) (by decide)
    obtain ⟨b, g218⟩ : ∃ z, z = h217.size := ⟨_, rfl⟩
    rw [← g218] at A218 st218
    refine Go.by (fun t => st218 t) ?_
    have g_b : n0 ≤ b := Nat.le_trans Z0 (Nat.le_of_eq g218.symm)
    have sz_b : h0.size ≤ b := Nat.le_trans K0.1 (Nat.le_of_eq g218.symm)
    have ne_r_b : r ≠ b := Nat.ne_of_lt (Nat.lt_of_lt_of_le E_r.lt (Nat.le_of_eq g218.symm))
    replace Sf_r := Sf_r.ext E218 CR.1
    replace CR := CR.trans (CHr.ext E218 CR.1)
    replace hk := Nat.le_trans hk E218.1
    replace Od := Od.ext E218
    replace E_r := E_r.ext E218
    replace F_coder_r := F_coder_r.ext E218
    replace F_value_r := F_value_r.ext E218
    replace Z0 := Nat.le_trans Z0 E218.1
    replace K0 := K0.ext E218
    have V_b : Arv Z h218 b k218 .char (0 : Int32) [] (.int (0 : Int32)) := (Arv.new A218 (by decide)).pad (pad_rep [] (.int (0 : Int32)) 0)
    show Go p e below _ (T218.setTop (mkF m 11 #[.val (.int nn), .val (.int x0), .val (.int x1), .val (.int x2)] [(.ref b), (.ref r), (.ref r)]))
    obtain ⟨_, _, ⟨T219, L219, k219, n219⟩, -, X219, hSn, hgn, ⟨Lc219, hQ219, l219, y219, z219, CRn⟩, st219⟩ := X218.specialBackS hx (y := (⟨"java/lang/String", "<init>", "([C)V"⟩ : MethodName)) rfl hown (mvT (s := s.setVm s.vm) hZ (hw _ (List.mem_of_getElem? (i := 8) rfl))) (mvT (s := s.setVm s.vm) hZ (hw _ (List.mem_of_getElem? (i := 9) rfl))) (mvT (s := s.setVm s.vm) hZ (hw _ (List.mem_of_getElem? (i := 10) rfl))) (by decide) (backOfSH (W := 1) (rm2 l Z a0 hw [] r b _ _ _ h218 n0 E_r F_value_r F_coder_r g_r V_b) hZ (hw _ (List.mem_of_getElem? (i := 10) rfl)) (hw _ (List.mem_of_getElem? (i := 6) rfl)) (by decide) (by decide) hEL CR.1) (g := (mkF m 11 #[.val (.int nn), .val (.int x0), .val (.int x1), .val (.int x2)] [(.ref b), (.ref r), (.ref r)])) rfl (by rw [hml]; rfl) (Steps.refl _) (a := r) (argsL := [(.ref b)]) (rest := [(.ref r)]) (lenOf pd_3 rfl) rfl (by show 2 * 0 + _ ≤ _; exact Nat.le_of_eq rfl) (hb hby d1_11) (fun _ _ => ⟨rfl, e218, (by decide : 2 + 4 ≤ _), (by decide : 4 + 8 ≤ _)⟩)
    dsimp only [Pt.U, Pt.locs, Pt.cells, Pt.slots] at X219 l219 y219 z219 st219 hQ219 hSn hgn CRn
    subst l219 y219 z219
    rw [e218] at hgn
    obtain ⟨X219', hS219, hZ219, hown219⟩ := rebS hS hk X219 hSn hgn hZ hown
    obtain ⟨rfl, Nq219, K219, S_r⟩ := hQ219
    have N219 := Fr.app N0 Nq219
    refine Go.by (fun t => st219.trans) ?_
    replace CR := CR.trans CRn
    replace Od := Od.keep K219 (allS g_r all0)
    replace E_r := E_r.keep K219
    replace Z0 := Nat.le_trans Z0 K219.1
    replace K0 := K0.trans K219 (allS (P := fun x => x ∈ _ ∨ _ ≤ x) (Or.inr sz_r) all0)
    clear CRn hS hk hSn
    have hS := hS219
    have hk : T219.heap.size ≤ T219.heap.size := Nat.le_refl _
    replace hZ := hZ219
    replace hown := hown219
    show Go p e below _ (T219.setTop (mkF m 14 #[.val (.int nn), .val (.int x0), .val (.int x1), .val (.int x2)] [(.ref r)]))
    show Go p e below _ (T219.setTop (mkF m 14 #[.val (.int nn), .val (.int x0), .val (.int x1), .val (.int x2)] [(.ref r)]))
    exact Go.ret1W X219' hS hk CR hZ hEL hx Bd.returns Bd.notSynchronized rfl (Or.inr (Or.inr (Or.inr (Or.inr ⟨rfl, rfl, rfl⟩)))) (hb hby d1_14) (by decide) (by decide) ⟨r, rfl, N219, K0, by rw [mkM, if_neg hc1]; exact S_r⟩
def Q_rm0 (Z : State) (p0 p1 p2 p3 G1 : Int32) (G3 : Value) (h0 : Heap) (n0 : Nat) : Option Value → Heap → List Loc → Prop := fun v _ L => v = some (.int 1) ∧ Fr n0 L
set_option maxRecDepth 65536 in
set_option maxHeartbeats 40000000 in
theorem rm0 (l : Launch) (Z : State) (a0 : Array Value) (hw : ∀ d ∈ tables_1, d.before a0 Z = true) (ws : List Jvm.Cond) (p0 p1 p2 p3 G1 : Int32) (G3 : Value) (h0 : Heap) (n0 : Nat) (Z0 : n0 ≤ h0.size) (Od : Old Z n0 h0) (O2 : Sta Z Z.heap "java/lang/String" "COMPACT_STRINGS" "Z" (.int G1)) (P5 : ¬ (G1 = (0 : Int32))) (O4 : Sta Z Z.heap "jdk/internal/util/Preconditions" "SIOOBE_FORMATTER" "Ljava/util/function/BiFunction;" G3) (rG3 : G3.isRef = true) :
    MetFree l x (head1 (Jvm.Cond.code x code maxLocals ret :: ws) room_1) (fun a U => a = #[(.int p0), (.int p1), (.int p2), (.int p3)] ∧ Z.Warmed39 U.vm ∧ U.heap = h0 ∧ CHv Z EL U.vm h0) (fun _ _ _ _ _ => True) (fun _ U o U' => ∃ v L, o = .returned v ∧ Q_rm0 Z p0 p1 p2 p3 G1 G3 h0 n0 v U'.heap L ∧ CHr Z EL U.vm U.heap U'.vm U'.heap ∧ ReturnedEndW U o U' L room_1.cells room_1.slots) := by
  refine MetFree.of_bodySF (plainFor_of_name pn_0) hisR ?_
  intro p e s m args below meth c s₁ Bd hml0 hP hK
  obtain ⟨rfl, hZ, hh, CH0⟩ := hP
  have hx := Bd.exec
  have hby := Bd.bytes
  have hml : c.maxLocals = 11 := hml0
  have hown : s.vm.findClass "com/example/slicewright/slicewright/slicing/OccurrenceElementNamePinLaw" = some m.cls := findClass_of_methodNamed Bd.named
  have hnm := (name_of_methodNamed Bd.named Bd.method).1
  have X0 : Stand p l e room_1 (s.setVm s.vm) m #[(.int p0), (.int p1), (.int p2), (.int p3)] below meth c s₁ [] 0 0 := Stand.of_body Bd
  have e0 : s₁.heap = h0 := by rw [← hh, Bd.state]; rfl
  have N0 := Fr.nil n0
  have hS : s.Since s.vm 0 := (State.WarmedH.refl s).since 0
  have hk : 0 ≤ h0.size := Nat.zero_le _
  have CR : CHr Z EL s.vm s.heap s.vm h0 := by rw [hh]; exact CHr.refl CH0
  have hEL := ew_of hw
  have hwS := ws_of hw
  have heq : ∀ d ∈ StrChars.Road.wordsEq, d.before a0 Z = true := fun d hd => hw d ((by decide +kernel : ∀ d ∈ StrChars.Road.wordsEq, d ∈ tables_1) d hd)
  have t47 : ∀ (nn x0 x1 : Int32) (hnn : nn = 0 ∨ nn = 1 ∨ nn = 2 ∨ nn = 3) (hx0 : ¬ x0 < 0 ∧ ¬ (255 : Int32) < x0) (hx1 : ¬ x1 < 0 ∧ ¬ (255 : Int32) < x1), Go p e below (EndW EL Z (fun v _ L => v = some (.int 1) ∧ Fr n0 L) s 32 3200) (s₁.setTop (mkF m 47 #[.val (.int p0), .val (.int p1), .val (.int p2), .val (.int p3), .val (.int nn), .val (.int x0), .val (.int x1), .unset, .unset, .unset, .unset] [])) := by
    intro nn x0 x1 hnn hx0 hx1
    have hx2 := and255_id p2
    rcases hnn with rfl | rfl | rfl | rfl
    ·
      show Go p e below _ (s₁.setTop (mkF m 47 #[.val (.int p0), .val (.int p1), .val (.int p2), .val (.int p3), .val (.int (0 : Int32)), .val (.int x0), .val (.int x1), .unset, .unset, .unset, .unset] []))
      refine Go.by (fun t => XS.iloadN X0.here hx rfl (hb hby at_47) rfl ) ?_
      show Go p e below _ (s₁.setTop (mkF m 48 #[.val (.int p0), .val (.int p1), .val (.int p2), .val (.int p3), .val (.int (0 : Int32)), .val (.int x0), .val (.int x1), .unset, .unset, .unset, .unset] [(.int p2)]))
      refine Go.by (fun t => XS.sipush X0.here hx rfl (hb hby at_48)) ?_
      show Go p e below _ (s₁.setTop (mkF m 51 #[.val (.int p0), .val (.int p1), .val (.int p2), .val (.int p3), .val (.int (0 : Int32)), .val (.int x0), .val (.int x1), .unset, .unset, .unset, .unset] [(.int (255 : Int32)), (.int p2)]))
      refine Go.by (fun t => XS.iand X0.here hx rfl (hb hby at_51) rfl) ?_
      show Go p e below _ (s₁.setTop (mkF m 52 #[.val (.int p0), .val (.int p1), .val (.int p2), .val (.int p3), .val (.int (0 : Int32)), .val (.int x0), .val (.int x1), .unset, .unset, .unset, .unset] [(.int (p2 &&& (255 : Int32)))]))
      refine Go.by (fun t => XS.i2c X0.here hx rfl (hb hby at_52) rfl) ?_
      show Go p e below _ (s₁.setTop (mkF m 53 #[.val (.int p0), .val (.int p1), .val (.int p2), .val (.int p3), .val (.int (0 : Int32)), .val (.int x0), .val (.int x1), .unset, .unset, .unset, .unset] [(.int ((p2 &&& (255 : Int32)).toUInt32.toUInt16.toUInt32.toInt32))]))
      refine Go.by (fun t => XS.istore X0.here hx rfl (hb hby at_53) rfl (l' := #[.val (.int p0), .val (.int p1), .val (.int p2), .val (.int p3), .val (.int (0 : Int32)), .val (.int x0), .val (.int x1), .val (.int ((p2 &&& (255 : Int32)).toUInt32.toUInt16.toUInt32.toInt32)), .unset, .unset, .unset]) rfl) ?_
      show Go p e below _ (s₁.setTop (mkF m 55 #[.val (.int p0), .val (.int p1), .val (.int p2), .val (.int p3), .val (.int (0 : Int32)), .val (.int x0), .val (.int x1), .val (.int ((p2 &&& (255 : Int32)).toUInt32.toUInt16.toUInt32.toInt32)), .unset, .unset, .unset] []))
      refine Go.by (fun t => XS.iload X0.here hx rfl (hb hby at_55) rfl ) ?_
      show Go p e below _ (s₁.setTop (mkF m 57 #[.val (.int p0), .val (.int p1), .val (.int p2), .val (.int p3), .val (.int (0 : Int32)), .val (.int x0), .val (.int x1), .val (.int ((p2 &&& (255 : Int32)).toUInt32.toUInt16.toUInt32.toInt32)), .unset, .unset, .unset] [(.int (0 : Int32))]))
      refine Go.by (fun t => XS.iload X0.here hx rfl (hb hby at_57) rfl ) ?_
      show Go p e below _ (s₁.setTop (mkF m 59 #[.val (.int p0), .val (.int p1), .val (.int p2), .val (.int p3), .val (.int (0 : Int32)), .val (.int x0), .val (.int x1), .val (.int ((p2 &&& (255 : Int32)).toUInt32.toUInt16.toUInt32.toInt32)), .unset, .unset, .unset] [(.int x0), (.int (0 : Int32))]))
      refine Go.by (fun t => XS.iload X0.here hx rfl (hb hby at_59) rfl ) ?_
      show Go p e below _ (s₁.setTop (mkF m 61 #[.val (.int p0), .val (.int p1), .val (.int p2), .val (.int p3), .val (.int (0 : Int32)), .val (.int x0), .val (.int x1), .val (.int ((p2 &&& (255 : Int32)).toUInt32.toUInt16.toUInt32.toInt32)), .unset, .unset, .unset] [(.int x1), (.int x0), (.int (0 : Int32))]))
      refine Go.by (fun t => XS.iload X0.here hx rfl (hb hby at_61) rfl ) ?_
      show Go p e below _ (s₁.setTop (mkF m 63 #[.val (.int p0), .val (.int p1), .val (.int p2), .val (.int p3), .val (.int (0 : Int32)), .val (.int x0), .val (.int x1), .val (.int ((p2 &&& (255 : Int32)).toUInt32.toUInt16.toUInt32.toInt32)), .unset, .unset, .unset] [(.int ((p2 &&& (255 : Int32)).toUInt32.toUInt16.toUInt32.toInt32)), (.int x1), (.int x0), (.int (0 : Int32))]))
      obtain ⟨_, _, ⟨T220, L220, k220, n220⟩, -, X220, hSn, hgn, ⟨Lc220, hQ220, l220, y220, z220, CRn⟩, st220⟩ := callSS X0 hx (y := (⟨"com/example/slicewright/slicewright/slicing/OccurrenceElementNamePinLaw", "make", "(ICCC)Ljava/lang/String;"⟩ : MethodName)) hown (mvT (s := s.setVm s.vm) hZ (hw _ (List.mem_of_getElem? (i := 0) rfl))) (mvT (s := s.setVm s.vm) hZ (hw _ (List.mem_of_getElem? (i := 1) rfl))) (mvT (s := s.setVm s.vm) hZ (hw _ (List.mem_of_getElem? (i := 2) rfl))) (mvT (s := s.setVm s.vm) hZ (hw _ (List.mem_of_getElem? (i := 3) rfl))) (by decide) (backOfSH (W := 0) (rm1 l Z a0 hw [] (0 : Int32) x0 x1 ((p2 &&& (255 : Int32)).toUInt32.toUInt16.toUInt32.toInt32) G1 h0 n0 Z0 Od O2 P5 hx0 hx1 hx2) hZ (hw _ (List.mem_of_getElem? (i := 3) rfl)) (hw _ (List.mem_of_getElem? (i := 2) rfl)) (by decide) (by decide) hEL CR.1) (g := (mkF m 63 #[.val (.int p0), .val (.int p1), .val (.int p2), .val (.int p3), .val (.int (0 : Int32)), .val (.int x0), .val (.int x1), .val (.int ((p2 &&& (255 : Int32)).toUInt32.toUInt16.toUInt32.toInt32)), .unset, .unset, .unset] [(.int ((p2 &&& (255 : Int32)).toUInt32.toUInt16.toUInt32.toInt32)), (.int x1), (.int x0), (.int (0 : Int32))])) rfl (by rw [hml]; rfl) (argsL := [(.int (0 : Int32)), (.int x0), (.int x1), (.int ((p2 &&& (255 : Int32)).toUInt32.toUInt16.toUInt32.toInt32))]) (rest := []) (lenOf pd_0 rfl) rfl (by show 2 * 0 + _ ≤ _; exact Nat.le_of_eq rfl) (hb hby at_63) (fun _ _ => ⟨rfl, e0, (by decide : 0 + 6 ≤ _), (by decide : 0 + 12 ≤ _)⟩)
      dsimp only [Pt.U, Pt.locs, Pt.cells, Pt.slots] at X220 l220 y220 z220 st220 hQ220 hSn hgn CRn
      subst l220 y220 z220
      rw [e0] at hgn
      obtain ⟨X220', hS220, hZ220, hown220⟩ := rebS hS hk X220 hSn hgn hZ hown
      obtain ⟨me, rfl, Nq220, K220, S_me⟩ := hQ220
      have N220 := Fr.app N0 Nq220
      refine Go.by (fun t => st220.trans) ?_
      replace CR := CR.trans CRn
      replace Od := Od.keep K220 all0
      replace Z0 := Nat.le_trans Z0 K220.1
      clear CRn hS hk hSn
      have hS := hS220
      have hk : T220.heap.size ≤ T220.heap.size := Nat.le_refl _
      replace hZ := hZ220
      replace hown := hown220
      show Go p e below _ (T220.setTop (mkF m 66 #[.val (.int p0), .val (.int p1), .val (.int p2), .val (.int p3), .val (.int (0 : Int32)), .val (.int x0), .val (.int x1), .val (.int ((p2 &&& (255 : Int32)).toUInt32.toUInt16.toUInt32.toInt32)), .unset, .unset, .unset] [(.ref me)]))
      replace S_me : StrAt Z T220.heap me [] := S_me
      show Go p e below _ (T220.setTop (mkF m 66 #[.val (.int p0), .val (.int p1), .val (.int p2), .val (.int p3), .val (.int (0 : Int32)), .val (.int x0), .val (.int x1), .val (.int ((p2 &&& (255 : Int32)).toUInt32.toUInt16.toUInt32.toInt32)), .unset, .unset, .unset] [(.ref me)]))
      refine Go.by (fun t => XS.astore X220'.here hx rfl (hb hby at_66) rfl rfl (l' := #[.val (.int p0), .val (.int p1), .val (.int p2), .val (.int p3), .val (.int (0 : Int32)), .val (.int x0), .val (.int x1), .val (.int ((p2 &&& (255 : Int32)).toUInt32.toUInt16.toUInt32.toInt32)), .val (.ref me), .unset, .unset]) rfl) ?_
      show Go p e below _ (T220.setTop (mkF m 68 #[.val (.int p0), .val (.int p1), .val (.int p2), .val (.int p3), .val (.int (0 : Int32)), .val (.int x0), .val (.int x1), .val (.int ((p2 &&& (255 : Int32)).toUInt32.toUInt16.toUInt32.toInt32)), .val (.ref me), .unset, .unset] []))
      refine Go.by (fun t => XS.iload X220'.here hx rfl (hb hby at_68) rfl ) ?_
      show Go p e below _ (T220.setTop (mkF m 70 #[.val (.int p0), .val (.int p1), .val (.int p2), .val (.int p3), .val (.int (0 : Int32)), .val (.int x0), .val (.int x1), .val (.int ((p2 &&& (255 : Int32)).toUInt32.toUInt16.toUInt32.toInt32)), .val (.ref me), .unset, .unset] [(.int (0 : Int32))]))
      refine Go.by (fun t => XS.ifYes X220'.here hx rfl (pc0 := 70) (pc' := 98) rfl (hb hby at_70) rfl ((if0 _ _).trans (flt (by decide : ¬ ((0 : Int32) < (0 : Int32)))).2.2.2) (by decide) (by decide)) ?_
      show Go p e below _ (T220.setTop (mkF m 98 #[.val (.int p0), .val (.int p1), .val (.int p2), .val (.int p3), .val (.int (0 : Int32)), .val (.int x0), .val (.int x1), .val (.int ((p2 &&& (255 : Int32)).toUInt32.toUInt16.toUInt32.toInt32)), .val (.ref me), .unset, .unset] []))
      show Go p e below _ (T220.setTop (mkF m 98 #[.val (.int p0), .val (.int p1), .val (.int p2), .val (.int p3), .val (.int (0 : Int32)), .val (.int x0), .val (.int x1), .val (.int ((p2 &&& (255 : Int32)).toUInt32.toUInt16.toUInt32.toInt32)), .val (.ref me), .unset, .unset] []))
      refine Go.by (fun t => XS.iload X220'.here hx rfl (hb hby at_98) rfl ) ?_
      show Go p e below _ (T220.setTop (mkF m 100 #[.val (.int p0), .val (.int p1), .val (.int p2), .val (.int p3), .val (.int (0 : Int32)), .val (.int x0), .val (.int x1), .val (.int ((p2 &&& (255 : Int32)).toUInt32.toUInt16.toUInt32.toInt32)), .val (.ref me), .unset, .unset] [(.int (0 : Int32))]))
      refine Go.by (fun t => XS.iload X220'.here hx rfl (hb hby at_100) rfl ) ?_
      show Go p e below _ (T220.setTop (mkF m 102 #[.val (.int p0), .val (.int p1), .val (.int p2), .val (.int p3), .val (.int (0 : Int32)), .val (.int x0), .val (.int x1), .val (.int ((p2 &&& (255 : Int32)).toUInt32.toUInt16.toUInt32.toInt32)), .val (.ref me), .unset, .unset] [(.int x0), (.int (0 : Int32))]))
      refine Go.by (fun t => XS.iload X220'.here hx rfl (hb hby at_102) rfl ) ?_
      show Go p e below _ (T220.setTop (mkF m 104 #[.val (.int p0), .val (.int p1), .val (.int p2), .val (.int p3), .val (.int (0 : Int32)), .val (.int x0), .val (.int x1), .val (.int ((p2 &&& (255 : Int32)).toUInt32.toUInt16.toUInt32.toInt32)), .val (.ref me), .unset, .unset] [(.int x1), (.int x0), (.int (0 : Int32))]))
      refine Go.by (fun t => XS.iload X220'.here hx rfl (hb hby at_104) rfl ) ?_
      show Go p e below _ (T220.setTop (mkF m 106 #[.val (.int p0), .val (.int p1), .val (.int p2), .val (.int p3), .val (.int (0 : Int32)), .val (.int x0), .val (.int x1), .val (.int ((p2 &&& (255 : Int32)).toUInt32.toUInt16.toUInt32.toInt32)), .val (.ref me), .unset, .unset] [(.int ((p2 &&& (255 : Int32)).toUInt32.toUInt16.toUInt32.toInt32)), (.int x1), (.int x0), (.int (0 : Int32))]))
      obtain ⟨_, _, ⟨T221, L221, k221, n221⟩, -, X221, hSn, hgn, ⟨Lc221, hQ221, l221, y221, z221, CRn⟩, st221⟩ := callSS X220' hx (y := (⟨"com/example/slicewright/slicewright/slicing/OccurrenceElementNamePinLaw", "make", "(ICCC)Ljava/lang/String;"⟩ : MethodName)) hown (mvT (s := s.setVm T220.vm) hZ (hw _ (List.mem_of_getElem? (i := 0) rfl))) (mvT (s := s.setVm T220.vm) hZ (hw _ (List.mem_of_getElem? (i := 1) rfl))) (mvT (s := s.setVm T220.vm) hZ (hw _ (List.mem_of_getElem? (i := 2) rfl))) (mvT (s := s.setVm T220.vm) hZ (hw _ (List.mem_of_getElem? (i := 3) rfl))) (by decide) (backOfSH (W := 0) (rm1 l Z a0 hw [] (0 : Int32) x0 x1 ((p2 &&& (255 : Int32)).toUInt32.toUInt16.toUInt32.toInt32) G1 T220.heap n0 Z0 Od O2 P5 hx0 hx1 hx2) hZ (hw _ (List.mem_of_getElem? (i := 3) rfl)) (hw _ (List.mem_of_getElem? (i := 2) rfl)) (by decide) (by decide) hEL CR.1) (g := (mkF m 106 #[.val (.int p0), .val (.int p1), .val (.int p2), .val (.int p3), .val (.int (0 : Int32)), .val (.int x0), .val (.int x1), .val (.int ((p2 &&& (255 : Int32)).toUInt32.toUInt16.toUInt32.toInt32)), .val (.ref me), .unset, .unset] [(.int ((p2 &&& (255 : Int32)).toUInt32.toUInt16.toUInt32.toInt32)), (.int x1), (.int x0), (.int (0 : Int32))])) rfl (by rw [hml]; rfl) (argsL := [(.int (0 : Int32)), (.int x0), (.int x1), (.int ((p2 &&& (255 : Int32)).toUInt32.toUInt16.toUInt32.toInt32))]) (rest := []) (lenOf pd_0 rfl) rfl (by show 2 * 0 + _ ≤ _; exact Nat.le_of_eq rfl) (hb hby at_106) (fun _ _ => ⟨rfl, rfl, (by decide : 6 + 6 ≤ _), (by decide : 12 + 12 ≤ _)⟩)
      dsimp only [Pt.U, Pt.locs, Pt.cells, Pt.slots] at X221 l221 y221 z221 st221 hQ221 hSn hgn CRn
      subst l221 y221 z221
      skip
      obtain ⟨X221', hS221, hZ221, hown221⟩ := rebS hS hk X221 hSn hgn hZ hown
      obtain ⟨ex, rfl, Nq221, K221, S_ex⟩ := hQ221
      have N221 := Fr.app N220 Nq221
      refine Go.by (fun t => st221.trans) ?_
      replace S_me := S_me.keep K221 nin0 (fun _ _ _ _ A => nin0)
      replace CR := CR.trans CRn
      replace Od := Od.keep K221 all0
      replace Z0 := Nat.le_trans Z0 K221.1
      clear CRn hS hk hSn
      have hS := hS221
      have hk : T221.heap.size ≤ T221.heap.size := Nat.le_refl _
      replace hZ := hZ221
      replace hown := hown221
      show Go p e below _ (T221.setTop (mkF m 109 #[.val (.int p0), .val (.int p1), .val (.int p2), .val (.int p3), .val (.int (0 : Int32)), .val (.int x0), .val (.int x1), .val (.int ((p2 &&& (255 : Int32)).toUInt32.toUInt16.toUInt32.toInt32)), .val (.ref me), .unset, .unset] [(.ref ex)]))
      replace S_ex : StrAt Z T221.heap ex [] := S_ex
      show Go p e below _ (T221.setTop (mkF m 109 #[.val (.int p0), .val (.int p1), .val (.int p2), .val (.int p3), .val (.int (0 : Int32)), .val (.int x0), .val (.int x1), .val (.int ((p2 &&& (255 : Int32)).toUInt32.toUInt16.toUInt32.toInt32)), .val (.ref me), .unset, .unset] [(.ref ex)]))
      refine Go.by (fun t => XS.astore X221'.here hx rfl (hb hby at_109) rfl rfl (l' := #[.val (.int p0), .val (.int p1), .val (.int p2), .val (.int p3), .val (.int (0 : Int32)), .val (.int x0), .val (.int x1), .val (.int ((p2 &&& (255 : Int32)).toUInt32.toUInt16.toUInt32.toInt32)), .val (.ref me), .val (.ref ex), .unset]) rfl) ?_
      show Go p e below _ (T221.setTop (mkF m 111 #[.val (.int p0), .val (.int p1), .val (.int p2), .val (.int p3), .val (.int (0 : Int32)), .val (.int x0), .val (.int x1), .val (.int ((p2 &&& (255 : Int32)).toUInt32.toUInt16.toUInt32.toInt32)), .val (.ref me), .val (.ref ex), .unset] []))
      refine Go.by (fun t => XS.aload X221'.here hx rfl (hb hby at_111) rfl rfl) ?_
      show Go p e below _ (T221.setTop (mkF m 113 #[.val (.int p0), .val (.int p1), .val (.int p2), .val (.int p3), .val (.int (0 : Int32)), .val (.int x0), .val (.int x1), .val (.int ((p2 &&& (255 : Int32)).toUInt32.toUInt16.toUInt32.toInt32)), .val (.ref me), .val (.ref ex), .unset] [(.ref me)]))
      obtain ⟨_, _, ⟨T222, L222, k222, n222⟩, -, X222, hSn, hgn, ⟨Lc222, hQ222, l222, y222, z222, CRn⟩, st222⟩ := callSS X221' hx (y := (⟨"com/example/slicewright/slicewright/slicing/Occurrence", "elementName", "(Ljava/lang/String;)Ljava/lang/String;"⟩ : MethodName)) hown (mvT (s := s.setVm T221.vm) hZ (hw _ (List.mem_of_getElem? (i := 34) rfl))) (mvT (s := s.setVm T221.vm) hZ (hw _ (List.mem_of_getElem? (i := 35) rfl))) (mvT (s := s.setVm T221.vm) hZ (hw _ (List.mem_of_getElem? (i := 36) rfl))) (mvT (s := s.setVm T221.vm) hZ (hw _ (List.mem_of_getElem? (i := 37) rfl))) (by decide) (backOfSH (W := 0) (rmEN0 l Z a0 hw [] me  G1 G3 T221.heap n0 Z0 Od O2 P5 O4 rG3 S_me ) hZ (hw _ (List.mem_of_getElem? (i := 37) rfl)) (hw _ (List.mem_of_getElem? (i := 36) rfl)) (by decide) (by decide) hEL CR.1) (g := (mkF m 113 #[.val (.int p0), .val (.int p1), .val (.int p2), .val (.int p3), .val (.int (0 : Int32)), .val (.int x0), .val (.int x1), .val (.int ((p2 &&& (255 : Int32)).toUInt32.toUInt16.toUInt32.toInt32)), .val (.ref me), .val (.ref ex), .unset] [(.ref me)])) rfl (by rw [hml]; rfl) (argsL := [(.ref me)]) (rest := []) (lenOf pd_1 rfl) rfl (by show 2 * 0 + _ ≤ _; exact Nat.le_of_eq rfl) (hb hby at_113) (fun _ _ => ⟨rfl, rfl, (by decide : 12 + 4 ≤ _), (by decide : 24 + 20 ≤ _)⟩)
      dsimp only [Pt.U, Pt.locs, Pt.cells, Pt.slots] at X222 l222 y222 z222 st222 hQ222 hSn hgn CRn
      subst l222 y222 z222
      skip
      obtain ⟨X222', hS222, hZ222, hown222⟩ := rebS hS hk X222 hSn hgn hZ hown
      obtain ⟨gt, rfl, Nq222, K222, S_gt⟩ := hQ222
      have N222 := Fr.app N221 Nq222
      refine Go.by (fun t => st222.trans) ?_
      replace S_me := S_me.keep K222 nin0 (fun _ _ _ _ A => nin0)
      replace S_ex := S_ex.keep K222 nin0 (fun _ _ _ _ A => nin0)
      replace CR := CR.trans CRn
      replace Od := Od.keep K222 all0
      replace Z0 := Nat.le_trans Z0 K222.1
      clear CRn hS hk hSn
      have hS := hS222
      have hk : T222.heap.size ≤ T222.heap.size := Nat.le_refl _
      replace hZ := hZ222
      replace hown := hown222
      show Go p e below _ (T222.setTop (mkF m 116 #[.val (.int p0), .val (.int p1), .val (.int p2), .val (.int p3), .val (.int (0 : Int32)), .val (.int x0), .val (.int x1), .val (.int ((p2 &&& (255 : Int32)).toUInt32.toUInt16.toUInt32.toInt32)), .val (.ref me), .val (.ref ex), .unset] [(.ref gt)]))
      show Go p e below _ (T222.setTop (mkF m 116 #[.val (.int p0), .val (.int p1), .val (.int p2), .val (.int p3), .val (.int (0 : Int32)), .val (.int x0), .val (.int x1), .val (.int ((p2 &&& (255 : Int32)).toUInt32.toUInt16.toUInt32.toInt32)), .val (.ref me), .val (.ref ex), .unset] [(.ref gt)]))
      refine Go.by (fun t => XS.astore X222'.here hx rfl (hb hby at_116) rfl rfl (l' := #[.val (.int p0), .val (.int p1), .val (.int p2), .val (.int p3), .val (.int (0 : Int32)), .val (.int x0), .val (.int x1), .val (.int ((p2 &&& (255 : Int32)).toUInt32.toUInt16.toUInt32.toInt32)), .val (.ref me), .val (.ref ex), .val (.ref gt)]) rfl) ?_
      show Go p e below _ (T222.setTop (mkF m 118 #[.val (.int p0), .val (.int p1), .val (.int p2), .val (.int p3), .val (.int (0 : Int32)), .val (.int x0), .val (.int x1), .val (.int ((p2 &&& (255 : Int32)).toUInt32.toUInt16.toUInt32.toInt32)), .val (.ref me), .val (.ref ex), .val (.ref gt)] []))
      refine Go.by (fun t => XS.aload X222'.here hx rfl (hb hby at_118) rfl rfl) ?_
      show Go p e below _ (T222.setTop (mkF m 120 #[.val (.int p0), .val (.int p1), .val (.int p2), .val (.int p3), .val (.int (0 : Int32)), .val (.int x0), .val (.int x1), .val (.int ((p2 &&& (255 : Int32)).toUInt32.toUInt16.toUInt32.toInt32)), .val (.ref me), .val (.ref ex), .val (.ref gt)] [(.ref gt)]))
      refine Go.by (fun t => XS.ifnullNo X222'.here hx rfl (hb hby at_120) rfl) ?_
      show Go p e below _ (T222.setTop (mkF m 123 #[.val (.int p0), .val (.int p1), .val (.int p2), .val (.int p3), .val (.int (0 : Int32)), .val (.int x0), .val (.int x1), .val (.int ((p2 &&& (255 : Int32)).toUInt32.toUInt16.toUInt32.toInt32)), .val (.ref me), .val (.ref ex), .val (.ref gt)] []))
      show Go p e below _ (T222.setTop (mkF m 123 #[.val (.int p0), .val (.int p1), .val (.int p2), .val (.int p3), .val (.int (0 : Int32)), .val (.int x0), .val (.int x1), .val (.int ((p2 &&& (255 : Int32)).toUInt32.toUInt16.toUInt32.toInt32)), .val (.ref me), .val (.ref ex), .val (.ref gt)] []))
      refine Go.by (fun t => XS.aload X222'.here hx rfl (hb hby at_123) rfl rfl) ?_
      show Go p e below _ (T222.setTop (mkF m 125 #[.val (.int p0), .val (.int p1), .val (.int p2), .val (.int p3), .val (.int (0 : Int32)), .val (.int x0), .val (.int x1), .val (.int ((p2 &&& (255 : Int32)).toUInt32.toUInt16.toUInt32.toInt32)), .val (.ref me), .val (.ref ex), .val (.ref gt)] [(.ref gt)]))
      refine Go.by (fun t => XS.aload X222'.here hx rfl (hb hby at_125) rfl rfl) ?_
      show Go p e below _ (T222.setTop (mkF m 127 #[.val (.int p0), .val (.int p1), .val (.int p2), .val (.int p3), .val (.int (0 : Int32)), .val (.int x0), .val (.int x1), .val (.int ((p2 &&& (255 : Int32)).toUInt32.toUInt16.toUInt32.toInt32)), .val (.ref me), .val (.ref ex), .val (.ref gt)] [(.ref ex), (.ref gt)]))
      obtain ⟨cq223, kq223, q223a, q223b, q223c⟩ := isOf hZ rfl S_gt.exa
      obtain ⟨_, _, ⟨T223, L223, k223, n223⟩, -, X223, ⟨Lc223, hQ223, l223, y223, z223⟩, st223⟩ := X222'.virtualBack hx (y := (⟨"java/lang/String", "equals", "(Ljava/lang/Object;)Z"⟩ : MethodName)) (z := (⟨"java/lang/String", "equals", "(Ljava/lang/Object;)Z"⟩ : MethodName)) hown (mvT hZ (hw _ (List.mem_of_getElem? (i := 65) rfl))) (mvT hZ (hw _ (List.mem_of_getElem? (i := 66) rfl))) (notFace_of_selects (args := #[]) (mvT hZ (hw _ (List.mem_of_getElem? (i := 68) rfl)))) (mvT hZ (hw _ (List.mem_of_getElem? (i := 68) rfl))) (mvT hZ (hw _ (List.mem_of_getElem? (i := 67) rfl))) (by decide) (eqS (W := 0) hZ heq (hw _ (List.mem_of_getElem? (i := 5) rfl)) S_gt S_ex (O2.ext Od.2) P5 (by decide) (by decide)) q223a q223c (g := (mkF m 127 #[.val (.int p0), .val (.int p1), .val (.int p2), .val (.int p3), .val (.int (0 : Int32)), .val (.int x0), .val (.int x1), .val (.int ((p2 &&& (255 : Int32)).toUInt32.toUInt16.toUInt32.toInt32)), .val (.ref me), .val (.ref ex), .val (.ref gt)] [(.ref ex), (.ref gt)])) rfl (by rw [hml]; rfl) (Steps.refl _) (argsL := [(.ref ex)]) (rest := []) (lenOf pd_2 rfl) rfl (by show 2 * 0 + _ ≤ _; exact Nat.le_of_eq rfl) (hb hby at_127) (fun _ _ => ⟨rfl, rfl, (by decide : 16 + 0 ≤ _), (by decide : 44 + 0 ≤ _)⟩)
      dsimp only [Pt.U, Pt.locs, Pt.cells, Pt.slots] at X223 l223 y223 z223 st223 hQ223
      subst l223 y223 z223
      obtain ⟨hv223, rfl, e223⟩ := hQ223
      rw [if_pos rfl] at hv223
      subst hv223
      have Nq223 : Fr n0 ([] : List Loc) := Fr.nil n0
      have N223 := Fr.app N222 Nq223
      refine Go.by (fun t => st223.trans) ?_
      show Go p e below _ (T223.setTop (mkF m 130 #[.val (.int p0), .val (.int p1), .val (.int p2), .val (.int p3), .val (.int (0 : Int32)), .val (.int x0), .val (.int x1), .val (.int ((p2 &&& (255 : Int32)).toUInt32.toUInt16.toUInt32.toInt32)), .val (.ref me), .val (.ref ex), .val (.ref gt)] [(.int (1 : Int32))]))
      refine Go.by (fun t => XS.ifNo X223.here hx rfl (hb hby at_130) rfl ((if0 _ _).trans (feq (by decide : ¬ ((1 : Int32) = (0 : Int32)))).1)) ?_
      show Go p e below _ (T223.setTop (mkF m 133 #[.val (.int p0), .val (.int p1), .val (.int p2), .val (.int p3), .val (.int (0 : Int32)), .val (.int x0), .val (.int x1), .val (.int ((p2 &&& (255 : Int32)).toUInt32.toUInt16.toUInt32.toInt32)), .val (.ref me), .val (.ref ex), .val (.ref gt)] []))
      show Go p e below _ (T223.setTop (mkF m 133 #[.val (.int p0), .val (.int p1), .val (.int p2), .val (.int p3), .val (.int (0 : Int32)), .val (.int x0), .val (.int x1), .val (.int ((p2 &&& (255 : Int32)).toUInt32.toUInt16.toUInt32.toInt32)), .val (.ref me), .val (.ref ex), .val (.ref gt)] []))
      refine Go.by (fun t => XS.iconst X223.here hx rfl (hb hby at_133)) ?_
      show Go p e below _ (T223.setTop (mkF m 134 #[.val (.int p0), .val (.int p1), .val (.int p2), .val (.int p3), .val (.int (0 : Int32)), .val (.int x0), .val (.int x1), .val (.int ((p2 &&& (255 : Int32)).toUInt32.toUInt16.toUInt32.toInt32)), .val (.ref me), .val (.ref ex), .val (.ref gt)] [(.int (1 : Int32))]))
      refine Go.by (fun t => XS.goto X223.here hx rfl (pc0 := 134) (pc' := 138) rfl (hb hby at_134) (by decide) (by decide)) ?_
      show Go p e below _ (T223.setTop (mkF m 138 #[.val (.int p0), .val (.int p1), .val (.int p2), .val (.int p3), .val (.int (0 : Int32)), .val (.int x0), .val (.int x1), .val (.int ((p2 &&& (255 : Int32)).toUInt32.toUInt16.toUInt32.toInt32)), .val (.ref me), .val (.ref ex), .val (.ref gt)] [(.int (1 : Int32))]))
      exact Go.ret1W X223 hS (by rw [e223]; exact hk) (by rw [e223]; exact CR) hZ hEL hx Bd.returns Bd.notSynchronized (by first | rfl | decide) (Or.inl ⟨rfl, by simp, _, rfl⟩) (hb hby at_138) (by decide) (by decide) (by first | (rw [e223]; exact ⟨rfl, N223⟩) | exact ⟨rfl, N223⟩)
    ·
      show Go p e below _ (s₁.setTop (mkF m 47 #[.val (.int p0), .val (.int p1), .val (.int p2), .val (.int p3), .val (.int (1 : Int32)), .val (.int x0), .val (.int x1), .unset, .unset, .unset, .unset] []))
      refine Go.by (fun t => XS.iloadN X0.here hx rfl (hb hby at_47) rfl ) ?_
      show Go p e below _ (s₁.setTop (mkF m 48 #[.val (.int p0), .val (.int p1), .val (.int p2), .val (.int p3), .val (.int (1 : Int32)), .val (.int x0), .val (.int x1), .unset, .unset, .unset, .unset] [(.int p2)]))
      refine Go.by (fun t => XS.sipush X0.here hx rfl (hb hby at_48)) ?_
      show Go p e below _ (s₁.setTop (mkF m 51 #[.val (.int p0), .val (.int p1), .val (.int p2), .val (.int p3), .val (.int (1 : Int32)), .val (.int x0), .val (.int x1), .unset, .unset, .unset, .unset] [(.int (255 : Int32)), (.int p2)]))
      refine Go.by (fun t => XS.iand X0.here hx rfl (hb hby at_51) rfl) ?_
      show Go p e below _ (s₁.setTop (mkF m 52 #[.val (.int p0), .val (.int p1), .val (.int p2), .val (.int p3), .val (.int (1 : Int32)), .val (.int x0), .val (.int x1), .unset, .unset, .unset, .unset] [(.int (p2 &&& (255 : Int32)))]))
      refine Go.by (fun t => XS.i2c X0.here hx rfl (hb hby at_52) rfl) ?_
      show Go p e below _ (s₁.setTop (mkF m 53 #[.val (.int p0), .val (.int p1), .val (.int p2), .val (.int p3), .val (.int (1 : Int32)), .val (.int x0), .val (.int x1), .unset, .unset, .unset, .unset] [(.int ((p2 &&& (255 : Int32)).toUInt32.toUInt16.toUInt32.toInt32))]))
      refine Go.by (fun t => XS.istore X0.here hx rfl (hb hby at_53) rfl (l' := #[.val (.int p0), .val (.int p1), .val (.int p2), .val (.int p3), .val (.int (1 : Int32)), .val (.int x0), .val (.int x1), .val (.int ((p2 &&& (255 : Int32)).toUInt32.toUInt16.toUInt32.toInt32)), .unset, .unset, .unset]) rfl) ?_
      show Go p e below _ (s₁.setTop (mkF m 55 #[.val (.int p0), .val (.int p1), .val (.int p2), .val (.int p3), .val (.int (1 : Int32)), .val (.int x0), .val (.int x1), .val (.int ((p2 &&& (255 : Int32)).toUInt32.toUInt16.toUInt32.toInt32)), .unset, .unset, .unset] []))
      refine Go.by (fun t => XS.iload X0.here hx rfl (hb hby at_55) rfl ) ?_
      show Go p e below _ (s₁.setTop (mkF m 57 #[.val (.int p0), .val (.int p1), .val (.int p2), .val (.int p3), .val (.int (1 : Int32)), .val (.int x0), .val (.int x1), .val (.int ((p2 &&& (255 : Int32)).toUInt32.toUInt16.toUInt32.toInt32)), .unset, .unset, .unset] [(.int (1 : Int32))]))
      refine Go.by (fun t => XS.iload X0.here hx rfl (hb hby at_57) rfl ) ?_
      show Go p e below _ (s₁.setTop (mkF m 59 #[.val (.int p0), .val (.int p1), .val (.int p2), .val (.int p3), .val (.int (1 : Int32)), .val (.int x0), .val (.int x1), .val (.int ((p2 &&& (255 : Int32)).toUInt32.toUInt16.toUInt32.toInt32)), .unset, .unset, .unset] [(.int x0), (.int (1 : Int32))]))
      refine Go.by (fun t => XS.iload X0.here hx rfl (hb hby at_59) rfl ) ?_
      show Go p e below _ (s₁.setTop (mkF m 61 #[.val (.int p0), .val (.int p1), .val (.int p2), .val (.int p3), .val (.int (1 : Int32)), .val (.int x0), .val (.int x1), .val (.int ((p2 &&& (255 : Int32)).toUInt32.toUInt16.toUInt32.toInt32)), .unset, .unset, .unset] [(.int x1), (.int x0), (.int (1 : Int32))]))
      refine Go.by (fun t => XS.iload X0.here hx rfl (hb hby at_61) rfl ) ?_
      show Go p e below _ (s₁.setTop (mkF m 63 #[.val (.int p0), .val (.int p1), .val (.int p2), .val (.int p3), .val (.int (1 : Int32)), .val (.int x0), .val (.int x1), .val (.int ((p2 &&& (255 : Int32)).toUInt32.toUInt16.toUInt32.toInt32)), .unset, .unset, .unset] [(.int ((p2 &&& (255 : Int32)).toUInt32.toUInt16.toUInt32.toInt32)), (.int x1), (.int x0), (.int (1 : Int32))]))
      obtain ⟨_, _, ⟨T224, L224, k224, n224⟩, -, X224, hSn, hgn, ⟨Lc224, hQ224, l224, y224, z224, CRn⟩, st224⟩ := callSS X0 hx (y := (⟨"com/example/slicewright/slicewright/slicing/OccurrenceElementNamePinLaw", "make", "(ICCC)Ljava/lang/String;"⟩ : MethodName)) hown (mvT (s := s.setVm s.vm) hZ (hw _ (List.mem_of_getElem? (i := 0) rfl))) (mvT (s := s.setVm s.vm) hZ (hw _ (List.mem_of_getElem? (i := 1) rfl))) (mvT (s := s.setVm s.vm) hZ (hw _ (List.mem_of_getElem? (i := 2) rfl))) (mvT (s := s.setVm s.vm) hZ (hw _ (List.mem_of_getElem? (i := 3) rfl))) (by decide) (backOfSH (W := 0) (rm1 l Z a0 hw [] (1 : Int32) x0 x1 ((p2 &&& (255 : Int32)).toUInt32.toUInt16.toUInt32.toInt32) G1 h0 n0 Z0 Od O2 P5 hx0 hx1 hx2) hZ (hw _ (List.mem_of_getElem? (i := 3) rfl)) (hw _ (List.mem_of_getElem? (i := 2) rfl)) (by decide) (by decide) hEL CR.1) (g := (mkF m 63 #[.val (.int p0), .val (.int p1), .val (.int p2), .val (.int p3), .val (.int (1 : Int32)), .val (.int x0), .val (.int x1), .val (.int ((p2 &&& (255 : Int32)).toUInt32.toUInt16.toUInt32.toInt32)), .unset, .unset, .unset] [(.int ((p2 &&& (255 : Int32)).toUInt32.toUInt16.toUInt32.toInt32)), (.int x1), (.int x0), (.int (1 : Int32))])) rfl (by rw [hml]; rfl) (argsL := [(.int (1 : Int32)), (.int x0), (.int x1), (.int ((p2 &&& (255 : Int32)).toUInt32.toUInt16.toUInt32.toInt32))]) (rest := []) (lenOf pd_0 rfl) rfl (by show 2 * 0 + _ ≤ _; exact Nat.le_of_eq rfl) (hb hby at_63) (fun _ _ => ⟨rfl, e0, (by decide : 0 + 6 ≤ _), (by decide : 0 + 12 ≤ _)⟩)
      dsimp only [Pt.U, Pt.locs, Pt.cells, Pt.slots] at X224 l224 y224 z224 st224 hQ224 hSn hgn CRn
      subst l224 y224 z224
      rw [e0] at hgn
      obtain ⟨X224', hS224, hZ224, hown224⟩ := rebS hS hk X224 hSn hgn hZ hown
      obtain ⟨me, rfl, Nq224, K224, S_me⟩ := hQ224
      have N224 := Fr.app N0 Nq224
      refine Go.by (fun t => st224.trans) ?_
      replace CR := CR.trans CRn
      replace Od := Od.keep K224 all0
      replace Z0 := Nat.le_trans Z0 K224.1
      clear CRn hS hk hSn
      have hS := hS224
      have hk : T224.heap.size ≤ T224.heap.size := Nat.le_refl _
      replace hZ := hZ224
      replace hown := hown224
      show Go p e below _ (T224.setTop (mkF m 66 #[.val (.int p0), .val (.int p1), .val (.int p2), .val (.int p3), .val (.int (1 : Int32)), .val (.int x0), .val (.int x1), .val (.int ((p2 &&& (255 : Int32)).toUInt32.toUInt16.toUInt32.toInt32)), .unset, .unset, .unset] [(.ref me)]))
      replace S_me : StrAt Z T224.heap me [x0] := S_me
      show Go p e below _ (T224.setTop (mkF m 66 #[.val (.int p0), .val (.int p1), .val (.int p2), .val (.int p3), .val (.int (1 : Int32)), .val (.int x0), .val (.int x1), .val (.int ((p2 &&& (255 : Int32)).toUInt32.toUInt16.toUInt32.toInt32)), .unset, .unset, .unset] [(.ref me)]))
      refine Go.by (fun t => XS.astore X224'.here hx rfl (hb hby at_66) rfl rfl (l' := #[.val (.int p0), .val (.int p1), .val (.int p2), .val (.int p3), .val (.int (1 : Int32)), .val (.int x0), .val (.int x1), .val (.int ((p2 &&& (255 : Int32)).toUInt32.toUInt16.toUInt32.toInt32)), .val (.ref me), .unset, .unset]) rfl) ?_
      show Go p e below _ (T224.setTop (mkF m 68 #[.val (.int p0), .val (.int p1), .val (.int p2), .val (.int p3), .val (.int (1 : Int32)), .val (.int x0), .val (.int x1), .val (.int ((p2 &&& (255 : Int32)).toUInt32.toUInt16.toUInt32.toInt32)), .val (.ref me), .unset, .unset] []))
      refine Go.by (fun t => XS.iload X224'.here hx rfl (hb hby at_68) rfl ) ?_
      show Go p e below _ (T224.setTop (mkF m 70 #[.val (.int p0), .val (.int p1), .val (.int p2), .val (.int p3), .val (.int (1 : Int32)), .val (.int x0), .val (.int x1), .val (.int ((p2 &&& (255 : Int32)).toUInt32.toUInt16.toUInt32.toInt32)), .val (.ref me), .unset, .unset] [(.int (1 : Int32))]))
      refine Go.by (fun t => XS.ifNo X224'.here hx rfl (hb hby at_70) rfl ((if0 _ _).trans (tlt (by decide : (0 : Int32) < (1 : Int32))).2.2.2)) ?_
      show Go p e below _ (T224.setTop (mkF m 73 #[.val (.int p0), .val (.int p1), .val (.int p2), .val (.int p3), .val (.int (1 : Int32)), .val (.int x0), .val (.int x1), .val (.int ((p2 &&& (255 : Int32)).toUInt32.toUInt16.toUInt32.toInt32)), .val (.ref me), .unset, .unset] []))
      show Go p e below _ (T224.setTop (mkF m 73 #[.val (.int p0), .val (.int p1), .val (.int p2), .val (.int p3), .val (.int (1 : Int32)), .val (.int x0), .val (.int x1), .val (.int ((p2 &&& (255 : Int32)).toUInt32.toUInt16.toUInt32.toInt32)), .val (.ref me), .unset, .unset] []))
      refine Go.by (fun t => XS.iload X224'.here hx rfl (hb hby at_73) rfl ) ?_
      show Go p e below _ (T224.setTop (mkF m 75 #[.val (.int p0), .val (.int p1), .val (.int p2), .val (.int p3), .val (.int (1 : Int32)), .val (.int x0), .val (.int x1), .val (.int ((p2 &&& (255 : Int32)).toUInt32.toUInt16.toUInt32.toInt32)), .val (.ref me), .unset, .unset] [(.int x0)]))
      refine Go.by (fun t => XS.bipush X224'.here hx rfl (hb hby at_75)) ?_
      show Go p e below _ (T224.setTop (mkF m 77 #[.val (.int p0), .val (.int p1), .val (.int p2), .val (.int p3), .val (.int (1 : Int32)), .val (.int x0), .val (.int x1), .val (.int ((p2 &&& (255 : Int32)).toUInt32.toUInt16.toUInt32.toInt32)), .val (.ref me), .unset, .unset] [(.int (95 : Int32)), (.int x0)]))
      by_cases hc77 : x0 = (95 : Int32)
      · -- hc77 True
        refine Go.by (fun t => XS.icmpNo X224'.here hx rfl (hb hby at_77) rfl (teq (hc77 : x0 = (95 : Int32))).2) ?_
        show Go p e below _ (T224.setTop (mkF m 80 #[.val (.int p0), .val (.int p1), .val (.int p2), .val (.int p3), .val (.int (1 : Int32)), .val (.int x0), .val (.int x1), .val (.int ((p2 &&& (255 : Int32)).toUInt32.toUInt16.toUInt32.toInt32)), .val (.ref me), .unset, .unset] []))
        have hu : x0 = 95 := hc77
        show Go p e below _ (T224.setTop (mkF m 80 #[.val (.int p0), .val (.int p1), .val (.int p2), .val (.int p3), .val (.int (1 : Int32)), .val (.int x0), .val (.int x1), .val (.int ((p2 &&& (255 : Int32)).toUInt32.toUInt16.toUInt32.toInt32)), .val (.ref me), .unset, .unset] []))
        refine Go.by (fun t => XS.iload X224'.here hx rfl (hb hby at_80) rfl ) ?_
        show Go p e below _ (T224.setTop (mkF m 82 #[.val (.int p0), .val (.int p1), .val (.int p2), .val (.int p3), .val (.int (1 : Int32)), .val (.int x0), .val (.int x1), .val (.int ((p2 &&& (255 : Int32)).toUInt32.toUInt16.toUInt32.toInt32)), .val (.ref me), .unset, .unset] [(.int (1 : Int32))]))
        refine Go.by (fun t => XS.iconst X224'.here hx rfl (hb hby at_82)) ?_
        show Go p e below _ (T224.setTop (mkF m 83 #[.val (.int p0), .val (.int p1), .val (.int p2), .val (.int p3), .val (.int (1 : Int32)), .val (.int x0), .val (.int x1), .val (.int ((p2 &&& (255 : Int32)).toUInt32.toUInt16.toUInt32.toInt32)), .val (.ref me), .unset, .unset] [(.int (1 : Int32)), (.int (1 : Int32))]))
        refine Go.by (fun t => XS.isub X224'.here hx rfl (hb hby at_83) rfl) ?_
        show Go p e below _ (T224.setTop (mkF m 84 #[.val (.int p0), .val (.int p1), .val (.int p2), .val (.int p3), .val (.int (1 : Int32)), .val (.int x0), .val (.int x1), .val (.int ((p2 &&& (255 : Int32)).toUInt32.toUInt16.toUInt32.toInt32)), .val (.ref me), .unset, .unset] [(.int ((1 : Int32) - (1 : Int32)))]))
        rw [show (1 : Int32) - (1 : Int32) = 0 from rfl]
        show Go p e below _ (T224.setTop (mkF m 84 #[.val (.int p0), .val (.int p1), .val (.int p2), .val (.int p3), .val (.int (1 : Int32)), .val (.int x0), .val (.int x1), .val (.int ((p2 &&& (255 : Int32)).toUInt32.toUInt16.toUInt32.toInt32)), .val (.ref me), .unset, .unset] [(.int (0 : Int32))]))
        show Go p e below _ (T224.setTop (mkF m 84 #[.val (.int p0), .val (.int p1), .val (.int p2), .val (.int p3), .val (.int (1 : Int32)), .val (.int x0), .val (.int x1), .val (.int ((p2 &&& (255 : Int32)).toUInt32.toUInt16.toUInt32.toInt32)), .val (.ref me), .unset, .unset] [(.int (0 : Int32))]))
        refine Go.by (fun t => XS.iload X224'.here hx rfl (hb hby at_84) rfl ) ?_
        show Go p e below _ (T224.setTop (mkF m 86 #[.val (.int p0), .val (.int p1), .val (.int p2), .val (.int p3), .val (.int (1 : Int32)), .val (.int x0), .val (.int x1), .val (.int ((p2 &&& (255 : Int32)).toUInt32.toUInt16.toUInt32.toInt32)), .val (.ref me), .unset, .unset] [(.int x1), (.int (0 : Int32))]))
        refine Go.by (fun t => XS.iload X224'.here hx rfl (hb hby at_86) rfl ) ?_
        show Go p e below _ (T224.setTop (mkF m 88 #[.val (.int p0), .val (.int p1), .val (.int p2), .val (.int p3), .val (.int (1 : Int32)), .val (.int x0), .val (.int x1), .val (.int ((p2 &&& (255 : Int32)).toUInt32.toUInt16.toUInt32.toInt32)), .val (.ref me), .unset, .unset] [(.int ((p2 &&& (255 : Int32)).toUInt32.toUInt16.toUInt32.toInt32)), (.int x1), (.int (0 : Int32))]))
        refine Go.by (fun t => XS.iload X224'.here hx rfl (hb hby at_88) rfl ) ?_
        show Go p e below _ (T224.setTop (mkF m 90 #[.val (.int p0), .val (.int p1), .val (.int p2), .val (.int p3), .val (.int (1 : Int32)), .val (.int x0), .val (.int x1), .val (.int ((p2 &&& (255 : Int32)).toUInt32.toUInt16.toUInt32.toInt32)), .val (.ref me), .unset, .unset] [(.int ((p2 &&& (255 : Int32)).toUInt32.toUInt16.toUInt32.toInt32)), (.int ((p2 &&& (255 : Int32)).toUInt32.toUInt16.toUInt32.toInt32)), (.int x1), (.int (0 : Int32))]))
        obtain ⟨_, _, ⟨T225, L225, k225, n225⟩, -, X225, hSn, hgn, ⟨Lc225, hQ225, l225, y225, z225, CRn⟩, st225⟩ := callSS X224' hx (y := (⟨"com/example/slicewright/slicewright/slicing/OccurrenceElementNamePinLaw", "make", "(ICCC)Ljava/lang/String;"⟩ : MethodName)) hown (mvT (s := s.setVm T224.vm) hZ (hw _ (List.mem_of_getElem? (i := 0) rfl))) (mvT (s := s.setVm T224.vm) hZ (hw _ (List.mem_of_getElem? (i := 1) rfl))) (mvT (s := s.setVm T224.vm) hZ (hw _ (List.mem_of_getElem? (i := 2) rfl))) (mvT (s := s.setVm T224.vm) hZ (hw _ (List.mem_of_getElem? (i := 3) rfl))) (by decide) (backOfSH (W := 0) (rm1 l Z a0 hw [] (0 : Int32) x1 ((p2 &&& (255 : Int32)).toUInt32.toUInt16.toUInt32.toInt32) ((p2 &&& (255 : Int32)).toUInt32.toUInt16.toUInt32.toInt32) G1 T224.heap n0 Z0 Od O2 P5 hx1 hx2 hx2) hZ (hw _ (List.mem_of_getElem? (i := 3) rfl)) (hw _ (List.mem_of_getElem? (i := 2) rfl)) (by decide) (by decide) hEL CR.1) (g := (mkF m 90 #[.val (.int p0), .val (.int p1), .val (.int p2), .val (.int p3), .val (.int (1 : Int32)), .val (.int x0), .val (.int x1), .val (.int ((p2 &&& (255 : Int32)).toUInt32.toUInt16.toUInt32.toInt32)), .val (.ref me), .unset, .unset] [(.int ((p2 &&& (255 : Int32)).toUInt32.toUInt16.toUInt32.toInt32)), (.int ((p2 &&& (255 : Int32)).toUInt32.toUInt16.toUInt32.toInt32)), (.int x1), (.int (0 : Int32))])) rfl (by rw [hml]; rfl) (argsL := [(.int (0 : Int32)), (.int x1), (.int ((p2 &&& (255 : Int32)).toUInt32.toUInt16.toUInt32.toInt32)), (.int ((p2 &&& (255 : Int32)).toUInt32.toUInt16.toUInt32.toInt32))]) (rest := []) (lenOf pd_0 rfl) rfl (by show 2 * 0 + _ ≤ _; exact Nat.le_of_eq rfl) (hb hby at_90) (fun _ _ => ⟨rfl, rfl, (by decide : 6 + 6 ≤ _), (by decide : 12 + 12 ≤ _)⟩)
        dsimp only [Pt.U, Pt.locs, Pt.cells, Pt.slots] at X225 l225 y225 z225 st225 hQ225 hSn hgn CRn
        subst l225 y225 z225
        skip
        obtain ⟨X225', hS225, hZ225, hown225⟩ := rebS hS hk X225 hSn hgn hZ hown
        obtain ⟨ex, rfl, Nq225, K225, S_ex⟩ := hQ225
        have N225 := Fr.app N224 Nq225
        refine Go.by (fun t => st225.trans) ?_
        replace S_me := S_me.keep K225 nin0 (fun _ _ _ _ A => nin0)
        replace CR := CR.trans CRn
        replace Od := Od.keep K225 all0
        replace Z0 := Nat.le_trans Z0 K225.1
        clear CRn hS hk hSn
        have hS := hS225
        have hk : T225.heap.size ≤ T225.heap.size := Nat.le_refl _
        replace hZ := hZ225
        replace hown := hown225
        show Go p e below _ (T225.setTop (mkF m 93 #[.val (.int p0), .val (.int p1), .val (.int p2), .val (.int p3), .val (.int (1 : Int32)), .val (.int x0), .val (.int x1), .val (.int ((p2 &&& (255 : Int32)).toUInt32.toUInt16.toUInt32.toInt32)), .val (.ref me), .unset, .unset] [(.ref ex)]))
        replace S_ex : StrAt Z T225.heap ex [] := S_ex
        show Go p e below _ (T225.setTop (mkF m 93 #[.val (.int p0), .val (.int p1), .val (.int p2), .val (.int p3), .val (.int (1 : Int32)), .val (.int x0), .val (.int x1), .val (.int ((p2 &&& (255 : Int32)).toUInt32.toUInt16.toUInt32.toInt32)), .val (.ref me), .unset, .unset] [(.ref ex)]))
        refine Go.by (fun t => XS.astore X225'.here hx rfl (hb hby at_93) rfl rfl (l' := #[.val (.int p0), .val (.int p1), .val (.int p2), .val (.int p3), .val (.int (1 : Int32)), .val (.int x0), .val (.int x1), .val (.int ((p2 &&& (255 : Int32)).toUInt32.toUInt16.toUInt32.toInt32)), .val (.ref me), .val (.ref ex), .unset]) rfl) ?_
        show Go p e below _ (T225.setTop (mkF m 95 #[.val (.int p0), .val (.int p1), .val (.int p2), .val (.int p3), .val (.int (1 : Int32)), .val (.int x0), .val (.int x1), .val (.int ((p2 &&& (255 : Int32)).toUInt32.toUInt16.toUInt32.toInt32)), .val (.ref me), .val (.ref ex), .unset] []))
        refine Go.by (fun t => XS.goto X225'.here hx rfl (pc0 := 95) (pc' := 111) rfl (hb hby at_95) (by decide) (by decide)) ?_
        show Go p e below _ (T225.setTop (mkF m 111 #[.val (.int p0), .val (.int p1), .val (.int p2), .val (.int p3), .val (.int (1 : Int32)), .val (.int x0), .val (.int x1), .val (.int ((p2 &&& (255 : Int32)).toUInt32.toUInt16.toUInt32.toInt32)), .val (.ref me), .val (.ref ex), .unset] []))
        refine Go.by (fun t => XS.aload X225'.here hx rfl (hb hby at_111) rfl rfl) ?_
        show Go p e below _ (T225.setTop (mkF m 113 #[.val (.int p0), .val (.int p1), .val (.int p2), .val (.int p3), .val (.int (1 : Int32)), .val (.int x0), .val (.int x1), .val (.int ((p2 &&& (255 : Int32)).toUInt32.toUInt16.toUInt32.toInt32)), .val (.ref me), .val (.ref ex), .unset] [(.ref me)]))
        obtain ⟨_, _, ⟨T226, L226, k226, n226⟩, -, X226, hSn, hgn, ⟨Lc226, hQ226, l226, y226, z226, CRn⟩, st226⟩ := callSS X225' hx (y := (⟨"com/example/slicewright/slicewright/slicing/Occurrence", "elementName", "(Ljava/lang/String;)Ljava/lang/String;"⟩ : MethodName)) hown (mvT (s := s.setVm T225.vm) hZ (hw _ (List.mem_of_getElem? (i := 34) rfl))) (mvT (s := s.setVm T225.vm) hZ (hw _ (List.mem_of_getElem? (i := 35) rfl))) (mvT (s := s.setVm T225.vm) hZ (hw _ (List.mem_of_getElem? (i := 36) rfl))) (mvT (s := s.setVm T225.vm) hZ (hw _ (List.mem_of_getElem? (i := 37) rfl))) (by decide) (backOfSH (W := 0) (rmEN1 l Z a0 hw [] me x0 G1 G3 T225.heap n0 Z0 Od O2 P5 O4 rG3 S_me hx0) hZ (hw _ (List.mem_of_getElem? (i := 37) rfl)) (hw _ (List.mem_of_getElem? (i := 36) rfl)) (by decide) (by decide) hEL CR.1) (g := (mkF m 113 #[.val (.int p0), .val (.int p1), .val (.int p2), .val (.int p3), .val (.int (1 : Int32)), .val (.int x0), .val (.int x1), .val (.int ((p2 &&& (255 : Int32)).toUInt32.toUInt16.toUInt32.toInt32)), .val (.ref me), .val (.ref ex), .unset] [(.ref me)])) rfl (by rw [hml]; rfl) (argsL := [(.ref me)]) (rest := []) (lenOf pd_1 rfl) rfl (by show 2 * 0 + _ ≤ _; exact Nat.le_of_eq rfl) (hb hby at_113) (fun _ _ => ⟨rfl, rfl, (by decide : 12 + 4 ≤ _), (by decide : 24 + 20 ≤ _)⟩)
        dsimp only [Pt.U, Pt.locs, Pt.cells, Pt.slots] at X226 l226 y226 z226 st226 hQ226 hSn hgn CRn
        subst l226 y226 z226
        skip
        obtain ⟨X226', hS226, hZ226, hown226⟩ := rebS hS hk X226 hSn hgn hZ hown
        obtain ⟨gt, rfl, Nq226, K226, S_gt⟩ := hQ226
        have N226 := Fr.app N225 Nq226
        refine Go.by (fun t => st226.trans) ?_
        replace S_me := S_me.keep K226 nin0 (fun _ _ _ _ A => nin0)
        replace S_ex := S_ex.keep K226 nin0 (fun _ _ _ _ A => nin0)
        replace CR := CR.trans CRn
        replace Od := Od.keep K226 all0
        replace Z0 := Nat.le_trans Z0 K226.1
        clear CRn hS hk hSn
        have hS := hS226
        have hk : T226.heap.size ≤ T226.heap.size := Nat.le_refl _
        replace hZ := hZ226
        replace hown := hown226
        show Go p e below _ (T226.setTop (mkF m 116 #[.val (.int p0), .val (.int p1), .val (.int p2), .val (.int p3), .val (.int (1 : Int32)), .val (.int x0), .val (.int x1), .val (.int ((p2 &&& (255 : Int32)).toUInt32.toUInt16.toUInt32.toInt32)), .val (.ref me), .val (.ref ex), .unset] [(.ref gt)]))
        show Go p e below _ (T226.setTop (mkF m 116 #[.val (.int p0), .val (.int p1), .val (.int p2), .val (.int p3), .val (.int (1 : Int32)), .val (.int x0), .val (.int x1), .val (.int ((p2 &&& (255 : Int32)).toUInt32.toUInt16.toUInt32.toInt32)), .val (.ref me), .val (.ref ex), .unset] [(.ref gt)]))
        refine Go.by (fun t => XS.astore X226'.here hx rfl (hb hby at_116) rfl rfl (l' := #[.val (.int p0), .val (.int p1), .val (.int p2), .val (.int p3), .val (.int (1 : Int32)), .val (.int x0), .val (.int x1), .val (.int ((p2 &&& (255 : Int32)).toUInt32.toUInt16.toUInt32.toInt32)), .val (.ref me), .val (.ref ex), .val (.ref gt)]) rfl) ?_
        show Go p e below _ (T226.setTop (mkF m 118 #[.val (.int p0), .val (.int p1), .val (.int p2), .val (.int p3), .val (.int (1 : Int32)), .val (.int x0), .val (.int x1), .val (.int ((p2 &&& (255 : Int32)).toUInt32.toUInt16.toUInt32.toInt32)), .val (.ref me), .val (.ref ex), .val (.ref gt)] []))
        refine Go.by (fun t => XS.aload X226'.here hx rfl (hb hby at_118) rfl rfl) ?_
        show Go p e below _ (T226.setTop (mkF m 120 #[.val (.int p0), .val (.int p1), .val (.int p2), .val (.int p3), .val (.int (1 : Int32)), .val (.int x0), .val (.int x1), .val (.int ((p2 &&& (255 : Int32)).toUInt32.toUInt16.toUInt32.toInt32)), .val (.ref me), .val (.ref ex), .val (.ref gt)] [(.ref gt)]))
        refine Go.by (fun t => XS.ifnullNo X226'.here hx rfl (hb hby at_120) rfl) ?_
        show Go p e below _ (T226.setTop (mkF m 123 #[.val (.int p0), .val (.int p1), .val (.int p2), .val (.int p3), .val (.int (1 : Int32)), .val (.int x0), .val (.int x1), .val (.int ((p2 &&& (255 : Int32)).toUInt32.toUInt16.toUInt32.toInt32)), .val (.ref me), .val (.ref ex), .val (.ref gt)] []))
        show Go p e below _ (T226.setTop (mkF m 123 #[.val (.int p0), .val (.int p1), .val (.int p2), .val (.int p3), .val (.int (1 : Int32)), .val (.int x0), .val (.int x1), .val (.int ((p2 &&& (255 : Int32)).toUInt32.toUInt16.toUInt32.toInt32)), .val (.ref me), .val (.ref ex), .val (.ref gt)] []))
        refine Go.by (fun t => XS.aload X226'.here hx rfl (hb hby at_123) rfl rfl) ?_
        show Go p e below _ (T226.setTop (mkF m 125 #[.val (.int p0), .val (.int p1), .val (.int p2), .val (.int p3), .val (.int (1 : Int32)), .val (.int x0), .val (.int x1), .val (.int ((p2 &&& (255 : Int32)).toUInt32.toUInt16.toUInt32.toInt32)), .val (.ref me), .val (.ref ex), .val (.ref gt)] [(.ref gt)]))
        refine Go.by (fun t => XS.aload X226'.here hx rfl (hb hby at_125) rfl rfl) ?_
        show Go p e below _ (T226.setTop (mkF m 127 #[.val (.int p0), .val (.int p1), .val (.int p2), .val (.int p3), .val (.int (1 : Int32)), .val (.int x0), .val (.int x1), .val (.int ((p2 &&& (255 : Int32)).toUInt32.toUInt16.toUInt32.toInt32)), .val (.ref me), .val (.ref ex), .val (.ref gt)] [(.ref ex), (.ref gt)]))
        rw [if_pos hu] at S_gt
        obtain ⟨cq227, kq227, q227a, q227b, q227c⟩ := isOf hZ rfl S_gt.exa
        obtain ⟨_, _, ⟨T227, L227, k227, n227⟩, -, X227, ⟨Lc227, hQ227, l227, y227, z227⟩, st227⟩ := X226'.virtualBack hx (y := (⟨"java/lang/String", "equals", "(Ljava/lang/Object;)Z"⟩ : MethodName)) (z := (⟨"java/lang/String", "equals", "(Ljava/lang/Object;)Z"⟩ : MethodName)) hown (mvT hZ (hw _ (List.mem_of_getElem? (i := 65) rfl))) (mvT hZ (hw _ (List.mem_of_getElem? (i := 66) rfl))) (notFace_of_selects (args := #[]) (mvT hZ (hw _ (List.mem_of_getElem? (i := 68) rfl)))) (mvT hZ (hw _ (List.mem_of_getElem? (i := 68) rfl))) (mvT hZ (hw _ (List.mem_of_getElem? (i := 67) rfl))) (by decide) (eqS (W := 0) hZ heq (hw _ (List.mem_of_getElem? (i := 5) rfl)) S_gt S_ex (O2.ext Od.2) P5 (by decide) (by decide)) q227a q227c (g := (mkF m 127 #[.val (.int p0), .val (.int p1), .val (.int p2), .val (.int p3), .val (.int (1 : Int32)), .val (.int x0), .val (.int x1), .val (.int ((p2 &&& (255 : Int32)).toUInt32.toUInt16.toUInt32.toInt32)), .val (.ref me), .val (.ref ex), .val (.ref gt)] [(.ref ex), (.ref gt)])) rfl (by rw [hml]; rfl) (Steps.refl _) (argsL := [(.ref ex)]) (rest := []) (lenOf pd_2 rfl) rfl (by show 2 * 0 + _ ≤ _; exact Nat.le_of_eq rfl) (hb hby at_127) (fun _ _ => ⟨rfl, rfl, (by decide : 16 + 0 ≤ _), (by decide : 44 + 0 ≤ _)⟩)
        dsimp only [Pt.U, Pt.locs, Pt.cells, Pt.slots] at X227 l227 y227 z227 st227 hQ227
        subst l227 y227 z227
        obtain ⟨hv227, rfl, e227⟩ := hQ227
        rw [if_pos rfl] at hv227
        subst hv227
        have Nq227 : Fr n0 ([] : List Loc) := Fr.nil n0
        have N227 := Fr.app N226 Nq227
        refine Go.by (fun t => st227.trans) ?_
        show Go p e below _ (T227.setTop (mkF m 130 #[.val (.int p0), .val (.int p1), .val (.int p2), .val (.int p3), .val (.int (1 : Int32)), .val (.int x0), .val (.int x1), .val (.int ((p2 &&& (255 : Int32)).toUInt32.toUInt16.toUInt32.toInt32)), .val (.ref me), .val (.ref ex), .val (.ref gt)] [(.int (1 : Int32))]))
        refine Go.by (fun t => XS.ifNo X227.here hx rfl (hb hby at_130) rfl ((if0 _ _).trans (feq (by decide : ¬ ((1 : Int32) = (0 : Int32)))).1)) ?_
        show Go p e below _ (T227.setTop (mkF m 133 #[.val (.int p0), .val (.int p1), .val (.int p2), .val (.int p3), .val (.int (1 : Int32)), .val (.int x0), .val (.int x1), .val (.int ((p2 &&& (255 : Int32)).toUInt32.toUInt16.toUInt32.toInt32)), .val (.ref me), .val (.ref ex), .val (.ref gt)] []))
        show Go p e below _ (T227.setTop (mkF m 133 #[.val (.int p0), .val (.int p1), .val (.int p2), .val (.int p3), .val (.int (1 : Int32)), .val (.int x0), .val (.int x1), .val (.int ((p2 &&& (255 : Int32)).toUInt32.toUInt16.toUInt32.toInt32)), .val (.ref me), .val (.ref ex), .val (.ref gt)] []))
        refine Go.by (fun t => XS.iconst X227.here hx rfl (hb hby at_133)) ?_
        show Go p e below _ (T227.setTop (mkF m 134 #[.val (.int p0), .val (.int p1), .val (.int p2), .val (.int p3), .val (.int (1 : Int32)), .val (.int x0), .val (.int x1), .val (.int ((p2 &&& (255 : Int32)).toUInt32.toUInt16.toUInt32.toInt32)), .val (.ref me), .val (.ref ex), .val (.ref gt)] [(.int (1 : Int32))]))
        refine Go.by (fun t => XS.goto X227.here hx rfl (pc0 := 134) (pc' := 138) rfl (hb hby at_134) (by decide) (by decide)) ?_
        show Go p e below _ (T227.setTop (mkF m 138 #[.val (.int p0), .val (.int p1), .val (.int p2), .val (.int p3), .val (.int (1 : Int32)), .val (.int x0), .val (.int x1), .val (.int ((p2 &&& (255 : Int32)).toUInt32.toUInt16.toUInt32.toInt32)), .val (.ref me), .val (.ref ex), .val (.ref gt)] [(.int (1 : Int32))]))
        exact Go.ret1W X227 hS (by rw [e227]; exact hk) (by rw [e227]; exact CR) hZ hEL hx Bd.returns Bd.notSynchronized (by first | rfl | decide) (Or.inl ⟨rfl, by simp, _, rfl⟩) (hb hby at_138) (by decide) (by decide) (by first | (rw [e227]; exact ⟨rfl, N227⟩) | exact ⟨rfl, N227⟩)
      · -- hc77 False
        refine Go.by (fun t => XS.icmpYes X224'.here hx rfl (pc0 := 77) (pc' := 98) rfl (hb hby at_77) rfl (feq (hc77 : ¬ (x0 = (95 : Int32)))).2 (by decide) (by decide)) ?_
        show Go p e below _ (T224.setTop (mkF m 98 #[.val (.int p0), .val (.int p1), .val (.int p2), .val (.int p3), .val (.int (1 : Int32)), .val (.int x0), .val (.int x1), .val (.int ((p2 &&& (255 : Int32)).toUInt32.toUInt16.toUInt32.toInt32)), .val (.ref me), .unset, .unset] []))
        have hu : ¬ x0 = 95 := hc77
        show Go p e below _ (T224.setTop (mkF m 98 #[.val (.int p0), .val (.int p1), .val (.int p2), .val (.int p3), .val (.int (1 : Int32)), .val (.int x0), .val (.int x1), .val (.int ((p2 &&& (255 : Int32)).toUInt32.toUInt16.toUInt32.toInt32)), .val (.ref me), .unset, .unset] []))
        refine Go.by (fun t => XS.iload X224'.here hx rfl (hb hby at_98) rfl ) ?_
        show Go p e below _ (T224.setTop (mkF m 100 #[.val (.int p0), .val (.int p1), .val (.int p2), .val (.int p3), .val (.int (1 : Int32)), .val (.int x0), .val (.int x1), .val (.int ((p2 &&& (255 : Int32)).toUInt32.toUInt16.toUInt32.toInt32)), .val (.ref me), .unset, .unset] [(.int (1 : Int32))]))
        refine Go.by (fun t => XS.iload X224'.here hx rfl (hb hby at_100) rfl ) ?_
        show Go p e below _ (T224.setTop (mkF m 102 #[.val (.int p0), .val (.int p1), .val (.int p2), .val (.int p3), .val (.int (1 : Int32)), .val (.int x0), .val (.int x1), .val (.int ((p2 &&& (255 : Int32)).toUInt32.toUInt16.toUInt32.toInt32)), .val (.ref me), .unset, .unset] [(.int x0), (.int (1 : Int32))]))
        refine Go.by (fun t => XS.iload X224'.here hx rfl (hb hby at_102) rfl ) ?_
        show Go p e below _ (T224.setTop (mkF m 104 #[.val (.int p0), .val (.int p1), .val (.int p2), .val (.int p3), .val (.int (1 : Int32)), .val (.int x0), .val (.int x1), .val (.int ((p2 &&& (255 : Int32)).toUInt32.toUInt16.toUInt32.toInt32)), .val (.ref me), .unset, .unset] [(.int x1), (.int x0), (.int (1 : Int32))]))
        refine Go.by (fun t => XS.iload X224'.here hx rfl (hb hby at_104) rfl ) ?_
        show Go p e below _ (T224.setTop (mkF m 106 #[.val (.int p0), .val (.int p1), .val (.int p2), .val (.int p3), .val (.int (1 : Int32)), .val (.int x0), .val (.int x1), .val (.int ((p2 &&& (255 : Int32)).toUInt32.toUInt16.toUInt32.toInt32)), .val (.ref me), .unset, .unset] [(.int ((p2 &&& (255 : Int32)).toUInt32.toUInt16.toUInt32.toInt32)), (.int x1), (.int x0), (.int (1 : Int32))]))
        obtain ⟨_, _, ⟨T228, L228, k228, n228⟩, -, X228, hSn, hgn, ⟨Lc228, hQ228, l228, y228, z228, CRn⟩, st228⟩ := callSS X224' hx (y := (⟨"com/example/slicewright/slicewright/slicing/OccurrenceElementNamePinLaw", "make", "(ICCC)Ljava/lang/String;"⟩ : MethodName)) hown (mvT (s := s.setVm T224.vm) hZ (hw _ (List.mem_of_getElem? (i := 0) rfl))) (mvT (s := s.setVm T224.vm) hZ (hw _ (List.mem_of_getElem? (i := 1) rfl))) (mvT (s := s.setVm T224.vm) hZ (hw _ (List.mem_of_getElem? (i := 2) rfl))) (mvT (s := s.setVm T224.vm) hZ (hw _ (List.mem_of_getElem? (i := 3) rfl))) (by decide) (backOfSH (W := 0) (rm1 l Z a0 hw [] (1 : Int32) x0 x1 ((p2 &&& (255 : Int32)).toUInt32.toUInt16.toUInt32.toInt32) G1 T224.heap n0 Z0 Od O2 P5 hx0 hx1 hx2) hZ (hw _ (List.mem_of_getElem? (i := 3) rfl)) (hw _ (List.mem_of_getElem? (i := 2) rfl)) (by decide) (by decide) hEL CR.1) (g := (mkF m 106 #[.val (.int p0), .val (.int p1), .val (.int p2), .val (.int p3), .val (.int (1 : Int32)), .val (.int x0), .val (.int x1), .val (.int ((p2 &&& (255 : Int32)).toUInt32.toUInt16.toUInt32.toInt32)), .val (.ref me), .unset, .unset] [(.int ((p2 &&& (255 : Int32)).toUInt32.toUInt16.toUInt32.toInt32)), (.int x1), (.int x0), (.int (1 : Int32))])) rfl (by rw [hml]; rfl) (argsL := [(.int (1 : Int32)), (.int x0), (.int x1), (.int ((p2 &&& (255 : Int32)).toUInt32.toUInt16.toUInt32.toInt32))]) (rest := []) (lenOf pd_0 rfl) rfl (by show 2 * 0 + _ ≤ _; exact Nat.le_of_eq rfl) (hb hby at_106) (fun _ _ => ⟨rfl, rfl, (by decide : 6 + 6 ≤ _), (by decide : 12 + 12 ≤ _)⟩)
        dsimp only [Pt.U, Pt.locs, Pt.cells, Pt.slots] at X228 l228 y228 z228 st228 hQ228 hSn hgn CRn
        subst l228 y228 z228
        skip
        obtain ⟨X228', hS228, hZ228, hown228⟩ := rebS hS hk X228 hSn hgn hZ hown
        obtain ⟨ex, rfl, Nq228, K228, S_ex⟩ := hQ228
        have N228 := Fr.app N224 Nq228
        refine Go.by (fun t => st228.trans) ?_
        replace S_me := S_me.keep K228 nin0 (fun _ _ _ _ A => nin0)
        replace CR := CR.trans CRn
        replace Od := Od.keep K228 all0
        replace Z0 := Nat.le_trans Z0 K228.1
        clear CRn hS hk hSn
        have hS := hS228
        have hk : T228.heap.size ≤ T228.heap.size := Nat.le_refl _
        replace hZ := hZ228
        replace hown := hown228
        show Go p e below _ (T228.setTop (mkF m 109 #[.val (.int p0), .val (.int p1), .val (.int p2), .val (.int p3), .val (.int (1 : Int32)), .val (.int x0), .val (.int x1), .val (.int ((p2 &&& (255 : Int32)).toUInt32.toUInt16.toUInt32.toInt32)), .val (.ref me), .unset, .unset] [(.ref ex)]))
        replace S_ex : StrAt Z T228.heap ex [x0] := S_ex
        show Go p e below _ (T228.setTop (mkF m 109 #[.val (.int p0), .val (.int p1), .val (.int p2), .val (.int p3), .val (.int (1 : Int32)), .val (.int x0), .val (.int x1), .val (.int ((p2 &&& (255 : Int32)).toUInt32.toUInt16.toUInt32.toInt32)), .val (.ref me), .unset, .unset] [(.ref ex)]))
        refine Go.by (fun t => XS.astore X228'.here hx rfl (hb hby at_109) rfl rfl (l' := #[.val (.int p0), .val (.int p1), .val (.int p2), .val (.int p3), .val (.int (1 : Int32)), .val (.int x0), .val (.int x1), .val (.int ((p2 &&& (255 : Int32)).toUInt32.toUInt16.toUInt32.toInt32)), .val (.ref me), .val (.ref ex), .unset]) rfl) ?_
        show Go p e below _ (T228.setTop (mkF m 111 #[.val (.int p0), .val (.int p1), .val (.int p2), .val (.int p3), .val (.int (1 : Int32)), .val (.int x0), .val (.int x1), .val (.int ((p2 &&& (255 : Int32)).toUInt32.toUInt16.toUInt32.toInt32)), .val (.ref me), .val (.ref ex), .unset] []))
        refine Go.by (fun t => XS.aload X228'.here hx rfl (hb hby at_111) rfl rfl) ?_
        show Go p e below _ (T228.setTop (mkF m 113 #[.val (.int p0), .val (.int p1), .val (.int p2), .val (.int p3), .val (.int (1 : Int32)), .val (.int x0), .val (.int x1), .val (.int ((p2 &&& (255 : Int32)).toUInt32.toUInt16.toUInt32.toInt32)), .val (.ref me), .val (.ref ex), .unset] [(.ref me)]))
        obtain ⟨_, _, ⟨T229, L229, k229, n229⟩, -, X229, hSn, hgn, ⟨Lc229, hQ229, l229, y229, z229, CRn⟩, st229⟩ := callSS X228' hx (y := (⟨"com/example/slicewright/slicewright/slicing/Occurrence", "elementName", "(Ljava/lang/String;)Ljava/lang/String;"⟩ : MethodName)) hown (mvT (s := s.setVm T228.vm) hZ (hw _ (List.mem_of_getElem? (i := 34) rfl))) (mvT (s := s.setVm T228.vm) hZ (hw _ (List.mem_of_getElem? (i := 35) rfl))) (mvT (s := s.setVm T228.vm) hZ (hw _ (List.mem_of_getElem? (i := 36) rfl))) (mvT (s := s.setVm T228.vm) hZ (hw _ (List.mem_of_getElem? (i := 37) rfl))) (by decide) (backOfSH (W := 0) (rmEN1 l Z a0 hw [] me x0 G1 G3 T228.heap n0 Z0 Od O2 P5 O4 rG3 S_me hx0) hZ (hw _ (List.mem_of_getElem? (i := 37) rfl)) (hw _ (List.mem_of_getElem? (i := 36) rfl)) (by decide) (by decide) hEL CR.1) (g := (mkF m 113 #[.val (.int p0), .val (.int p1), .val (.int p2), .val (.int p3), .val (.int (1 : Int32)), .val (.int x0), .val (.int x1), .val (.int ((p2 &&& (255 : Int32)).toUInt32.toUInt16.toUInt32.toInt32)), .val (.ref me), .val (.ref ex), .unset] [(.ref me)])) rfl (by rw [hml]; rfl) (argsL := [(.ref me)]) (rest := []) (lenOf pd_1 rfl) rfl (by show 2 * 0 + _ ≤ _; exact Nat.le_of_eq rfl) (hb hby at_113) (fun _ _ => ⟨rfl, rfl, (by decide : 12 + 4 ≤ _), (by decide : 24 + 20 ≤ _)⟩)
        dsimp only [Pt.U, Pt.locs, Pt.cells, Pt.slots] at X229 l229 y229 z229 st229 hQ229 hSn hgn CRn
        subst l229 y229 z229
        skip
        obtain ⟨X229', hS229, hZ229, hown229⟩ := rebS hS hk X229 hSn hgn hZ hown
        obtain ⟨gt, rfl, Nq229, K229, S_gt⟩ := hQ229
        have N229 := Fr.app N228 Nq229
        refine Go.by (fun t => st229.trans) ?_
        replace S_me := S_me.keep K229 nin0 (fun _ _ _ _ A => nin0)
        replace S_ex := S_ex.keep K229 nin0 (fun _ _ _ _ A => nin0)
        replace CR := CR.trans CRn
        replace Od := Od.keep K229 all0
        replace Z0 := Nat.le_trans Z0 K229.1
        clear CRn hS hk hSn
        have hS := hS229
        have hk : T229.heap.size ≤ T229.heap.size := Nat.le_refl _
        replace hZ := hZ229
        replace hown := hown229
        show Go p e below _ (T229.setTop (mkF m 116 #[.val (.int p0), .val (.int p1), .val (.int p2), .val (.int p3), .val (.int (1 : Int32)), .val (.int x0), .val (.int x1), .val (.int ((p2 &&& (255 : Int32)).toUInt32.toUInt16.toUInt32.toInt32)), .val (.ref me), .val (.ref ex), .unset] [(.ref gt)]))
        show Go p e below _ (T229.setTop (mkF m 116 #[.val (.int p0), .val (.int p1), .val (.int p2), .val (.int p3), .val (.int (1 : Int32)), .val (.int x0), .val (.int x1), .val (.int ((p2 &&& (255 : Int32)).toUInt32.toUInt16.toUInt32.toInt32)), .val (.ref me), .val (.ref ex), .unset] [(.ref gt)]))
        refine Go.by (fun t => XS.astore X229'.here hx rfl (hb hby at_116) rfl rfl (l' := #[.val (.int p0), .val (.int p1), .val (.int p2), .val (.int p3), .val (.int (1 : Int32)), .val (.int x0), .val (.int x1), .val (.int ((p2 &&& (255 : Int32)).toUInt32.toUInt16.toUInt32.toInt32)), .val (.ref me), .val (.ref ex), .val (.ref gt)]) rfl) ?_
        show Go p e below _ (T229.setTop (mkF m 118 #[.val (.int p0), .val (.int p1), .val (.int p2), .val (.int p3), .val (.int (1 : Int32)), .val (.int x0), .val (.int x1), .val (.int ((p2 &&& (255 : Int32)).toUInt32.toUInt16.toUInt32.toInt32)), .val (.ref me), .val (.ref ex), .val (.ref gt)] []))
        refine Go.by (fun t => XS.aload X229'.here hx rfl (hb hby at_118) rfl rfl) ?_
        show Go p e below _ (T229.setTop (mkF m 120 #[.val (.int p0), .val (.int p1), .val (.int p2), .val (.int p3), .val (.int (1 : Int32)), .val (.int x0), .val (.int x1), .val (.int ((p2 &&& (255 : Int32)).toUInt32.toUInt16.toUInt32.toInt32)), .val (.ref me), .val (.ref ex), .val (.ref gt)] [(.ref gt)]))
        refine Go.by (fun t => XS.ifnullNo X229'.here hx rfl (hb hby at_120) rfl) ?_
        show Go p e below _ (T229.setTop (mkF m 123 #[.val (.int p0), .val (.int p1), .val (.int p2), .val (.int p3), .val (.int (1 : Int32)), .val (.int x0), .val (.int x1), .val (.int ((p2 &&& (255 : Int32)).toUInt32.toUInt16.toUInt32.toInt32)), .val (.ref me), .val (.ref ex), .val (.ref gt)] []))
        show Go p e below _ (T229.setTop (mkF m 123 #[.val (.int p0), .val (.int p1), .val (.int p2), .val (.int p3), .val (.int (1 : Int32)), .val (.int x0), .val (.int x1), .val (.int ((p2 &&& (255 : Int32)).toUInt32.toUInt16.toUInt32.toInt32)), .val (.ref me), .val (.ref ex), .val (.ref gt)] []))
        refine Go.by (fun t => XS.aload X229'.here hx rfl (hb hby at_123) rfl rfl) ?_
        show Go p e below _ (T229.setTop (mkF m 125 #[.val (.int p0), .val (.int p1), .val (.int p2), .val (.int p3), .val (.int (1 : Int32)), .val (.int x0), .val (.int x1), .val (.int ((p2 &&& (255 : Int32)).toUInt32.toUInt16.toUInt32.toInt32)), .val (.ref me), .val (.ref ex), .val (.ref gt)] [(.ref gt)]))
        refine Go.by (fun t => XS.aload X229'.here hx rfl (hb hby at_125) rfl rfl) ?_
        show Go p e below _ (T229.setTop (mkF m 127 #[.val (.int p0), .val (.int p1), .val (.int p2), .val (.int p3), .val (.int (1 : Int32)), .val (.int x0), .val (.int x1), .val (.int ((p2 &&& (255 : Int32)).toUInt32.toUInt16.toUInt32.toInt32)), .val (.ref me), .val (.ref ex), .val (.ref gt)] [(.ref ex), (.ref gt)]))
        rw [if_neg hu] at S_gt
        obtain ⟨cq230, kq230, q230a, q230b, q230c⟩ := isOf hZ rfl S_gt.exa
        obtain ⟨_, _, ⟨T230, L230, k230, n230⟩, -, X230, ⟨Lc230, hQ230, l230, y230, z230⟩, st230⟩ := X229'.virtualBack hx (y := (⟨"java/lang/String", "equals", "(Ljava/lang/Object;)Z"⟩ : MethodName)) (z := (⟨"java/lang/String", "equals", "(Ljava/lang/Object;)Z"⟩ : MethodName)) hown (mvT hZ (hw _ (List.mem_of_getElem? (i := 65) rfl))) (mvT hZ (hw _ (List.mem_of_getElem? (i := 66) rfl))) (notFace_of_selects (args := #[]) (mvT hZ (hw _ (List.mem_of_getElem? (i := 68) rfl)))) (mvT hZ (hw _ (List.mem_of_getElem? (i := 68) rfl))) (mvT hZ (hw _ (List.mem_of_getElem? (i := 67) rfl))) (by decide) (eqS (W := 0) hZ heq (hw _ (List.mem_of_getElem? (i := 5) rfl)) S_gt S_ex (O2.ext Od.2) P5 (by decide) (by decide)) q230a q230c (g := (mkF m 127 #[.val (.int p0), .val (.int p1), .val (.int p2), .val (.int p3), .val (.int (1 : Int32)), .val (.int x0), .val (.int x1), .val (.int ((p2 &&& (255 : Int32)).toUInt32.toUInt16.toUInt32.toInt32)), .val (.ref me), .val (.ref ex), .val (.ref gt)] [(.ref ex), (.ref gt)])) rfl (by rw [hml]; rfl) (Steps.refl _) (argsL := [(.ref ex)]) (rest := []) (lenOf pd_2 rfl) rfl (by show 2 * 0 + _ ≤ _; exact Nat.le_of_eq rfl) (hb hby at_127) (fun _ _ => ⟨rfl, rfl, (by decide : 16 + 0 ≤ _), (by decide : 44 + 0 ≤ _)⟩)
        dsimp only [Pt.U, Pt.locs, Pt.cells, Pt.slots] at X230 l230 y230 z230 st230 hQ230
        subst l230 y230 z230
        obtain ⟨hv230, rfl, e230⟩ := hQ230
        rw [if_pos rfl] at hv230
        subst hv230
        have Nq230 : Fr n0 ([] : List Loc) := Fr.nil n0
        have N230 := Fr.app N229 Nq230
        refine Go.by (fun t => st230.trans) ?_
        show Go p e below _ (T230.setTop (mkF m 130 #[.val (.int p0), .val (.int p1), .val (.int p2), .val (.int p3), .val (.int (1 : Int32)), .val (.int x0), .val (.int x1), .val (.int ((p2 &&& (255 : Int32)).toUInt32.toUInt16.toUInt32.toInt32)), .val (.ref me), .val (.ref ex), .val (.ref gt)] [(.int (1 : Int32))]))
        refine Go.by (fun t => XS.ifNo X230.here hx rfl (hb hby at_130) rfl ((if0 _ _).trans (feq (by decide : ¬ ((1 : Int32) = (0 : Int32)))).1)) ?_
        show Go p e below _ (T230.setTop (mkF m 133 #[.val (.int p0), .val (.int p1), .val (.int p2), .val (.int p3), .val (.int (1 : Int32)), .val (.int x0), .val (.int x1), .val (.int ((p2 &&& (255 : Int32)).toUInt32.toUInt16.toUInt32.toInt32)), .val (.ref me), .val (.ref ex), .val (.ref gt)] []))
        show Go p e below _ (T230.setTop (mkF m 133 #[.val (.int p0), .val (.int p1), .val (.int p2), .val (.int p3), .val (.int (1 : Int32)), .val (.int x0), .val (.int x1), .val (.int ((p2 &&& (255 : Int32)).toUInt32.toUInt16.toUInt32.toInt32)), .val (.ref me), .val (.ref ex), .val (.ref gt)] []))
        refine Go.by (fun t => XS.iconst X230.here hx rfl (hb hby at_133)) ?_
        show Go p e below _ (T230.setTop (mkF m 134 #[.val (.int p0), .val (.int p1), .val (.int p2), .val (.int p3), .val (.int (1 : Int32)), .val (.int x0), .val (.int x1), .val (.int ((p2 &&& (255 : Int32)).toUInt32.toUInt16.toUInt32.toInt32)), .val (.ref me), .val (.ref ex), .val (.ref gt)] [(.int (1 : Int32))]))
        refine Go.by (fun t => XS.goto X230.here hx rfl (pc0 := 134) (pc' := 138) rfl (hb hby at_134) (by decide) (by decide)) ?_
        show Go p e below _ (T230.setTop (mkF m 138 #[.val (.int p0), .val (.int p1), .val (.int p2), .val (.int p3), .val (.int (1 : Int32)), .val (.int x0), .val (.int x1), .val (.int ((p2 &&& (255 : Int32)).toUInt32.toUInt16.toUInt32.toInt32)), .val (.ref me), .val (.ref ex), .val (.ref gt)] [(.int (1 : Int32))]))
        exact Go.ret1W X230 hS (by rw [e230]; exact hk) (by rw [e230]; exact CR) hZ hEL hx Bd.returns Bd.notSynchronized (by first | rfl | decide) (Or.inl ⟨rfl, by simp, _, rfl⟩) (hb hby at_138) (by decide) (by decide) (by first | (rw [e230]; exact ⟨rfl, N230⟩) | exact ⟨rfl, N230⟩)
    ·
      show Go p e below _ (s₁.setTop (mkF m 47 #[.val (.int p0), .val (.int p1), .val (.int p2), .val (.int p3), .val (.int (2 : Int32)), .val (.int x0), .val (.int x1), .unset, .unset, .unset, .unset] []))
      refine Go.by (fun t => XS.iloadN X0.here hx rfl (hb hby at_47) rfl ) ?_
      show Go p e below _ (s₁.setTop (mkF m 48 #[.val (.int p0), .val (.int p1), .val (.int p2), .val (.int p3), .val (.int (2 : Int32)), .val (.int x0), .val (.int x1), .unset, .unset, .unset, .unset] [(.int p2)]))
      refine Go.by (fun t => XS.sipush X0.here hx rfl (hb hby at_48)) ?_
      show Go p e below _ (s₁.setTop (mkF m 51 #[.val (.int p0), .val (.int p1), .val (.int p2), .val (.int p3), .val (.int (2 : Int32)), .val (.int x0), .val (.int x1), .unset, .unset, .unset, .unset] [(.int (255 : Int32)), (.int p2)]))
      refine Go.by (fun t => XS.iand X0.here hx rfl (hb hby at_51) rfl) ?_
      show Go p e below _ (s₁.setTop (mkF m 52 #[.val (.int p0), .val (.int p1), .val (.int p2), .val (.int p3), .val (.int (2 : Int32)), .val (.int x0), .val (.int x1), .unset, .unset, .unset, .unset] [(.int (p2 &&& (255 : Int32)))]))
      refine Go.by (fun t => XS.i2c X0.here hx rfl (hb hby at_52) rfl) ?_
      show Go p e below _ (s₁.setTop (mkF m 53 #[.val (.int p0), .val (.int p1), .val (.int p2), .val (.int p3), .val (.int (2 : Int32)), .val (.int x0), .val (.int x1), .unset, .unset, .unset, .unset] [(.int ((p2 &&& (255 : Int32)).toUInt32.toUInt16.toUInt32.toInt32))]))
      refine Go.by (fun t => XS.istore X0.here hx rfl (hb hby at_53) rfl (l' := #[.val (.int p0), .val (.int p1), .val (.int p2), .val (.int p3), .val (.int (2 : Int32)), .val (.int x0), .val (.int x1), .val (.int ((p2 &&& (255 : Int32)).toUInt32.toUInt16.toUInt32.toInt32)), .unset, .unset, .unset]) rfl) ?_
      show Go p e below _ (s₁.setTop (mkF m 55 #[.val (.int p0), .val (.int p1), .val (.int p2), .val (.int p3), .val (.int (2 : Int32)), .val (.int x0), .val (.int x1), .val (.int ((p2 &&& (255 : Int32)).toUInt32.toUInt16.toUInt32.toInt32)), .unset, .unset, .unset] []))
      refine Go.by (fun t => XS.iload X0.here hx rfl (hb hby at_55) rfl ) ?_
      show Go p e below _ (s₁.setTop (mkF m 57 #[.val (.int p0), .val (.int p1), .val (.int p2), .val (.int p3), .val (.int (2 : Int32)), .val (.int x0), .val (.int x1), .val (.int ((p2 &&& (255 : Int32)).toUInt32.toUInt16.toUInt32.toInt32)), .unset, .unset, .unset] [(.int (2 : Int32))]))
      refine Go.by (fun t => XS.iload X0.here hx rfl (hb hby at_57) rfl ) ?_
      show Go p e below _ (s₁.setTop (mkF m 59 #[.val (.int p0), .val (.int p1), .val (.int p2), .val (.int p3), .val (.int (2 : Int32)), .val (.int x0), .val (.int x1), .val (.int ((p2 &&& (255 : Int32)).toUInt32.toUInt16.toUInt32.toInt32)), .unset, .unset, .unset] [(.int x0), (.int (2 : Int32))]))
      refine Go.by (fun t => XS.iload X0.here hx rfl (hb hby at_59) rfl ) ?_
      show Go p e below _ (s₁.setTop (mkF m 61 #[.val (.int p0), .val (.int p1), .val (.int p2), .val (.int p3), .val (.int (2 : Int32)), .val (.int x0), .val (.int x1), .val (.int ((p2 &&& (255 : Int32)).toUInt32.toUInt16.toUInt32.toInt32)), .unset, .unset, .unset] [(.int x1), (.int x0), (.int (2 : Int32))]))
      refine Go.by (fun t => XS.iload X0.here hx rfl (hb hby at_61) rfl ) ?_
      show Go p e below _ (s₁.setTop (mkF m 63 #[.val (.int p0), .val (.int p1), .val (.int p2), .val (.int p3), .val (.int (2 : Int32)), .val (.int x0), .val (.int x1), .val (.int ((p2 &&& (255 : Int32)).toUInt32.toUInt16.toUInt32.toInt32)), .unset, .unset, .unset] [(.int ((p2 &&& (255 : Int32)).toUInt32.toUInt16.toUInt32.toInt32)), (.int x1), (.int x0), (.int (2 : Int32))]))
      obtain ⟨_, _, ⟨T231, L231, k231, n231⟩, -, X231, hSn, hgn, ⟨Lc231, hQ231, l231, y231, z231, CRn⟩, st231⟩ := callSS X0 hx (y := (⟨"com/example/slicewright/slicewright/slicing/OccurrenceElementNamePinLaw", "make", "(ICCC)Ljava/lang/String;"⟩ : MethodName)) hown (mvT (s := s.setVm s.vm) hZ (hw _ (List.mem_of_getElem? (i := 0) rfl))) (mvT (s := s.setVm s.vm) hZ (hw _ (List.mem_of_getElem? (i := 1) rfl))) (mvT (s := s.setVm s.vm) hZ (hw _ (List.mem_of_getElem? (i := 2) rfl))) (mvT (s := s.setVm s.vm) hZ (hw _ (List.mem_of_getElem? (i := 3) rfl))) (by decide) (backOfSH (W := 0) (rm1 l Z a0 hw [] (2 : Int32) x0 x1 ((p2 &&& (255 : Int32)).toUInt32.toUInt16.toUInt32.toInt32) G1 h0 n0 Z0 Od O2 P5 hx0 hx1 hx2) hZ (hw _ (List.mem_of_getElem? (i := 3) rfl)) (hw _ (List.mem_of_getElem? (i := 2) rfl)) (by decide) (by decide) hEL CR.1) (g := (mkF m 63 #[.val (.int p0), .val (.int p1), .val (.int p2), .val (.int p3), .val (.int (2 : Int32)), .val (.int x0), .val (.int x1), .val (.int ((p2 &&& (255 : Int32)).toUInt32.toUInt16.toUInt32.toInt32)), .unset, .unset, .unset] [(.int ((p2 &&& (255 : Int32)).toUInt32.toUInt16.toUInt32.toInt32)), (.int x1), (.int x0), (.int (2 : Int32))])) rfl (by rw [hml]; rfl) (argsL := [(.int (2 : Int32)), (.int x0), (.int x1), (.int ((p2 &&& (255 : Int32)).toUInt32.toUInt16.toUInt32.toInt32))]) (rest := []) (lenOf pd_0 rfl) rfl (by show 2 * 0 + _ ≤ _; exact Nat.le_of_eq rfl) (hb hby at_63) (fun _ _ => ⟨rfl, e0, (by decide : 0 + 6 ≤ _), (by decide : 0 + 12 ≤ _)⟩)
      dsimp only [Pt.U, Pt.locs, Pt.cells, Pt.slots] at X231 l231 y231 z231 st231 hQ231 hSn hgn CRn
      subst l231 y231 z231
      rw [e0] at hgn
      obtain ⟨X231', hS231, hZ231, hown231⟩ := rebS hS hk X231 hSn hgn hZ hown
      obtain ⟨me, rfl, Nq231, K231, S_me⟩ := hQ231
      have N231 := Fr.app N0 Nq231
      refine Go.by (fun t => st231.trans) ?_
      replace CR := CR.trans CRn
      replace Od := Od.keep K231 all0
      replace Z0 := Nat.le_trans Z0 K231.1
      clear CRn hS hk hSn
      have hS := hS231
      have hk : T231.heap.size ≤ T231.heap.size := Nat.le_refl _
      replace hZ := hZ231
      replace hown := hown231
      show Go p e below _ (T231.setTop (mkF m 66 #[.val (.int p0), .val (.int p1), .val (.int p2), .val (.int p3), .val (.int (2 : Int32)), .val (.int x0), .val (.int x1), .val (.int ((p2 &&& (255 : Int32)).toUInt32.toUInt16.toUInt32.toInt32)), .unset, .unset, .unset] [(.ref me)]))
      replace S_me : StrAt Z T231.heap me [x0, x1] := S_me
      show Go p e below _ (T231.setTop (mkF m 66 #[.val (.int p0), .val (.int p1), .val (.int p2), .val (.int p3), .val (.int (2 : Int32)), .val (.int x0), .val (.int x1), .val (.int ((p2 &&& (255 : Int32)).toUInt32.toUInt16.toUInt32.toInt32)), .unset, .unset, .unset] [(.ref me)]))
      refine Go.by (fun t => XS.astore X231'.here hx rfl (hb hby at_66) rfl rfl (l' := #[.val (.int p0), .val (.int p1), .val (.int p2), .val (.int p3), .val (.int (2 : Int32)), .val (.int x0), .val (.int x1), .val (.int ((p2 &&& (255 : Int32)).toUInt32.toUInt16.toUInt32.toInt32)), .val (.ref me), .unset, .unset]) rfl) ?_
      show Go p e below _ (T231.setTop (mkF m 68 #[.val (.int p0), .val (.int p1), .val (.int p2), .val (.int p3), .val (.int (2 : Int32)), .val (.int x0), .val (.int x1), .val (.int ((p2 &&& (255 : Int32)).toUInt32.toUInt16.toUInt32.toInt32)), .val (.ref me), .unset, .unset] []))
      refine Go.by (fun t => XS.iload X231'.here hx rfl (hb hby at_68) rfl ) ?_
      show Go p e below _ (T231.setTop (mkF m 70 #[.val (.int p0), .val (.int p1), .val (.int p2), .val (.int p3), .val (.int (2 : Int32)), .val (.int x0), .val (.int x1), .val (.int ((p2 &&& (255 : Int32)).toUInt32.toUInt16.toUInt32.toInt32)), .val (.ref me), .unset, .unset] [(.int (2 : Int32))]))
      refine Go.by (fun t => XS.ifNo X231'.here hx rfl (hb hby at_70) rfl ((if0 _ _).trans (tlt (by decide : (0 : Int32) < (2 : Int32))).2.2.2)) ?_
      show Go p e below _ (T231.setTop (mkF m 73 #[.val (.int p0), .val (.int p1), .val (.int p2), .val (.int p3), .val (.int (2 : Int32)), .val (.int x0), .val (.int x1), .val (.int ((p2 &&& (255 : Int32)).toUInt32.toUInt16.toUInt32.toInt32)), .val (.ref me), .unset, .unset] []))
      show Go p e below _ (T231.setTop (mkF m 73 #[.val (.int p0), .val (.int p1), .val (.int p2), .val (.int p3), .val (.int (2 : Int32)), .val (.int x0), .val (.int x1), .val (.int ((p2 &&& (255 : Int32)).toUInt32.toUInt16.toUInt32.toInt32)), .val (.ref me), .unset, .unset] []))
      refine Go.by (fun t => XS.iload X231'.here hx rfl (hb hby at_73) rfl ) ?_
      show Go p e below _ (T231.setTop (mkF m 75 #[.val (.int p0), .val (.int p1), .val (.int p2), .val (.int p3), .val (.int (2 : Int32)), .val (.int x0), .val (.int x1), .val (.int ((p2 &&& (255 : Int32)).toUInt32.toUInt16.toUInt32.toInt32)), .val (.ref me), .unset, .unset] [(.int x0)]))
      refine Go.by (fun t => XS.bipush X231'.here hx rfl (hb hby at_75)) ?_
      show Go p e below _ (T231.setTop (mkF m 77 #[.val (.int p0), .val (.int p1), .val (.int p2), .val (.int p3), .val (.int (2 : Int32)), .val (.int x0), .val (.int x1), .val (.int ((p2 &&& (255 : Int32)).toUInt32.toUInt16.toUInt32.toInt32)), .val (.ref me), .unset, .unset] [(.int (95 : Int32)), (.int x0)]))
      by_cases hc77 : x0 = (95 : Int32)
      · -- hc77 True
        refine Go.by (fun t => XS.icmpNo X231'.here hx rfl (hb hby at_77) rfl (teq (hc77 : x0 = (95 : Int32))).2) ?_
        show Go p e below _ (T231.setTop (mkF m 80 #[.val (.int p0), .val (.int p1), .val (.int p2), .val (.int p3), .val (.int (2 : Int32)), .val (.int x0), .val (.int x1), .val (.int ((p2 &&& (255 : Int32)).toUInt32.toUInt16.toUInt32.toInt32)), .val (.ref me), .unset, .unset] []))
        have hu : x0 = 95 := hc77
        show Go p e below _ (T231.setTop (mkF m 80 #[.val (.int p0), .val (.int p1), .val (.int p2), .val (.int p3), .val (.int (2 : Int32)), .val (.int x0), .val (.int x1), .val (.int ((p2 &&& (255 : Int32)).toUInt32.toUInt16.toUInt32.toInt32)), .val (.ref me), .unset, .unset] []))
        refine Go.by (fun t => XS.iload X231'.here hx rfl (hb hby at_80) rfl ) ?_
        show Go p e below _ (T231.setTop (mkF m 82 #[.val (.int p0), .val (.int p1), .val (.int p2), .val (.int p3), .val (.int (2 : Int32)), .val (.int x0), .val (.int x1), .val (.int ((p2 &&& (255 : Int32)).toUInt32.toUInt16.toUInt32.toInt32)), .val (.ref me), .unset, .unset] [(.int (2 : Int32))]))
        refine Go.by (fun t => XS.iconst X231'.here hx rfl (hb hby at_82)) ?_
        show Go p e below _ (T231.setTop (mkF m 83 #[.val (.int p0), .val (.int p1), .val (.int p2), .val (.int p3), .val (.int (2 : Int32)), .val (.int x0), .val (.int x1), .val (.int ((p2 &&& (255 : Int32)).toUInt32.toUInt16.toUInt32.toInt32)), .val (.ref me), .unset, .unset] [(.int (1 : Int32)), (.int (2 : Int32))]))
        refine Go.by (fun t => XS.isub X231'.here hx rfl (hb hby at_83) rfl) ?_
        show Go p e below _ (T231.setTop (mkF m 84 #[.val (.int p0), .val (.int p1), .val (.int p2), .val (.int p3), .val (.int (2 : Int32)), .val (.int x0), .val (.int x1), .val (.int ((p2 &&& (255 : Int32)).toUInt32.toUInt16.toUInt32.toInt32)), .val (.ref me), .unset, .unset] [(.int ((2 : Int32) - (1 : Int32)))]))
        rw [show (2 : Int32) - (1 : Int32) = 1 from rfl]
        show Go p e below _ (T231.setTop (mkF m 84 #[.val (.int p0), .val (.int p1), .val (.int p2), .val (.int p3), .val (.int (2 : Int32)), .val (.int x0), .val (.int x1), .val (.int ((p2 &&& (255 : Int32)).toUInt32.toUInt16.toUInt32.toInt32)), .val (.ref me), .unset, .unset] [(.int (1 : Int32))]))
        show Go p e below _ (T231.setTop (mkF m 84 #[.val (.int p0), .val (.int p1), .val (.int p2), .val (.int p3), .val (.int (2 : Int32)), .val (.int x0), .val (.int x1), .val (.int ((p2 &&& (255 : Int32)).toUInt32.toUInt16.toUInt32.toInt32)), .val (.ref me), .unset, .unset] [(.int (1 : Int32))]))
        refine Go.by (fun t => XS.iload X231'.here hx rfl (hb hby at_84) rfl ) ?_
        show Go p e below _ (T231.setTop (mkF m 86 #[.val (.int p0), .val (.int p1), .val (.int p2), .val (.int p3), .val (.int (2 : Int32)), .val (.int x0), .val (.int x1), .val (.int ((p2 &&& (255 : Int32)).toUInt32.toUInt16.toUInt32.toInt32)), .val (.ref me), .unset, .unset] [(.int x1), (.int (1 : Int32))]))
        refine Go.by (fun t => XS.iload X231'.here hx rfl (hb hby at_86) rfl ) ?_
        show Go p e below _ (T231.setTop (mkF m 88 #[.val (.int p0), .val (.int p1), .val (.int p2), .val (.int p3), .val (.int (2 : Int32)), .val (.int x0), .val (.int x1), .val (.int ((p2 &&& (255 : Int32)).toUInt32.toUInt16.toUInt32.toInt32)), .val (.ref me), .unset, .unset] [(.int ((p2 &&& (255 : Int32)).toUInt32.toUInt16.toUInt32.toInt32)), (.int x1), (.int (1 : Int32))]))
        refine Go.by (fun t => XS.iload X231'.here hx rfl (hb hby at_88) rfl ) ?_
        show Go p e below _ (T231.setTop (mkF m 90 #[.val (.int p0), .val (.int p1), .val (.int p2), .val (.int p3), .val (.int (2 : Int32)), .val (.int x0), .val (.int x1), .val (.int ((p2 &&& (255 : Int32)).toUInt32.toUInt16.toUInt32.toInt32)), .val (.ref me), .unset, .unset] [(.int ((p2 &&& (255 : Int32)).toUInt32.toUInt16.toUInt32.toInt32)), (.int ((p2 &&& (255 : Int32)).toUInt32.toUInt16.toUInt32.toInt32)), (.int x1), (.int (1 : Int32))]))
        obtain ⟨_, _, ⟨T232, L232, k232, n232⟩, -, X232, hSn, hgn, ⟨Lc232, hQ232, l232, y232, z232, CRn⟩, st232⟩ := callSS X231' hx (y := (⟨"com/example/slicewright/slicewright/slicing/OccurrenceElementNamePinLaw", "make", "(ICCC)Ljava/lang/String;"⟩ : MethodName)) hown (mvT (s := s.setVm T231.vm) hZ (hw _ (List.mem_of_getElem? (i := 0) rfl))) (mvT (s := s.setVm T231.vm) hZ (hw _ (List.mem_of_getElem? (i := 1) rfl))) (mvT (s := s.setVm T231.vm) hZ (hw _ (List.mem_of_getElem? (i := 2) rfl))) (mvT (s := s.setVm T231.vm) hZ (hw _ (List.mem_of_getElem? (i := 3) rfl))) (by decide) (backOfSH (W := 0) (rm1 l Z a0 hw [] (1 : Int32) x1 ((p2 &&& (255 : Int32)).toUInt32.toUInt16.toUInt32.toInt32) ((p2 &&& (255 : Int32)).toUInt32.toUInt16.toUInt32.toInt32) G1 T231.heap n0 Z0 Od O2 P5 hx1 hx2 hx2) hZ (hw _ (List.mem_of_getElem? (i := 3) rfl)) (hw _ (List.mem_of_getElem? (i := 2) rfl)) (by decide) (by decide) hEL CR.1) (g := (mkF m 90 #[.val (.int p0), .val (.int p1), .val (.int p2), .val (.int p3), .val (.int (2 : Int32)), .val (.int x0), .val (.int x1), .val (.int ((p2 &&& (255 : Int32)).toUInt32.toUInt16.toUInt32.toInt32)), .val (.ref me), .unset, .unset] [(.int ((p2 &&& (255 : Int32)).toUInt32.toUInt16.toUInt32.toInt32)), (.int ((p2 &&& (255 : Int32)).toUInt32.toUInt16.toUInt32.toInt32)), (.int x1), (.int (1 : Int32))])) rfl (by rw [hml]; rfl) (argsL := [(.int (1 : Int32)), (.int x1), (.int ((p2 &&& (255 : Int32)).toUInt32.toUInt16.toUInt32.toInt32)), (.int ((p2 &&& (255 : Int32)).toUInt32.toUInt16.toUInt32.toInt32))]) (rest := []) (lenOf pd_0 rfl) rfl (by show 2 * 0 + _ ≤ _; exact Nat.le_of_eq rfl) (hb hby at_90) (fun _ _ => ⟨rfl, rfl, (by decide : 6 + 6 ≤ _), (by decide : 12 + 12 ≤ _)⟩)
        dsimp only [Pt.U, Pt.locs, Pt.cells, Pt.slots] at X232 l232 y232 z232 st232 hQ232 hSn hgn CRn
        subst l232 y232 z232
        skip
        obtain ⟨X232', hS232, hZ232, hown232⟩ := rebS hS hk X232 hSn hgn hZ hown
        obtain ⟨ex, rfl, Nq232, K232, S_ex⟩ := hQ232
        have N232 := Fr.app N231 Nq232
        refine Go.by (fun t => st232.trans) ?_
        replace S_me := S_me.keep K232 nin0 (fun _ _ _ _ A => nin0)
        replace CR := CR.trans CRn
        replace Od := Od.keep K232 all0
        replace Z0 := Nat.le_trans Z0 K232.1
        clear CRn hS hk hSn
        have hS := hS232
        have hk : T232.heap.size ≤ T232.heap.size := Nat.le_refl _
        replace hZ := hZ232
        replace hown := hown232
        show Go p e below _ (T232.setTop (mkF m 93 #[.val (.int p0), .val (.int p1), .val (.int p2), .val (.int p3), .val (.int (2 : Int32)), .val (.int x0), .val (.int x1), .val (.int ((p2 &&& (255 : Int32)).toUInt32.toUInt16.toUInt32.toInt32)), .val (.ref me), .unset, .unset] [(.ref ex)]))
        replace S_ex : StrAt Z T232.heap ex [x1] := S_ex
        show Go p e below _ (T232.setTop (mkF m 93 #[.val (.int p0), .val (.int p1), .val (.int p2), .val (.int p3), .val (.int (2 : Int32)), .val (.int x0), .val (.int x1), .val (.int ((p2 &&& (255 : Int32)).toUInt32.toUInt16.toUInt32.toInt32)), .val (.ref me), .unset, .unset] [(.ref ex)]))
        refine Go.by (fun t => XS.astore X232'.here hx rfl (hb hby at_93) rfl rfl (l' := #[.val (.int p0), .val (.int p1), .val (.int p2), .val (.int p3), .val (.int (2 : Int32)), .val (.int x0), .val (.int x1), .val (.int ((p2 &&& (255 : Int32)).toUInt32.toUInt16.toUInt32.toInt32)), .val (.ref me), .val (.ref ex), .unset]) rfl) ?_
        show Go p e below _ (T232.setTop (mkF m 95 #[.val (.int p0), .val (.int p1), .val (.int p2), .val (.int p3), .val (.int (2 : Int32)), .val (.int x0), .val (.int x1), .val (.int ((p2 &&& (255 : Int32)).toUInt32.toUInt16.toUInt32.toInt32)), .val (.ref me), .val (.ref ex), .unset] []))
        refine Go.by (fun t => XS.goto X232'.here hx rfl (pc0 := 95) (pc' := 111) rfl (hb hby at_95) (by decide) (by decide)) ?_
        show Go p e below _ (T232.setTop (mkF m 111 #[.val (.int p0), .val (.int p1), .val (.int p2), .val (.int p3), .val (.int (2 : Int32)), .val (.int x0), .val (.int x1), .val (.int ((p2 &&& (255 : Int32)).toUInt32.toUInt16.toUInt32.toInt32)), .val (.ref me), .val (.ref ex), .unset] []))
        refine Go.by (fun t => XS.aload X232'.here hx rfl (hb hby at_111) rfl rfl) ?_
        show Go p e below _ (T232.setTop (mkF m 113 #[.val (.int p0), .val (.int p1), .val (.int p2), .val (.int p3), .val (.int (2 : Int32)), .val (.int x0), .val (.int x1), .val (.int ((p2 &&& (255 : Int32)).toUInt32.toUInt16.toUInt32.toInt32)), .val (.ref me), .val (.ref ex), .unset] [(.ref me)]))
        obtain ⟨_, _, ⟨T233, L233, k233, n233⟩, -, X233, hSn, hgn, ⟨Lc233, hQ233, l233, y233, z233, CRn⟩, st233⟩ := callSS X232' hx (y := (⟨"com/example/slicewright/slicewright/slicing/Occurrence", "elementName", "(Ljava/lang/String;)Ljava/lang/String;"⟩ : MethodName)) hown (mvT (s := s.setVm T232.vm) hZ (hw _ (List.mem_of_getElem? (i := 34) rfl))) (mvT (s := s.setVm T232.vm) hZ (hw _ (List.mem_of_getElem? (i := 35) rfl))) (mvT (s := s.setVm T232.vm) hZ (hw _ (List.mem_of_getElem? (i := 36) rfl))) (mvT (s := s.setVm T232.vm) hZ (hw _ (List.mem_of_getElem? (i := 37) rfl))) (by decide) (backOfSH (W := 0) (rmEN2 l Z a0 hw [] me x0 x1 G1 G3 T232.heap n0 Z0 Od O2 P5 O4 rG3 S_me hx0 hx1) hZ (hw _ (List.mem_of_getElem? (i := 37) rfl)) (hw _ (List.mem_of_getElem? (i := 36) rfl)) (by decide) (by decide) hEL CR.1) (g := (mkF m 113 #[.val (.int p0), .val (.int p1), .val (.int p2), .val (.int p3), .val (.int (2 : Int32)), .val (.int x0), .val (.int x1), .val (.int ((p2 &&& (255 : Int32)).toUInt32.toUInt16.toUInt32.toInt32)), .val (.ref me), .val (.ref ex), .unset] [(.ref me)])) rfl (by rw [hml]; rfl) (argsL := [(.ref me)]) (rest := []) (lenOf pd_1 rfl) rfl (by show 2 * 0 + _ ≤ _; exact Nat.le_of_eq rfl) (hb hby at_113) (fun _ _ => ⟨rfl, rfl, (by decide : 12 + 4 ≤ _), (by decide : 24 + 20 ≤ _)⟩)
        dsimp only [Pt.U, Pt.locs, Pt.cells, Pt.slots] at X233 l233 y233 z233 st233 hQ233 hSn hgn CRn
        subst l233 y233 z233
        skip
        obtain ⟨X233', hS233, hZ233, hown233⟩ := rebS hS hk X233 hSn hgn hZ hown
        obtain ⟨gt, rfl, Nq233, K233, S_gt⟩ := hQ233
        have N233 := Fr.app N232 Nq233
        refine Go.by (fun t => st233.trans) ?_
        replace S_me := S_me.keep K233 nin0 (fun _ _ _ _ A => nin0)
        replace S_ex := S_ex.keep K233 nin0 (fun _ _ _ _ A => nin0)
        replace CR := CR.trans CRn
        replace Od := Od.keep K233 all0
        replace Z0 := Nat.le_trans Z0 K233.1
        clear CRn hS hk hSn
        have hS := hS233
        have hk : T233.heap.size ≤ T233.heap.size := Nat.le_refl _
        replace hZ := hZ233
        replace hown := hown233
        show Go p e below _ (T233.setTop (mkF m 116 #[.val (.int p0), .val (.int p1), .val (.int p2), .val (.int p3), .val (.int (2 : Int32)), .val (.int x0), .val (.int x1), .val (.int ((p2 &&& (255 : Int32)).toUInt32.toUInt16.toUInt32.toInt32)), .val (.ref me), .val (.ref ex), .unset] [(.ref gt)]))
        show Go p e below _ (T233.setTop (mkF m 116 #[.val (.int p0), .val (.int p1), .val (.int p2), .val (.int p3), .val (.int (2 : Int32)), .val (.int x0), .val (.int x1), .val (.int ((p2 &&& (255 : Int32)).toUInt32.toUInt16.toUInt32.toInt32)), .val (.ref me), .val (.ref ex), .unset] [(.ref gt)]))
        refine Go.by (fun t => XS.astore X233'.here hx rfl (hb hby at_116) rfl rfl (l' := #[.val (.int p0), .val (.int p1), .val (.int p2), .val (.int p3), .val (.int (2 : Int32)), .val (.int x0), .val (.int x1), .val (.int ((p2 &&& (255 : Int32)).toUInt32.toUInt16.toUInt32.toInt32)), .val (.ref me), .val (.ref ex), .val (.ref gt)]) rfl) ?_
        show Go p e below _ (T233.setTop (mkF m 118 #[.val (.int p0), .val (.int p1), .val (.int p2), .val (.int p3), .val (.int (2 : Int32)), .val (.int x0), .val (.int x1), .val (.int ((p2 &&& (255 : Int32)).toUInt32.toUInt16.toUInt32.toInt32)), .val (.ref me), .val (.ref ex), .val (.ref gt)] []))
        refine Go.by (fun t => XS.aload X233'.here hx rfl (hb hby at_118) rfl rfl) ?_
        show Go p e below _ (T233.setTop (mkF m 120 #[.val (.int p0), .val (.int p1), .val (.int p2), .val (.int p3), .val (.int (2 : Int32)), .val (.int x0), .val (.int x1), .val (.int ((p2 &&& (255 : Int32)).toUInt32.toUInt16.toUInt32.toInt32)), .val (.ref me), .val (.ref ex), .val (.ref gt)] [(.ref gt)]))
        refine Go.by (fun t => XS.ifnullNo X233'.here hx rfl (hb hby at_120) rfl) ?_
        show Go p e below _ (T233.setTop (mkF m 123 #[.val (.int p0), .val (.int p1), .val (.int p2), .val (.int p3), .val (.int (2 : Int32)), .val (.int x0), .val (.int x1), .val (.int ((p2 &&& (255 : Int32)).toUInt32.toUInt16.toUInt32.toInt32)), .val (.ref me), .val (.ref ex), .val (.ref gt)] []))
        show Go p e below _ (T233.setTop (mkF m 123 #[.val (.int p0), .val (.int p1), .val (.int p2), .val (.int p3), .val (.int (2 : Int32)), .val (.int x0), .val (.int x1), .val (.int ((p2 &&& (255 : Int32)).toUInt32.toUInt16.toUInt32.toInt32)), .val (.ref me), .val (.ref ex), .val (.ref gt)] []))
        refine Go.by (fun t => XS.aload X233'.here hx rfl (hb hby at_123) rfl rfl) ?_
        show Go p e below _ (T233.setTop (mkF m 125 #[.val (.int p0), .val (.int p1), .val (.int p2), .val (.int p3), .val (.int (2 : Int32)), .val (.int x0), .val (.int x1), .val (.int ((p2 &&& (255 : Int32)).toUInt32.toUInt16.toUInt32.toInt32)), .val (.ref me), .val (.ref ex), .val (.ref gt)] [(.ref gt)]))
        refine Go.by (fun t => XS.aload X233'.here hx rfl (hb hby at_125) rfl rfl) ?_
        show Go p e below _ (T233.setTop (mkF m 127 #[.val (.int p0), .val (.int p1), .val (.int p2), .val (.int p3), .val (.int (2 : Int32)), .val (.int x0), .val (.int x1), .val (.int ((p2 &&& (255 : Int32)).toUInt32.toUInt16.toUInt32.toInt32)), .val (.ref me), .val (.ref ex), .val (.ref gt)] [(.ref ex), (.ref gt)]))
        rw [if_pos hu] at S_gt
        obtain ⟨cq234, kq234, q234a, q234b, q234c⟩ := isOf hZ rfl S_gt.exa
        obtain ⟨_, _, ⟨T234, L234, k234, n234⟩, -, X234, ⟨Lc234, hQ234, l234, y234, z234⟩, st234⟩ := X233'.virtualBack hx (y := (⟨"java/lang/String", "equals", "(Ljava/lang/Object;)Z"⟩ : MethodName)) (z := (⟨"java/lang/String", "equals", "(Ljava/lang/Object;)Z"⟩ : MethodName)) hown (mvT hZ (hw _ (List.mem_of_getElem? (i := 65) rfl))) (mvT hZ (hw _ (List.mem_of_getElem? (i := 66) rfl))) (notFace_of_selects (args := #[]) (mvT hZ (hw _ (List.mem_of_getElem? (i := 68) rfl)))) (mvT hZ (hw _ (List.mem_of_getElem? (i := 68) rfl))) (mvT hZ (hw _ (List.mem_of_getElem? (i := 67) rfl))) (by decide) (eqS (W := 0) hZ heq (hw _ (List.mem_of_getElem? (i := 5) rfl)) S_gt S_ex (O2.ext Od.2) P5 (by decide) (by decide)) q234a q234c (g := (mkF m 127 #[.val (.int p0), .val (.int p1), .val (.int p2), .val (.int p3), .val (.int (2 : Int32)), .val (.int x0), .val (.int x1), .val (.int ((p2 &&& (255 : Int32)).toUInt32.toUInt16.toUInt32.toInt32)), .val (.ref me), .val (.ref ex), .val (.ref gt)] [(.ref ex), (.ref gt)])) rfl (by rw [hml]; rfl) (Steps.refl _) (argsL := [(.ref ex)]) (rest := []) (lenOf pd_2 rfl) rfl (by show 2 * 0 + _ ≤ _; exact Nat.le_of_eq rfl) (hb hby at_127) (fun _ _ => ⟨rfl, rfl, (by decide : 16 + 0 ≤ _), (by decide : 44 + 0 ≤ _)⟩)
        dsimp only [Pt.U, Pt.locs, Pt.cells, Pt.slots] at X234 l234 y234 z234 st234 hQ234
        subst l234 y234 z234
        obtain ⟨hv234, rfl, e234⟩ := hQ234
        rw [if_pos rfl] at hv234
        subst hv234
        have Nq234 : Fr n0 ([] : List Loc) := Fr.nil n0
        have N234 := Fr.app N233 Nq234
        refine Go.by (fun t => st234.trans) ?_
        show Go p e below _ (T234.setTop (mkF m 130 #[.val (.int p0), .val (.int p1), .val (.int p2), .val (.int p3), .val (.int (2 : Int32)), .val (.int x0), .val (.int x1), .val (.int ((p2 &&& (255 : Int32)).toUInt32.toUInt16.toUInt32.toInt32)), .val (.ref me), .val (.ref ex), .val (.ref gt)] [(.int (1 : Int32))]))
        refine Go.by (fun t => XS.ifNo X234.here hx rfl (hb hby at_130) rfl ((if0 _ _).trans (feq (by decide : ¬ ((1 : Int32) = (0 : Int32)))).1)) ?_
        show Go p e below _ (T234.setTop (mkF m 133 #[.val (.int p0), .val (.int p1), .val (.int p2), .val (.int p3), .val (.int (2 : Int32)), .val (.int x0), .val (.int x1), .val (.int ((p2 &&& (255 : Int32)).toUInt32.toUInt16.toUInt32.toInt32)), .val (.ref me), .val (.ref ex), .val (.ref gt)] []))
        show Go p e below _ (T234.setTop (mkF m 133 #[.val (.int p0), .val (.int p1), .val (.int p2), .val (.int p3), .val (.int (2 : Int32)), .val (.int x0), .val (.int x1), .val (.int ((p2 &&& (255 : Int32)).toUInt32.toUInt16.toUInt32.toInt32)), .val (.ref me), .val (.ref ex), .val (.ref gt)] []))
        refine Go.by (fun t => XS.iconst X234.here hx rfl (hb hby at_133)) ?_
        show Go p e below _ (T234.setTop (mkF m 134 #[.val (.int p0), .val (.int p1), .val (.int p2), .val (.int p3), .val (.int (2 : Int32)), .val (.int x0), .val (.int x1), .val (.int ((p2 &&& (255 : Int32)).toUInt32.toUInt16.toUInt32.toInt32)), .val (.ref me), .val (.ref ex), .val (.ref gt)] [(.int (1 : Int32))]))
        refine Go.by (fun t => XS.goto X234.here hx rfl (pc0 := 134) (pc' := 138) rfl (hb hby at_134) (by decide) (by decide)) ?_
        show Go p e below _ (T234.setTop (mkF m 138 #[.val (.int p0), .val (.int p1), .val (.int p2), .val (.int p3), .val (.int (2 : Int32)), .val (.int x0), .val (.int x1), .val (.int ((p2 &&& (255 : Int32)).toUInt32.toUInt16.toUInt32.toInt32)), .val (.ref me), .val (.ref ex), .val (.ref gt)] [(.int (1 : Int32))]))
        exact Go.ret1W X234 hS (by rw [e234]; exact hk) (by rw [e234]; exact CR) hZ hEL hx Bd.returns Bd.notSynchronized (by first | rfl | decide) (Or.inl ⟨rfl, by simp, _, rfl⟩) (hb hby at_138) (by decide) (by decide) (by first | (rw [e234]; exact ⟨rfl, N234⟩) | exact ⟨rfl, N234⟩)
      · -- hc77 False
        refine Go.by (fun t => XS.icmpYes X231'.here hx rfl (pc0 := 77) (pc' := 98) rfl (hb hby at_77) rfl (feq (hc77 : ¬ (x0 = (95 : Int32)))).2 (by decide) (by decide)) ?_
        show Go p e below _ (T231.setTop (mkF m 98 #[.val (.int p0), .val (.int p1), .val (.int p2), .val (.int p3), .val (.int (2 : Int32)), .val (.int x0), .val (.int x1), .val (.int ((p2 &&& (255 : Int32)).toUInt32.toUInt16.toUInt32.toInt32)), .val (.ref me), .unset, .unset] []))
        have hu : ¬ x0 = 95 := hc77
        show Go p e below _ (T231.setTop (mkF m 98 #[.val (.int p0), .val (.int p1), .val (.int p2), .val (.int p3), .val (.int (2 : Int32)), .val (.int x0), .val (.int x1), .val (.int ((p2 &&& (255 : Int32)).toUInt32.toUInt16.toUInt32.toInt32)), .val (.ref me), .unset, .unset] []))
        refine Go.by (fun t => XS.iload X231'.here hx rfl (hb hby at_98) rfl ) ?_
        show Go p e below _ (T231.setTop (mkF m 100 #[.val (.int p0), .val (.int p1), .val (.int p2), .val (.int p3), .val (.int (2 : Int32)), .val (.int x0), .val (.int x1), .val (.int ((p2 &&& (255 : Int32)).toUInt32.toUInt16.toUInt32.toInt32)), .val (.ref me), .unset, .unset] [(.int (2 : Int32))]))
        refine Go.by (fun t => XS.iload X231'.here hx rfl (hb hby at_100) rfl ) ?_
        show Go p e below _ (T231.setTop (mkF m 102 #[.val (.int p0), .val (.int p1), .val (.int p2), .val (.int p3), .val (.int (2 : Int32)), .val (.int x0), .val (.int x1), .val (.int ((p2 &&& (255 : Int32)).toUInt32.toUInt16.toUInt32.toInt32)), .val (.ref me), .unset, .unset] [(.int x0), (.int (2 : Int32))]))
        refine Go.by (fun t => XS.iload X231'.here hx rfl (hb hby at_102) rfl ) ?_
        show Go p e below _ (T231.setTop (mkF m 104 #[.val (.int p0), .val (.int p1), .val (.int p2), .val (.int p3), .val (.int (2 : Int32)), .val (.int x0), .val (.int x1), .val (.int ((p2 &&& (255 : Int32)).toUInt32.toUInt16.toUInt32.toInt32)), .val (.ref me), .unset, .unset] [(.int x1), (.int x0), (.int (2 : Int32))]))
        refine Go.by (fun t => XS.iload X231'.here hx rfl (hb hby at_104) rfl ) ?_
        show Go p e below _ (T231.setTop (mkF m 106 #[.val (.int p0), .val (.int p1), .val (.int p2), .val (.int p3), .val (.int (2 : Int32)), .val (.int x0), .val (.int x1), .val (.int ((p2 &&& (255 : Int32)).toUInt32.toUInt16.toUInt32.toInt32)), .val (.ref me), .unset, .unset] [(.int ((p2 &&& (255 : Int32)).toUInt32.toUInt16.toUInt32.toInt32)), (.int x1), (.int x0), (.int (2 : Int32))]))
        obtain ⟨_, _, ⟨T235, L235, k235, n235⟩, -, X235, hSn, hgn, ⟨Lc235, hQ235, l235, y235, z235, CRn⟩, st235⟩ := callSS X231' hx (y := (⟨"com/example/slicewright/slicewright/slicing/OccurrenceElementNamePinLaw", "make", "(ICCC)Ljava/lang/String;"⟩ : MethodName)) hown (mvT (s := s.setVm T231.vm) hZ (hw _ (List.mem_of_getElem? (i := 0) rfl))) (mvT (s := s.setVm T231.vm) hZ (hw _ (List.mem_of_getElem? (i := 1) rfl))) (mvT (s := s.setVm T231.vm) hZ (hw _ (List.mem_of_getElem? (i := 2) rfl))) (mvT (s := s.setVm T231.vm) hZ (hw _ (List.mem_of_getElem? (i := 3) rfl))) (by decide) (backOfSH (W := 0) (rm1 l Z a0 hw [] (2 : Int32) x0 x1 ((p2 &&& (255 : Int32)).toUInt32.toUInt16.toUInt32.toInt32) G1 T231.heap n0 Z0 Od O2 P5 hx0 hx1 hx2) hZ (hw _ (List.mem_of_getElem? (i := 3) rfl)) (hw _ (List.mem_of_getElem? (i := 2) rfl)) (by decide) (by decide) hEL CR.1) (g := (mkF m 106 #[.val (.int p0), .val (.int p1), .val (.int p2), .val (.int p3), .val (.int (2 : Int32)), .val (.int x0), .val (.int x1), .val (.int ((p2 &&& (255 : Int32)).toUInt32.toUInt16.toUInt32.toInt32)), .val (.ref me), .unset, .unset] [(.int ((p2 &&& (255 : Int32)).toUInt32.toUInt16.toUInt32.toInt32)), (.int x1), (.int x0), (.int (2 : Int32))])) rfl (by rw [hml]; rfl) (argsL := [(.int (2 : Int32)), (.int x0), (.int x1), (.int ((p2 &&& (255 : Int32)).toUInt32.toUInt16.toUInt32.toInt32))]) (rest := []) (lenOf pd_0 rfl) rfl (by show 2 * 0 + _ ≤ _; exact Nat.le_of_eq rfl) (hb hby at_106) (fun _ _ => ⟨rfl, rfl, (by decide : 6 + 6 ≤ _), (by decide : 12 + 12 ≤ _)⟩)
        dsimp only [Pt.U, Pt.locs, Pt.cells, Pt.slots] at X235 l235 y235 z235 st235 hQ235 hSn hgn CRn
        subst l235 y235 z235
        skip
        obtain ⟨X235', hS235, hZ235, hown235⟩ := rebS hS hk X235 hSn hgn hZ hown
        obtain ⟨ex, rfl, Nq235, K235, S_ex⟩ := hQ235
        have N235 := Fr.app N231 Nq235
        refine Go.by (fun t => st235.trans) ?_
        replace S_me := S_me.keep K235 nin0 (fun _ _ _ _ A => nin0)
        replace CR := CR.trans CRn
        replace Od := Od.keep K235 all0
        replace Z0 := Nat.le_trans Z0 K235.1
        clear CRn hS hk hSn
        have hS := hS235
        have hk : T235.heap.size ≤ T235.heap.size := Nat.le_refl _
        replace hZ := hZ235
        replace hown := hown235
        show Go p e below _ (T235.setTop (mkF m 109 #[.val (.int p0), .val (.int p1), .val (.int p2), .val (.int p3), .val (.int (2 : Int32)), .val (.int x0), .val (.int x1), .val (.int ((p2 &&& (255 : Int32)).toUInt32.toUInt16.toUInt32.toInt32)), .val (.ref me), .unset, .unset] [(.ref ex)]))
        replace S_ex : StrAt Z T235.heap ex [x0, x1] := S_ex
        show Go p e below _ (T235.setTop (mkF m 109 #[.val (.int p0), .val (.int p1), .val (.int p2), .val (.int p3), .val (.int (2 : Int32)), .val (.int x0), .val (.int x1), .val (.int ((p2 &&& (255 : Int32)).toUInt32.toUInt16.toUInt32.toInt32)), .val (.ref me), .unset, .unset] [(.ref ex)]))
        refine Go.by (fun t => XS.astore X235'.here hx rfl (hb hby at_109) rfl rfl (l' := #[.val (.int p0), .val (.int p1), .val (.int p2), .val (.int p3), .val (.int (2 : Int32)), .val (.int x0), .val (.int x1), .val (.int ((p2 &&& (255 : Int32)).toUInt32.toUInt16.toUInt32.toInt32)), .val (.ref me), .val (.ref ex), .unset]) rfl) ?_
        show Go p e below _ (T235.setTop (mkF m 111 #[.val (.int p0), .val (.int p1), .val (.int p2), .val (.int p3), .val (.int (2 : Int32)), .val (.int x0), .val (.int x1), .val (.int ((p2 &&& (255 : Int32)).toUInt32.toUInt16.toUInt32.toInt32)), .val (.ref me), .val (.ref ex), .unset] []))
        refine Go.by (fun t => XS.aload X235'.here hx rfl (hb hby at_111) rfl rfl) ?_
        show Go p e below _ (T235.setTop (mkF m 113 #[.val (.int p0), .val (.int p1), .val (.int p2), .val (.int p3), .val (.int (2 : Int32)), .val (.int x0), .val (.int x1), .val (.int ((p2 &&& (255 : Int32)).toUInt32.toUInt16.toUInt32.toInt32)), .val (.ref me), .val (.ref ex), .unset] [(.ref me)]))
        obtain ⟨_, _, ⟨T236, L236, k236, n236⟩, -, X236, hSn, hgn, ⟨Lc236, hQ236, l236, y236, z236, CRn⟩, st236⟩ := callSS X235' hx (y := (⟨"com/example/slicewright/slicewright/slicing/Occurrence", "elementName", "(Ljava/lang/String;)Ljava/lang/String;"⟩ : MethodName)) hown (mvT (s := s.setVm T235.vm) hZ (hw _ (List.mem_of_getElem? (i := 34) rfl))) (mvT (s := s.setVm T235.vm) hZ (hw _ (List.mem_of_getElem? (i := 35) rfl))) (mvT (s := s.setVm T235.vm) hZ (hw _ (List.mem_of_getElem? (i := 36) rfl))) (mvT (s := s.setVm T235.vm) hZ (hw _ (List.mem_of_getElem? (i := 37) rfl))) (by decide) (backOfSH (W := 0) (rmEN2 l Z a0 hw [] me x0 x1 G1 G3 T235.heap n0 Z0 Od O2 P5 O4 rG3 S_me hx0 hx1) hZ (hw _ (List.mem_of_getElem? (i := 37) rfl)) (hw _ (List.mem_of_getElem? (i := 36) rfl)) (by decide) (by decide) hEL CR.1) (g := (mkF m 113 #[.val (.int p0), .val (.int p1), .val (.int p2), .val (.int p3), .val (.int (2 : Int32)), .val (.int x0), .val (.int x1), .val (.int ((p2 &&& (255 : Int32)).toUInt32.toUInt16.toUInt32.toInt32)), .val (.ref me), .val (.ref ex), .unset] [(.ref me)])) rfl (by rw [hml]; rfl) (argsL := [(.ref me)]) (rest := []) (lenOf pd_1 rfl) rfl (by show 2 * 0 + _ ≤ _; exact Nat.le_of_eq rfl) (hb hby at_113) (fun _ _ => ⟨rfl, rfl, (by decide : 12 + 4 ≤ _), (by decide : 24 + 20 ≤ _)⟩)
        dsimp only [Pt.U, Pt.locs, Pt.cells, Pt.slots] at X236 l236 y236 z236 st236 hQ236 hSn hgn CRn
        subst l236 y236 z236
        skip
        obtain ⟨X236', hS236, hZ236, hown236⟩ := rebS hS hk X236 hSn hgn hZ hown
        obtain ⟨gt, rfl, Nq236, K236, S_gt⟩ := hQ236
        have N236 := Fr.app N235 Nq236
        refine Go.by (fun t => st236.trans) ?_
        replace S_me := S_me.keep K236 nin0 (fun _ _ _ _ A => nin0)
        replace S_ex := S_ex.keep K236 nin0 (fun _ _ _ _ A => nin0)
        replace CR := CR.trans CRn
        replace Od := Od.keep K236 all0
        replace Z0 := Nat.le_trans Z0 K236.1
        clear CRn hS hk hSn
        have hS := hS236
        have hk : T236.heap.size ≤ T236.heap.size := Nat.le_refl _
        replace hZ := hZ236
        replace hown := hown236
        show Go p e below _ (T236.setTop (mkF m 116 #[.val (.int p0), .val (.int p1), .val (.int p2), .val (.int p3), .val (.int (2 : Int32)), .val (.int x0), .val (.int x1), .val (.int ((p2 &&& (255 : Int32)).toUInt32.toUInt16.toUInt32.toInt32)), .val (.ref me), .val (.ref ex), .unset] [(.ref gt)]))
        show Go p e below _ (T236.setTop (mkF m 116 #[.val (.int p0), .val (.int p1), .val (.int p2), .val (.int p3), .val (.int (2 : Int32)), .val (.int x0), .val (.int x1), .val (.int ((p2 &&& (255 : Int32)).toUInt32.toUInt16.toUInt32.toInt32)), .val (.ref me), .val (.ref ex), .unset] [(.ref gt)]))
        refine Go.by (fun t => XS.astore X236'.here hx rfl (hb hby at_116) rfl rfl (l' := #[.val (.int p0), .val (.int p1), .val (.int p2), .val (.int p3), .val (.int (2 : Int32)), .val (.int x0), .val (.int x1), .val (.int ((p2 &&& (255 : Int32)).toUInt32.toUInt16.toUInt32.toInt32)), .val (.ref me), .val (.ref ex), .val (.ref gt)]) rfl) ?_
        show Go p e below _ (T236.setTop (mkF m 118 #[.val (.int p0), .val (.int p1), .val (.int p2), .val (.int p3), .val (.int (2 : Int32)), .val (.int x0), .val (.int x1), .val (.int ((p2 &&& (255 : Int32)).toUInt32.toUInt16.toUInt32.toInt32)), .val (.ref me), .val (.ref ex), .val (.ref gt)] []))
        refine Go.by (fun t => XS.aload X236'.here hx rfl (hb hby at_118) rfl rfl) ?_
        show Go p e below _ (T236.setTop (mkF m 120 #[.val (.int p0), .val (.int p1), .val (.int p2), .val (.int p3), .val (.int (2 : Int32)), .val (.int x0), .val (.int x1), .val (.int ((p2 &&& (255 : Int32)).toUInt32.toUInt16.toUInt32.toInt32)), .val (.ref me), .val (.ref ex), .val (.ref gt)] [(.ref gt)]))
        refine Go.by (fun t => XS.ifnullNo X236'.here hx rfl (hb hby at_120) rfl) ?_
        show Go p e below _ (T236.setTop (mkF m 123 #[.val (.int p0), .val (.int p1), .val (.int p2), .val (.int p3), .val (.int (2 : Int32)), .val (.int x0), .val (.int x1), .val (.int ((p2 &&& (255 : Int32)).toUInt32.toUInt16.toUInt32.toInt32)), .val (.ref me), .val (.ref ex), .val (.ref gt)] []))
        show Go p e below _ (T236.setTop (mkF m 123 #[.val (.int p0), .val (.int p1), .val (.int p2), .val (.int p3), .val (.int (2 : Int32)), .val (.int x0), .val (.int x1), .val (.int ((p2 &&& (255 : Int32)).toUInt32.toUInt16.toUInt32.toInt32)), .val (.ref me), .val (.ref ex), .val (.ref gt)] []))
        refine Go.by (fun t => XS.aload X236'.here hx rfl (hb hby at_123) rfl rfl) ?_
        show Go p e below _ (T236.setTop (mkF m 125 #[.val (.int p0), .val (.int p1), .val (.int p2), .val (.int p3), .val (.int (2 : Int32)), .val (.int x0), .val (.int x1), .val (.int ((p2 &&& (255 : Int32)).toUInt32.toUInt16.toUInt32.toInt32)), .val (.ref me), .val (.ref ex), .val (.ref gt)] [(.ref gt)]))
        refine Go.by (fun t => XS.aload X236'.here hx rfl (hb hby at_125) rfl rfl) ?_
        show Go p e below _ (T236.setTop (mkF m 127 #[.val (.int p0), .val (.int p1), .val (.int p2), .val (.int p3), .val (.int (2 : Int32)), .val (.int x0), .val (.int x1), .val (.int ((p2 &&& (255 : Int32)).toUInt32.toUInt16.toUInt32.toInt32)), .val (.ref me), .val (.ref ex), .val (.ref gt)] [(.ref ex), (.ref gt)]))
        rw [if_neg hu] at S_gt
        obtain ⟨cq237, kq237, q237a, q237b, q237c⟩ := isOf hZ rfl S_gt.exa
        obtain ⟨_, _, ⟨T237, L237, k237, n237⟩, -, X237, ⟨Lc237, hQ237, l237, y237, z237⟩, st237⟩ := X236'.virtualBack hx (y := (⟨"java/lang/String", "equals", "(Ljava/lang/Object;)Z"⟩ : MethodName)) (z := (⟨"java/lang/String", "equals", "(Ljava/lang/Object;)Z"⟩ : MethodName)) hown (mvT hZ (hw _ (List.mem_of_getElem? (i := 65) rfl))) (mvT hZ (hw _ (List.mem_of_getElem? (i := 66) rfl))) (notFace_of_selects (args := #[]) (mvT hZ (hw _ (List.mem_of_getElem? (i := 68) rfl)))) (mvT hZ (hw _ (List.mem_of_getElem? (i := 68) rfl))) (mvT hZ (hw _ (List.mem_of_getElem? (i := 67) rfl))) (by decide) (eqS (W := 0) hZ heq (hw _ (List.mem_of_getElem? (i := 5) rfl)) S_gt S_ex (O2.ext Od.2) P5 (by decide) (by decide)) q237a q237c (g := (mkF m 127 #[.val (.int p0), .val (.int p1), .val (.int p2), .val (.int p3), .val (.int (2 : Int32)), .val (.int x0), .val (.int x1), .val (.int ((p2 &&& (255 : Int32)).toUInt32.toUInt16.toUInt32.toInt32)), .val (.ref me), .val (.ref ex), .val (.ref gt)] [(.ref ex), (.ref gt)])) rfl (by rw [hml]; rfl) (Steps.refl _) (argsL := [(.ref ex)]) (rest := []) (lenOf pd_2 rfl) rfl (by show 2 * 0 + _ ≤ _; exact Nat.le_of_eq rfl) (hb hby at_127) (fun _ _ => ⟨rfl, rfl, (by decide : 16 + 0 ≤ _), (by decide : 44 + 0 ≤ _)⟩)
        dsimp only [Pt.U, Pt.locs, Pt.cells, Pt.slots] at X237 l237 y237 z237 st237 hQ237
        subst l237 y237 z237
        obtain ⟨hv237, rfl, e237⟩ := hQ237
        rw [if_pos rfl] at hv237
        subst hv237
        have Nq237 : Fr n0 ([] : List Loc) := Fr.nil n0
        have N237 := Fr.app N236 Nq237
        refine Go.by (fun t => st237.trans) ?_
        show Go p e below _ (T237.setTop (mkF m 130 #[.val (.int p0), .val (.int p1), .val (.int p2), .val (.int p3), .val (.int (2 : Int32)), .val (.int x0), .val (.int x1), .val (.int ((p2 &&& (255 : Int32)).toUInt32.toUInt16.toUInt32.toInt32)), .val (.ref me), .val (.ref ex), .val (.ref gt)] [(.int (1 : Int32))]))
        refine Go.by (fun t => XS.ifNo X237.here hx rfl (hb hby at_130) rfl ((if0 _ _).trans (feq (by decide : ¬ ((1 : Int32) = (0 : Int32)))).1)) ?_
        show Go p e below _ (T237.setTop (mkF m 133 #[.val (.int p0), .val (.int p1), .val (.int p2), .val (.int p3), .val (.int (2 : Int32)), .val (.int x0), .val (.int x1), .val (.int ((p2 &&& (255 : Int32)).toUInt32.toUInt16.toUInt32.toInt32)), .val (.ref me), .val (.ref ex), .val (.ref gt)] []))
        show Go p e below _ (T237.setTop (mkF m 133 #[.val (.int p0), .val (.int p1), .val (.int p2), .val (.int p3), .val (.int (2 : Int32)), .val (.int x0), .val (.int x1), .val (.int ((p2 &&& (255 : Int32)).toUInt32.toUInt16.toUInt32.toInt32)), .val (.ref me), .val (.ref ex), .val (.ref gt)] []))
        refine Go.by (fun t => XS.iconst X237.here hx rfl (hb hby at_133)) ?_
        show Go p e below _ (T237.setTop (mkF m 134 #[.val (.int p0), .val (.int p1), .val (.int p2), .val (.int p3), .val (.int (2 : Int32)), .val (.int x0), .val (.int x1), .val (.int ((p2 &&& (255 : Int32)).toUInt32.toUInt16.toUInt32.toInt32)), .val (.ref me), .val (.ref ex), .val (.ref gt)] [(.int (1 : Int32))]))
        refine Go.by (fun t => XS.goto X237.here hx rfl (pc0 := 134) (pc' := 138) rfl (hb hby at_134) (by decide) (by decide)) ?_
        show Go p e below _ (T237.setTop (mkF m 138 #[.val (.int p0), .val (.int p1), .val (.int p2), .val (.int p3), .val (.int (2 : Int32)), .val (.int x0), .val (.int x1), .val (.int ((p2 &&& (255 : Int32)).toUInt32.toUInt16.toUInt32.toInt32)), .val (.ref me), .val (.ref ex), .val (.ref gt)] [(.int (1 : Int32))]))
        exact Go.ret1W X237 hS (by rw [e237]; exact hk) (by rw [e237]; exact CR) hZ hEL hx Bd.returns Bd.notSynchronized (by first | rfl | decide) (Or.inl ⟨rfl, by simp, _, rfl⟩) (hb hby at_138) (by decide) (by decide) (by first | (rw [e237]; exact ⟨rfl, N237⟩) | exact ⟨rfl, N237⟩)
    ·
      show Go p e below _ (s₁.setTop (mkF m 47 #[.val (.int p0), .val (.int p1), .val (.int p2), .val (.int p3), .val (.int (3 : Int32)), .val (.int x0), .val (.int x1), .unset, .unset, .unset, .unset] []))
      refine Go.by (fun t => XS.iloadN X0.here hx rfl (hb hby at_47) rfl ) ?_
      show Go p e below _ (s₁.setTop (mkF m 48 #[.val (.int p0), .val (.int p1), .val (.int p2), .val (.int p3), .val (.int (3 : Int32)), .val (.int x0), .val (.int x1), .unset, .unset, .unset, .unset] [(.int p2)]))
      refine Go.by (fun t => XS.sipush X0.here hx rfl (hb hby at_48)) ?_
      show Go p e below _ (s₁.setTop (mkF m 51 #[.val (.int p0), .val (.int p1), .val (.int p2), .val (.int p3), .val (.int (3 : Int32)), .val (.int x0), .val (.int x1), .unset, .unset, .unset, .unset] [(.int (255 : Int32)), (.int p2)]))
      refine Go.by (fun t => XS.iand X0.here hx rfl (hb hby at_51) rfl) ?_
      show Go p e below _ (s₁.setTop (mkF m 52 #[.val (.int p0), .val (.int p1), .val (.int p2), .val (.int p3), .val (.int (3 : Int32)), .val (.int x0), .val (.int x1), .unset, .unset, .unset, .unset] [(.int (p2 &&& (255 : Int32)))]))
      refine Go.by (fun t => XS.i2c X0.here hx rfl (hb hby at_52) rfl) ?_
      show Go p e below _ (s₁.setTop (mkF m 53 #[.val (.int p0), .val (.int p1), .val (.int p2), .val (.int p3), .val (.int (3 : Int32)), .val (.int x0), .val (.int x1), .unset, .unset, .unset, .unset] [(.int ((p2 &&& (255 : Int32)).toUInt32.toUInt16.toUInt32.toInt32))]))
      refine Go.by (fun t => XS.istore X0.here hx rfl (hb hby at_53) rfl (l' := #[.val (.int p0), .val (.int p1), .val (.int p2), .val (.int p3), .val (.int (3 : Int32)), .val (.int x0), .val (.int x1), .val (.int ((p2 &&& (255 : Int32)).toUInt32.toUInt16.toUInt32.toInt32)), .unset, .unset, .unset]) rfl) ?_
      show Go p e below _ (s₁.setTop (mkF m 55 #[.val (.int p0), .val (.int p1), .val (.int p2), .val (.int p3), .val (.int (3 : Int32)), .val (.int x0), .val (.int x1), .val (.int ((p2 &&& (255 : Int32)).toUInt32.toUInt16.toUInt32.toInt32)), .unset, .unset, .unset] []))
      refine Go.by (fun t => XS.iload X0.here hx rfl (hb hby at_55) rfl ) ?_
      show Go p e below _ (s₁.setTop (mkF m 57 #[.val (.int p0), .val (.int p1), .val (.int p2), .val (.int p3), .val (.int (3 : Int32)), .val (.int x0), .val (.int x1), .val (.int ((p2 &&& (255 : Int32)).toUInt32.toUInt16.toUInt32.toInt32)), .unset, .unset, .unset] [(.int (3 : Int32))]))
      refine Go.by (fun t => XS.iload X0.here hx rfl (hb hby at_57) rfl ) ?_
      show Go p e below _ (s₁.setTop (mkF m 59 #[.val (.int p0), .val (.int p1), .val (.int p2), .val (.int p3), .val (.int (3 : Int32)), .val (.int x0), .val (.int x1), .val (.int ((p2 &&& (255 : Int32)).toUInt32.toUInt16.toUInt32.toInt32)), .unset, .unset, .unset] [(.int x0), (.int (3 : Int32))]))
      refine Go.by (fun t => XS.iload X0.here hx rfl (hb hby at_59) rfl ) ?_
      show Go p e below _ (s₁.setTop (mkF m 61 #[.val (.int p0), .val (.int p1), .val (.int p2), .val (.int p3), .val (.int (3 : Int32)), .val (.int x0), .val (.int x1), .val (.int ((p2 &&& (255 : Int32)).toUInt32.toUInt16.toUInt32.toInt32)), .unset, .unset, .unset] [(.int x1), (.int x0), (.int (3 : Int32))]))
      refine Go.by (fun t => XS.iload X0.here hx rfl (hb hby at_61) rfl ) ?_
      show Go p e below _ (s₁.setTop (mkF m 63 #[.val (.int p0), .val (.int p1), .val (.int p2), .val (.int p3), .val (.int (3 : Int32)), .val (.int x0), .val (.int x1), .val (.int ((p2 &&& (255 : Int32)).toUInt32.toUInt16.toUInt32.toInt32)), .unset, .unset, .unset] [(.int ((p2 &&& (255 : Int32)).toUInt32.toUInt16.toUInt32.toInt32)), (.int x1), (.int x0), (.int (3 : Int32))]))
      obtain ⟨_, _, ⟨T238, L238, k238, n238⟩, -, X238, hSn, hgn, ⟨Lc238, hQ238, l238, y238, z238, CRn⟩, st238⟩ := callSS X0 hx (y := (⟨"com/example/slicewright/slicewright/slicing/OccurrenceElementNamePinLaw", "make", "(ICCC)Ljava/lang/String;"⟩ : MethodName)) hown (mvT (s := s.setVm s.vm) hZ (hw _ (List.mem_of_getElem? (i := 0) rfl))) (mvT (s := s.setVm s.vm) hZ (hw _ (List.mem_of_getElem? (i := 1) rfl))) (mvT (s := s.setVm s.vm) hZ (hw _ (List.mem_of_getElem? (i := 2) rfl))) (mvT (s := s.setVm s.vm) hZ (hw _ (List.mem_of_getElem? (i := 3) rfl))) (by decide) (backOfSH (W := 0) (rm1 l Z a0 hw [] (3 : Int32) x0 x1 ((p2 &&& (255 : Int32)).toUInt32.toUInt16.toUInt32.toInt32) G1 h0 n0 Z0 Od O2 P5 hx0 hx1 hx2) hZ (hw _ (List.mem_of_getElem? (i := 3) rfl)) (hw _ (List.mem_of_getElem? (i := 2) rfl)) (by decide) (by decide) hEL CR.1) (g := (mkF m 63 #[.val (.int p0), .val (.int p1), .val (.int p2), .val (.int p3), .val (.int (3 : Int32)), .val (.int x0), .val (.int x1), .val (.int ((p2 &&& (255 : Int32)).toUInt32.toUInt16.toUInt32.toInt32)), .unset, .unset, .unset] [(.int ((p2 &&& (255 : Int32)).toUInt32.toUInt16.toUInt32.toInt32)), (.int x1), (.int x0), (.int (3 : Int32))])) rfl (by rw [hml]; rfl) (argsL := [(.int (3 : Int32)), (.int x0), (.int x1), (.int ((p2 &&& (255 : Int32)).toUInt32.toUInt16.toUInt32.toInt32))]) (rest := []) (lenOf pd_0 rfl) rfl (by show 2 * 0 + _ ≤ _; exact Nat.le_of_eq rfl) (hb hby at_63) (fun _ _ => ⟨rfl, e0, (by decide : 0 + 6 ≤ _), (by decide : 0 + 12 ≤ _)⟩)
      dsimp only [Pt.U, Pt.locs, Pt.cells, Pt.slots] at X238 l238 y238 z238 st238 hQ238 hSn hgn CRn
      subst l238 y238 z238
      rw [e0] at hgn
      obtain ⟨X238', hS238, hZ238, hown238⟩ := rebS hS hk X238 hSn hgn hZ hown
      obtain ⟨me, rfl, Nq238, K238, S_me⟩ := hQ238
      have N238 := Fr.app N0 Nq238
      refine Go.by (fun t => st238.trans) ?_
      replace CR := CR.trans CRn
      replace Od := Od.keep K238 all0
      replace Z0 := Nat.le_trans Z0 K238.1
      clear CRn hS hk hSn
      have hS := hS238
      have hk : T238.heap.size ≤ T238.heap.size := Nat.le_refl _
      replace hZ := hZ238
      replace hown := hown238
      show Go p e below _ (T238.setTop (mkF m 66 #[.val (.int p0), .val (.int p1), .val (.int p2), .val (.int p3), .val (.int (3 : Int32)), .val (.int x0), .val (.int x1), .val (.int ((p2 &&& (255 : Int32)).toUInt32.toUInt16.toUInt32.toInt32)), .unset, .unset, .unset] [(.ref me)]))
      replace S_me : StrAt Z T238.heap me [x0, x1, ((p2 &&& (255 : Int32)).toUInt32.toUInt16.toUInt32.toInt32)] := S_me
      show Go p e below _ (T238.setTop (mkF m 66 #[.val (.int p0), .val (.int p1), .val (.int p2), .val (.int p3), .val (.int (3 : Int32)), .val (.int x0), .val (.int x1), .val (.int ((p2 &&& (255 : Int32)).toUInt32.toUInt16.toUInt32.toInt32)), .unset, .unset, .unset] [(.ref me)]))
      refine Go.by (fun t => XS.astore X238'.here hx rfl (hb hby at_66) rfl rfl (l' := #[.val (.int p0), .val (.int p1), .val (.int p2), .val (.int p3), .val (.int (3 : Int32)), .val (.int x0), .val (.int x1), .val (.int ((p2 &&& (255 : Int32)).toUInt32.toUInt16.toUInt32.toInt32)), .val (.ref me), .unset, .unset]) rfl) ?_
      show Go p e below _ (T238.setTop (mkF m 68 #[.val (.int p0), .val (.int p1), .val (.int p2), .val (.int p3), .val (.int (3 : Int32)), .val (.int x0), .val (.int x1), .val (.int ((p2 &&& (255 : Int32)).toUInt32.toUInt16.toUInt32.toInt32)), .val (.ref me), .unset, .unset] []))
      refine Go.by (fun t => XS.iload X238'.here hx rfl (hb hby at_68) rfl ) ?_
      show Go p e below _ (T238.setTop (mkF m 70 #[.val (.int p0), .val (.int p1), .val (.int p2), .val (.int p3), .val (.int (3 : Int32)), .val (.int x0), .val (.int x1), .val (.int ((p2 &&& (255 : Int32)).toUInt32.toUInt16.toUInt32.toInt32)), .val (.ref me), .unset, .unset] [(.int (3 : Int32))]))
      refine Go.by (fun t => XS.ifNo X238'.here hx rfl (hb hby at_70) rfl ((if0 _ _).trans (tlt (by decide : (0 : Int32) < (3 : Int32))).2.2.2)) ?_
      show Go p e below _ (T238.setTop (mkF m 73 #[.val (.int p0), .val (.int p1), .val (.int p2), .val (.int p3), .val (.int (3 : Int32)), .val (.int x0), .val (.int x1), .val (.int ((p2 &&& (255 : Int32)).toUInt32.toUInt16.toUInt32.toInt32)), .val (.ref me), .unset, .unset] []))
      show Go p e below _ (T238.setTop (mkF m 73 #[.val (.int p0), .val (.int p1), .val (.int p2), .val (.int p3), .val (.int (3 : Int32)), .val (.int x0), .val (.int x1), .val (.int ((p2 &&& (255 : Int32)).toUInt32.toUInt16.toUInt32.toInt32)), .val (.ref me), .unset, .unset] []))
      refine Go.by (fun t => XS.iload X238'.here hx rfl (hb hby at_73) rfl ) ?_
      show Go p e below _ (T238.setTop (mkF m 75 #[.val (.int p0), .val (.int p1), .val (.int p2), .val (.int p3), .val (.int (3 : Int32)), .val (.int x0), .val (.int x1), .val (.int ((p2 &&& (255 : Int32)).toUInt32.toUInt16.toUInt32.toInt32)), .val (.ref me), .unset, .unset] [(.int x0)]))
      refine Go.by (fun t => XS.bipush X238'.here hx rfl (hb hby at_75)) ?_
      show Go p e below _ (T238.setTop (mkF m 77 #[.val (.int p0), .val (.int p1), .val (.int p2), .val (.int p3), .val (.int (3 : Int32)), .val (.int x0), .val (.int x1), .val (.int ((p2 &&& (255 : Int32)).toUInt32.toUInt16.toUInt32.toInt32)), .val (.ref me), .unset, .unset] [(.int (95 : Int32)), (.int x0)]))
      by_cases hc77 : x0 = (95 : Int32)
      · -- hc77 True
        refine Go.by (fun t => XS.icmpNo X238'.here hx rfl (hb hby at_77) rfl (teq (hc77 : x0 = (95 : Int32))).2) ?_
        show Go p e below _ (T238.setTop (mkF m 80 #[.val (.int p0), .val (.int p1), .val (.int p2), .val (.int p3), .val (.int (3 : Int32)), .val (.int x0), .val (.int x1), .val (.int ((p2 &&& (255 : Int32)).toUInt32.toUInt16.toUInt32.toInt32)), .val (.ref me), .unset, .unset] []))
        have hu : x0 = 95 := hc77
        show Go p e below _ (T238.setTop (mkF m 80 #[.val (.int p0), .val (.int p1), .val (.int p2), .val (.int p3), .val (.int (3 : Int32)), .val (.int x0), .val (.int x1), .val (.int ((p2 &&& (255 : Int32)).toUInt32.toUInt16.toUInt32.toInt32)), .val (.ref me), .unset, .unset] []))
        refine Go.by (fun t => XS.iload X238'.here hx rfl (hb hby at_80) rfl ) ?_
        show Go p e below _ (T238.setTop (mkF m 82 #[.val (.int p0), .val (.int p1), .val (.int p2), .val (.int p3), .val (.int (3 : Int32)), .val (.int x0), .val (.int x1), .val (.int ((p2 &&& (255 : Int32)).toUInt32.toUInt16.toUInt32.toInt32)), .val (.ref me), .unset, .unset] [(.int (3 : Int32))]))
        refine Go.by (fun t => XS.iconst X238'.here hx rfl (hb hby at_82)) ?_
        show Go p e below _ (T238.setTop (mkF m 83 #[.val (.int p0), .val (.int p1), .val (.int p2), .val (.int p3), .val (.int (3 : Int32)), .val (.int x0), .val (.int x1), .val (.int ((p2 &&& (255 : Int32)).toUInt32.toUInt16.toUInt32.toInt32)), .val (.ref me), .unset, .unset] [(.int (1 : Int32)), (.int (3 : Int32))]))
        refine Go.by (fun t => XS.isub X238'.here hx rfl (hb hby at_83) rfl) ?_
        show Go p e below _ (T238.setTop (mkF m 84 #[.val (.int p0), .val (.int p1), .val (.int p2), .val (.int p3), .val (.int (3 : Int32)), .val (.int x0), .val (.int x1), .val (.int ((p2 &&& (255 : Int32)).toUInt32.toUInt16.toUInt32.toInt32)), .val (.ref me), .unset, .unset] [(.int ((3 : Int32) - (1 : Int32)))]))
        rw [show (3 : Int32) - (1 : Int32) = 2 from rfl]
        show Go p e below _ (T238.setTop (mkF m 84 #[.val (.int p0), .val (.int p1), .val (.int p2), .val (.int p3), .val (.int (3 : Int32)), .val (.int x0), .val (.int x1), .val (.int ((p2 &&& (255 : Int32)).toUInt32.toUInt16.toUInt32.toInt32)), .val (.ref me), .unset, .unset] [(.int (2 : Int32))]))
        show Go p e below _ (T238.setTop (mkF m 84 #[.val (.int p0), .val (.int p1), .val (.int p2), .val (.int p3), .val (.int (3 : Int32)), .val (.int x0), .val (.int x1), .val (.int ((p2 &&& (255 : Int32)).toUInt32.toUInt16.toUInt32.toInt32)), .val (.ref me), .unset, .unset] [(.int (2 : Int32))]))
        refine Go.by (fun t => XS.iload X238'.here hx rfl (hb hby at_84) rfl ) ?_
        show Go p e below _ (T238.setTop (mkF m 86 #[.val (.int p0), .val (.int p1), .val (.int p2), .val (.int p3), .val (.int (3 : Int32)), .val (.int x0), .val (.int x1), .val (.int ((p2 &&& (255 : Int32)).toUInt32.toUInt16.toUInt32.toInt32)), .val (.ref me), .unset, .unset] [(.int x1), (.int (2 : Int32))]))
        refine Go.by (fun t => XS.iload X238'.here hx rfl (hb hby at_86) rfl ) ?_
        show Go p e below _ (T238.setTop (mkF m 88 #[.val (.int p0), .val (.int p1), .val (.int p2), .val (.int p3), .val (.int (3 : Int32)), .val (.int x0), .val (.int x1), .val (.int ((p2 &&& (255 : Int32)).toUInt32.toUInt16.toUInt32.toInt32)), .val (.ref me), .unset, .unset] [(.int ((p2 &&& (255 : Int32)).toUInt32.toUInt16.toUInt32.toInt32)), (.int x1), (.int (2 : Int32))]))
        refine Go.by (fun t => XS.iload X238'.here hx rfl (hb hby at_88) rfl ) ?_
        show Go p e below _ (T238.setTop (mkF m 90 #[.val (.int p0), .val (.int p1), .val (.int p2), .val (.int p3), .val (.int (3 : Int32)), .val (.int x0), .val (.int x1), .val (.int ((p2 &&& (255 : Int32)).toUInt32.toUInt16.toUInt32.toInt32)), .val (.ref me), .unset, .unset] [(.int ((p2 &&& (255 : Int32)).toUInt32.toUInt16.toUInt32.toInt32)), (.int ((p2 &&& (255 : Int32)).toUInt32.toUInt16.toUInt32.toInt32)), (.int x1), (.int (2 : Int32))]))
        obtain ⟨_, _, ⟨T239, L239, k239, n239⟩, -, X239, hSn, hgn, ⟨Lc239, hQ239, l239, y239, z239, CRn⟩, st239⟩ := callSS X238' hx (y := (⟨"com/example/slicewright/slicewright/slicing/OccurrenceElementNamePinLaw", "make", "(ICCC)Ljava/lang/String;"⟩ : MethodName)) hown (mvT (s := s.setVm T238.vm) hZ (hw _ (List.mem_of_getElem? (i := 0) rfl))) (mvT (s := s.setVm T238.vm) hZ (hw _ (List.mem_of_getElem? (i := 1) rfl))) (mvT (s := s.setVm T238.vm) hZ (hw _ (List.mem_of_getElem? (i := 2) rfl))) (mvT (s := s.setVm T238.vm) hZ (hw _ (List.mem_of_getElem? (i := 3) rfl))) (by decide) (backOfSH (W := 0) (rm1 l Z a0 hw [] (2 : Int32) x1 ((p2 &&& (255 : Int32)).toUInt32.toUInt16.toUInt32.toInt32) ((p2 &&& (255 : Int32)).toUInt32.toUInt16.toUInt32.toInt32) G1 T238.heap n0 Z0 Od O2 P5 hx1 hx2 hx2) hZ (hw _ (List.mem_of_getElem? (i := 3) rfl)) (hw _ (List.mem_of_getElem? (i := 2) rfl)) (by decide) (by decide) hEL CR.1) (g := (mkF m 90 #[.val (.int p0), .val (.int p1), .val (.int p2), .val (.int p3), .val (.int (3 : Int32)), .val (.int x0), .val (.int x1), .val (.int ((p2 &&& (255 : Int32)).toUInt32.toUInt16.toUInt32.toInt32)), .val (.ref me), .unset, .unset] [(.int ((p2 &&& (255 : Int32)).toUInt32.toUInt16.toUInt32.toInt32)), (.int ((p2 &&& (255 : Int32)).toUInt32.toUInt16.toUInt32.toInt32)), (.int x1), (.int (2 : Int32))])) rfl (by rw [hml]; rfl) (argsL := [(.int (2 : Int32)), (.int x1), (.int ((p2 &&& (255 : Int32)).toUInt32.toUInt16.toUInt32.toInt32)), (.int ((p2 &&& (255 : Int32)).toUInt32.toUInt16.toUInt32.toInt32))]) (rest := []) (lenOf pd_0 rfl) rfl (by show 2 * 0 + _ ≤ _; exact Nat.le_of_eq rfl) (hb hby at_90) (fun _ _ => ⟨rfl, rfl, (by decide : 6 + 6 ≤ _), (by decide : 12 + 12 ≤ _)⟩)
        dsimp only [Pt.U, Pt.locs, Pt.cells, Pt.slots] at X239 l239 y239 z239 st239 hQ239 hSn hgn CRn
        subst l239 y239 z239
        skip
        obtain ⟨X239', hS239, hZ239, hown239⟩ := rebS hS hk X239 hSn hgn hZ hown
        obtain ⟨ex, rfl, Nq239, K239, S_ex⟩ := hQ239
        have N239 := Fr.app N238 Nq239
        refine Go.by (fun t => st239.trans) ?_
        replace S_me := S_me.keep K239 nin0 (fun _ _ _ _ A => nin0)
        replace CR := CR.trans CRn
        replace Od := Od.keep K239 all0
        replace Z0 := Nat.le_trans Z0 K239.1
        clear CRn hS hk hSn
        have hS := hS239
        have hk : T239.heap.size ≤ T239.heap.size := Nat.le_refl _
        replace hZ := hZ239
        replace hown := hown239
        show Go p e below _ (T239.setTop (mkF m 93 #[.val (.int p0), .val (.int p1), .val (.int p2), .val (.int p3), .val (.int (3 : Int32)), .val (.int x0), .val (.int x1), .val (.int ((p2 &&& (255 : Int32)).toUInt32.toUInt16.toUInt32.toInt32)), .val (.ref me), .unset, .unset] [(.ref ex)]))
        replace S_ex : StrAt Z T239.heap ex [x1, ((p2 &&& (255 : Int32)).toUInt32.toUInt16.toUInt32.toInt32)] := S_ex
        show Go p e below _ (T239.setTop (mkF m 93 #[.val (.int p0), .val (.int p1), .val (.int p2), .val (.int p3), .val (.int (3 : Int32)), .val (.int x0), .val (.int x1), .val (.int ((p2 &&& (255 : Int32)).toUInt32.toUInt16.toUInt32.toInt32)), .val (.ref me), .unset, .unset] [(.ref ex)]))
        refine Go.by (fun t => XS.astore X239'.here hx rfl (hb hby at_93) rfl rfl (l' := #[.val (.int p0), .val (.int p1), .val (.int p2), .val (.int p3), .val (.int (3 : Int32)), .val (.int x0), .val (.int x1), .val (.int ((p2 &&& (255 : Int32)).toUInt32.toUInt16.toUInt32.toInt32)), .val (.ref me), .val (.ref ex), .unset]) rfl) ?_
        show Go p e below _ (T239.setTop (mkF m 95 #[.val (.int p0), .val (.int p1), .val (.int p2), .val (.int p3), .val (.int (3 : Int32)), .val (.int x0), .val (.int x1), .val (.int ((p2 &&& (255 : Int32)).toUInt32.toUInt16.toUInt32.toInt32)), .val (.ref me), .val (.ref ex), .unset] []))
        refine Go.by (fun t => XS.goto X239'.here hx rfl (pc0 := 95) (pc' := 111) rfl (hb hby at_95) (by decide) (by decide)) ?_
        show Go p e below _ (T239.setTop (mkF m 111 #[.val (.int p0), .val (.int p1), .val (.int p2), .val (.int p3), .val (.int (3 : Int32)), .val (.int x0), .val (.int x1), .val (.int ((p2 &&& (255 : Int32)).toUInt32.toUInt16.toUInt32.toInt32)), .val (.ref me), .val (.ref ex), .unset] []))
        refine Go.by (fun t => XS.aload X239'.here hx rfl (hb hby at_111) rfl rfl) ?_
        show Go p e below _ (T239.setTop (mkF m 113 #[.val (.int p0), .val (.int p1), .val (.int p2), .val (.int p3), .val (.int (3 : Int32)), .val (.int x0), .val (.int x1), .val (.int ((p2 &&& (255 : Int32)).toUInt32.toUInt16.toUInt32.toInt32)), .val (.ref me), .val (.ref ex), .unset] [(.ref me)]))
        obtain ⟨_, _, ⟨T240, L240, k240, n240⟩, -, X240, hSn, hgn, ⟨Lc240, hQ240, l240, y240, z240, CRn⟩, st240⟩ := callSS X239' hx (y := (⟨"com/example/slicewright/slicewright/slicing/Occurrence", "elementName", "(Ljava/lang/String;)Ljava/lang/String;"⟩ : MethodName)) hown (mvT (s := s.setVm T239.vm) hZ (hw _ (List.mem_of_getElem? (i := 34) rfl))) (mvT (s := s.setVm T239.vm) hZ (hw _ (List.mem_of_getElem? (i := 35) rfl))) (mvT (s := s.setVm T239.vm) hZ (hw _ (List.mem_of_getElem? (i := 36) rfl))) (mvT (s := s.setVm T239.vm) hZ (hw _ (List.mem_of_getElem? (i := 37) rfl))) (by decide) (backOfSH (W := 0) (rmEN3 l Z a0 hw [] me x0 x1 ((p2 &&& (255 : Int32)).toUInt32.toUInt16.toUInt32.toInt32) G1 G3 T239.heap n0 Z0 Od O2 P5 O4 rG3 S_me hx0 hx1 hx2) hZ (hw _ (List.mem_of_getElem? (i := 37) rfl)) (hw _ (List.mem_of_getElem? (i := 36) rfl)) (by decide) (by decide) hEL CR.1) (g := (mkF m 113 #[.val (.int p0), .val (.int p1), .val (.int p2), .val (.int p3), .val (.int (3 : Int32)), .val (.int x0), .val (.int x1), .val (.int ((p2 &&& (255 : Int32)).toUInt32.toUInt16.toUInt32.toInt32)), .val (.ref me), .val (.ref ex), .unset] [(.ref me)])) rfl (by rw [hml]; rfl) (argsL := [(.ref me)]) (rest := []) (lenOf pd_1 rfl) rfl (by show 2 * 0 + _ ≤ _; exact Nat.le_of_eq rfl) (hb hby at_113) (fun _ _ => ⟨rfl, rfl, (by decide : 12 + 4 ≤ _), (by decide : 24 + 20 ≤ _)⟩)
        dsimp only [Pt.U, Pt.locs, Pt.cells, Pt.slots] at X240 l240 y240 z240 st240 hQ240 hSn hgn CRn
        subst l240 y240 z240
        skip
        obtain ⟨X240', hS240, hZ240, hown240⟩ := rebS hS hk X240 hSn hgn hZ hown
        obtain ⟨gt, rfl, Nq240, K240, S_gt⟩ := hQ240
        have N240 := Fr.app N239 Nq240
        refine Go.by (fun t => st240.trans) ?_
        replace S_me := S_me.keep K240 nin0 (fun _ _ _ _ A => nin0)
        replace S_ex := S_ex.keep K240 nin0 (fun _ _ _ _ A => nin0)
        replace CR := CR.trans CRn
        replace Od := Od.keep K240 all0
        replace Z0 := Nat.le_trans Z0 K240.1
        clear CRn hS hk hSn
        have hS := hS240
        have hk : T240.heap.size ≤ T240.heap.size := Nat.le_refl _
        replace hZ := hZ240
        replace hown := hown240
        show Go p e below _ (T240.setTop (mkF m 116 #[.val (.int p0), .val (.int p1), .val (.int p2), .val (.int p3), .val (.int (3 : Int32)), .val (.int x0), .val (.int x1), .val (.int ((p2 &&& (255 : Int32)).toUInt32.toUInt16.toUInt32.toInt32)), .val (.ref me), .val (.ref ex), .unset] [(.ref gt)]))
        show Go p e below _ (T240.setTop (mkF m 116 #[.val (.int p0), .val (.int p1), .val (.int p2), .val (.int p3), .val (.int (3 : Int32)), .val (.int x0), .val (.int x1), .val (.int ((p2 &&& (255 : Int32)).toUInt32.toUInt16.toUInt32.toInt32)), .val (.ref me), .val (.ref ex), .unset] [(.ref gt)]))
        refine Go.by (fun t => XS.astore X240'.here hx rfl (hb hby at_116) rfl rfl (l' := #[.val (.int p0), .val (.int p1), .val (.int p2), .val (.int p3), .val (.int (3 : Int32)), .val (.int x0), .val (.int x1), .val (.int ((p2 &&& (255 : Int32)).toUInt32.toUInt16.toUInt32.toInt32)), .val (.ref me), .val (.ref ex), .val (.ref gt)]) rfl) ?_
        show Go p e below _ (T240.setTop (mkF m 118 #[.val (.int p0), .val (.int p1), .val (.int p2), .val (.int p3), .val (.int (3 : Int32)), .val (.int x0), .val (.int x1), .val (.int ((p2 &&& (255 : Int32)).toUInt32.toUInt16.toUInt32.toInt32)), .val (.ref me), .val (.ref ex), .val (.ref gt)] []))
        refine Go.by (fun t => XS.aload X240'.here hx rfl (hb hby at_118) rfl rfl) ?_
        show Go p e below _ (T240.setTop (mkF m 120 #[.val (.int p0), .val (.int p1), .val (.int p2), .val (.int p3), .val (.int (3 : Int32)), .val (.int x0), .val (.int x1), .val (.int ((p2 &&& (255 : Int32)).toUInt32.toUInt16.toUInt32.toInt32)), .val (.ref me), .val (.ref ex), .val (.ref gt)] [(.ref gt)]))
        refine Go.by (fun t => XS.ifnullNo X240'.here hx rfl (hb hby at_120) rfl) ?_
        show Go p e below _ (T240.setTop (mkF m 123 #[.val (.int p0), .val (.int p1), .val (.int p2), .val (.int p3), .val (.int (3 : Int32)), .val (.int x0), .val (.int x1), .val (.int ((p2 &&& (255 : Int32)).toUInt32.toUInt16.toUInt32.toInt32)), .val (.ref me), .val (.ref ex), .val (.ref gt)] []))
        show Go p e below _ (T240.setTop (mkF m 123 #[.val (.int p0), .val (.int p1), .val (.int p2), .val (.int p3), .val (.int (3 : Int32)), .val (.int x0), .val (.int x1), .val (.int ((p2 &&& (255 : Int32)).toUInt32.toUInt16.toUInt32.toInt32)), .val (.ref me), .val (.ref ex), .val (.ref gt)] []))
        refine Go.by (fun t => XS.aload X240'.here hx rfl (hb hby at_123) rfl rfl) ?_
        show Go p e below _ (T240.setTop (mkF m 125 #[.val (.int p0), .val (.int p1), .val (.int p2), .val (.int p3), .val (.int (3 : Int32)), .val (.int x0), .val (.int x1), .val (.int ((p2 &&& (255 : Int32)).toUInt32.toUInt16.toUInt32.toInt32)), .val (.ref me), .val (.ref ex), .val (.ref gt)] [(.ref gt)]))
        refine Go.by (fun t => XS.aload X240'.here hx rfl (hb hby at_125) rfl rfl) ?_
        show Go p e below _ (T240.setTop (mkF m 127 #[.val (.int p0), .val (.int p1), .val (.int p2), .val (.int p3), .val (.int (3 : Int32)), .val (.int x0), .val (.int x1), .val (.int ((p2 &&& (255 : Int32)).toUInt32.toUInt16.toUInt32.toInt32)), .val (.ref me), .val (.ref ex), .val (.ref gt)] [(.ref ex), (.ref gt)]))
        rw [if_pos hu] at S_gt
        obtain ⟨cq241, kq241, q241a, q241b, q241c⟩ := isOf hZ rfl S_gt.exa
        obtain ⟨_, _, ⟨T241, L241, k241, n241⟩, -, X241, ⟨Lc241, hQ241, l241, y241, z241⟩, st241⟩ := X240'.virtualBack hx (y := (⟨"java/lang/String", "equals", "(Ljava/lang/Object;)Z"⟩ : MethodName)) (z := (⟨"java/lang/String", "equals", "(Ljava/lang/Object;)Z"⟩ : MethodName)) hown (mvT hZ (hw _ (List.mem_of_getElem? (i := 65) rfl))) (mvT hZ (hw _ (List.mem_of_getElem? (i := 66) rfl))) (notFace_of_selects (args := #[]) (mvT hZ (hw _ (List.mem_of_getElem? (i := 68) rfl)))) (mvT hZ (hw _ (List.mem_of_getElem? (i := 68) rfl))) (mvT hZ (hw _ (List.mem_of_getElem? (i := 67) rfl))) (by decide) (eqS (W := 0) hZ heq (hw _ (List.mem_of_getElem? (i := 5) rfl)) S_gt S_ex (O2.ext Od.2) P5 (by decide) (by decide)) q241a q241c (g := (mkF m 127 #[.val (.int p0), .val (.int p1), .val (.int p2), .val (.int p3), .val (.int (3 : Int32)), .val (.int x0), .val (.int x1), .val (.int ((p2 &&& (255 : Int32)).toUInt32.toUInt16.toUInt32.toInt32)), .val (.ref me), .val (.ref ex), .val (.ref gt)] [(.ref ex), (.ref gt)])) rfl (by rw [hml]; rfl) (Steps.refl _) (argsL := [(.ref ex)]) (rest := []) (lenOf pd_2 rfl) rfl (by show 2 * 0 + _ ≤ _; exact Nat.le_of_eq rfl) (hb hby at_127) (fun _ _ => ⟨rfl, rfl, (by decide : 16 + 0 ≤ _), (by decide : 44 + 0 ≤ _)⟩)
        dsimp only [Pt.U, Pt.locs, Pt.cells, Pt.slots] at X241 l241 y241 z241 st241 hQ241
        subst l241 y241 z241
        obtain ⟨hv241, rfl, e241⟩ := hQ241
        rw [if_pos rfl] at hv241
        subst hv241
        have Nq241 : Fr n0 ([] : List Loc) := Fr.nil n0
        have N241 := Fr.app N240 Nq241
        refine Go.by (fun t => st241.trans) ?_
        show Go p e below _ (T241.setTop (mkF m 130 #[.val (.int p0), .val (.int p1), .val (.int p2), .val (.int p3), .val (.int (3 : Int32)), .val (.int x0), .val (.int x1), .val (.int ((p2 &&& (255 : Int32)).toUInt32.toUInt16.toUInt32.toInt32)), .val (.ref me), .val (.ref ex), .val (.ref gt)] [(.int (1 : Int32))]))
        refine Go.by (fun t => XS.ifNo X241.here hx rfl (hb hby at_130) rfl ((if0 _ _).trans (feq (by decide : ¬ ((1 : Int32) = (0 : Int32)))).1)) ?_
        show Go p e below _ (T241.setTop (mkF m 133 #[.val (.int p0), .val (.int p1), .val (.int p2), .val (.int p3), .val (.int (3 : Int32)), .val (.int x0), .val (.int x1), .val (.int ((p2 &&& (255 : Int32)).toUInt32.toUInt16.toUInt32.toInt32)), .val (.ref me), .val (.ref ex), .val (.ref gt)] []))
        show Go p e below _ (T241.setTop (mkF m 133 #[.val (.int p0), .val (.int p1), .val (.int p2), .val (.int p3), .val (.int (3 : Int32)), .val (.int x0), .val (.int x1), .val (.int ((p2 &&& (255 : Int32)).toUInt32.toUInt16.toUInt32.toInt32)), .val (.ref me), .val (.ref ex), .val (.ref gt)] []))
        refine Go.by (fun t => XS.iconst X241.here hx rfl (hb hby at_133)) ?_
        show Go p e below _ (T241.setTop (mkF m 134 #[.val (.int p0), .val (.int p1), .val (.int p2), .val (.int p3), .val (.int (3 : Int32)), .val (.int x0), .val (.int x1), .val (.int ((p2 &&& (255 : Int32)).toUInt32.toUInt16.toUInt32.toInt32)), .val (.ref me), .val (.ref ex), .val (.ref gt)] [(.int (1 : Int32))]))
        refine Go.by (fun t => XS.goto X241.here hx rfl (pc0 := 134) (pc' := 138) rfl (hb hby at_134) (by decide) (by decide)) ?_
        show Go p e below _ (T241.setTop (mkF m 138 #[.val (.int p0), .val (.int p1), .val (.int p2), .val (.int p3), .val (.int (3 : Int32)), .val (.int x0), .val (.int x1), .val (.int ((p2 &&& (255 : Int32)).toUInt32.toUInt16.toUInt32.toInt32)), .val (.ref me), .val (.ref ex), .val (.ref gt)] [(.int (1 : Int32))]))
        exact Go.ret1W X241 hS (by rw [e241]; exact hk) (by rw [e241]; exact CR) hZ hEL hx Bd.returns Bd.notSynchronized (by first | rfl | decide) (Or.inl ⟨rfl, by simp, _, rfl⟩) (hb hby at_138) (by decide) (by decide) (by first | (rw [e241]; exact ⟨rfl, N241⟩) | exact ⟨rfl, N241⟩)
      · -- hc77 False
        refine Go.by (fun t => XS.icmpYes X238'.here hx rfl (pc0 := 77) (pc' := 98) rfl (hb hby at_77) rfl (feq (hc77 : ¬ (x0 = (95 : Int32)))).2 (by decide) (by decide)) ?_
        show Go p e below _ (T238.setTop (mkF m 98 #[.val (.int p0), .val (.int p1), .val (.int p2), .val (.int p3), .val (.int (3 : Int32)), .val (.int x0), .val (.int x1), .val (.int ((p2 &&& (255 : Int32)).toUInt32.toUInt16.toUInt32.toInt32)), .val (.ref me), .unset, .unset] []))
        have hu : ¬ x0 = 95 := hc77
        show Go p e below _ (T238.setTop (mkF m 98 #[.val (.int p0), .val (.int p1), .val (.int p2), .val (.int p3), .val (.int (3 : Int32)), .val (.int x0), .val (.int x1), .val (.int ((p2 &&& (255 : Int32)).toUInt32.toUInt16.toUInt32.toInt32)), .val (.ref me), .unset, .unset] []))
        refine Go.by (fun t => XS.iload X238'.here hx rfl (hb hby at_98) rfl ) ?_
        show Go p e below _ (T238.setTop (mkF m 100 #[.val (.int p0), .val (.int p1), .val (.int p2), .val (.int p3), .val (.int (3 : Int32)), .val (.int x0), .val (.int x1), .val (.int ((p2 &&& (255 : Int32)).toUInt32.toUInt16.toUInt32.toInt32)), .val (.ref me), .unset, .unset] [(.int (3 : Int32))]))
        refine Go.by (fun t => XS.iload X238'.here hx rfl (hb hby at_100) rfl ) ?_
        show Go p e below _ (T238.setTop (mkF m 102 #[.val (.int p0), .val (.int p1), .val (.int p2), .val (.int p3), .val (.int (3 : Int32)), .val (.int x0), .val (.int x1), .val (.int ((p2 &&& (255 : Int32)).toUInt32.toUInt16.toUInt32.toInt32)), .val (.ref me), .unset, .unset] [(.int x0), (.int (3 : Int32))]))
        refine Go.by (fun t => XS.iload X238'.here hx rfl (hb hby at_102) rfl ) ?_
        show Go p e below _ (T238.setTop (mkF m 104 #[.val (.int p0), .val (.int p1), .val (.int p2), .val (.int p3), .val (.int (3 : Int32)), .val (.int x0), .val (.int x1), .val (.int ((p2 &&& (255 : Int32)).toUInt32.toUInt16.toUInt32.toInt32)), .val (.ref me), .unset, .unset] [(.int x1), (.int x0), (.int (3 : Int32))]))
        refine Go.by (fun t => XS.iload X238'.here hx rfl (hb hby at_104) rfl ) ?_
        show Go p e below _ (T238.setTop (mkF m 106 #[.val (.int p0), .val (.int p1), .val (.int p2), .val (.int p3), .val (.int (3 : Int32)), .val (.int x0), .val (.int x1), .val (.int ((p2 &&& (255 : Int32)).toUInt32.toUInt16.toUInt32.toInt32)), .val (.ref me), .unset, .unset] [(.int ((p2 &&& (255 : Int32)).toUInt32.toUInt16.toUInt32.toInt32)), (.int x1), (.int x0), (.int (3 : Int32))]))
        obtain ⟨_, _, ⟨T242, L242, k242, n242⟩, -, X242, hSn, hgn, ⟨Lc242, hQ242, l242, y242, z242, CRn⟩, st242⟩ := callSS X238' hx (y := (⟨"com/example/slicewright/slicewright/slicing/OccurrenceElementNamePinLaw", "make", "(ICCC)Ljava/lang/String;"⟩ : MethodName)) hown (mvT (s := s.setVm T238.vm) hZ (hw _ (List.mem_of_getElem? (i := 0) rfl))) (mvT (s := s.setVm T238.vm) hZ (hw _ (List.mem_of_getElem? (i := 1) rfl))) (mvT (s := s.setVm T238.vm) hZ (hw _ (List.mem_of_getElem? (i := 2) rfl))) (mvT (s := s.setVm T238.vm) hZ (hw _ (List.mem_of_getElem? (i := 3) rfl))) (by decide) (backOfSH (W := 0) (rm1 l Z a0 hw [] (3 : Int32) x0 x1 ((p2 &&& (255 : Int32)).toUInt32.toUInt16.toUInt32.toInt32) G1 T238.heap n0 Z0 Od O2 P5 hx0 hx1 hx2) hZ (hw _ (List.mem_of_getElem? (i := 3) rfl)) (hw _ (List.mem_of_getElem? (i := 2) rfl)) (by decide) (by decide) hEL CR.1) (g := (mkF m 106 #[.val (.int p0), .val (.int p1), .val (.int p2), .val (.int p3), .val (.int (3 : Int32)), .val (.int x0), .val (.int x1), .val (.int ((p2 &&& (255 : Int32)).toUInt32.toUInt16.toUInt32.toInt32)), .val (.ref me), .unset, .unset] [(.int ((p2 &&& (255 : Int32)).toUInt32.toUInt16.toUInt32.toInt32)), (.int x1), (.int x0), (.int (3 : Int32))])) rfl (by rw [hml]; rfl) (argsL := [(.int (3 : Int32)), (.int x0), (.int x1), (.int ((p2 &&& (255 : Int32)).toUInt32.toUInt16.toUInt32.toInt32))]) (rest := []) (lenOf pd_0 rfl) rfl (by show 2 * 0 + _ ≤ _; exact Nat.le_of_eq rfl) (hb hby at_106) (fun _ _ => ⟨rfl, rfl, (by decide : 6 + 6 ≤ _), (by decide : 12 + 12 ≤ _)⟩)
        dsimp only [Pt.U, Pt.locs, Pt.cells, Pt.slots] at X242 l242 y242 z242 st242 hQ242 hSn hgn CRn
        subst l242 y242 z242
        skip
        obtain ⟨X242', hS242, hZ242, hown242⟩ := rebS hS hk X242 hSn hgn hZ hown
        obtain ⟨ex, rfl, Nq242, K242, S_ex⟩ := hQ242
        have N242 := Fr.app N238 Nq242
        refine Go.by (fun t => st242.trans) ?_
        replace S_me := S_me.keep K242 nin0 (fun _ _ _ _ A => nin0)
        replace CR := CR.trans CRn
        replace Od := Od.keep K242 all0
        replace Z0 := Nat.le_trans Z0 K242.1
        clear CRn hS hk hSn
        have hS := hS242
        have hk : T242.heap.size ≤ T242.heap.size := Nat.le_refl _
        replace hZ := hZ242
        replace hown := hown242
        show Go p e below _ (T242.setTop (mkF m 109 #[.val (.int p0), .val (.int p1), .val (.int p2), .val (.int p3), .val (.int (3 : Int32)), .val (.int x0), .val (.int x1), .val (.int ((p2 &&& (255 : Int32)).toUInt32.toUInt16.toUInt32.toInt32)), .val (.ref me), .unset, .unset] [(.ref ex)]))
        replace S_ex : StrAt Z T242.heap ex [x0, x1, ((p2 &&& (255 : Int32)).toUInt32.toUInt16.toUInt32.toInt32)] := S_ex
        show Go p e below _ (T242.setTop (mkF m 109 #[.val (.int p0), .val (.int p1), .val (.int p2), .val (.int p3), .val (.int (3 : Int32)), .val (.int x0), .val (.int x1), .val (.int ((p2 &&& (255 : Int32)).toUInt32.toUInt16.toUInt32.toInt32)), .val (.ref me), .unset, .unset] [(.ref ex)]))
        refine Go.by (fun t => XS.astore X242'.here hx rfl (hb hby at_109) rfl rfl (l' := #[.val (.int p0), .val (.int p1), .val (.int p2), .val (.int p3), .val (.int (3 : Int32)), .val (.int x0), .val (.int x1), .val (.int ((p2 &&& (255 : Int32)).toUInt32.toUInt16.toUInt32.toInt32)), .val (.ref me), .val (.ref ex), .unset]) rfl) ?_
        show Go p e below _ (T242.setTop (mkF m 111 #[.val (.int p0), .val (.int p1), .val (.int p2), .val (.int p3), .val (.int (3 : Int32)), .val (.int x0), .val (.int x1), .val (.int ((p2 &&& (255 : Int32)).toUInt32.toUInt16.toUInt32.toInt32)), .val (.ref me), .val (.ref ex), .unset] []))
        refine Go.by (fun t => XS.aload X242'.here hx rfl (hb hby at_111) rfl rfl) ?_
        show Go p e below _ (T242.setTop (mkF m 113 #[.val (.int p0), .val (.int p1), .val (.int p2), .val (.int p3), .val (.int (3 : Int32)), .val (.int x0), .val (.int x1), .val (.int ((p2 &&& (255 : Int32)).toUInt32.toUInt16.toUInt32.toInt32)), .val (.ref me), .val (.ref ex), .unset] [(.ref me)]))
        obtain ⟨_, _, ⟨T243, L243, k243, n243⟩, -, X243, hSn, hgn, ⟨Lc243, hQ243, l243, y243, z243, CRn⟩, st243⟩ := callSS X242' hx (y := (⟨"com/example/slicewright/slicewright/slicing/Occurrence", "elementName", "(Ljava/lang/String;)Ljava/lang/String;"⟩ : MethodName)) hown (mvT (s := s.setVm T242.vm) hZ (hw _ (List.mem_of_getElem? (i := 34) rfl))) (mvT (s := s.setVm T242.vm) hZ (hw _ (List.mem_of_getElem? (i := 35) rfl))) (mvT (s := s.setVm T242.vm) hZ (hw _ (List.mem_of_getElem? (i := 36) rfl))) (mvT (s := s.setVm T242.vm) hZ (hw _ (List.mem_of_getElem? (i := 37) rfl))) (by decide) (backOfSH (W := 0) (rmEN3 l Z a0 hw [] me x0 x1 ((p2 &&& (255 : Int32)).toUInt32.toUInt16.toUInt32.toInt32) G1 G3 T242.heap n0 Z0 Od O2 P5 O4 rG3 S_me hx0 hx1 hx2) hZ (hw _ (List.mem_of_getElem? (i := 37) rfl)) (hw _ (List.mem_of_getElem? (i := 36) rfl)) (by decide) (by decide) hEL CR.1) (g := (mkF m 113 #[.val (.int p0), .val (.int p1), .val (.int p2), .val (.int p3), .val (.int (3 : Int32)), .val (.int x0), .val (.int x1), .val (.int ((p2 &&& (255 : Int32)).toUInt32.toUInt16.toUInt32.toInt32)), .val (.ref me), .val (.ref ex), .unset] [(.ref me)])) rfl (by rw [hml]; rfl) (argsL := [(.ref me)]) (rest := []) (lenOf pd_1 rfl) rfl (by show 2 * 0 + _ ≤ _; exact Nat.le_of_eq rfl) (hb hby at_113) (fun _ _ => ⟨rfl, rfl, (by decide : 12 + 4 ≤ _), (by decide : 24 + 20 ≤ _)⟩)
        dsimp only [Pt.U, Pt.locs, Pt.cells, Pt.slots] at X243 l243 y243 z243 st243 hQ243 hSn hgn CRn
        subst l243 y243 z243
        skip
        obtain ⟨X243', hS243, hZ243, hown243⟩ := rebS hS hk X243 hSn hgn hZ hown
        obtain ⟨gt, rfl, Nq243, K243, S_gt⟩ := hQ243
        have N243 := Fr.app N242 Nq243
        refine Go.by (fun t => st243.trans) ?_
        replace S_me := S_me.keep K243 nin0 (fun _ _ _ _ A => nin0)
        replace S_ex := S_ex.keep K243 nin0 (fun _ _ _ _ A => nin0)
        replace CR := CR.trans CRn
        replace Od := Od.keep K243 all0
        replace Z0 := Nat.le_trans Z0 K243.1
        clear CRn hS hk hSn
        have hS := hS243
        have hk : T243.heap.size ≤ T243.heap.size := Nat.le_refl _
        replace hZ := hZ243
        replace hown := hown243
        show Go p e below _ (T243.setTop (mkF m 116 #[.val (.int p0), .val (.int p1), .val (.int p2), .val (.int p3), .val (.int (3 : Int32)), .val (.int x0), .val (.int x1), .val (.int ((p2 &&& (255 : Int32)).toUInt32.toUInt16.toUInt32.toInt32)), .val (.ref me), .val (.ref ex), .unset] [(.ref gt)]))
        show Go p e below _ (T243.setTop (mkF m 116 #[.val (.int p0), .val (.int p1), .val (.int p2), .val (.int p3), .val (.int (3 : Int32)), .val (.int x0), .val (.int x1), .val (.int ((p2 &&& (255 : Int32)).toUInt32.toUInt16.toUInt32.toInt32)), .val (.ref me), .val (.ref ex), .unset] [(.ref gt)]))
        refine Go.by (fun t => XS.astore X243'.here hx rfl (hb hby at_116) rfl rfl (l' := #[.val (.int p0), .val (.int p1), .val (.int p2), .val (.int p3), .val (.int (3 : Int32)), .val (.int x0), .val (.int x1), .val (.int ((p2 &&& (255 : Int32)).toUInt32.toUInt16.toUInt32.toInt32)), .val (.ref me), .val (.ref ex), .val (.ref gt)]) rfl) ?_
        show Go p e below _ (T243.setTop (mkF m 118 #[.val (.int p0), .val (.int p1), .val (.int p2), .val (.int p3), .val (.int (3 : Int32)), .val (.int x0), .val (.int x1), .val (.int ((p2 &&& (255 : Int32)).toUInt32.toUInt16.toUInt32.toInt32)), .val (.ref me), .val (.ref ex), .val (.ref gt)] []))
        refine Go.by (fun t => XS.aload X243'.here hx rfl (hb hby at_118) rfl rfl) ?_
        show Go p e below _ (T243.setTop (mkF m 120 #[.val (.int p0), .val (.int p1), .val (.int p2), .val (.int p3), .val (.int (3 : Int32)), .val (.int x0), .val (.int x1), .val (.int ((p2 &&& (255 : Int32)).toUInt32.toUInt16.toUInt32.toInt32)), .val (.ref me), .val (.ref ex), .val (.ref gt)] [(.ref gt)]))
        refine Go.by (fun t => XS.ifnullNo X243'.here hx rfl (hb hby at_120) rfl) ?_
        show Go p e below _ (T243.setTop (mkF m 123 #[.val (.int p0), .val (.int p1), .val (.int p2), .val (.int p3), .val (.int (3 : Int32)), .val (.int x0), .val (.int x1), .val (.int ((p2 &&& (255 : Int32)).toUInt32.toUInt16.toUInt32.toInt32)), .val (.ref me), .val (.ref ex), .val (.ref gt)] []))
        show Go p e below _ (T243.setTop (mkF m 123 #[.val (.int p0), .val (.int p1), .val (.int p2), .val (.int p3), .val (.int (3 : Int32)), .val (.int x0), .val (.int x1), .val (.int ((p2 &&& (255 : Int32)).toUInt32.toUInt16.toUInt32.toInt32)), .val (.ref me), .val (.ref ex), .val (.ref gt)] []))
        refine Go.by (fun t => XS.aload X243'.here hx rfl (hb hby at_123) rfl rfl) ?_
        show Go p e below _ (T243.setTop (mkF m 125 #[.val (.int p0), .val (.int p1), .val (.int p2), .val (.int p3), .val (.int (3 : Int32)), .val (.int x0), .val (.int x1), .val (.int ((p2 &&& (255 : Int32)).toUInt32.toUInt16.toUInt32.toInt32)), .val (.ref me), .val (.ref ex), .val (.ref gt)] [(.ref gt)]))
        refine Go.by (fun t => XS.aload X243'.here hx rfl (hb hby at_125) rfl rfl) ?_
        show Go p e below _ (T243.setTop (mkF m 127 #[.val (.int p0), .val (.int p1), .val (.int p2), .val (.int p3), .val (.int (3 : Int32)), .val (.int x0), .val (.int x1), .val (.int ((p2 &&& (255 : Int32)).toUInt32.toUInt16.toUInt32.toInt32)), .val (.ref me), .val (.ref ex), .val (.ref gt)] [(.ref ex), (.ref gt)]))
        rw [if_neg hu] at S_gt
        obtain ⟨cq244, kq244, q244a, q244b, q244c⟩ := isOf hZ rfl S_gt.exa
        obtain ⟨_, _, ⟨T244, L244, k244, n244⟩, -, X244, ⟨Lc244, hQ244, l244, y244, z244⟩, st244⟩ := X243'.virtualBack hx (y := (⟨"java/lang/String", "equals", "(Ljava/lang/Object;)Z"⟩ : MethodName)) (z := (⟨"java/lang/String", "equals", "(Ljava/lang/Object;)Z"⟩ : MethodName)) hown (mvT hZ (hw _ (List.mem_of_getElem? (i := 65) rfl))) (mvT hZ (hw _ (List.mem_of_getElem? (i := 66) rfl))) (notFace_of_selects (args := #[]) (mvT hZ (hw _ (List.mem_of_getElem? (i := 68) rfl)))) (mvT hZ (hw _ (List.mem_of_getElem? (i := 68) rfl))) (mvT hZ (hw _ (List.mem_of_getElem? (i := 67) rfl))) (by decide) (eqS (W := 0) hZ heq (hw _ (List.mem_of_getElem? (i := 5) rfl)) S_gt S_ex (O2.ext Od.2) P5 (by decide) (by decide)) q244a q244c (g := (mkF m 127 #[.val (.int p0), .val (.int p1), .val (.int p2), .val (.int p3), .val (.int (3 : Int32)), .val (.int x0), .val (.int x1), .val (.int ((p2 &&& (255 : Int32)).toUInt32.toUInt16.toUInt32.toInt32)), .val (.ref me), .val (.ref ex), .val (.ref gt)] [(.ref ex), (.ref gt)])) rfl (by rw [hml]; rfl) (Steps.refl _) (argsL := [(.ref ex)]) (rest := []) (lenOf pd_2 rfl) rfl (by show 2 * 0 + _ ≤ _; exact Nat.le_of_eq rfl) (hb hby at_127) (fun _ _ => ⟨rfl, rfl, (by decide : 16 + 0 ≤ _), (by decide : 44 + 0 ≤ _)⟩)
        dsimp only [Pt.U, Pt.locs, Pt.cells, Pt.slots] at X244 l244 y244 z244 st244 hQ244
        subst l244 y244 z244
        obtain ⟨hv244, rfl, e244⟩ := hQ244
        rw [if_pos rfl] at hv244
        subst hv244
        have Nq244 : Fr n0 ([] : List Loc) := Fr.nil n0
        have N244 := Fr.app N243 Nq244
        refine Go.by (fun t => st244.trans) ?_
        show Go p e below _ (T244.setTop (mkF m 130 #[.val (.int p0), .val (.int p1), .val (.int p2), .val (.int p3), .val (.int (3 : Int32)), .val (.int x0), .val (.int x1), .val (.int ((p2 &&& (255 : Int32)).toUInt32.toUInt16.toUInt32.toInt32)), .val (.ref me), .val (.ref ex), .val (.ref gt)] [(.int (1 : Int32))]))
        refine Go.by (fun t => XS.ifNo X244.here hx rfl (hb hby at_130) rfl ((if0 _ _).trans (feq (by decide : ¬ ((1 : Int32) = (0 : Int32)))).1)) ?_
        show Go p e below _ (T244.setTop (mkF m 133 #[.val (.int p0), .val (.int p1), .val (.int p2), .val (.int p3), .val (.int (3 : Int32)), .val (.int x0), .val (.int x1), .val (.int ((p2 &&& (255 : Int32)).toUInt32.toUInt16.toUInt32.toInt32)), .val (.ref me), .val (.ref ex), .val (.ref gt)] []))
        show Go p e below _ (T244.setTop (mkF m 133 #[.val (.int p0), .val (.int p1), .val (.int p2), .val (.int p3), .val (.int (3 : Int32)), .val (.int x0), .val (.int x1), .val (.int ((p2 &&& (255 : Int32)).toUInt32.toUInt16.toUInt32.toInt32)), .val (.ref me), .val (.ref ex), .val (.ref gt)] []))
        refine Go.by (fun t => XS.iconst X244.here hx rfl (hb hby at_133)) ?_
        show Go p e below _ (T244.setTop (mkF m 134 #[.val (.int p0), .val (.int p1), .val (.int p2), .val (.int p3), .val (.int (3 : Int32)), .val (.int x0), .val (.int x1), .val (.int ((p2 &&& (255 : Int32)).toUInt32.toUInt16.toUInt32.toInt32)), .val (.ref me), .val (.ref ex), .val (.ref gt)] [(.int (1 : Int32))]))
        refine Go.by (fun t => XS.goto X244.here hx rfl (pc0 := 134) (pc' := 138) rfl (hb hby at_134) (by decide) (by decide)) ?_
        show Go p e below _ (T244.setTop (mkF m 138 #[.val (.int p0), .val (.int p1), .val (.int p2), .val (.int p3), .val (.int (3 : Int32)), .val (.int x0), .val (.int x1), .val (.int ((p2 &&& (255 : Int32)).toUInt32.toUInt16.toUInt32.toInt32)), .val (.ref me), .val (.ref ex), .val (.ref gt)] [(.int (1 : Int32))]))
        exact Go.ret1W X244 hS (by rw [e244]; exact hk) (by rw [e244]; exact CR) hZ hEL hx Bd.returns Bd.notSynchronized (by first | rfl | decide) (Or.inl ⟨rfl, by simp, _, rfl⟩) (hb hby at_138) (by decide) (by decide) (by first | (rw [e244]; exact ⟨rfl, N244⟩) | exact ⟨rfl, N244⟩)
  have t26 : ∀ (x0 : Int32) (hx0 : ¬ x0 < 0 ∧ ¬ (255 : Int32) < x0), Go p e below (EndW EL Z (fun v _ L => v = some (.int 1) ∧ Fr n0 L) s 32 3200) (s₁.setTop (mkF m 26 #[.val (.int p0), .val (.int p1), .val (.int p2), .val (.int p3), .val (.int (p3 &&& (3 : Int32))), .val (.int x0), .unset, .unset, .unset, .unset, .unset] [])) := by
    intro x0 hx0
    show Go p e below _ (s₁.setTop (mkF m 26 #[.val (.int p0), .val (.int p1), .val (.int p2), .val (.int p3), .val (.int (p3 &&& (3 : Int32))), .val (.int x0), .unset, .unset, .unset, .unset, .unset] []))
    refine Go.by (fun t => XS.iloadN X0.here hx rfl (hb hby at_26) rfl ) ?_
    show Go p e below _ (s₁.setTop (mkF m 27 #[.val (.int p0), .val (.int p1), .val (.int p2), .val (.int p3), .val (.int (p3 &&& (3 : Int32))), .val (.int x0), .unset, .unset, .unset, .unset, .unset] [(.int p3)]))
    refine Go.by (fun t => XS.iconst X0.here hx rfl (hb hby at_27)) ?_
    show Go p e below _ (s₁.setTop (mkF m 28 #[.val (.int p0), .val (.int p1), .val (.int p2), .val (.int p3), .val (.int (p3 &&& (3 : Int32))), .val (.int x0), .unset, .unset, .unset, .unset, .unset] [(.int (3 : Int32)), (.int p3)]))
    refine Go.by (fun t => XS.iushr X0.here hx rfl (hb hby at_28) rfl) ?_
    show Go p e below _ (s₁.setTop (mkF m 29 #[.val (.int p0), .val (.int p1), .val (.int p2), .val (.int p3), .val (.int (p3 &&& (3 : Int32))), .val (.int x0), .unset, .unset, .unset, .unset, .unset] [(.int ((p3.toUInt32 >>> ((3 : Int32) &&& 31).toUInt32).toInt32))]))
    refine Go.by (fun t => XS.iconst X0.here hx rfl (hb hby at_29)) ?_
    show Go p e below _ (s₁.setTop (mkF m 30 #[.val (.int p0), .val (.int p1), .val (.int p2), .val (.int p3), .val (.int (p3 &&& (3 : Int32))), .val (.int x0), .unset, .unset, .unset, .unset, .unset] [(.int (1 : Int32)), (.int ((p3.toUInt32 >>> ((3 : Int32) &&& 31).toUInt32).toInt32))]))
    refine Go.by (fun t => XS.iand X0.here hx rfl (hb hby at_30) rfl) ?_
    show Go p e below _ (s₁.setTop (mkF m 31 #[.val (.int p0), .val (.int p1), .val (.int p2), .val (.int p3), .val (.int (p3 &&& (3 : Int32))), .val (.int x0), .unset, .unset, .unset, .unset, .unset] [(.int (((p3.toUInt32 >>> ((3 : Int32) &&& 31).toUInt32).toInt32) &&& (1 : Int32)))]))
    by_cases hc31 : (((p3.toUInt32 >>> ((3 : Int32) &&& 31).toUInt32).toInt32) &&& (1 : Int32)) = (0 : Int32)
    · -- hc31 True
      refine Go.by (fun t => XS.ifYes X0.here hx rfl (pc0 := 31) (pc' := 39) rfl (hb hby at_31) rfl ((if0 _ _).trans (teq (hc31 : (((p3.toUInt32 >>> ((3 : Int32) &&& 31).toUInt32).toInt32) &&& (1 : Int32)) = (0 : Int32))).1) (by decide) (by decide)) ?_
      show Go p e below _ (s₁.setTop (mkF m 39 #[.val (.int p0), .val (.int p1), .val (.int p2), .val (.int p3), .val (.int (p3 &&& (3 : Int32))), .val (.int x0), .unset, .unset, .unset, .unset, .unset] []))
      show Go p e below _ (s₁.setTop (mkF m 39 #[.val (.int p0), .val (.int p1), .val (.int p2), .val (.int p3), .val (.int (p3 &&& (3 : Int32))), .val (.int x0), .unset, .unset, .unset, .unset, .unset] []))
      refine Go.by (fun t => XS.iloadN X0.here hx rfl (hb hby at_39) rfl ) ?_
      show Go p e below _ (s₁.setTop (mkF m 40 #[.val (.int p0), .val (.int p1), .val (.int p2), .val (.int p3), .val (.int (p3 &&& (3 : Int32))), .val (.int x0), .unset, .unset, .unset, .unset, .unset] [(.int p1)]))
      refine Go.by (fun t => XS.sipush X0.here hx rfl (hb hby at_40)) ?_
      show Go p e below _ (s₁.setTop (mkF m 43 #[.val (.int p0), .val (.int p1), .val (.int p2), .val (.int p3), .val (.int (p3 &&& (3 : Int32))), .val (.int x0), .unset, .unset, .unset, .unset, .unset] [(.int (255 : Int32)), (.int p1)]))
      refine Go.by (fun t => XS.iand X0.here hx rfl (hb hby at_43) rfl) ?_
      show Go p e below _ (s₁.setTop (mkF m 44 #[.val (.int p0), .val (.int p1), .val (.int p2), .val (.int p3), .val (.int (p3 &&& (3 : Int32))), .val (.int x0), .unset, .unset, .unset, .unset, .unset] [(.int (p1 &&& (255 : Int32)))]))
      refine Go.by (fun t => XS.i2c X0.here hx rfl (hb hby at_44) rfl) ?_
      show Go p e below _ (s₁.setTop (mkF m 45 #[.val (.int p0), .val (.int p1), .val (.int p2), .val (.int p3), .val (.int (p3 &&& (3 : Int32))), .val (.int x0), .unset, .unset, .unset, .unset, .unset] [(.int ((p1 &&& (255 : Int32)).toUInt32.toUInt16.toUInt32.toInt32))]))
      refine Go.by (fun t => XS.istore X0.here hx rfl (hb hby at_45) rfl (l' := #[.val (.int p0), .val (.int p1), .val (.int p2), .val (.int p3), .val (.int (p3 &&& (3 : Int32))), .val (.int x0), .val (.int ((p1 &&& (255 : Int32)).toUInt32.toUInt16.toUInt32.toInt32)), .unset, .unset, .unset, .unset]) rfl) ?_
      show Go p e below _ (s₁.setTop (mkF m 47 #[.val (.int p0), .val (.int p1), .val (.int p2), .val (.int p3), .val (.int (p3 &&& (3 : Int32))), .val (.int x0), .val (.int ((p1 &&& (255 : Int32)).toUInt32.toUInt16.toUInt32.toInt32)), .unset, .unset, .unset, .unset] []))
      exact t47 _ _ _ (and3_cases p3) hx0 (and255_id p1)
    · -- hc31 False
      refine Go.by (fun t => XS.ifNo X0.here hx rfl (hb hby at_31) rfl ((if0 _ _).trans (feq (hc31 : ¬ ((((p3.toUInt32 >>> ((3 : Int32) &&& 31).toUInt32).toInt32) &&& (1 : Int32)) = (0 : Int32)))).1)) ?_
      show Go p e below _ (s₁.setTop (mkF m 34 #[.val (.int p0), .val (.int p1), .val (.int p2), .val (.int p3), .val (.int (p3 &&& (3 : Int32))), .val (.int x0), .unset, .unset, .unset, .unset, .unset] []))
      show Go p e below _ (s₁.setTop (mkF m 34 #[.val (.int p0), .val (.int p1), .val (.int p2), .val (.int p3), .val (.int (p3 &&& (3 : Int32))), .val (.int x0), .unset, .unset, .unset, .unset, .unset] []))
      refine Go.by (fun t => XS.bipush X0.here hx rfl (hb hby at_34)) ?_
      show Go p e below _ (s₁.setTop (mkF m 36 #[.val (.int p0), .val (.int p1), .val (.int p2), .val (.int p3), .val (.int (p3 &&& (3 : Int32))), .val (.int x0), .unset, .unset, .unset, .unset, .unset] [(.int (95 : Int32))]))
      refine Go.by (fun t => XS.goto X0.here hx rfl (pc0 := 36) (pc' := 45) rfl (hb hby at_36) (by decide) (by decide)) ?_
      show Go p e below _ (s₁.setTop (mkF m 45 #[.val (.int p0), .val (.int p1), .val (.int p2), .val (.int p3), .val (.int (p3 &&& (3 : Int32))), .val (.int x0), .unset, .unset, .unset, .unset, .unset] [(.int (95 : Int32))]))
      refine Go.by (fun t => XS.istore X0.here hx rfl (hb hby at_45) rfl (l' := #[.val (.int p0), .val (.int p1), .val (.int p2), .val (.int p3), .val (.int (p3 &&& (3 : Int32))), .val (.int x0), .val (.int (95 : Int32)), .unset, .unset, .unset, .unset]) rfl) ?_
      show Go p e below _ (s₁.setTop (mkF m 47 #[.val (.int p0), .val (.int p1), .val (.int p2), .val (.int p3), .val (.int (p3 &&& (3 : Int32))), .val (.int x0), .val (.int (95 : Int32)), .unset, .unset, .unset, .unset] []))
      exact t47 _ _ _ (and3_cases p3) hx0 (by decide)
  have ef : entryFrame m #[(.int p0), (.int p1), (.int p2), (.int p3)] maxLocals = (mkF m 0 #[.val (.int p0), .val (.int p1), .val (.int p2), .val (.int p3), .unset, .unset, .unset, .unset, .unset, .unset, .unset] []) := by first | rfl | (simp [entryFrame, mkF, argsToLocals, Value.category, maxLocals]; done)
  show Go p e below (EndW EL Z (fun v _ L => v = some (.int 1) ∧ Fr n0 L) s 32 3200) (s₁.setTop (entryFrame m #[(.int p0), (.int p1), (.int p2), (.int p3)] maxLocals))
  rw [ef]
  show Go p e below _ (s₁.setTop (mkF m 0 #[.val (.int p0), .val (.int p1), .val (.int p2), .val (.int p3), .unset, .unset, .unset, .unset, .unset, .unset, .unset] []))
  show Go p e below _ (s₁.setTop (mkF m 0 #[.val (.int p0), .val (.int p1), .val (.int p2), .val (.int p3), .unset, .unset, .unset, .unset, .unset, .unset, .unset] []))
  refine Go.by (fun t => XS.iloadN X0.here hx rfl (hb hby at_0) rfl ) ?_
  show Go p e below _ (s₁.setTop (mkF m 1 #[.val (.int p0), .val (.int p1), .val (.int p2), .val (.int p3), .unset, .unset, .unset, .unset, .unset, .unset, .unset] [(.int p3)]))
  refine Go.by (fun t => XS.iconst X0.here hx rfl (hb hby at_1)) ?_
  show Go p e below _ (s₁.setTop (mkF m 2 #[.val (.int p0), .val (.int p1), .val (.int p2), .val (.int p3), .unset, .unset, .unset, .unset, .unset, .unset, .unset] [(.int (3 : Int32)), (.int p3)]))
  refine Go.by (fun t => XS.iand X0.here hx rfl (hb hby at_2) rfl) ?_
  show Go p e below _ (s₁.setTop (mkF m 3 #[.val (.int p0), .val (.int p1), .val (.int p2), .val (.int p3), .unset, .unset, .unset, .unset, .unset, .unset, .unset] [(.int (p3 &&& (3 : Int32)))]))
  refine Go.by (fun t => XS.istore X0.here hx rfl (hb hby at_3) rfl (l' := #[.val (.int p0), .val (.int p1), .val (.int p2), .val (.int p3), .val (.int (p3 &&& (3 : Int32))), .unset, .unset, .unset, .unset, .unset, .unset]) rfl) ?_
  show Go p e below _ (s₁.setTop (mkF m 5 #[.val (.int p0), .val (.int p1), .val (.int p2), .val (.int p3), .val (.int (p3 &&& (3 : Int32))), .unset, .unset, .unset, .unset, .unset, .unset] []))
  refine Go.by (fun t => XS.iloadN X0.here hx rfl (hb hby at_5) rfl ) ?_
  show Go p e below _ (s₁.setTop (mkF m 6 #[.val (.int p0), .val (.int p1), .val (.int p2), .val (.int p3), .val (.int (p3 &&& (3 : Int32))), .unset, .unset, .unset, .unset, .unset, .unset] [(.int p3)]))
  refine Go.by (fun t => XS.iconst X0.here hx rfl (hb hby at_6)) ?_
  show Go p e below _ (s₁.setTop (mkF m 7 #[.val (.int p0), .val (.int p1), .val (.int p2), .val (.int p3), .val (.int (p3 &&& (3 : Int32))), .unset, .unset, .unset, .unset, .unset, .unset] [(.int (2 : Int32)), (.int p3)]))
  refine Go.by (fun t => XS.iushr X0.here hx rfl (hb hby at_7) rfl) ?_
  show Go p e below _ (s₁.setTop (mkF m 8 #[.val (.int p0), .val (.int p1), .val (.int p2), .val (.int p3), .val (.int (p3 &&& (3 : Int32))), .unset, .unset, .unset, .unset, .unset, .unset] [(.int ((p3.toUInt32 >>> ((2 : Int32) &&& 31).toUInt32).toInt32))]))
  refine Go.by (fun t => XS.iconst X0.here hx rfl (hb hby at_8)) ?_
  show Go p e below _ (s₁.setTop (mkF m 9 #[.val (.int p0), .val (.int p1), .val (.int p2), .val (.int p3), .val (.int (p3 &&& (3 : Int32))), .unset, .unset, .unset, .unset, .unset, .unset] [(.int (1 : Int32)), (.int ((p3.toUInt32 >>> ((2 : Int32) &&& 31).toUInt32).toInt32))]))
  refine Go.by (fun t => XS.iand X0.here hx rfl (hb hby at_9) rfl) ?_
  show Go p e below _ (s₁.setTop (mkF m 10 #[.val (.int p0), .val (.int p1), .val (.int p2), .val (.int p3), .val (.int (p3 &&& (3 : Int32))), .unset, .unset, .unset, .unset, .unset, .unset] [(.int (((p3.toUInt32 >>> ((2 : Int32) &&& 31).toUInt32).toInt32) &&& (1 : Int32)))]))
  by_cases hc10 : (((p3.toUInt32 >>> ((2 : Int32) &&& 31).toUInt32).toInt32) &&& (1 : Int32)) = (0 : Int32)
  · -- hc10 True
    refine Go.by (fun t => XS.ifYes X0.here hx rfl (pc0 := 10) (pc' := 18) rfl (hb hby at_10) rfl ((if0 _ _).trans (teq (hc10 : (((p3.toUInt32 >>> ((2 : Int32) &&& 31).toUInt32).toInt32) &&& (1 : Int32)) = (0 : Int32))).1) (by decide) (by decide)) ?_
    show Go p e below _ (s₁.setTop (mkF m 18 #[.val (.int p0), .val (.int p1), .val (.int p2), .val (.int p3), .val (.int (p3 &&& (3 : Int32))), .unset, .unset, .unset, .unset, .unset, .unset] []))
    show Go p e below _ (s₁.setTop (mkF m 18 #[.val (.int p0), .val (.int p1), .val (.int p2), .val (.int p3), .val (.int (p3 &&& (3 : Int32))), .unset, .unset, .unset, .unset, .unset, .unset] []))
    refine Go.by (fun t => XS.iloadN X0.here hx rfl (hb hby at_18) rfl ) ?_
    show Go p e below _ (s₁.setTop (mkF m 19 #[.val (.int p0), .val (.int p1), .val (.int p2), .val (.int p3), .val (.int (p3 &&& (3 : Int32))), .unset, .unset, .unset, .unset, .unset, .unset] [(.int p0)]))
    refine Go.by (fun t => XS.sipush X0.here hx rfl (hb hby at_19)) ?_
    show Go p e below _ (s₁.setTop (mkF m 22 #[.val (.int p0), .val (.int p1), .val (.int p2), .val (.int p3), .val (.int (p3 &&& (3 : Int32))), .unset, .unset, .unset, .unset, .unset, .unset] [(.int (255 : Int32)), (.int p0)]))
    refine Go.by (fun t => XS.iand X0.here hx rfl (hb hby at_22) rfl) ?_
    show Go p e below _ (s₁.setTop (mkF m 23 #[.val (.int p0), .val (.int p1), .val (.int p2), .val (.int p3), .val (.int (p3 &&& (3 : Int32))), .unset, .unset, .unset, .unset, .unset, .unset] [(.int (p0 &&& (255 : Int32)))]))
    refine Go.by (fun t => XS.i2c X0.here hx rfl (hb hby at_23) rfl) ?_
    show Go p e below _ (s₁.setTop (mkF m 24 #[.val (.int p0), .val (.int p1), .val (.int p2), .val (.int p3), .val (.int (p3 &&& (3 : Int32))), .unset, .unset, .unset, .unset, .unset, .unset] [(.int ((p0 &&& (255 : Int32)).toUInt32.toUInt16.toUInt32.toInt32))]))
    refine Go.by (fun t => XS.istore X0.here hx rfl (hb hby at_24) rfl (l' := #[.val (.int p0), .val (.int p1), .val (.int p2), .val (.int p3), .val (.int (p3 &&& (3 : Int32))), .val (.int ((p0 &&& (255 : Int32)).toUInt32.toUInt16.toUInt32.toInt32)), .unset, .unset, .unset, .unset, .unset]) rfl) ?_
    show Go p e below _ (s₁.setTop (mkF m 26 #[.val (.int p0), .val (.int p1), .val (.int p2), .val (.int p3), .val (.int (p3 &&& (3 : Int32))), .val (.int ((p0 &&& (255 : Int32)).toUInt32.toUInt16.toUInt32.toInt32)), .unset, .unset, .unset, .unset, .unset] []))
    exact t26 _ (and255_id p0)
  · -- hc10 False
    refine Go.by (fun t => XS.ifNo X0.here hx rfl (hb hby at_10) rfl ((if0 _ _).trans (feq (hc10 : ¬ ((((p3.toUInt32 >>> ((2 : Int32) &&& 31).toUInt32).toInt32) &&& (1 : Int32)) = (0 : Int32)))).1)) ?_
    show Go p e below _ (s₁.setTop (mkF m 13 #[.val (.int p0), .val (.int p1), .val (.int p2), .val (.int p3), .val (.int (p3 &&& (3 : Int32))), .unset, .unset, .unset, .unset, .unset, .unset] []))
    show Go p e below _ (s₁.setTop (mkF m 13 #[.val (.int p0), .val (.int p1), .val (.int p2), .val (.int p3), .val (.int (p3 &&& (3 : Int32))), .unset, .unset, .unset, .unset, .unset, .unset] []))
    refine Go.by (fun t => XS.bipush X0.here hx rfl (hb hby at_13)) ?_
    show Go p e below _ (s₁.setTop (mkF m 15 #[.val (.int p0), .val (.int p1), .val (.int p2), .val (.int p3), .val (.int (p3 &&& (3 : Int32))), .unset, .unset, .unset, .unset, .unset, .unset] [(.int (95 : Int32))]))
    refine Go.by (fun t => XS.goto X0.here hx rfl (pc0 := 15) (pc' := 24) rfl (hb hby at_15) (by decide) (by decide)) ?_
    show Go p e below _ (s₁.setTop (mkF m 24 #[.val (.int p0), .val (.int p1), .val (.int p2), .val (.int p3), .val (.int (p3 &&& (3 : Int32))), .unset, .unset, .unset, .unset, .unset, .unset] [(.int (95 : Int32))]))
    refine Go.by (fun t => XS.istore X0.here hx rfl (hb hby at_24) rfl (l' := #[.val (.int p0), .val (.int p1), .val (.int p2), .val (.int p3), .val (.int (p3 &&& (3 : Int32))), .val (.int (95 : Int32)), .unset, .unset, .unset, .unset, .unset]) rfl) ?_
    show Go p e below _ (s₁.setTop (mkF m 26 #[.val (.int p0), .val (.int p1), .val (.int p2), .val (.int p3), .val (.int (p3 &&& (3 : Int32))), .val (.int (95 : Int32)), .unset, .unset, .unset, .unset, .unset] []))
    exact t26 _ (by decide)
set_option maxRecDepth 65536 in
set_option maxHeartbeats 40000000 in
theorem comes_1 {Post : Tables → Env → Array Value → State → Outcome → State → Prop} (hpost : ∀ tb e args s v u, (limb_1_1.after args s (.returned v) u = true ∧ limb_1_2.after args s (.returned v) u = true ∧ True) → ReturnedEndW s (.returned v) u (Jvm.fieldLocs frame_1_writes args s ++ Jvm.arrayLocs frame_1_arrays args s ++ Jvm.staticLocs frame_1_statics s) 32 3200 → Post tb e args s (.returned v) u) :
    ArmFor flags0 classFile x code maxLocals ret World_1 tables_1 room_1 Calls_1 rest_1 Pre_1 Post := by
  intro l hfl _ _ p e ha hc hk s m args below hf hA hF happ hP
  obtain ⟨hcalls, hrest, hpre⟩ := hP
  obtain ⟨-, -, -, hnamed, -, -, -, hat⟩ := (Spec.applies_iff hf).mp happ
  obtain ⟨hg, hn⟩ := and_e (Cond.before_iff.mp (show (Jvm.Cond.and given_1 narrow_1).before args s = true from hpre))
  obtain ⟨hcount, hgs⟩ := and_e hg
  obtain ⟨w0, w1, w2, w3, rfl⟩ : ∃ w0 w1 w2 w3 : Value, args = #[w0, w1, w2, w3] := by
    have hs : args.size = 4 := by simpa [Cond.value, given_1] using hcount
    obtain ⟨L⟩ := args
    match L, hs with
    | [w0, w1, w2, w3], _ => exact ⟨w0, w1, w2, w3, rfl⟩
  have hw := fun d (hd : d ∈ tables_1) => atoms_spec (ws := Jvm.Cond.code x code maxLocals ret :: tables_1) hat d (List.mem_cons_of_mem _ hd)
  have hfit : Fit s := fun {y c} hc i hi => by
    obtain ⟨ha, rfl⟩ := Array.getElem?_eq_some_iff.mp hc
    have q := List.all_eq_true.mp ((Array.all_eq_true_iff_forall_mem.mp hF) _ (Array.getElem_mem ha)) i (List.mem_range.mpr hi)
    simpa [Array.getElem?_eq_getElem hi] using q
  obtain ⟨ga0, gb0⟩ := and_e hgs
  obtain ⟨i0, ei0⟩ := is_v ga0
  obtain rfl : w0 = (.int i0) := Option.some.inj ei0
  obtain ⟨ga1, gb1⟩ := and_e gb0
  obtain ⟨i1, ei1⟩ := is_v ga1
  obtain rfl : w1 = (.int i1) := Option.some.inj ei1
  obtain ⟨ga2, gb2⟩ := and_e gb1
  obtain ⟨i2, ei2⟩ := is_v ga2
  obtain rfl : w2 = (.int i2) := Option.some.inj ei2
  obtain ⟨i3, ei3⟩ := is_v gb2
  obtain rfl : w3 = (.int i3) := Option.some.inj ei3
  obtain ⟨hsets, hown0⟩ := atoms_of _ (rest_1_c_eq ▸ (show rest_1_c.before _ s = true from hrest))
  obtain ⟨G_COMPACT_STRINGS, eG_COMPACT_STRINGS⟩ := is_v (Cond.before_iff.mp (hsets _ (List.mem_of_getElem? (i := 1) rfl)))
  have S_COMPACT_STRINGS : Sta s s.heap "java/lang/String" "COMPACT_STRINGS" "Z" (.int G_COMPACT_STRINGS) := Sta.start eG_COMPACT_STRINGS (Or.inl (hsets _ (List.mem_of_getElem? (i := 0) rfl)))
  have n_CS := not_v (Cond.before_iff.mp (hsets _ (List.mem_of_getElem? (i := 2) rfl)))
  have c_CS : ¬ (G_COMPACT_STRINGS = (0 : Int32)) := gotF (Cond.eq_ints eG_COMPACT_STRINGS (Term.int_eval (0))) n_CS
  obtain ⟨G_SIOOBE_FORMATTER, eG_SIOOBE_FORMATTER, rG_SIOOBE_FORMATTER⟩ := isR_v (Cond.before_iff.mp (hsets _ (List.mem_of_getElem? (i := 8) rfl)))
  have S_SIOOBE_FORMATTER : Sta s s.heap "jdk/internal/util/Preconditions" "SIOOBE_FORMATTER" "Ljava/util/function/BiFunction;" G_SIOOBE_FORMATTER := Sta.start eG_SIOOBE_FORMATTER (Or.inl (hsets _ (List.mem_of_getElem? (i := 7) rfl)))
  have hcw : Jvm.Lit.compactW.before _ s = true := hsets _ (List.mem_of_getElem? (i := 2) rfl)
  have hCH : CHv s EL s.vm s.heap := CHv.start (ew_of hw) (fun p hp => hcalls.1 p hp) hcw (hw _ (List.mem_of_getElem? (i := 23) rfl)) (hw _ (List.mem_of_getElem? (i := 5) rfl))
  obtain ⟨n, o, h1, h2, h3, _, L, rfl, ⟨rfl, N⟩, -, hq⟩ := rm0 l s _ hw tables_1 i0 i1 i2 i3 G_COMPACT_STRINGS G_SIOOBE_FORMATTER s.heap s.heap.size (Nat.le_refl _) (Old.start s) S_COMPACT_STRINGS c_CS S_SIOOBE_FORMATTER rG_SIOOBE_FORMATTER p e ha hc hk s m _ below hf ((Spec.applies_iff_loose hf).mp happ).1 ⟨rfl, State.Warmed39.refl s, rfl, hCH⟩ trivial
  refine ⟨n, _, h1, h2, h3, hpost _ _ _ _ _ _ ⟨Cond.after_iff.mpr rfl, Cond.after_iff.mpr (eq_i res_at (Term.int_eval (1)) rfl), trivial⟩ ⟨hq.1, hq.2.1, hq.2.2.1, (hq.2.2.2.sift fun y hy => Or.inr (N y hy)).mono (by decide) (by decide)⟩⟩
theorem main_1_1 : Claimed_1_1 := comes_1 fun _ _ _ _ _ _ h hF => ⟨h.1, hF⟩
theorem main_1_2 : Claimed_1_2 := comes_1 fun _ _ _ _ _ _ h hF => ⟨h.2.1, hF⟩
end Jvm.Pilot.@@N@@
namespace Jvm.Pilot.@@N@@
open Jvm Jvm.ClassFile Sem Op Lib Jvm.Free Jvm.Stand Jvm.Pilot.@@N@@.Jvm.D
/-! MADE BY PROGRAM (witnessworld.py) out of the Statement's table words and the real class files: 24 classes; the members and pool entries that the words name. The judged class is class 1, her method 1. -/
namespace start1
open Jvm.ClassFile
def u (s : String) : CpInfo := .utf8 (stringToUtf16 s)
/-- a pool by its gaps: so many unusable entries, then the entry; so many at the end -/
def gap : Nat → List CpInfo → List CpInfo
  | 0, r => r
  | n + 1, r => .unusable :: gap n r
def poolList (es : List (Nat × CpInfo)) (last : Nat) : List CpInfo := es.foldr (fun e r => gap e.1 (e.2 :: r)) (gap last [])
def pool (es : List (Nat × CpInfo)) (last : Nat) : Array CpInfo := ⟨poolList es last⟩
def fileOf (pool : Array CpInfo) (this : Nat) (attrs : Array Attribute := #[]) (ms : Array MethodInfo := #[]) (fl : Nat := 33) (sup : Nat := 0) (ifs : Array Nat := #[]) (fds : Array FieldInfo := #[]) : ClassFile where
  minorVersion := 0
  majorVersion := 65
  constantPool := pool
  accessFlags := fl
  thisClass := this
  superClass := sup
  interfaces := ifs
  fields := fds
  methods := ms
  attributes := attrs
def plain (name : String) (sup : Option ClassId) : Class where
  name := name
  kind := .ordinary
  loader := none
  accessFlags := 33
  super := sup
  interfaces := #[]
  cf := none
  fields := #[]
  methods := #[]
  instanceTypes := #[]
  staticTypes := #[]
  resolved := #[]
  callSites := []
  init := .initialized
  statics := none
  mirror := none

def pool0 : Array CpInfo := pool [(5, u "<init>"), (0, u "()V"), (1, .class_ 10), (1, u "java/lang/Object")] 113

def k0c0 : Code := { maxStack := 0, maxLocals := 1, code := object_method_1_code, exceptionTable := #[], attributes := #[] }
def k0m0 : Method := { name := "<init>", desc := "()V", sig := { parameters := [], returnType := none }, accessFlags := 1, code := some k0c0 }
/-- java/lang/Object -/
def k0 : Class := { plain "java/lang/Object" none with
  accessFlags := 33
  interfaces := #[]
  cf := some (fileOf pool0 8 #[] #[{ accessFlags := 1, nameIndex := 5, descriptorIndex := 6, attributes := #[] }] 33 0 #[] #[])
  fields := #[]
  methods := #[k0m0]
  instanceTypes := #[]
  staticTypes := #[]
  resolved := Array.replicate 124 none
  statics := none }

def pool1 : Array CpInfo := pool [(2, .class_ 4), (1, u "java/lang/Object"), (0, u "<init>"), (0, u "()V"), (0, .methodref 8 9), (0, .class_ 10), (0, .nameAndType 11 12), (0, u "com/example/slicewright/slicewright/slicing/OccurrenceElementNamePinLaw"), (0, u "make"), (0, u "(ICCC)Ljava/lang/String;"), (0, .methodref 14 15), (0, .class_ 16), (0, .nameAndType 17 18), (0, u "com/example/slicewright/slicewright/slicing/Occurrence"), (0, u "elementName"), (0, u "(Ljava/lang/String;)Ljava/lang/String;"), (0, .methodref 20 21), (0, .class_ 22), (0, .nameAndType 23 24), (0, u "java/lang/String"), (0, u "equals"), (0, u "(Ljava/lang/Object;)Z"), (0, .methodref 20 26), (0, .nameAndType 5 27), (0, u "([C)V"), (2, u "law"), (0, u "(IIII)Z")] 3

def k1m0 : Method := { name := "<init>", desc := "()V", sig := { parameters := [], returnType := none }, accessFlags := 2, code := none }
def k1c1 : Code := { maxStack := 4, maxLocals := 11, code := code, exceptionTable := #[], attributes := #[] }
def k1m1 : Method := { name := "law", desc := "(IIII)Z", sig := { parameters := [.int, .int, .int, .int], returnType := some .boolean }, accessFlags := 9, code := some k1c1 }
def k1c2 : Code := { maxStack := 6, maxLocals := 4, code := method_3_code, exceptionTable := #[], attributes := #[] }
def k1m2 : Method := { name := "make", desc := "(ICCC)Ljava/lang/String;", sig := { parameters := [.int, .char, .char, .char], returnType := some (.object "java/lang/String") }, accessFlags := 10, code := some k1c2 }
/-- com/example/slicewright/slicewright/slicing/OccurrenceElementNamePinLaw -/
def k1 : Class := { plain "com/example/slicewright/slicewright/slicing/OccurrenceElementNamePinLaw" (some 0) with
  accessFlags := 49
  interfaces := #[]
  cf := some (fileOf pool1 8 #[] #[{ accessFlags := 2, nameIndex := 5, descriptorIndex := 6, attributes := #[] }, { accessFlags := 9, nameIndex := 30, descriptorIndex := 31, attributes := #[] }, { accessFlags := 10, nameIndex := 11, descriptorIndex := 12, attributes := #[] }] 49 2 #[] #[])
  fields := #[]
  methods := #[k1m0, k1m1, k1m2]
  instanceTypes := #[]
  staticTypes := #[]
  resolved := Array.replicate 35 none
  statics := none }

def pool2 : Array CpInfo := pool [(1, .class_ 2), (0, u "java/io/Serializable"), (0, .class_ 4), (0, u "java/lang/Object")] 2

/-- java/io/Serializable -/
def k2 : Class := { plain "java/io/Serializable" (some 0) with
  accessFlags := 1537
  interfaces := #[]
  cf := some (fileOf pool2 1 #[] #[] 1537 3 #[] #[])
  fields := #[]
  methods := #[]
  instanceTypes := #[]
  staticTypes := #[]
  resolved := Array.replicate 7 none
  statics := none }

def pool3 : Array CpInfo := pool [(1, .class_ 2), (0, u "java/lang/Comparable"), (0, .class_ 4), (0, u "java/lang/Object")] 7

/-- java/lang/Comparable -/
def k3 : Class := { plain "java/lang/Comparable" (some 0) with
  accessFlags := 1537
  interfaces := #[]
  cf := some (fileOf pool3 1 #[] #[] 1537 3 #[] #[])
  fields := #[]
  methods := #[]
  instanceTypes := #[]
  staticTypes := #[]
  resolved := Array.replicate 12 none
  statics := none }

def pool4 : Array CpInfo := pool [(2, .class_ 4), (1, u "java/lang/CharSequence"), (42, .class_ 48), (0, u "java/lang/CharSequence$1CodePointIterator"), (10, .class_ 60), (0, u "java/lang/CharSequence$1CharIterator"), (5, .class_ 67), (0, u "java/lang/Object")] 63

/-- java/lang/CharSequence -/
def k4 : Class := { plain "java/lang/CharSequence" (some 0) with
  accessFlags := 1537
  interfaces := #[]
  cf := some (fileOf pool4 2 #[.nestMembers #[47, 59]] #[] 1537 66 #[] #[])
  fields := #[]
  methods := #[]
  instanceTypes := #[]
  staticTypes := #[]
  resolved := Array.replicate 131 none
  statics := none }

def pool5 : Array CpInfo := pool [(1, .class_ 2), (0, u "java/lang/constant/Constable"), (0, .class_ 4), (0, u "java/lang/Object")] 6

/-- java/lang/constant/Constable -/
def k5 : Class := { plain "java/lang/constant/Constable" (some 0) with
  accessFlags := 1537
  interfaces := #[]
  cf := some (fileOf pool5 1 #[] #[] 1537 3 #[] #[])
  fields := #[]
  methods := #[]
  instanceTypes := #[]
  staticTypes := #[]
  resolved := Array.replicate 11 none
  statics := none }

def pool6 : Array CpInfo := pool [(1, .class_ 2), (0, u "java/lang/constant/ConstantDesc"), (0, .class_ 4), (0, u "java/lang/Object")] 32

/-- java/lang/constant/ConstantDesc -/
def k6 : Class := { plain "java/lang/constant/ConstantDesc" (some 0) with
  accessFlags := 1537
  interfaces := #[]
  cf := some (fileOf pool6 1 #[] #[] 1537 3 #[] #[])
  fields := #[]
  methods := #[]
  instanceTypes := #[]
  staticTypes := #[]
  resolved := Array.replicate 37 none
  statics := none }

def pool7 : Array CpInfo := pool [(1, .methodref 2 3), (0, .class_ 4), (0, .nameAndType 5 6), (0, u "java/lang/Object"), (0, u "<init>"), (0, u "()V"), (0, .string 8), (0, u ""), (0, .fieldref 10 11), (0, .class_ 12), (0, .nameAndType 13 14), (0, u "java/lang/String"), (0, u "value"), (0, u "[B"), (0, .fieldref 10 16), (0, .nameAndType 17 18), (0, u "coder"), (0, u "B"), (2, u "hash"), (0, u "I"), (2, u "hashIsZero"), (0, u "Z"), (0, .methodref 10 28), (0, .nameAndType 5 29), (0, u "([CIILjava/lang/Void;)V"), (8, .fieldref 10 39), (0, .nameAndType 40 26), (0, u "COMPACT_STRINGS"), (1, .class_ 44), (1, u "java/lang/StringUTF16"), (0, u "compress"), (1, .methodref 42 48), (0, .nameAndType 49 50), (0, u "coderFromArrayLen"), (0, u "([BI)B"), (56, .class_ 109), (1, u "java/lang/StringLatin1"), (32, u "()Z"), (34, .methodref 42 178), (0, .nameAndType 45 179), (0, u "([CII)[B"), (31, u "([BB)V"), (122, u "()I"), (0, .methodref 10 336), (0, .nameAndType 17 337), (0, u "()B"), (38, u "([BI[BII)I"), (115, .methodref 10 493), (0, .nameAndType 494 142), (0, u "isLatin1"), (10, .methodref 10 506), (0, .nameAndType 507 334), (0, u "length"), (5, u "checkFromToIndex"), (7, .methodref 10 522), (0, .nameAndType 523 524), (0, u "checkBoundsBeginEnd"), (0, u "(III)V"), (16, .methodref 107 542), (0, .nameAndType 543 544), (0, u "equals"), (0, u "([B[B)Z"), (14, .class_ 561), (1, u "jdk/internal/util/ArraysSupport"), (0, u "mismatch"), (10, u "(Ljava/lang/Object;)Z"), (1, .class_ 576), (0, u "java/lang/CharSequence"), (22, u "CASE_INSENSITIVE_ORDER"), (0, u "Ljava/util/Comparator;"), (6, .methodref 559 608), (0, .nameAndType 562 376), (15, .methodref 10 625), (0, .nameAndType 626 627), (0, u "startsWith"), (0, u "(Ljava/lang/String;I)Z"), (53, .methodref 10 682), (0, .nameAndType 683 684), (0, u "substring"), (0, u "(II)Ljava/lang/String;"), (0, .methodref 107 686), (0, .nameAndType 687 688), (0, u "newString"), (0, u "([BII)Ljava/lang/String;"), (203, u "(I)Ljava/lang/String;"), (117, u "([C)V"), (42, .fieldref 1054 1055), (0, .class_ 1056), (0, .nameAndType 1057 1058), (0, u "jdk/internal/util/Preconditions"), (0, u "SIOOBE_FORMATTER"), (0, u "Ljava/util/function/BiFunction;"), (3, .methodref 1054 1063), (0, .nameAndType 513 1064), (0, u "(IIILjava/util/function/BiFunction;)I"), (36, u "serialPersistentFields"), (0, u "[Ljava/io/ObjectStreamField;"), (0, .class_ 1104), (0, u "java/lang/String$CaseInsensitiveComparator"), (1, .class_ 1107), (0, u "java/io/Serializable"), (0, .class_ 1109), (0, u "java/lang/Comparable"), (0, .class_ 1111), (0, u "java/lang/constant/Constable"), (0, .class_ 1113), (0, u "java/lang/constant/ConstantDesc"), (2, u "serialVersionUID"), (0, u "J"), (3, u "REPL"), (0, u "C"), (2, u "LATIN1"), (1, u "UTF16"), (129, u "(Ljava/lang/String;)Z")] 193

def k7m0 : Method := { name := "<init>", desc := "()V", sig := { parameters := [], returnType := none }, accessFlags := 1, code := none }
def k7c1 : Code := { maxStack := 5, maxLocals := 2, code := jdk_42_method_3_code, exceptionTable := #[], attributes := #[] }
def k7m1 : Method := { name := "<init>", desc := "([C)V", sig := { parameters := [(.array .char)], returnType := none }, accessFlags := 1, code := some k7c1 }
def k7c2 : Code := { maxStack := 2, maxLocals := 1, code := jdk_42_method_54_code, exceptionTable := #[], attributes := #[] }
def k7m2 : Method := { name := "length", desc := "()I", sig := { parameters := [], returnType := some .int }, accessFlags := 1, code := some k7c2 }
def k7c3 : Code := { maxStack := 2, maxLocals := 3, code := jdk_42_method_66_code, exceptionTable := #[], attributes := #[] }
def k7m3 : Method := { name := "equals", desc := "(Ljava/lang/Object;)Z", sig := { parameters := [(.object "java/lang/Object")], returnType := some .boolean }, accessFlags := 1, code := some k7c3 }
def k7c4 : Code := { maxStack := 5, maxLocals := 8, code := jdk_42_method_75_code, exceptionTable := #[], attributes := #[] }
def k7m4 : Method := { name := "startsWith", desc := "(Ljava/lang/String;I)Z", sig := { parameters := [(.object "java/lang/String"), .int], returnType := some .boolean }, accessFlags := 1, code := some k7c4 }
def k7c5 : Code := { maxStack := 3, maxLocals := 2, code := jdk_42_method_76_code, exceptionTable := #[], attributes := #[] }
def k7m5 : Method := { name := "startsWith", desc := "(Ljava/lang/String;)Z", sig := { parameters := [(.object "java/lang/String")], returnType := some .boolean }, accessFlags := 1, code := some k7c5 }
def k7c6 : Code := { maxStack := 3, maxLocals := 2, code := jdk_42_method_91_code, exceptionTable := #[], attributes := #[] }
def k7m6 : Method := { name := "substring", desc := "(I)Ljava/lang/String;", sig := { parameters := [.int], returnType := some (.object "java/lang/String") }, accessFlags := 1, code := some k7c6 }
def k7c7 : Code := { maxStack := 3, maxLocals := 5, code := jdk_42_method_92_code, exceptionTable := #[], attributes := #[] }
def k7m7 : Method := { name := "substring", desc := "(II)Ljava/lang/String;", sig := { parameters := [.int, .int], returnType := some (.object "java/lang/String") }, accessFlags := 1, code := some k7c7 }
def k7c8 : Code := { maxStack := 4, maxLocals := 6, code := jdk_42_method_149_code, exceptionTable := #[], attributes := #[] }
def k7m8 : Method := { name := "<init>", desc := "([CIILjava/lang/Void;)V", sig := { parameters := [(.array .char), .int, .int, (.object "java/lang/Void")], returnType := none }, accessFlags := 2, code := some k7c8 }
def k7c9 : Code := { maxStack := 2, maxLocals := 3, code := jdk_42_method_151_code, exceptionTable := #[], attributes := #[] }
def k7m9 : Method := { name := "<init>", desc := "([BB)V", sig := { parameters := [(.array .byte), .byte], returnType := none }, accessFlags := 0, code := some k7c9 }
def k7c10 : Code := { maxStack := 1, maxLocals := 1, code := jdk_42_method_152_code, exceptionTable := #[], attributes := #[] }
def k7m10 : Method := { name := "coder", desc := "()B", sig := { parameters := [], returnType := some .byte }, accessFlags := 0, code := some k7c10 }
def k7c11 : Code := { maxStack := 1, maxLocals := 1, code := jdk_42_method_154_code, exceptionTable := #[], attributes := #[] }
def k7m11 : Method := { name := "isLatin1", desc := "()Z", sig := { parameters := [], returnType := some .boolean }, accessFlags := 0, code := some k7c11 }
def k7c12 : Code := { maxStack := 4, maxLocals := 3, code := jdk_42_method_158_code, exceptionTable := #[], attributes := #[] }
def k7m12 : Method := { name := "checkBoundsBeginEnd", desc := "(III)V", sig := { parameters := [.int, .int, .int], returnType := none }, accessFlags := 8, code := some k7c12 }
/-- java/lang/String -/
def k7 : Class := { plain "java/lang/String" (some 0) with
  accessFlags := 49
  interfaces := #[2, 3, 4, 5, 6]
  cf := some (fileOf pool7 10 #[.nestMembers #[1103]] #[{ accessFlags := 1, nameIndex := 5, descriptorIndex := 6, attributes := #[] }, { accessFlags := 1, nameIndex := 5, descriptorIndex := 1010, attributes := #[] }, { accessFlags := 1, nameIndex := 507, descriptorIndex := 334, attributes := #[] }, { accessFlags := 1, nameIndex := 543, descriptorIndex := 573, attributes := #[] }, { accessFlags := 1, nameIndex := 626, descriptorIndex := 627, attributes := #[] }, { accessFlags := 1, nameIndex := 626, descriptorIndex := 1257, attributes := #[] }, { accessFlags := 1, nameIndex := 683, descriptorIndex := 892, attributes := #[] }, { accessFlags := 1, nameIndex := 683, descriptorIndex := 684, attributes := #[] }, { accessFlags := 2, nameIndex := 5, descriptorIndex := 29, attributes := #[] }, { accessFlags := 0, nameIndex := 5, descriptorIndex := 211, attributes := #[] }, { accessFlags := 0, nameIndex := 17, descriptorIndex := 337, attributes := #[] }, { accessFlags := 0, nameIndex := 494, descriptorIndex := 142, attributes := #[] }, { accessFlags := 8, nameIndex := 523, descriptorIndex := 524, attributes := #[] }] 49 2 #[1106, 1108, 575, 1110, 1112] #[{ accessFlags := 18, nameIndex := 13, descriptorIndex := 14, attributes := #[] }, { accessFlags := 18, nameIndex := 17, descriptorIndex := 18, attributes := #[] }, { accessFlags := 2, nameIndex := 21, descriptorIndex := 22, attributes := #[] }, { accessFlags := 2, nameIndex := 25, descriptorIndex := 26, attributes := #[] }, { accessFlags := 26, nameIndex := 1116, descriptorIndex := 1117, attributes := #[] }, { accessFlags := 24, nameIndex := 40, descriptorIndex := 26, attributes := #[] }, { accessFlags := 26, nameIndex := 1101, descriptorIndex := 1102, attributes := #[] }, { accessFlags := 26, nameIndex := 1121, descriptorIndex := 1122, attributes := #[] }, { accessFlags := 25, nameIndex := 599, descriptorIndex := 600, attributes := #[] }, { accessFlags := 24, nameIndex := 1125, descriptorIndex := 18, attributes := #[] }, { accessFlags := 24, nameIndex := 1127, descriptorIndex := 18, attributes := #[] }])
  fields := #[{ name := "value", type := (.array .byte), accessFlags := 18, slot := 0, constantValue := 0 }, { name := "coder", type := .byte, accessFlags := 18, slot := 1, constantValue := 0 }, { name := "hash", type := .int, accessFlags := 2, slot := 2, constantValue := 0 }, { name := "hashIsZero", type := .boolean, accessFlags := 2, slot := 3, constantValue := 0 }, { name := "serialVersionUID", type := .long, accessFlags := 26, slot := 0, constantValue := 0 }, { name := "COMPACT_STRINGS", type := .boolean, accessFlags := 24, slot := 1, constantValue := 0 }, { name := "serialPersistentFields", type := (.array (.object "java/io/ObjectStreamField")), accessFlags := 26, slot := 2, constantValue := 0 }, { name := "REPL", type := .char, accessFlags := 26, slot := 3, constantValue := 0 }, { name := "CASE_INSENSITIVE_ORDER", type := (.object "java/util/Comparator"), accessFlags := 25, slot := 4, constantValue := 0 }, { name := "LATIN1", type := .byte, accessFlags := 24, slot := 5, constantValue := 0 }, { name := "UTF16", type := .byte, accessFlags := 24, slot := 6, constantValue := 0 }]
  methods := #[k7m0, k7m1, k7m2, k7m3, k7m4, k7m5, k7m6, k7m7, k7m8, k7m9, k7m10, k7m11, k7m12]
  instanceTypes := #[(.array .byte), .byte, .int, .boolean]
  staticTypes := #[.long, .boolean, (.array (.object "java/io/ObjectStreamField")), .char, (.object "java/util/Comparator"), .byte, .byte]
  resolved := Array.replicate 1451 none
  statics := some 0 }

def pool8 : Array CpInfo := pool [(6, .class_ 8), (1, u "java/lang/Object"), (0, u "<init>"), (0, u "()V"), (1, .class_ 14), (1, u "java/lang/StringUTF16"), (31, u "$assertionsDisabled"), (0, u "Z"), (13, u "HI_BYTE_SHIFT"), (0, u "I"), (2, u "LO_BYTE_SHIFT"), (49, .methodref 12 116), (0, .nameAndType 117 118), (0, u "compress"), (0, u "([CI[BII)I"), (3, u "([CII)[B"), (138, u "coderFromArrayLen"), (0, u "([BI)B"), (106, .class_ 371), (1, u "java/lang/StringUTF16$LinesSpliterator"), (58, u "MAX_LENGTH"), (196, .class_ 628), (0, u "java/lang/StringUTF16$CodePointsSpliterator"), (0, .class_ 630), (0, u "java/lang/StringUTF16$CharsSpliterator")] 4

def k8m0 : Method := { name := "<init>", desc := "()V", sig := { parameters := [], returnType := none }, accessFlags := 0, code := none }
def k8c1 : Code := { maxStack := 2, maxLocals := 2, code := jdk_52_method_15_code, exceptionTable := #[], attributes := #[] }
def k8m1 : Method := { name := "coderFromArrayLen", desc := "([BI)B", sig := { parameters := [(.array .byte), .int], returnType := some .byte }, accessFlags := 8, code := some k8c1 }
def k8c2 : Code := { maxStack := 5, maxLocals := 6, code := jdk_52_method_16_code, exceptionTable := #[], attributes := #[] }
def k8m2 : Method := { name := "compress", desc := "([CII)[B", sig := { parameters := [(.array .char), .int, .int], returnType := some (.array .byte) }, accessFlags := 9, code := some k8c2 }
def k8c3 : Code := { maxStack := 3, maxLocals := 7, code := jdk_52_method_21_code, exceptionTable := #[], attributes := #[] }
def k8m3 : Method := { name := "compress", desc := "([CI[BII)I", sig := { parameters := [(.array .char), .int, (.array .byte), .int, .int], returnType := some .int }, accessFlags := 9, code := some k8c3 }
/-- java/lang/StringUTF16 -/
def k8 : Class := { plain "java/lang/StringUTF16" (some 0) with
  accessFlags := 48
  interfaces := #[]
  cf := some (fileOf pool8 12 #[.nestMembers #[627, 629, 369]] #[{ accessFlags := 0, nameIndex := 9, descriptorIndex := 10, attributes := #[] }, { accessFlags := 8, nameIndex := 261, descriptorIndex := 262, attributes := #[] }, { accessFlags := 9, nameIndex := 117, descriptorIndex := 122, attributes := #[] }, { accessFlags := 9, nameIndex := 117, descriptorIndex := 118, attributes := #[] }] 48 6 #[] #[{ accessFlags := 26, nameIndex := 61, descriptorIndex := 62, attributes := #[] }, { accessFlags := 26, nameIndex := 65, descriptorIndex := 62, attributes := #[] }, { accessFlags := 24, nameIndex := 430, descriptorIndex := 62, attributes := #[] }, { accessFlags := 4120, nameIndex := 46, descriptorIndex := 47, attributes := #[] }])
  fields := #[{ name := "HI_BYTE_SHIFT", type := .int, accessFlags := 26, slot := 0, constantValue := 0 }, { name := "LO_BYTE_SHIFT", type := .int, accessFlags := 26, slot := 1, constantValue := 0 }, { name := "MAX_LENGTH", type := .int, accessFlags := 24, slot := 2, constantValue := 0 }, { name := "$assertionsDisabled", type := .boolean, accessFlags := 4120, slot := 3, constantValue := 0 }]
  methods := #[k8m0, k8m1, k8m2, k8m3]
  instanceTypes := #[]
  staticTypes := #[.int, .int, .int, .boolean]
  resolved := Array.replicate 635 none
  statics := none }

def pool9 : Array CpInfo := pool [(2, .class_ 4), (1, u "java/lang/Object"), (0, u "<init>"), (0, u "()V"), (0, .class_ 8), (0, u "java/lang/Record")] 13

def k9m0 : Method := { name := "<init>", desc := "()V", sig := { parameters := [], returnType := none }, accessFlags := 4, code := none }
/-- java/lang/Record -/
def k9 : Class := { plain "java/lang/Record" (some 0) with
  accessFlags := 1057
  interfaces := #[]
  cf := some (fileOf pool9 7 #[] #[{ accessFlags := 4, nameIndex := 5, descriptorIndex := 6, attributes := #[] }] 1057 2 #[] #[])
  fields := #[]
  methods := #[k9m0]
  instanceTypes := #[]
  staticTypes := #[]
  resolved := Array.replicate 22 none
  statics := none }

def pool10 : Array CpInfo := pool [(2, .class_ 4), (1, u "java/lang/Record"), (3, .class_ 10), (1, u "com/example/slicewright/slicewright/slicing/Occurrence"), (0, u "name"), (0, u "Ljava/lang/String;"), (2, u "index"), (0, u "I"), (2, u "value"), (0, u "Lcom/example/slicewright/slicewright/json/JsonValue;"), (2, u "primitiveExtension"), (0, u "Lcom/example/slicewright/slicewright/json/JsonObject;"), (42, .class_ 68), (0, u "java/lang/String"), (2, u "elementName"), (0, u "(Ljava/lang/String;)Ljava/lang/String;"), (21, .string 95), (0, u "_"), (0, .methodref 67 97), (0, .nameAndType 98 99), (0, u "startsWith"), (0, u "(Ljava/lang/String;)Z"), (0, .methodref 67 101), (0, .nameAndType 102 103), (0, u "substring"), (0, u "(I)Ljava/lang/String;"), (73, u "NOT_IN_LIST"), (2, u "TYPE_MEMBER")] 45

def k10c0 : Code := { maxStack := 2, maxLocals := 1, code := prog_32_method_3_code, exceptionTable := #[], attributes := #[] }
def k10m0 : Method := { name := "elementName", desc := "(Ljava/lang/String;)Ljava/lang/String;", sig := { parameters := [(.object "java/lang/String")], returnType := some (.object "java/lang/String") }, accessFlags := 8, code := some k10c0 }
/-- com/example/slicewright/slicewright/slicing/Occurrence -/
def k10 : Class := { plain "com/example/slicewright/slicewright/slicing/Occurrence" (some 9) with
  accessFlags := 48
  interfaces := #[]
  cf := some (fileOf pool10 8 #[] #[{ accessFlags := 8, nameIndex := 71, descriptorIndex := 72, attributes := #[] }] 48 2 #[] #[{ accessFlags := 18, nameIndex := 11, descriptorIndex := 12, attributes := #[] }, { accessFlags := 18, nameIndex := 15, descriptorIndex := 16, attributes := #[] }, { accessFlags := 18, nameIndex := 19, descriptorIndex := 20, attributes := #[] }, { accessFlags := 18, nameIndex := 23, descriptorIndex := 24, attributes := #[] }, { accessFlags := 24, nameIndex := 177, descriptorIndex := 16, attributes := #[] }, { accessFlags := 24, nameIndex := 180, descriptorIndex := 12, attributes := #[] }])
  fields := #[{ name := "name", type := (.object "java/lang/String"), accessFlags := 18, slot := 0, constantValue := 0 }, { name := "index", type := .int, accessFlags := 18, slot := 1, constantValue := 0 }, { name := "value", type := (.object "com/example/slicewright/slicewright/json/JsonValue"), accessFlags := 18, slot := 2, constantValue := 0 }, { name := "primitiveExtension", type := (.object "com/example/slicewright/slicewright/json/JsonObject"), accessFlags := 18, slot := 3, constantValue := 0 }, { name := "NOT_IN_LIST", type := .int, accessFlags := 24, slot := 0, constantValue := 0 }, { name := "TYPE_MEMBER", type := (.object "java/lang/String"), accessFlags := 24, slot := 1, constantValue := 0 }]
  methods := #[k10m0]
  instanceTypes := #[(.object "java/lang/String"), .int, (.object "com/example/slicewright/slicewright/json/JsonValue"), (.object "com/example/slicewright/slicewright/json/JsonObject")]
  staticTypes := #[.int, (.object "java/lang/String")]
  resolved := Array.replicate 226 none
  statics := none }

def pool11 : Array CpInfo := pool [(9, u "<init>"), (6, .class_ 18), (1, u "java/lang/Object"), (0, u "()V"), (1, .class_ 23), (1, u "jdk/internal/util/ArraysSupport"), (0, u "LOG2_ARRAY_LONG_INDEX_SCALE"), (0, u "I"), (2, u "U"), (0, u "Ljdk/internal/misc/Unsafe;"), (8, u "BIG_ENDIAN"), (0, u "Z"), (8, u "LOG2_BYTE_BIT_SIZE"), (4, u "LOG2_ARRAY_INT_INDEX_SCALE"), (54, u "JLA"), (0, u "Ljdk/internal/access/JavaLangAccess;"), (11, u "LOG2_ARRAY_BOOLEAN_INDEX_SCALE"), (9, u "LOG2_ARRAY_BYTE_INDEX_SCALE"), (5, u "LOG2_ARRAY_CHAR_INDEX_SCALE"), (5, u "LOG2_ARRAY_SHORT_INDEX_SCALE"), (5, u "mismatch"), (12, u "LOG2_ARRAY_FLOAT_INDEX_SCALE"), (24, u "LOG2_ARRAY_DOUBLE_INDEX_SCALE"), (89, u "T_BOOLEAN"), (2, u "T_CHAR"), (1, u "T_FLOAT"), (1, u "T_DOUBLE"), (1, u "T_BYTE"), (1, u "T_SHORT"), (1, u "T_INT"), (1, u "T_LONG"), (1, u "SOFT_MAX_ARRAY_LENGTH"), (42, u "([BI[BII)I")] 40

def k11m0 : Method := { name := "<init>", desc := "()V", sig := { parameters := [], returnType := none }, accessFlags := 2, code := none }
def k11c1 : Code := { maxStack := 8, maxLocals := 8, code := jdk_48_method_14_code, exceptionTable := #[], attributes := #[] }
def k11m1 : Method := { name := "mismatch", desc := "([BI[BII)I", sig := { parameters := [(.array .byte), .int, (.array .byte), .int, .int], returnType := some .int }, accessFlags := 9, code := some k11c1 }
/-- jdk/internal/util/ArraysSupport -/
def k11 : Class := { plain "jdk/internal/util/ArraysSupport" (some 0) with
  accessFlags := 33
  interfaces := #[]
  cf := some (fileOf pool11 21 #[] #[{ accessFlags := 2, nameIndex := 9, descriptorIndex := 19, attributes := #[] }, { accessFlags := 9, nameIndex := 149, descriptorIndex := 337, attributes := #[] }] 33 16 #[] #[{ accessFlags := 24, nameIndex := 28, descriptorIndex := 29, attributes := #[] }, { accessFlags := 26, nameIndex := 38, descriptorIndex := 39, attributes := #[] }, { accessFlags := 25, nameIndex := 121, descriptorIndex := 25, attributes := #[] }, { accessFlags := 25, nameIndex := 131, descriptorIndex := 25, attributes := #[] }, { accessFlags := 25, nameIndex := 137, descriptorIndex := 25, attributes := #[] }, { accessFlags := 25, nameIndex := 143, descriptorIndex := 25, attributes := #[] }, { accessFlags := 25, nameIndex := 53, descriptorIndex := 25, attributes := #[] }, { accessFlags := 25, nameIndex := 24, descriptorIndex := 25, attributes := #[] }, { accessFlags := 25, nameIndex := 162, descriptorIndex := 25, attributes := #[] }, { accessFlags := 25, nameIndex := 187, descriptorIndex := 25, attributes := #[] }, { accessFlags := 26, nameIndex := 48, descriptorIndex := 25, attributes := #[] }, { accessFlags := 25, nameIndex := 277, descriptorIndex := 25, attributes := #[] }, { accessFlags := 25, nameIndex := 280, descriptorIndex := 25, attributes := #[] }, { accessFlags := 25, nameIndex := 282, descriptorIndex := 25, attributes := #[] }, { accessFlags := 25, nameIndex := 284, descriptorIndex := 25, attributes := #[] }, { accessFlags := 25, nameIndex := 286, descriptorIndex := 25, attributes := #[] }, { accessFlags := 25, nameIndex := 288, descriptorIndex := 25, attributes := #[] }, { accessFlags := 25, nameIndex := 290, descriptorIndex := 25, attributes := #[] }, { accessFlags := 25, nameIndex := 292, descriptorIndex := 25, attributes := #[] }, { accessFlags := 26, nameIndex := 108, descriptorIndex := 109, attributes := #[] }, { accessFlags := 25, nameIndex := 294, descriptorIndex := 25, attributes := #[] }])
  fields := #[{ name := "U", type := (.object "jdk/internal/misc/Unsafe"), accessFlags := 24, slot := 0, constantValue := 0 }, { name := "BIG_ENDIAN", type := .boolean, accessFlags := 26, slot := 1, constantValue := 0 }, { name := "LOG2_ARRAY_BOOLEAN_INDEX_SCALE", type := .int, accessFlags := 25, slot := 2, constantValue := 0 }, { name := "LOG2_ARRAY_BYTE_INDEX_SCALE", type := .int, accessFlags := 25, slot := 3, constantValue := 0 }, { name := "LOG2_ARRAY_CHAR_INDEX_SCALE", type := .int, accessFlags := 25, slot := 4, constantValue := 0 }, { name := "LOG2_ARRAY_SHORT_INDEX_SCALE", type := .int, accessFlags := 25, slot := 5, constantValue := 0 }, { name := "LOG2_ARRAY_INT_INDEX_SCALE", type := .int, accessFlags := 25, slot := 6, constantValue := 0 }, { name := "LOG2_ARRAY_LONG_INDEX_SCALE", type := .int, accessFlags := 25, slot := 7, constantValue := 0 }, { name := "LOG2_ARRAY_FLOAT_INDEX_SCALE", type := .int, accessFlags := 25, slot := 8, constantValue := 0 }, { name := "LOG2_ARRAY_DOUBLE_INDEX_SCALE", type := .int, accessFlags := 25, slot := 9, constantValue := 0 }, { name := "LOG2_BYTE_BIT_SIZE", type := .int, accessFlags := 26, slot := 10, constantValue := 0 }, { name := "T_BOOLEAN", type := .int, accessFlags := 25, slot := 11, constantValue := 0 }, { name := "T_CHAR", type := .int, accessFlags := 25, slot := 12, constantValue := 0 }, { name := "T_FLOAT", type := .int, accessFlags := 25, slot := 13, constantValue := 0 }, { name := "T_DOUBLE", type := .int, accessFlags := 25, slot := 14, constantValue := 0 }, { name := "T_BYTE", type := .int, accessFlags := 25, slot := 15, constantValue := 0 }, { name := "T_SHORT", type := .int, accessFlags := 25, slot := 16, constantValue := 0 }, { name := "T_INT", type := .int, accessFlags := 25, slot := 17, constantValue := 0 }, { name := "T_LONG", type := .int, accessFlags := 25, slot := 18, constantValue := 0 }, { name := "JLA", type := (.object "jdk/internal/access/JavaLangAccess"), accessFlags := 26, slot := 19, constantValue := 0 }, { name := "SOFT_MAX_ARRAY_LENGTH", type := .int, accessFlags := 25, slot := 20, constantValue := 0 }]
  methods := #[k11m0, k11m1]
  instanceTypes := #[]
  staticTypes := #[(.object "jdk/internal/misc/Unsafe"), .boolean, .int, .int, .int, .int, .int, .int, .int, .int, .int, .int, .int, .int, .int, .int, .int, .int, .int, (.object "jdk/internal/access/JavaLangAccess"), .int]
  resolved := Array.replicate 378 none
  statics := none }

def pool12 : Array CpInfo := pool [(1, .class_ 2), (0, u "java/lang/String"), (1, .class_ 6), (1, u "java/lang/Object"), (0, u "<init>"), (0, u "()V"), (5, .class_ 16), (1, u "java/lang/StringLatin1"), (95, .methodref 1 113), (0, .nameAndType 7 114), (0, u "([BB)V"), (6, u "$assertionsDisabled"), (0, u "Z"), (8, .class_ 133), (1, u "java/util/Arrays"), (17, .string 152), (0, u ""), (43, u "newString"), (0, u "([BII)Ljava/lang/String;"), (23, .class_ 223), (1, u "java/lang/StringLatin1$LinesSpliterator"), (8, .methodref 131 233), (0, .nameAndType 234 235), (0, u "copyOfRange"), (0, u "([BII)[B"), (45, u "equals"), (0, u "([B[B)Z"), (107, .class_ 391), (0, u "java/lang/StringLatin1$CharsSpliterator")] 3

def k12m0 : Method := { name := "<init>", desc := "()V", sig := { parameters := [], returnType := none }, accessFlags := 0, code := none }
def k12c1 : Code := { maxStack := 3, maxLocals := 3, code := jdk_43_method_13_code, exceptionTable := #[], attributes := #[] }
def k12m1 : Method := { name := "equals", desc := "([B[B)Z", sig := { parameters := [(.array .byte), (.array .byte)], returnType := some .boolean }, accessFlags := 9, code := some k12c1 }
def k12c2 : Code := { maxStack := 6, maxLocals := 3, code := jdk_43_method_47_code, exceptionTable := #[], attributes := #[] }
def k12m2 : Method := { name := "newString", desc := "([BII)Ljava/lang/String;", sig := { parameters := [(.array .byte), .int, .int], returnType := some (.object "java/lang/String") }, accessFlags := 9, code := some k12c2 }
/-- java/lang/StringLatin1 -/
def k12 : Class := { plain "java/lang/StringLatin1" (some 0) with
  accessFlags := 48
  interfaces := #[]
  cf := some (fileOf pool12 14 #[.nestMembers #[390, 221]] #[{ accessFlags := 0, nameIndex := 7, descriptorIndex := 8, attributes := #[] }, { accessFlags := 9, nameIndex := 281, descriptorIndex := 282, attributes := #[] }, { accessFlags := 9, nameIndex := 196, descriptorIndex := 197, attributes := #[] }] 48 4 #[] #[{ accessFlags := 4120, nameIndex := 121, descriptorIndex := 122, attributes := #[] }])
  fields := #[{ name := "$assertionsDisabled", type := .boolean, accessFlags := 4120, slot := 0, constantValue := 0 }]
  methods := #[k12m0, k12m1, k12m2]
  instanceTypes := #[]
  staticTypes := #[.boolean]
  resolved := Array.replicate 395 none
  statics := none }

def pool13 : Array CpInfo := pool [(2, .class_ 4), (1, u "java/lang/Object"), (0, u "<init>"), (0, u "()V"), (17, .class_ 26), (1, u "jdk/internal/util/Preconditions"), (20, u "checkFromToIndex"), (7, .class_ 56), (0, u "jdk/internal/util/Preconditions$4"), (57, .class_ 115), (0, u "jdk/internal/util/Preconditions$1"), (7, u "SIOOBE_FORMATTER"), (0, u "Ljava/util/function/BiFunction;"), (0, .class_ 126), (0, u "jdk/internal/util/Preconditions$2"), (3, u "AIOOBE_FORMATTER"), (0, .class_ 132), (0, u "jdk/internal/util/Preconditions$3"), (3, u "IOOBE_FORMATTER"), (46, u "(IIILjava/util/function/BiFunction;)I")] 10

def k13m0 : Method := { name := "<init>", desc := "()V", sig := { parameters := [], returnType := none }, accessFlags := 1, code := none }
def k13c1 : Code := { maxStack := 4, maxLocals := 4, code := jdk_41_method_12_code, exceptionTable := #[], attributes := #[] }
def k13m1 : Method := { name := "checkFromToIndex", desc := "(IIILjava/util/function/BiFunction;)I", sig := { parameters := [.int, .int, .int, (.object "java/util/function/BiFunction")], returnType := some .int }, accessFlags := 9, code := some k13c1 }
/-- jdk/internal/util/Preconditions -/
def k13 : Class := { plain "jdk/internal/util/Preconditions" (some 0) with
  accessFlags := 33
  interfaces := #[]
  cf := some (fileOf pool13 24 #[.nestMembers #[55, 131, 125, 114]] #[{ accessFlags := 1, nameIndex := 5, descriptorIndex := 6, attributes := #[] }, { accessFlags := 9, nameIndex := 47, descriptorIndex := 183, attributes := #[] }] 33 2 #[] #[{ accessFlags := 25, nameIndex := 123, descriptorIndex := 124, attributes := #[] }, { accessFlags := 25, nameIndex := 130, descriptorIndex := 124, attributes := #[] }, { accessFlags := 25, nameIndex := 136, descriptorIndex := 124, attributes := #[] }])
  fields := #[{ name := "SIOOBE_FORMATTER", type := (.object "java/util/function/BiFunction"), accessFlags := 25, slot := 0, constantValue := 0 }, { name := "AIOOBE_FORMATTER", type := (.object "java/util/function/BiFunction"), accessFlags := 25, slot := 1, constantValue := 0 }, { name := "IOOBE_FORMATTER", type := (.object "java/util/function/BiFunction"), accessFlags := 25, slot := 2, constantValue := 0 }]
  methods := #[k13m0, k13m1]
  instanceTypes := #[]
  staticTypes := #[(.object "java/util/function/BiFunction"), (.object "java/util/function/BiFunction"), (.object "java/util/function/BiFunction")]
  resolved := Array.replicate 194 none
  statics := some 1 }

def pool14 : Array CpInfo := pool [(2, .class_ 4), (1, u "java/lang/Object"), (0, u "<init>"), (0, u "()V"), (7, .class_ 16), (1, u "java/util/Arrays"), (57, .class_ 76), (1, u "java/util/Arrays$NaturalOrder"), (36, .class_ 115), (1, u "java/util/Arrays$LegacyMergeSort"), (1, u "Z"), (21, u "copyOfRange"), (10, .methodref 151 152), (0, .class_ 153), (0, .nameAndType 154 155), (0, u "java/lang/System"), (0, u "arraycopy"), (0, u "(Ljava/lang/Object;ILjava/lang/Object;II)V"), (148, .methodref 305 306), (0, .class_ 307), (0, .nameAndType 308 309), (0, u "java/lang/Math"), (0, u "min"), (0, u "(II)I"), (29, .methodref 14 340), (0, .nameAndType 341 342), (0, u "copyOfRangeByte"), (0, u "([BII)[B"), (0, .methodref 14 344), (0, .nameAndType 345 346), (0, u "checkLength"), (0, u "(II)V"), (28, .class_ 376), (0, u "java/util/Arrays$ArrayList"), (68, u "$assertionsDisabled"), (269, u "MIN_ARRAY_SORT_GRAN"), (0, u "I"), (2, u "INSERTIONSORT_THRESHOLD"), (255, .class_ 976), (0, u "java/util/Arrays$ArrayItr")] 52

def k14m0 : Method := { name := "<init>", desc := "()V", sig := { parameters := [], returnType := none }, accessFlags := 2, code := none }
def k14c1 : Code := { maxStack := 4, maxLocals := 2, code := jdk_65_method_131_code, exceptionTable := #[], attributes := #[] }
def k14m1 : Method := { name := "checkLength", desc := "(II)V", sig := { parameters := [.int, .int], returnType := none }, accessFlags := 10, code := some k14c1 }
def k14c2 : Code := { maxStack := 3, maxLocals := 3, code := jdk_65_method_132_code, exceptionTable := #[], attributes := #[] }
def k14m2 : Method := { name := "copyOfRange", desc := "([BII)[B", sig := { parameters := [(.array .byte), .int, .int], returnType := some (.array .byte) }, accessFlags := 9, code := some k14c2 }
def k14c3 : Code := { maxStack := 6, maxLocals := 5, code := jdk_65_method_133_code, exceptionTable := #[], attributes := #[] }
def k14m3 : Method := { name := "copyOfRangeByte", desc := "([BII)[B", sig := { parameters := [(.array .byte), .int, .int], returnType := some (.array .byte) }, accessFlags := 10, code := some k14c3 }
/-- java/util/Arrays -/
def k14 : Class := { plain "java/util/Arrays" (some 0) with
  accessFlags := 49
  interfaces := #[]
  cf := some (fileOf pool14 14 #[.nestMembers #[975, 375, 113, 74]] #[{ accessFlags := 2, nameIndex := 5, descriptorIndex := 6, attributes := #[] }, { accessFlags := 10, nameIndex := 345, descriptorIndex := 346, attributes := #[] }, { accessFlags := 9, nameIndex := 139, descriptorIndex := 342, attributes := #[] }, { accessFlags := 10, nameIndex := 341, descriptorIndex := 342, attributes := #[] }] 49 2 #[] #[{ accessFlags := 26, nameIndex := 715, descriptorIndex := 716, attributes := #[] }, { accessFlags := 26, nameIndex := 719, descriptorIndex := 716, attributes := #[] }, { accessFlags := 4120, nameIndex := 445, descriptorIndex := 117, attributes := #[] }])
  fields := #[{ name := "MIN_ARRAY_SORT_GRAN", type := .int, accessFlags := 26, slot := 0, constantValue := 0 }, { name := "INSERTIONSORT_THRESHOLD", type := .int, accessFlags := 26, slot := 1, constantValue := 0 }, { name := "$assertionsDisabled", type := .boolean, accessFlags := 4120, slot := 2, constantValue := 0 }]
  methods := #[k14m0, k14m1, k14m2, k14m3]
  instanceTypes := #[]
  staticTypes := #[.int, .int, .boolean]
  resolved := Array.replicate 1029 none
  statics := none }

def pool15 : Array CpInfo := pool [(1, .class_ 2), (0, u "java/lang/Math"), (1, .class_ 6), (1, u "java/lang/Object"), (0, u "<init>"), (0, u "()V"), (89, .class_ 100), (1, u "java/lang/Math$RandomNumberGeneratorHolder"), (71, u "negativeZeroFloatBits"), (0, u "J"), (2, u "negativeZeroDoubleBits"), (24, u "min"), (43, u "$assertionsDisabled"), (0, u "Z"), (88, u "(II)I"), (2, u "twoToTheDoubleScaleDown"), (0, u "D"), (4, u "twoToTheDoubleScaleUp"), (9, u "E"), (3, u "PI"), (2, u "TAU"), (2, u "DEGREES_TO_RADIANS"), (0, u "RADIANS_TO_DEGREES")] 94

def k15m0 : Method := { name := "<init>", desc := "()V", sig := { parameters := [], returnType := none }, accessFlags := 2, code := none }
def k15c1 : Code := { maxStack := 2, maxLocals := 2, code := jdk_29_method_69_code, exceptionTable := #[], attributes := #[] }
def k15m1 : Method := { name := "min", desc := "(II)I", sig := { parameters := [.int, .int], returnType := some .int }, accessFlags := 9, code := some k15c1 }
/-- java/lang/Math -/
def k15 : Class := { plain "java/lang/Math" (some 0) with
  accessFlags := 49
  interfaces := #[]
  cf := some (fileOf pool15 1 #[.nestMembers #[98]] #[{ accessFlags := 2, nameIndex := 7, descriptorIndex := 8, attributes := #[] }, { accessFlags := 9, nameIndex := 201, descriptorIndex := 335, attributes := #[] }] 49 4 #[] #[{ accessFlags := 25, nameIndex := 354, descriptorIndex := 339, attributes := #[] }, { accessFlags := 25, nameIndex := 358, descriptorIndex := 339, attributes := #[] }, { accessFlags := 25, nameIndex := 361, descriptorIndex := 339, attributes := #[] }, { accessFlags := 26, nameIndex := 364, descriptorIndex := 339, attributes := #[] }, { accessFlags := 26, nameIndex := 365, descriptorIndex := 339, attributes := #[] }, { accessFlags := 26, nameIndex := 172, descriptorIndex := 173, attributes := #[] }, { accessFlags := 26, nameIndex := 176, descriptorIndex := 173, attributes := #[] }, { accessFlags := 8, nameIndex := 344, descriptorIndex := 339, attributes := #[] }, { accessFlags := 8, nameIndex := 338, descriptorIndex := 339, attributes := #[] }, { accessFlags := 4120, nameIndex := 245, descriptorIndex := 246, attributes := #[] }])
  fields := #[{ name := "E", type := .double, accessFlags := 25, slot := 0, constantValue := 0 }, { name := "PI", type := .double, accessFlags := 25, slot := 1, constantValue := 0 }, { name := "TAU", type := .double, accessFlags := 25, slot := 2, constantValue := 0 }, { name := "DEGREES_TO_RADIANS", type := .double, accessFlags := 26, slot := 3, constantValue := 0 }, { name := "RADIANS_TO_DEGREES", type := .double, accessFlags := 26, slot := 4, constantValue := 0 }, { name := "negativeZeroFloatBits", type := .long, accessFlags := 26, slot := 5, constantValue := 0 }, { name := "negativeZeroDoubleBits", type := .long, accessFlags := 26, slot := 6, constantValue := 0 }, { name := "twoToTheDoubleScaleUp", type := .double, accessFlags := 8, slot := 7, constantValue := 0 }, { name := "twoToTheDoubleScaleDown", type := .double, accessFlags := 8, slot := 8, constantValue := 0 }, { name := "$assertionsDisabled", type := .boolean, accessFlags := 4120, slot := 9, constantValue := 0 }]
  methods := #[k15m0, k15m1]
  instanceTypes := #[]
  staticTypes := #[.double, .double, .double, .double, .double, .long, .long, .double, .double, .boolean]
  resolved := Array.replicate 460 none
  statics := none }

def pool16 : Array CpInfo := pool [(2, .class_ 4), (1, u "java/lang/Object"), (0, u "<init>"), (0, u "()V"), (1, .class_ 10), (1, u "java/lang/System"), (0, u "allowSecurityManager"), (0, u "I"), (16, u "cons"), (0, u "Ljava/io/Console;"), (77, .class_ 110), (1, u "java/lang/System$CallersHolder"), (43, u "initialErrStream"), (0, u "Ljava/io/PrintStream;"), (19, u "security"), (0, u "Ljava/lang/SecurityManager;"), (31, .class_ 209), (0, u "java/lang/System$1"), (7, u "props"), (0, u "Ljava/util/Properties;"), (2, u "lineSeparator"), (0, u "Ljava/lang/String;"), (96, .class_ 321), (1, u "java/lang/System$LoggerFinder"), (5, .class_ 328), (0, u "java/lang/System$Logger"), (67, u "err"), (2, u "out"), (91, u "notSupportedJnuEncoding"), (15, u "in"), (17, u "initialIn"), (0, u "Ljava/io/InputStream;"), (35, u "bootLayer"), (0, u "Ljava/lang/ModuleLayer;"), (99, .class_ 664), (0, u "java/lang/System$2"), (9, u "NEVER"), (2, u "MAYBE"), (49, u "arraycopy"), (0, u "(Ljava/lang/Object;ILjava/lang/Object;II)V"), (72, .class_ 802), (0, u "java/lang/System$Logger$Level")] 31

def k16m0 : Method := { name := "<init>", desc := "()V", sig := { parameters := [], returnType := none }, accessFlags := 2, code := none }
def k16m1 : Method := { name := "arraycopy", desc := "(Ljava/lang/Object;ILjava/lang/Object;II)V", sig := { parameters := [(.object "java/lang/Object"), .int, (.object "java/lang/Object"), .int, .int], returnType := none }, accessFlags := 265, code := none }
/-- java/lang/System -/
def k16 : Class := { plain "java/lang/System" (some 0) with
  accessFlags := 49
  interfaces := #[]
  cf := some (fileOf pool16 8 #[.nestMembers #[319, 327, 801, 108, 663, 208]] #[{ accessFlags := 2, nameIndex := 5, descriptorIndex := 6, attributes := #[] }, { accessFlags := 265, nameIndex := 727, descriptorIndex := 728, attributes := #[] }] 49 2 #[] #[{ accessFlags := 25, nameIndex := 507, descriptorIndex := 526, attributes := #[] }, { accessFlags := 25, nameIndex := 399, descriptorIndex := 155, attributes := #[] }, { accessFlags := 25, nameIndex := 396, descriptorIndex := 155, attributes := #[] }, { accessFlags := 10, nameIndex := 525, descriptorIndex := 526, attributes := #[] }, { accessFlags := 26, nameIndex := 674, descriptorIndex := 12, attributes := #[] }, { accessFlags := 26, nameIndex := 677, descriptorIndex := 12, attributes := #[] }, { accessFlags := 10, nameIndex := 11, descriptorIndex := 12, attributes := #[] }, { accessFlags := 74, nameIndex := 175, descriptorIndex := 176, attributes := #[] }, { accessFlags := 10, nameIndex := 491, descriptorIndex := 222, attributes := #[] }, { accessFlags := 74, nameIndex := 29, descriptorIndex := 30, attributes := #[] }, { accessFlags := 74, nameIndex := 154, descriptorIndex := 155, attributes := #[] }, { accessFlags := 10, nameIndex := 217, descriptorIndex := 218, attributes := #[] }, { accessFlags := 10, nameIndex := 221, descriptorIndex := 222, attributes := #[] }, { accessFlags := 8, nameIndex := 562, descriptorIndex := 563, attributes := #[] }])
  fields := #[{ name := "in", type := (.object "java/io/InputStream"), accessFlags := 25, slot := 0, constantValue := 0 }, { name := "out", type := (.object "java/io/PrintStream"), accessFlags := 25, slot := 1, constantValue := 0 }, { name := "err", type := (.object "java/io/PrintStream"), accessFlags := 25, slot := 2, constantValue := 0 }, { name := "initialIn", type := (.object "java/io/InputStream"), accessFlags := 10, slot := 3, constantValue := 0 }, { name := "NEVER", type := .int, accessFlags := 26, slot := 4, constantValue := 0 }, { name := "MAYBE", type := .int, accessFlags := 26, slot := 5, constantValue := 0 }, { name := "allowSecurityManager", type := .int, accessFlags := 10, slot := 6, constantValue := 0 }, { name := "security", type := (.object "java/lang/SecurityManager"), accessFlags := 74, slot := 7, constantValue := 0 }, { name := "notSupportedJnuEncoding", type := (.object "java/lang/String"), accessFlags := 10, slot := 8, constantValue := 0 }, { name := "cons", type := (.object "java/io/Console"), accessFlags := 74, slot := 9, constantValue := 0 }, { name := "initialErrStream", type := (.object "java/io/PrintStream"), accessFlags := 74, slot := 10, constantValue := 0 }, { name := "props", type := (.object "java/util/Properties"), accessFlags := 10, slot := 11, constantValue := 0 }, { name := "lineSeparator", type := (.object "java/lang/String"), accessFlags := 10, slot := 12, constantValue := 0 }, { name := "bootLayer", type := (.object "java/lang/ModuleLayer"), accessFlags := 8, slot := 13, constantValue := 0 }]
  methods := #[k16m0, k16m1]
  instanceTypes := #[]
  staticTypes := #[(.object "java/io/InputStream"), (.object "java/io/PrintStream"), (.object "java/io/PrintStream"), (.object "java/io/InputStream"), .int, .int, .int, (.object "java/lang/SecurityManager"), (.object "java/lang/String"), (.object "java/io/Console"), (.object "java/io/PrintStream"), (.object "java/util/Properties"), (.object "java/lang/String"), (.object "java/lang/ModuleLayer")]
  resolved := Array.replicate 834 none
  statics := none }

def pool17 : Array CpInfo := pool [(1, u "java/lang/Cloneable"), (0, .class_ 1), (0, u "java/lang/Object"), (0, .class_ 3)] 3

/-- java/lang/Cloneable -/
def k17 : Class := { plain "java/lang/Cloneable" (some 0) with
  accessFlags := 1537
  interfaces := #[]
  cf := some (fileOf pool17 2 #[] #[] 1537 4 #[] #[])
  fields := #[]
  methods := #[]
  instanceTypes := #[]
  staticTypes := #[]
  resolved := Array.replicate 8 none
  statics := none }

/-- the primitive byte -/
def k18 : Class := { plain "byte" none with kind := .primitive 'B', accessFlags := 0x411 }
/-- [B -/
def k19 : Class := { plain "[B" (some 0) with kind := .array 18 .byte, interfaces := #[17, 2], accessFlags := 1041 }

/-- the primitive char -/
def k20 : Class := { plain "char" none with kind := .primitive 'C', accessFlags := 0x411 }
/-- [C -/
def k21 : Class := { plain "[C" (some 0) with kind := .array 20 .char, interfaces := #[17, 2], accessFlags := 1041 }

/-- the primitive int -/
def k22 : Class := { plain "int" none with kind := .primitive 'I', accessFlags := 0x411 }
/-- [I -/
def k23 : Class := { plain "[I" (some 0) with kind := .array 22 .int, interfaces := #[17, 2], accessFlags := 1041 }

def heap : Heap := #[{ cls := 7, slots := #[.long 0, .int 1, .null, .int 0, .null, .int 0, .int 0], vm := .statics 7 },
  { cls := 13, slots := #[.null, .null, .null], vm := .statics 13 }]
def classes : Array Class := #[k0, k1, k2, k3, k4, k5, k6, k7, k8, k9, k10, k11, k12, k13, k14, k15, k16, k17, k18, k19, k20, k21, k22, k23]
def interned : List (Array UInt16 × Addr) := []
def slotsUsed : Nat := 10
def theMethod : MethodId := ⟨1, 1⟩
def args0 : Array Value := #[.int 5, .int 7, .int 65, .int 3]
def aboutOver (below : List Frame) : State where
  vm := { classes := classes, interned := interned.toArray }
  heap := heap
  slotsUsed := slotsUsed
  threads := #[{ frames := .invoking theMethod args0 :: below }]
def below0 : List Frame := [.native { method := ⟨0, 0⟩, args := #[] }]
def about1 : State := aboutOver below0
def p0 : Program := .bare "" "" ""
def e0 : Env := launch0.env 0 0 0
theorem w_frames : about1.frames = Frame.invoking theMethod args0 :: below0 := rfl
set_option maxRecDepth 65536 in
theorem w_args : argsFit about1.vm theMethod args0 = true := by decide +kernel
set_option maxRecDepth 65536 in
theorem w_heap : heapFits about1 = true := by decide +kernel
set_option maxRecDepth 65536 in
theorem w_runnable : about1.curStatus? = some .runnable := by decide +kernel
set_option maxRecDepth 65536 in
theorem w_alone : about1.alone = true := by decide +kernel
set_option maxRecDepth 65536 in
theorem w_named : about1.methodNamed? x = some theMethod := by decide +kernel
set_option maxRecDepth 65536 in
theorem w_hears : about1.hears theMethod below0 = true := by decide +kernel
set_option maxRecDepth 65536 in
theorem w_ripe : about1.ripe theMethod args0 below0 = true := by decide +kernel
theorem w_running : about1.status = .running := rfl
set_option maxRecDepth 65536 in
theorem w_room : about1.hasRoom e0.platform room_1 = true :=
  launch0.hasRoom_least _ room_1 (by decide +kernel) (by decide +kernel) (by decide +kernel) (by decide +kernel) (by decide +kernel) (by decide +kernel)
theorem allAtoms_all (ts : List Jvm.Cond) (a : Array Jvm.Value) (st : Jvm.State) : (allAtoms ts).before a st = ts.all (fun c => c.before a st) := by
  induction ts with
  | nil => rfl
  | cons c t ih =>
    show (Jvm.Cond.and c (allAtoms t)).before a st = _
    rw [Jvm.Cond.before_and, ih, List.all_cons]
def words1 : List Jvm.Cond := Jvm.Cond.code x code maxLocals ret :: tables_1
/-- a 'code' word, met by the world's own term for the bytes: nothing is compared byte by byte -/
theorem code_word {y : MethodName} {bytes : ByteArray} {mx : Nat} {rt : Option FieldType} {a : Array Value} {s : State} {m : MethodId} {meth : Method} {c : Code} (h1 : s.methodNamed? y = some m) (h2 : s.vm.method? m = some meth) (h3 : meth.code = some c) (h4 : c.code = bytes)
    (h5 : (c.maxLocals == mx && c.exceptionTable.isEmpty && decide (c.maxStack ≤ mostOperands) && decide (meth.sig.returnType = rt) && !meth.locks && decide (parseMethodDescriptor y.desc = some meth.sig)) = true) : (Jvm.Cond.code y bytes mx rt).before a s = true := by
  simp only [Bool.and_eq_true, beq_iff_eq, Bool.not_eq_true', decide_eq_true_eq] at h5
  obtain ⟨⟨⟨⟨⟨g1, g2⟩, g3⟩, g4⟩, g5⟩, g6⟩ := h5
  simp [Cond.before, Cond.holds, Cond.value, h1, h2, h3, h4, g1, g2, g3, g4, g5, g6]
def isCode : Jvm.Cond → Bool
  | .code _ _ _ _ => true
  | _ => false
theorem all_split {L : List Jvm.Cond} {P : Jvm.Cond → Bool} (h1 : L.all (fun c => isCode c || P c) = true) (h2 : ∀ c ∈ L.filter isCode, P c = true) : L.all P = true := by
  refine List.all_eq_true.mpr fun c hc => ?_
  have h := List.all_eq_true.mp h1 c hc
  rcases Bool.eq_false_or_eq_true (isCode c) with hi | hi
  · exact h2 c (List.mem_filter.mpr ⟨hc, hi⟩)
  · simpa [hi] using h
set_option maxRecDepth 65536 in
theorem w_c0 : (Jvm.Cond.code x code maxLocals ret).before args0 about1 = true := code_word (m := ⟨1, 1⟩) (meth := k1m1) (c := k1c1) (by decide +kernel) rfl rfl rfl (by decide +kernel)
set_option maxRecDepth 65536 in
theorem w_c1 : (Jvm.Cond.code ({ cls := "com/example/slicewright/slicewright/slicing/OccurrenceElementNamePinLaw", name := "make", desc := "(ICCC)Ljava/lang/String;" } : Jvm.MethodName) method_3_code (4 : Nat) (Option.some (Jvm.ClassFile.FieldType.object "java/lang/String"))).before args0 about1 = true := code_word (m := ⟨1, 2⟩) (meth := k1m2) (c := k1c2) (by decide +kernel) rfl rfl rfl (by decide +kernel)
set_option maxRecDepth 65536 in
theorem w_c2 : (Jvm.Cond.code ({ cls := "java/lang/String", name := "<init>", desc := "([C)V" } : Jvm.MethodName) jdk_42_method_3_code (2 : Nat) (Option.none : Option Jvm.ClassFile.FieldType)).before args0 about1 = true := code_word (m := ⟨7, 1⟩) (meth := k7m1) (c := k7c1) (by decide +kernel) rfl rfl rfl (by decide +kernel)
set_option maxRecDepth 65536 in
theorem w_c3 : (Jvm.Cond.code ({ cls := "java/lang/String", name := "<init>", desc := "([CIILjava/lang/Void;)V" } : Jvm.MethodName) jdk_42_method_149_code (6 : Nat) (Option.none : Option Jvm.ClassFile.FieldType)).before args0 about1 = true := code_word (m := ⟨7, 8⟩) (meth := k7m8) (c := k7c8) (by decide +kernel) rfl rfl rfl (by decide +kernel)
set_option maxRecDepth 65536 in
theorem w_c4 : (Jvm.Cond.code ({ cls := "java/lang/Object", name := "<init>", desc := "()V" } : Jvm.MethodName) object_method_1_code (1 : Nat) (Option.none : Option Jvm.ClassFile.FieldType)).before args0 about1 = true := code_word (m := ⟨0, 0⟩) (meth := k0m0) (c := k0c0) (by decide +kernel) rfl rfl rfl (by decide +kernel)
set_option maxRecDepth 65536 in
theorem w_c5 : (Jvm.Cond.code ({ cls := "java/lang/StringUTF16", name := "compress", desc := "([CII)[B" } : Jvm.MethodName) jdk_52_method_16_code (6 : Nat) (Option.some (Jvm.ClassFile.FieldType.array Jvm.ClassFile.FieldType.byte))).before args0 about1 = true := code_word (m := ⟨8, 2⟩) (meth := k8m2) (c := k8c2) (by decide +kernel) rfl rfl rfl (by decide +kernel)
set_option maxRecDepth 65536 in
theorem w_c6 : (Jvm.Cond.code ({ cls := "java/lang/StringUTF16", name := "compress", desc := "([CI[BII)I" } : Jvm.MethodName) jdk_52_method_21_code (7 : Nat) (Option.some Jvm.ClassFile.FieldType.int)).before args0 about1 = true := code_word (m := ⟨8, 3⟩) (meth := k8m3) (c := k8c3) (by decide +kernel) rfl rfl rfl (by decide +kernel)
set_option maxRecDepth 65536 in
theorem w_c7 : (Jvm.Cond.code ({ cls := "java/lang/StringUTF16", name := "coderFromArrayLen", desc := "([BI)B" } : Jvm.MethodName) jdk_52_method_15_code (2 : Nat) (Option.some Jvm.ClassFile.FieldType.byte)).before args0 about1 = true := code_word (m := ⟨8, 1⟩) (meth := k8m1) (c := k8c1) (by decide +kernel) rfl rfl rfl (by decide +kernel)
set_option maxRecDepth 65536 in
theorem w_c8 : (Jvm.Cond.code ({ cls := "com/example/slicewright/slicewright/slicing/Occurrence", name := "elementName", desc := "(Ljava/lang/String;)Ljava/lang/String;" } : Jvm.MethodName) prog_32_method_3_code (1 : Nat) (Option.some (Jvm.ClassFile.FieldType.object "java/lang/String"))).before args0 about1 = true := code_word (m := ⟨10, 0⟩) (meth := k10m0) (c := k10c0) (by decide +kernel) rfl rfl rfl (by decide +kernel)
set_option maxRecDepth 65536 in
theorem w_c9 : (Jvm.Cond.code ({ cls := "java/lang/String", name := "startsWith", desc := "(Ljava/lang/String;)Z" } : Jvm.MethodName) jdk_42_method_76_code (2 : Nat) (Option.some Jvm.ClassFile.FieldType.boolean)).before args0 about1 = true := code_word (m := ⟨7, 5⟩) (meth := k7m5) (c := k7c5) (by decide +kernel) rfl rfl rfl (by decide +kernel)
set_option maxRecDepth 65536 in
theorem w_c10 : (Jvm.Cond.code ({ cls := "java/lang/String", name := "startsWith", desc := "(Ljava/lang/String;I)Z" } : Jvm.MethodName) jdk_42_method_75_code (8 : Nat) (Option.some Jvm.ClassFile.FieldType.boolean)).before args0 about1 = true := code_word (m := ⟨7, 4⟩) (meth := k7m4) (c := k7c4) (by decide +kernel) rfl rfl rfl (by decide +kernel)
set_option maxRecDepth 65536 in
theorem w_c11 : (Jvm.Cond.code ({ cls := "java/lang/String", name := "length", desc := "()I" } : Jvm.MethodName) jdk_42_method_54_code (1 : Nat) (Option.some Jvm.ClassFile.FieldType.int)).before args0 about1 = true := code_word (m := ⟨7, 2⟩) (meth := k7m2) (c := k7c2) (by decide +kernel) rfl rfl rfl (by decide +kernel)
set_option maxRecDepth 65536 in
theorem w_c12 : (Jvm.Cond.code ({ cls := "java/lang/String", name := "coder", desc := "()B" } : Jvm.MethodName) jdk_42_method_152_code (1 : Nat) (Option.some Jvm.ClassFile.FieldType.byte)).before args0 about1 = true := code_word (m := ⟨7, 10⟩) (meth := k7m10) (c := k7c10) (by decide +kernel) rfl rfl rfl (by decide +kernel)
set_option maxRecDepth 65536 in
theorem w_c13 : (Jvm.Cond.code ({ cls := "jdk/internal/util/ArraysSupport", name := "mismatch", desc := "([BI[BII)I" } : Jvm.MethodName) jdk_48_method_14_code (8 : Nat) (Option.some Jvm.ClassFile.FieldType.int)).before args0 about1 = true := code_word (m := ⟨11, 1⟩) (meth := k11m1) (c := k11c1) (by decide +kernel) rfl rfl rfl (by decide +kernel)
set_option maxRecDepth 65536 in
theorem w_c14 : (Jvm.Cond.code ({ cls := "java/lang/String", name := "equals", desc := "(Ljava/lang/Object;)Z" } : Jvm.MethodName) jdk_42_method_66_code (3 : Nat) (Option.some Jvm.ClassFile.FieldType.boolean)).before args0 about1 = true := code_word (m := ⟨7, 3⟩) (meth := k7m3) (c := k7c3) (by decide +kernel) rfl rfl rfl (by decide +kernel)
set_option maxRecDepth 65536 in
theorem w_c15 : (Jvm.Cond.code ({ cls := "java/lang/StringLatin1", name := "equals", desc := "([B[B)Z" } : Jvm.MethodName) jdk_43_method_13_code (3 : Nat) (Option.some Jvm.ClassFile.FieldType.boolean)).before args0 about1 = true := code_word (m := ⟨12, 1⟩) (meth := k12m1) (c := k12c1) (by decide +kernel) rfl rfl rfl (by decide +kernel)
set_option maxRecDepth 65536 in
theorem w_c16 : (Jvm.Cond.code ({ cls := "java/lang/String", name := "substring", desc := "(I)Ljava/lang/String;" } : Jvm.MethodName) jdk_42_method_91_code (2 : Nat) (Option.some (Jvm.ClassFile.FieldType.object "java/lang/String"))).before args0 about1 = true := code_word (m := ⟨7, 6⟩) (meth := k7m6) (c := k7c6) (by decide +kernel) rfl rfl rfl (by decide +kernel)
set_option maxRecDepth 65536 in
theorem w_c17 : (Jvm.Cond.code ({ cls := "java/lang/String", name := "substring", desc := "(II)Ljava/lang/String;" } : Jvm.MethodName) jdk_42_method_92_code (5 : Nat) (Option.some (Jvm.ClassFile.FieldType.object "java/lang/String"))).before args0 about1 = true := code_word (m := ⟨7, 7⟩) (meth := k7m7) (c := k7c7) (by decide +kernel) rfl rfl rfl (by decide +kernel)
set_option maxRecDepth 65536 in
theorem w_c18 : (Jvm.Cond.code ({ cls := "java/lang/String", name := "checkBoundsBeginEnd", desc := "(III)V" } : Jvm.MethodName) jdk_42_method_158_code (3 : Nat) (Option.none : Option Jvm.ClassFile.FieldType)).before args0 about1 = true := code_word (m := ⟨7, 12⟩) (meth := k7m12) (c := k7c12) (by decide +kernel) rfl rfl rfl (by decide +kernel)
set_option maxRecDepth 65536 in
theorem w_c19 : (Jvm.Cond.code ({ cls := "jdk/internal/util/Preconditions", name := "checkFromToIndex", desc := "(IIILjava/util/function/BiFunction;)I" } : Jvm.MethodName) jdk_41_method_12_code (4 : Nat) (Option.some Jvm.ClassFile.FieldType.int)).before args0 about1 = true := code_word (m := ⟨13, 1⟩) (meth := k13m1) (c := k13c1) (by decide +kernel) rfl rfl rfl (by decide +kernel)
set_option maxRecDepth 65536 in
theorem w_c20 : (Jvm.Cond.code ({ cls := "java/lang/String", name := "isLatin1", desc := "()Z" } : Jvm.MethodName) jdk_42_method_154_code (1 : Nat) (Option.some Jvm.ClassFile.FieldType.boolean)).before args0 about1 = true := code_word (m := ⟨7, 11⟩) (meth := k7m11) (c := k7c11) (by decide +kernel) rfl rfl rfl (by decide +kernel)
set_option maxRecDepth 65536 in
theorem w_c21 : (Jvm.Cond.code ({ cls := "java/lang/StringLatin1", name := "newString", desc := "([BII)Ljava/lang/String;" } : Jvm.MethodName) jdk_43_method_47_code (3 : Nat) (Option.some (Jvm.ClassFile.FieldType.object "java/lang/String"))).before args0 about1 = true := code_word (m := ⟨12, 2⟩) (meth := k12m2) (c := k12c2) (by decide +kernel) rfl rfl rfl (by decide +kernel)
set_option maxRecDepth 65536 in
theorem w_c22 : (Jvm.Cond.code ({ cls := "java/util/Arrays", name := "copyOfRange", desc := "([BII)[B" } : Jvm.MethodName) jdk_65_method_132_code (3 : Nat) (Option.some (Jvm.ClassFile.FieldType.array Jvm.ClassFile.FieldType.byte))).before args0 about1 = true := code_word (m := ⟨14, 2⟩) (meth := k14m2) (c := k14c2) (by decide +kernel) rfl rfl rfl (by decide +kernel)
set_option maxRecDepth 65536 in
theorem w_c23 : (Jvm.Cond.code ({ cls := "java/util/Arrays", name := "copyOfRangeByte", desc := "([BII)[B" } : Jvm.MethodName) jdk_65_method_133_code (5 : Nat) (Option.some (Jvm.ClassFile.FieldType.array Jvm.ClassFile.FieldType.byte))).before args0 about1 = true := code_word (m := ⟨14, 3⟩) (meth := k14m3) (c := k14c3) (by decide +kernel) rfl rfl rfl (by decide +kernel)
set_option maxRecDepth 65536 in
theorem w_c24 : (Jvm.Cond.code ({ cls := "java/util/Arrays", name := "checkLength", desc := "(II)V" } : Jvm.MethodName) jdk_65_method_131_code (2 : Nat) (Option.none : Option Jvm.ClassFile.FieldType)).before args0 about1 = true := code_word (m := ⟨14, 1⟩) (meth := k14m1) (c := k14c1) (by decide +kernel) rfl rfl rfl (by decide +kernel)
set_option maxRecDepth 65536 in
theorem w_c25 : (Jvm.Cond.code ({ cls := "java/lang/Math", name := "min", desc := "(II)I" } : Jvm.MethodName) jdk_29_method_69_code (2 : Nat) (Option.some Jvm.ClassFile.FieldType.int)).before args0 about1 = true := code_word (m := ⟨15, 1⟩) (meth := k15m1) (c := k15c1) (by decide +kernel) rfl rfl rfl (by decide +kernel)
set_option maxRecDepth 65536 in
theorem w_c26 : (Jvm.Cond.code ({ cls := "java/lang/String", name := "<init>", desc := "([BB)V" } : Jvm.MethodName) jdk_42_method_151_code (3 : Nat) (Option.none : Option Jvm.ClassFile.FieldType)).before args0 about1 = true := code_word (m := ⟨7, 9⟩) (meth := k7m9) (c := k7c9) (by decide +kernel) rfl rfl rfl (by decide +kernel)
def codes1 : List Jvm.Cond := [Jvm.Cond.code x code maxLocals ret, Jvm.Cond.code ({ cls := "com/example/slicewright/slicewright/slicing/OccurrenceElementNamePinLaw", name := "make", desc := "(ICCC)Ljava/lang/String;" } : Jvm.MethodName) method_3_code (4 : Nat) (Option.some (Jvm.ClassFile.FieldType.object "java/lang/String")), Jvm.Cond.code ({ cls := "java/lang/String", name := "<init>", desc := "([C)V" } : Jvm.MethodName) jdk_42_method_3_code (2 : Nat) (Option.none : Option Jvm.ClassFile.FieldType), Jvm.Cond.code ({ cls := "java/lang/String", name := "<init>", desc := "([CIILjava/lang/Void;)V" } : Jvm.MethodName) jdk_42_method_149_code (6 : Nat) (Option.none : Option Jvm.ClassFile.FieldType), Jvm.Cond.code ({ cls := "java/lang/Object", name := "<init>", desc := "()V" } : Jvm.MethodName) object_method_1_code (1 : Nat) (Option.none : Option Jvm.ClassFile.FieldType), Jvm.Cond.code ({ cls := "java/lang/StringUTF16", name := "compress", desc := "([CII)[B" } : Jvm.MethodName) jdk_52_method_16_code (6 : Nat) (Option.some (Jvm.ClassFile.FieldType.array Jvm.ClassFile.FieldType.byte)), Jvm.Cond.code ({ cls := "java/lang/StringUTF16", name := "compress", desc := "([CI[BII)I" } : Jvm.MethodName) jdk_52_method_21_code (7 : Nat) (Option.some Jvm.ClassFile.FieldType.int), Jvm.Cond.code ({ cls := "java/lang/StringUTF16", name := "coderFromArrayLen", desc := "([BI)B" } : Jvm.MethodName) jdk_52_method_15_code (2 : Nat) (Option.some Jvm.ClassFile.FieldType.byte), Jvm.Cond.code ({ cls := "com/example/slicewright/slicewright/slicing/Occurrence", name := "elementName", desc := "(Ljava/lang/String;)Ljava/lang/String;" } : Jvm.MethodName) prog_32_method_3_code (1 : Nat) (Option.some (Jvm.ClassFile.FieldType.object "java/lang/String")), Jvm.Cond.code ({ cls := "java/lang/String", name := "startsWith", desc := "(Ljava/lang/String;)Z" } : Jvm.MethodName) jdk_42_method_76_code (2 : Nat) (Option.some Jvm.ClassFile.FieldType.boolean), Jvm.Cond.code ({ cls := "java/lang/String", name := "startsWith", desc := "(Ljava/lang/String;I)Z" } : Jvm.MethodName) jdk_42_method_75_code (8 : Nat) (Option.some Jvm.ClassFile.FieldType.boolean), Jvm.Cond.code ({ cls := "java/lang/String", name := "length", desc := "()I" } : Jvm.MethodName) jdk_42_method_54_code (1 : Nat) (Option.some Jvm.ClassFile.FieldType.int), Jvm.Cond.code ({ cls := "java/lang/String", name := "coder", desc := "()B" } : Jvm.MethodName) jdk_42_method_152_code (1 : Nat) (Option.some Jvm.ClassFile.FieldType.byte), Jvm.Cond.code ({ cls := "jdk/internal/util/ArraysSupport", name := "mismatch", desc := "([BI[BII)I" } : Jvm.MethodName) jdk_48_method_14_code (8 : Nat) (Option.some Jvm.ClassFile.FieldType.int), Jvm.Cond.code ({ cls := "java/lang/String", name := "equals", desc := "(Ljava/lang/Object;)Z" } : Jvm.MethodName) jdk_42_method_66_code (3 : Nat) (Option.some Jvm.ClassFile.FieldType.boolean), Jvm.Cond.code ({ cls := "java/lang/StringLatin1", name := "equals", desc := "([B[B)Z" } : Jvm.MethodName) jdk_43_method_13_code (3 : Nat) (Option.some Jvm.ClassFile.FieldType.boolean), Jvm.Cond.code ({ cls := "java/lang/String", name := "substring", desc := "(I)Ljava/lang/String;" } : Jvm.MethodName) jdk_42_method_91_code (2 : Nat) (Option.some (Jvm.ClassFile.FieldType.object "java/lang/String")), Jvm.Cond.code ({ cls := "java/lang/String", name := "substring", desc := "(II)Ljava/lang/String;" } : Jvm.MethodName) jdk_42_method_92_code (5 : Nat) (Option.some (Jvm.ClassFile.FieldType.object "java/lang/String")), Jvm.Cond.code ({ cls := "java/lang/String", name := "checkBoundsBeginEnd", desc := "(III)V" } : Jvm.MethodName) jdk_42_method_158_code (3 : Nat) (Option.none : Option Jvm.ClassFile.FieldType), Jvm.Cond.code ({ cls := "jdk/internal/util/Preconditions", name := "checkFromToIndex", desc := "(IIILjava/util/function/BiFunction;)I" } : Jvm.MethodName) jdk_41_method_12_code (4 : Nat) (Option.some Jvm.ClassFile.FieldType.int), Jvm.Cond.code ({ cls := "java/lang/String", name := "isLatin1", desc := "()Z" } : Jvm.MethodName) jdk_42_method_154_code (1 : Nat) (Option.some Jvm.ClassFile.FieldType.boolean), Jvm.Cond.code ({ cls := "java/lang/StringLatin1", name := "newString", desc := "([BII)Ljava/lang/String;" } : Jvm.MethodName) jdk_43_method_47_code (3 : Nat) (Option.some (Jvm.ClassFile.FieldType.object "java/lang/String")), Jvm.Cond.code ({ cls := "java/util/Arrays", name := "copyOfRange", desc := "([BII)[B" } : Jvm.MethodName) jdk_65_method_132_code (3 : Nat) (Option.some (Jvm.ClassFile.FieldType.array Jvm.ClassFile.FieldType.byte)), Jvm.Cond.code ({ cls := "java/util/Arrays", name := "copyOfRangeByte", desc := "([BII)[B" } : Jvm.MethodName) jdk_65_method_133_code (5 : Nat) (Option.some (Jvm.ClassFile.FieldType.array Jvm.ClassFile.FieldType.byte)), Jvm.Cond.code ({ cls := "java/util/Arrays", name := "checkLength", desc := "(II)V" } : Jvm.MethodName) jdk_65_method_131_code (2 : Nat) (Option.none : Option Jvm.ClassFile.FieldType), Jvm.Cond.code ({ cls := "java/lang/Math", name := "min", desc := "(II)I" } : Jvm.MethodName) jdk_29_method_69_code (2 : Nat) (Option.some Jvm.ClassFile.FieldType.int), Jvm.Cond.code ({ cls := "java/lang/String", name := "<init>", desc := "([BB)V" } : Jvm.MethodName) jdk_42_method_151_code (3 : Nat) (Option.none : Option Jvm.ClassFile.FieldType)]
set_option maxRecDepth 65536 in
theorem codes_eq : words1.filter isCode = codes1 := rfl
theorem w_codes : ∀ c ∈ words1.filter isCode, c.before args0 about1 = true := by
  rw [codes_eq]
  intro c hc
  simp only [codes1, List.mem_cons, List.not_mem_nil, or_false] at hc
  rcases hc with rfl | rfl | rfl | rfl | rfl | rfl | rfl | rfl | rfl | rfl | rfl | rfl | rfl | rfl | rfl | rfl | rfl | rfl | rfl | rfl | rfl | rfl | rfl | rfl | rfl | rfl | rfl
  · exact w_c0
  · exact w_c1
  · exact w_c2
  · exact w_c3
  · exact w_c4
  · exact w_c5
  · exact w_c6
  · exact w_c7
  · exact w_c8
  · exact w_c9
  · exact w_c10
  · exact w_c11
  · exact w_c12
  · exact w_c13
  · exact w_c14
  · exact w_c15
  · exact w_c16
  · exact w_c17
  · exact w_c18
  · exact w_c19
  · exact w_c20
  · exact w_c21
  · exact w_c22
  · exact w_c23
  · exact w_c24
  · exact w_c25
  · exact w_c26
set_option maxRecDepth 65536 in
theorem w_t1 : (words1.take 24).all (fun c => isCode c || c.before args0 about1) = true := by decide +kernel
set_option maxRecDepth 65536 in
theorem w_t2 : ((words1.drop 24).take 24).all (fun c => isCode c || c.before args0 about1) = true := by decide +kernel
set_option maxRecDepth 65536 in
theorem w_t3 : (((words1.drop 24).drop 24).take 24).all (fun c => isCode c || c.before args0 about1) = true := by decide +kernel
set_option maxRecDepth 65536 in
theorem w_t4 : ((((words1.drop 24).drop 24).drop 24).take 24).all (fun c => isCode c || c.before args0 about1) = true := by decide +kernel
set_option maxRecDepth 65536 in
theorem w_t5 : (((((words1.drop 24).drop 24).drop 24).drop 24).take 24).all (fun c => isCode c || c.before args0 about1) = true := by decide +kernel
set_option maxRecDepth 65536 in
theorem w_t6 : (((((words1.drop 24).drop 24).drop 24).drop 24).drop 24).all (fun c => isCode c || c.before args0 about1) = true := by decide +kernel
theorem w_tables : (allAtoms (Jvm.Cond.code x code maxLocals ret :: tables_1)).before args0 about1 = true := by
  rw [allAtoms_all]
  show words1.all (fun c => c.before args0 about1) = true
  refine all_split ?_ w_codes
  rw [← List.take_append_drop 24 words1, List.all_append, w_t1, ← List.take_append_drop 24 (words1.drop 24), List.all_append, w_t2, ← List.take_append_drop 24 ((words1.drop 24).drop 24), List.all_append, w_t3, ← List.take_append_drop 24 (((words1.drop 24).drop 24).drop 24), List.all_append, w_t4, ← List.take_append_drop 24 ((((words1.drop 24).drop 24).drop 24).drop 24), List.all_append, w_t5, w_t6]
  rfl
set_option maxRecDepth 65536 in
theorem w_rest : rest_1_c.before args0 about1 = true := by decide +kernel
set_option maxRecDepth 65536 in
theorem w_case : (Jvm.Cond.and given_1 narrow_1).before args0 about1 = true := by decide +kernel
set_option maxRecDepth 65536 in
theorem w_consts : constsHeld consts_1 about1 := Jvm.Lit.constsHeldB_iff.mp (by decide +kernel)
theorem w_applies : (headSpec (Jvm.Cond.code x code maxLocals ret :: tables_1) room_1).applies x e0.platform about1 = true :=
  (Spec.applies_iff w_frames).mpr ⟨w_running, w_runnable, w_alone, w_named, w_hears, w_ripe, w_room, w_tables⟩
theorem atStart : AtStart classFile x code maxLocals ret World_1 tables_1 room_1 Calls_1 rest_1 Pre_1 launch0 p0 e0 about1 theMethod args0 below0 :=
  ⟨lists_1, trivial, launch0.admits_env _ _ _, launch0.least_env, fairChoices_fair.cas, fairChoices_fair.clock, w_frames, w_args, w_heap, w_applies, ⟨w_consts, trivial⟩, w_rest, w_case⟩
end start1
theorem witness_1 : WitnessClaimed_1 := ⟨start1.p0, start1.e0, start1.about1, start1.theMethod, start1.args0, start1.below0, start1.atStart⟩
end Jvm.Pilot.@@N@@
