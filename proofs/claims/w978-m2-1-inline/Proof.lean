import JvmDerived
import JvmDerived.Pilot.@@N@@Statement
import JvmDerived.Pilot.@@N@@Code
set_option linter.unusedVariables false
set_option linter.unusedSimpArgs false

namespace Jvm.Pilot.@@N@@
open Jvm Jvm.ClassFile Sem Op Lib Jvm.Free Jvm.Stand Jvm.LawKit Jvm.RoadKit Bundle Jvm.Pilot.@@N@@.Jvm.D
/-- the goal of a walk: from S the run ends, and G holds there -/
def Go (p : Program) (e : Env) (below : List Frame) (G : State → Outcome → Prop) (S : State) : Prop :=
  ∃ s₂ o, Steps p.tables e below S s₂ ∧ s₂.status = .running ∧ Ended s₂ below o ∧ G s₂ o
theorem Go.by {p : Program} {e : Env} {below : List Frame} {G : State → Outcome → Prop} {S S' : State} (h : ∀ t, Steps p.tables e below S' t → Steps p.tables e below S t) (k : Go p e below G S') : Go p e below G S := by
  obtain ⟨s₂, o, h1, h2⟩ := k
  exact ⟨s₂, o, h _ h1, h2⟩
/-- a contract: the body called with A at the heap h0 returns, Q holds then -/
abbrev CT (l : Launch) (x : MethodName) (code : ByteArray) (ml : Nat) (ret : Option FieldType) (ws : List Cond) (R : Room) (A : Array Value) (Z : State) (h0 : Heap) (Q : Option Value → Heap → List Loc → Prop) : Prop :=
  MetFree l x (head1 (Cond.code x code ml ret :: ws) R) (fun a U => a = A ∧ Z.Warmed39 U.vm ∧ U.heap = h0) (fun _ _ _ _ _ => True) (fun _ U o U' => ∃ v L, o = .returned v ∧ Q v U'.heap L ∧ FrameEnd U o U' L R.cells R.slots)
/-- what a body's end says -/
def End (Q : Option Value → Heap → List Loc → Prop) (s : State) (cells slots : Nat) (s₂ : State) (o : Outcome) : Prop := ∃ v L, o = .returned v ∧ Q v s₂.heap L ∧ FrameEnd s o s₂ L cells slots
section
variable {p : Program} {l : Launch} {e : Env} {R : Room} {s : State} {m : MethodId} {args : Array Value} {below : List Frame} {meth : Method} {c : Code} {T : State} {locs : List Loc} {cells slots C S : Nat} {Q : Option Value → Heap → List Loc → Prop}
theorem Go.ret1 (X : Stand p l e R s m args below meth c T locs cells slots) (hx : p.tables.exec = Jvm.exec) {pc : Nat} {Ls : Array Slot} {w : Value} {t : FieldType} {i : Instr} {rest : List Value} (hret : meth.sig.returnType = some t) (hlk : meth.locks = false) (hn : narrow t w = w)
    (hi : (i = .ireturn ∧ (t = .int ∨ t = .boolean ∨ t = .byte ∨ t = .char ∨ t = .short) ∧ ∃ z, w = .int z) ∨ (i = .lreturn ∧ t = .long ∧ ∃ z, w = .long z) ∨ (i = .dreturn ∧ t = .double ∧ ∃ z, w = .double z) ∨ (i = .freturn ∧ t = .float ∧ ∃ z, w = .float z) ∨ (i = .areturn ∧ t.isReference = true ∧ w.isRef = true))
    (hd : decode c.code pc = .ok (i, 1)) (hc : cells ≤ C) (hs : slots ≤ S) (hQ : Q (some w) T.heap locs) : Go p e below (End Q s C S) (T.setTop (mkF m pc Ls (w :: rest))) := by
  obtain ⟨fs, hr, hrun, hended, hW, hsame⟩ := X.leave (v := some w) (fun h => by rw [hret] at h; cases h) hlk
  exact ⟨_, _, retOut X hx hret hn hi hd hr, hrun, hended, _, _, rfl, hQ, ⟨_, rfl⟩, hW, hsame.mono hc hs⟩
theorem Go.ret0 (X : Stand p l e R s m args below meth c T locs cells slots) (hx : p.tables.exec = Jvm.exec) {pc : Nat} {Ls : Array Slot} (hret : meth.sig.returnType = none) (hlk : meth.locks = false)
    (hd : decode c.code pc = .ok (.return_, 1)) (hc : cells ≤ C) (hs : slots ≤ S) (hQ : Q none T.heap locs) : Go p e below (End Q s C S) (T.setTop (mkF m pc Ls [])) := by
  obtain ⟨fs, hr, hrun, hended, hW, hsame⟩ := X.leave (v := none) (fun _ => rfl) hlk
  exact ⟨_, _, X.returnOut hx hret hd hr, hrun, hended, _, _, rfl, hQ, ⟨_, rfl⟩, hW, hsame.mono hc hs⟩
theorem Go.start {x : MethodName} {ws : List Cond} {code : ByteArray} {ml : Nat} {ret : Option FieldType} {A : Array Value} {Z : State} {h0 : Heap} (pf : plainFor x = true)
    (body : ∀ p e s m below meth c s₁, BodyLoose p l x (head1 (Cond.code x code ml ret :: ws) R) code ml ret e s m A below meth c s₁ → p.tables.exec = Jvm.exec → c.code = code → c.maxLocals = ml → Z.Warmed39 s.vm → s.vm.findClass x.cls = some m.cls → Stand p l e R s m A below meth c s₁ [] 0 0 → s₁.heap = h0 → Go p e below (End Q s R.cells R.slots) (s₁.setTop (entryFrame m A ml))) :
    CT l x code ml ret ws R A Z h0 Q := by
  refine MetFree.of_bodySF pf hisR ?_
  intro p e s m args below meth c s₁ Bd hml hP hK
  obtain ⟨rfl, hZ, hh⟩ := hP
  exact body p e s m below meth c s₁ Bd Bd.exec Bd.bytes hml hZ (findClass_of_methodNamed Bd.named) (Stand.of_body Bd) (by rw [← hh, Bd.state]; rfl)
theorem Stand.num (X : Stand p l e R s m args below meth c T locs cells slots) (hc : cells = C) (hs : slots = S) : Stand p l e R s m args below meth c T locs C S := by subst hc hs; exact X
theorem Stand.more (X : Stand p l e R s m args below meth c T locs cells slots) (hc : cells ≤ C) (hs : slots ≤ S) : Stand p l e R s m args below meth c T locs C S :=
  { X with same := X.same.mono hc hs }
theorem arv_neT {Z : State} {h : Heap} {a b : Addr} {k1 k2 : ClassId} {t1 t2 : FieldType} {z1 z2 : Int32} {v1 v2 : List Value} {d1 d2 : Value} (A : Arv Z h a k1 t1 z1 v1 d1) (B : Arv Z h b k2 t2 z2 v2 d2) (hne : t1 ≠ t2) : a ≠ b := fun e => by
  subst e
  obtain ⟨c1, ⟨p1, ⟨-, q1, r1, u1, w1⟩, -⟩, -⟩ := A
  obtain ⟨c2, ⟨p2, ⟨-, q2, r2, u2, w2⟩, -⟩, -⟩ := B
  cases p1.symm.trans p2
  cases r1.symm.trans r2
  have := w1.symm.trans w2
  injection this with _ e
  exact hne e
theorem selSelf {s : State} {a1 : Array Value} {y : MethodName} {K : String} (hsel : (Cond.selects K y y).before a1 s = true) (hpriv : s.PrivateAt y) (hinst : (Cond.instanceMethod y).before a1 s = true) (hy : y.cls ≠ "java/lang/invoke/MethodHandle" ∧ y.cls ≠ "java/lang/invoke/VarHandle") : (Cond.selects y.cls y y).before a1 s = true := by
  obtain ⟨c2, r2, m2, -, -, q3, -, kP, hkP, hkPi⟩ := Cond.selects_spec hsel
  exact selects_self_of_private (findClass_of_methodNamed q3) hkP hkPi hpriv hinst hy
theorem faceOf {s : State} {a1 : Array Value} {y z z' : MethodName} {K : String} (hsel : (Cond.selects K z z').before a1 s = true) (hz : z'.cls = y.cls) : NotFace s y := fun r0 h0 => by
  obtain ⟨c2, r2, m2, -, -, q3, -, kP, hkP, hkPi⟩ := Cond.selects_spec hsel
  have h1 := findClass_of_methodNamed h0
  have h2 := findClass_of_methodNamed q3
  rw [hz] at h2
  have e : r0.cls = m2.cls := Option.some.inj (h1.symm.trans h2)
  exact ⟨kP, by rw [e]; exact hkP, hkPi⟩
theorem sameSelf {s : State} {a1 : Array Value} {y z z' : MethodName} {K : String} (hinst : (Cond.instanceMethod y).before a1 s = true) (hsel : (Cond.selects K z z').before a1 s = true) (hz : z'.cls = y.cls) (hy : y.cls ≠ "java/lang/invoke/MethodHandle" ∧ y.cls ≠ "java/lang/invoke/VarHandle") : (Cond.sameMethod y.cls y.cls y.name y.desc).before a1 s = true := by
  obtain ⟨mk, methM, hnamed, hmethM, -, -⟩ := Cond.instanceMethod_spec hinst
  have hfound : s.methodFound? y.cls y.name y.desc = some mk := State.methodFound?_of_named hnamed hy
  obtain ⟨c2, r2, m2, -, -, q3, -, kP, hkP, hkPi⟩ := Cond.selects_spec hsel
  have hc := findClass_of_methodNamed q3
  rw [hz] at hc
  have hn : s.methodNamed? { cls := y.cls, name := y.name, desc := y.desc } = some mk := hnamed
  simp only [Cond.before, Cond.holds, Cond.value, hfound, hn, hc, hkP]
  simp [hkPi]
def DecAll (c : ByteArray) (l : List (Nat × Instr × Nat)) : Prop := ∀ x ∈ l, decode c x.1 = .ok (x.2.1, x.2.2)
theorem dB {c : Code} {b : ByteArray} (h : c.code = b) {l : List (Nat × Instr × Nat)} (H : DecAll b l) (i : Nat) {pc : Nat} {j : Instr} {k : Nat} (hi : l[i]? = some (pc, j, k)) : decode c.code pc = .ok (j, k) := by
  rw [h]; exact H (pc, j, k) (List.mem_of_getElem? hi)
theorem wd {a0 : Array Value} {Z : State} (hw : ∀ d ∈ tables_1, d.before a0 Z = true) (i : Nat) {d : Cond} (h : tables_1[i]? = some d) : d.before a0 Z = true := hw _ (List.mem_of_getElem? h)
theorem cat_ref {r : Value} (h : r.isRef = true) : r.category = 1 := by rcases ref_cases h with rfl | ⟨_, rfl⟩ <;> rfl
theorem fit_ref {C : String} {r : Value} (h : r.isRef = true) : fits (.object C) r = true := by rcases ref_cases h with rfl | ⟨_, rfl⟩ <;> rfl
theorem nar_ref {t : FieldType} {r : Value} (h : r.isRef = true) : narrow t r = r := by cases r <;> cases t <;> simp_all [Value.isRef, narrow]
end
/-- a contract, where constants may be interned -/
abbrev CTW (EL : List (String × Nat)) (l : Launch) (x : MethodName) (code : ByteArray) (ml : Nat) (ret : Option FieldType) (ws : List Cond) (R : Room) (A : Array Value) (Z : State) (h0 : Heap) (Q : Option Value → Heap → List Loc → Prop) : Prop :=
  MetFree l x (head1 (Cond.code x code ml ret :: ws) R) (fun a U => a = A ∧ Z.Warmed39 U.vm ∧ U.heap = h0 ∧ CHv Z EL U.vm h0) (fun _ _ _ _ _ => True) (fun _ U o U' => ∃ v L, o = .returned v ∧ Q v U'.heap L ∧ CHr Z EL U.vm U.heap U'.vm U'.heap ∧ ReturnedEndW U o U' L R.cells R.slots)
/-- what a body's end says, where constants may have been interned -/
def EndW (EL : List (String × Nat)) (Z : State) (Q : Option Value → Heap → List Loc → Prop) (s : State) (cells slots : Nat) (s₂ : State) (o : Outcome) : Prop := ∃ v L, o = .returned v ∧ Q v s₂.heap L ∧ CHr Z EL s.vm s.heap s₂.vm s₂.heap ∧ ReturnedEndW s o s₂ L cells slots
section
variable {p : Program} {l : Launch} {e : Env} {R : Room} {s : State} {m : MethodId} {args : Array Value} {below : List Frame} {meth : Method} {c : Code} {T Z : State} {locs : List Loc} {cells slots C S k0 : Nat} {Q : Option Value → Heap → List Loc → Prop} {EL : List (String × Nat)} {vm0 : Vm} {a0 : Array Value}
theorem Go.ret1W (X : Stand p l e R (s.setVm vm0) m args below meth c T locs cells slots) (hS : s.Since vm0 k0) (hk : k0 ≤ T.heap.size) (CR : CHr Z EL s.vm s.heap vm0 T.heap) (hZ : Z.Warmed39 vm0) (hEL : EW Z a0 EL) (hx : p.tables.exec = Jvm.exec) {pc : Nat} {Ls : Array Slot} {w : Value} {t : FieldType} {i : Instr} {rest : List Value} (hret : meth.sig.returnType = some t) (hlk : meth.locks = false) (hn : narrow t w = w)
    (hi : (i = .ireturn ∧ (t = .int ∨ t = .boolean ∨ t = .byte ∨ t = .char ∨ t = .short) ∧ ∃ z, w = .int z) ∨ (i = .lreturn ∧ t = .long ∧ ∃ z, w = .long z) ∨ (i = .dreturn ∧ t = .double ∧ ∃ z, w = .double z) ∨ (i = .freturn ∧ t = .float ∧ ∃ z, w = .float z) ∨ (i = .areturn ∧ t.isReference = true ∧ w.isRef = true))
    (hd : decode c.code pc = .ok (i, 1)) (hc : cells ≤ C) (hs : slots ≤ S) (hQ : Q (some w) T.heap locs) : Go p e below (EndW EL Z Q s C S) (T.setTop (mkF m pc Ls (w :: rest))) := by
  obtain ⟨fs, hr, hrun, hended, h1, h2, h3, h4⟩ := X.leaveW hS hk (v := some w) (fun h => by rw [hret] at h; cases h) hlk
  have q := CHv.at X hZ hEL CR.1
  exact ⟨_, _, retOut X hx hret hn hi hd hr, hrun, hended, _, _, rfl, hQ, CR.trans q, h1, h2, h3, h4.mono hc hs⟩
theorem Go.startW {x : MethodName} {ws : List Cond} {code : ByteArray} {ml : Nat} {ret : Option FieldType} {A : Array Value} {h0 : Heap} (pf : plainFor x = true)
    (body : ∀ p e s m below meth c s₁, BodyLoose p l x (head1 (Cond.code x code ml ret :: ws) R) code ml ret e s m A below meth c s₁ → p.tables.exec = Jvm.exec → c.code = code → c.maxLocals = ml → Z.Warmed39 s.vm → s.vm.findClass x.cls = some m.cls → Stand p l e R (s.setVm s.vm) m A below meth c s₁ [] 0 0 → s₁.heap = h0 → s.Since s.vm 0 → CHr Z EL s.vm s.heap s.vm h0 → Go p e below (EndW EL Z Q s R.cells R.slots) (s₁.setTop (entryFrame m A ml))) :
    CTW EL l x code ml ret ws R A Z h0 Q := by
  refine MetFree.of_bodySF pf hisR ?_
  intro p e s m args below meth c s₁ Bd hml hP hK
  obtain ⟨rfl, hZ, hh, CH0⟩ := hP
  exact body p e s m below meth c s₁ Bd Bd.exec Bd.bytes hml hZ (findClass_of_methodNamed Bd.named) (Stand.of_body Bd) (by rw [← hh, Bd.state]; rfl) ((State.WarmedH.refl s).since 0) (by rw [hh]; exact CHr.refl CH0)
theorem Go.ret0W (X : Stand p l e R (s.setVm vm0) m args below meth c T locs cells slots) (hS : s.Since vm0 k0) (hk : k0 ≤ T.heap.size) (CR : CHr Z EL s.vm s.heap vm0 T.heap) (hZ : Z.Warmed39 vm0) (hEL : EW Z a0 EL) (hx : p.tables.exec = Jvm.exec) {pc : Nat} {Ls : Array Slot} (hret : meth.sig.returnType = none) (hlk : meth.locks = false)
    (hd : decode c.code pc = .ok (.return_, 1)) (hc : cells ≤ C) (hs : slots ≤ S) (hQ : Q none T.heap locs) : Go p e below (EndW EL Z Q s C S) (T.setTop (mkF m pc Ls [])) := by
  obtain ⟨fs, hr, hrun, hended, h1, h2, h3, h4⟩ := X.leaveW hS hk (v := none) (fun _ => rfl) hlk
  have q := CHv.at X hZ hEL CR.1
  exact ⟨_, _, X.returnOut hx hret hd hr, hrun, hended, _, _, rfl, hQ, CR.trans q, h1, h2, h3, h4.mono hc hs⟩
end
theorem and255_chars (x : Int32) : ¬ nar .char ((x &&& (255 : Int32)).toUInt32.toUInt16.toUInt32.toInt32) < 0 ∧ ¬ (255 : Int32) < nar .char ((x &&& (255 : Int32)).toUInt32.toUInt16.toUInt32.toInt32) := by
  have t : ∀ k : Fin 256, ¬ nar .char ((Int32.ofNat k.val).toUInt32.toUInt16.toUInt32.toInt32) < 0 ∧ ¬ (255 : Int32) < nar .char ((Int32.ofNat k.val).toUInt32.toUInt16.toUInt32.toInt32) := by decide +kernel
  have h : (x &&& 255).toBitVec.toNat < 256 := by
    simp only [Int32.toBitVec_and, BitVec.toNat_and]
    exact Nat.lt_succ_of_le Nat.and_le_right
  have e : (x &&& 255) = Int32.ofNat (x &&& 255).toBitVec.toNat := by
    apply Int32.toBitVec_inj.mp
    show _ = BitVec.ofNat 32 _
    rw [BitVec.ofNat_toNat]; simp
  rw [e]
  exact t ⟨_, h⟩
theorem up (cs : List Int32) (h : ∀ c ∈ cs, ¬ c < 0 ∧ ¬ (255 : Int32) < c) : ∀ c ∈ cs, ¬ c < 0 ∧ ¬ (65535 : Int32) < c := fun c hc => ⟨(h c hc).1, fun q => (h c hc).2 (by rw [Int32.lt_iff_toInt_lt] at q ⊢; have e1 : (65535 : Int32).toInt = 65535 := rfl; have e2 : (255 : Int32).toInt = 255 := rfl; omega)⟩
theorem all1 {P : Int32 → Prop} {x : Int32} (h : P x) : ∀ c ∈ [x], P c := fun c hc => by cases List.mem_singleton.mp hc; exact h
theorem allC {P : Int32 → Prop} {x : Int32} {L : List Int32} (h : P x) (r : ∀ c ∈ L, P c) : ∀ c ∈ x :: L, P c := fun c hc => (List.mem_cons.mp hc).elim (fun u => u ▸ h) (r c)
theorem allN {P : Int32 → Prop} : ∀ c ∈ ([] : List Int32), P c := fun _ q => nomatch q
theorem Safe.null {Z : State} {EL : List (String × Nat)} {vm : Vm} {h : Heap} {x : Addr} (hal : Z.vm.Alike vm) (E : Exa Z h x "java/lang/String") (F : Fld Z h x "java/lang/String" "value" "[B" .null) {a0 : Array Value} (wi : (Jvm.Cond.instantiable "java/lang/String" 4).before a0 Z = true) : Safe Z EL vm h x := fun B => by
  obtain ⟨p, -, u, a, -, q, -, G, rfl | rfl⟩ := B
  · obtain ⟨cS, ⟨⟨e1, -, -, ⟨c1, k1, i1, f1, -⟩, -, -, -, v1, -⟩, -⟩, -⟩ := G
    obtain ⟨cell, cf, k, i, f, h1, h2, -, -, -, -, h7⟩ := F
    cases (show h[q.sa]? = some q.sC from e1).symm.trans h1
    obtain ⟨k3, e3, -⟩ := State.fieldFound?_setVm (s := Z) hal h2
    have e4 := (show (Wst Z vm h).fieldFound? _ _ _ = _ from e3).symm.trans f1
    simp only [Option.some.injEq, Prod.mk.injEq] at e4
    rw [← e4.2.2.2, h7] at v1
    cases v1
  · have hd := G.hd
    obtain ⟨cS, ⟨⟨-, -, -, -, -, -, -, -, -, -, ⟨-, kB, hkB, compB, hkindB⟩, -⟩, -, -⟩, -⟩ := G
    obtain ⟨cell, k, e1, e2, e3, -⟩ := E
    cases (show h[q.sd]? = some q.SA from hd).symm.trans e1
    obtain ⟨c2, k2, i1, i2, i3, -⟩ := Cond.instantiable_spec wi
    cases e2.symm.trans i1
    obtain ⟨k4, q1, q2⟩ := hal.2.2 _ _ i2
    cases (show vm.classes[q.SA.cls]? = some kB from hkB).symm.trans q1
    rw [q2] at hkindB
    have := hkindB.symm.trans i3
    cases this
def EL : List (String × Nat) := [("java/lang/String", 7)]
theorem ew_of {Z : State} {a0 : Array Value} (hw : ∀ d ∈ tables_1, d.before a0 Z = true) : EW Z a0 EL := (EW.cons (wd hw 203 rfl) (by decide) EW.nil)
theorem ws_of {Z : State} {a0 : Array Value} (hw : ∀ d ∈ tables_1, d.before a0 Z = true) : ∀ a ∈ Bundle.stringAtoms, a.before a0 Z = true := fun d hd => hw d ((by decide +kernel : ∀ d ∈ Bundle.stringAtoms, d ∈ tables_1) d hd)
theorem pn_0 : plainName "com/example/harvest_rules/harvestrules/registry/SecretReferenceToStringPinLaw" = true := by first | (simp [plainName, overriddenIn]; done) | decide +kernel
theorem pd_0 : parseMethodDescriptor "(ICCC)Ljava/lang/String;" = some ⟨[.int, .char, .char, .char], some (.object "java/lang/String")⟩ := by decide +kernel
theorem pd_1 : parseMethodDescriptor "(Lcom/example/harvest_rules/harvestrules/registry/SecretReference$Kind;Ljava/lang/String;)V" = some ⟨[(.object "com/example/harvest_rules/harvestrules/registry/SecretReference$Kind"), (.object "java/lang/String")], none⟩ := by decide +kernel
theorem pd_2 : parseMethodDescriptor "()Ljava/lang/String;" = some ⟨[], some (.object "java/lang/String")⟩ := by decide +kernel
theorem pd_3 : parseMethodDescriptor "()I" = some ⟨[], some .int⟩ := by decide +kernel
theorem pd_4 : parseMethodDescriptor "(Ljava/lang/String;[CII)Z" = some ⟨[(.object "java/lang/String"), (.array .char), .int, .int], some .boolean⟩ := by decide +kernel
theorem D1 : DecAll method_2_code [(0, .iload_n 0, 1), (1, .ifCond .ne 14, 3), (4, .new 7, 3), (7, .dup, 1), (8, .iconst 0, 1), (9, .newarray .char, 2), (11, .invokespecial 9, 3), (14, .areturn, 1), (15, .iload_n 0, 1), (16, .iconst 1, 1), (17, .if_icmp .ne 18, 3), (20, .new 7, 3), (23, .dup, 1), (24, .iconst 1, 1), (25, .newarray .char, 2), (27, .dup, 1), (28, .iconst 0, 1), (29, .iload_n 1, 1), (30, .castore, 1), (31, .invokespecial 9, 3), (34, .areturn, 1), (35, .iload_n 0, 1), (36, .iconst 2, 1), (37, .if_icmp .ne 22, 3), (40, .new 7, 3), (43, .dup, 1), (44, .iconst 2, 1), (45, .newarray .char, 2), (47, .dup, 1), (48, .iconst 0, 1), (49, .iload_n 1, 1), (50, .castore, 1), (51, .dup, 1), (52, .iconst 1, 1), (53, .iload_n 2, 1), (54, .castore, 1), (55, .invokespecial 9, 3), (58, .areturn, 1), (59, .new 7, 3), (62, .dup, 1), (63, .iconst 3, 1), (64, .newarray .char, 2), (66, .dup, 1), (67, .iconst 0, 1), (68, .iload_n 1, 1), (69, .castore, 1), (70, .dup, 1), (71, .iconst 1, 1), (72, .iload_n 2, 1), (73, .castore, 1), (74, .dup, 1), (75, .iconst 2, 1), (76, .iload_n 3, 1), (77, .castore, 1), (78, .invokespecial 9, 3), (81, .areturn, 1)] := by unfold DecAll; decide +kernel
theorem pd_5 : parseMethodDescriptor "([C)V" = some ⟨[(.array .char)], none⟩ := by decide +kernel
theorem D2 : DecAll jdk_42_method_3_code [(0, .aload_n 0, 1), (1, .aload_n 1, 1), (2, .iconst 0, 1), (3, .aload_n 1, 1), (4, .arraylength, 1), (5, .aconst_null, 1), (6, .invokespecial 27, 3), (9, .return_, 1)] := by unfold DecAll; decide +kernel
theorem pn_1 : plainName "java/lang/String" = true := by first | (simp [plainName, overriddenIn]; done) | decide +kernel
theorem pd_6 : parseMethodDescriptor "([CIILjava/lang/Void;)V" = some ⟨[(.array .char), .int, .int, (.object "java/lang/Void")], none⟩ := by decide +kernel
theorem D3 : DecAll jdk_42_method_149_code [(0, .aload_n 0, 1), (1, .invokespecial 1, 3), (4, .iload_n 3, 1), (5, .ifCond .ne 22, 3), (8, .aload_n 0, 1), (9, .ldc 7, 2), (11, .getfield 9, 3), (14, .putfield 9, 3), (17, .aload_n 0, 1), (18, .ldc 7, 2), (20, .getfield 15, 3), (23, .putfield 15, 3), (26, .return_, 1), (27, .getstatic 38, 3), (30, .ifCond .eq 28, 3), (33, .aload_n 1, 1), (34, .iload_n 2, 1), (35, .iload_n 3, 1), (36, .invokestatic 177, 3), (39, .astore 5, 2), (41, .aload_n 0, 1), (42, .aload 5, 2), (44, .iload_n 3, 1), (45, .invokestatic 47, 3), (48, .putfield 15, 3), (51, .aload_n 0, 1), (52, .aload 5, 2), (54, .putfield 9, 3), (57, .return_, 1), (58, .aload_n 0, 1), (59, .iconst 1, 1), (60, .putfield 15, 3), (63, .aload_n 0, 1), (64, .aload_n 1, 1), (65, .iload_n 2, 1), (66, .iload_n 3, 1), (67, .invokestatic 180, 3), (70, .putfield 9, 3), (73, .return_, 1)] := by unfold DecAll; decide +kernel
theorem pd_7 : parseMethodDescriptor "()V" = some ⟨[], none⟩ := by decide +kernel
theorem pd_8 : parseMethodDescriptor "([CII)[B" = some ⟨[(.array .char), .int, .int], some (.array .byte)⟩ := by decide +kernel
theorem pd_9 : parseMethodDescriptor "([BI)B" = some ⟨[(.array .byte), .int], some .byte⟩ := by decide +kernel
theorem D5 : DecAll jdk_52_method_16_code [(0, .iload_n 2, 1), (1, .newarray .byte, 2), (3, .astore_n 3, 1), (4, .aload_n 0, 1), (5, .iload_n 1, 1), (6, .aload_n 3, 1), (7, .iconst 0, 1), (8, .iload_n 2, 1), (9, .invokestatic 115, 3), (12, .istore 4, 2), (14, .iload 4, 2), (16, .iload_n 2, 1), (17, .if_icmp .eq 40, 3), (20, .aload_n 0, 1), (21, .iload_n 1, 1), (22, .iload_n 2, 1), (23, .invokestatic 119, 3), (26, .astore 5, 2), (28, .aload 5, 2), (30, .iload 4, 2), (32, .invokestatic 71, 3), (35, .sipush 255, 3), (38, .if_icmp .gt 16, 3), (41, .aload 5, 2), (43, .iconst 0, 1), (44, .aload_n 3, 1), (45, .iconst 0, 1), (46, .iload_n 2, 1), (47, .invokestatic 123, 3), (50, .iload_n 2, 1), (51, .if_icmp .eq 6, 3), (54, .aload 5, 2), (56, .areturn, 1), (57, .aload_n 3, 1), (58, .areturn, 1)] := by unfold DecAll; decide +kernel
theorem pn_2 : plainName "java/lang/StringUTF16" = true := by first | (simp [plainName, overriddenIn]; done) | decide +kernel
theorem pd_10 : parseMethodDescriptor "([CI[BII)I" = some ⟨[(.array .char), .int, (.array .byte), .int, .int], some .int⟩ := by decide +kernel
theorem pd_11 : parseMethodDescriptor "([BI)C" = some ⟨[(.array .byte), .int], some .char⟩ := by decide +kernel
theorem D6 : DecAll jdk_52_method_21_code [(0, .iconst 0, 1), (1, .istore 5, 2), (3, .iload 5, 2), (5, .iload 4, 2), (7, .if_icmp .ge 37, 3), (10, .aload_n 0, 1), (11, .iload_n 1, 1), (12, .caload, 1), (13, .istore 6, 2), (15, .iload 6, 2), (17, .sipush 255, 3), (20, .if_icmp .le 6, 3), (23, .iload 5, 2), (25, .ireturn, 1), (26, .aload_n 2, 1), (27, .iload_n 3, 1), (28, .iload 6, 2), (30, .i2b, 1), (31, .bastore, 1), (32, .iinc 1 1, 3), (35, .iinc 3 1, 3), (38, .iinc 5 1, 3), (41, .goto (-38), 3), (44, .iload 4, 2), (46, .ireturn, 1)] := by unfold DecAll; decide +kernel
theorem D7 : DecAll jdk_52_method_15_code [(0, .iload_n 1, 1), (1, .aload_n 0, 1), (2, .arraylength, 1), (3, .isub, 1), (4, .bipush 31, 2), (6, .iushr, 1), (7, .i2b, 1), (8, .ireturn, 1)] := by unfold DecAll; decide +kernel
theorem D8 : DecAll prog_52_method_1_code [(0, .aload_n 0, 1), (1, .invokespecial 1, 3), (4, .aload_n 0, 1), (5, .aload_n 1, 1), (6, .putfield 7, 3), (9, .aload_n 0, 1), (10, .aload_n 2, 1), (11, .putfield 13, 3), (14, .return_, 1)] := by unfold DecAll; decide +kernel
theorem pn_3 : plainName "com/example/harvest_rules/harvestrules/registry/SecretReference" = true := by first | (simp [plainName, overriddenIn]; done) | decide +kernel
theorem D9 : DecAll jdk_30_method_1_code [(0, .aload_n 0, 1), (1, .invokespecial 1, 3), (4, .return_, 1)] := by unfold DecAll; decide +kernel
theorem pn_4 : plainName "java/lang/Record" = true := by first | (simp [plainName, overriddenIn]; done) | decide +kernel
theorem D10 : DecAll prog_52_method_4_code [(0, .new 52, 3), (3, .dup, 1), (4, .invokespecial 54, 3), (7, .aload_n 0, 1), (8, .getfield 7, 3), (11, .invokevirtual 94, 3), (14, .invokevirtual 57, 3), (17, .aload_n 0, 1), (18, .getfield 13, 3), (21, .invokevirtual 57, 3), (24, .invokevirtual 63, 3), (27, .areturn, 1)] := by unfold DecAll; decide +kernel
theorem pd_12 : parseMethodDescriptor "(Ljava/lang/String;)Ljava/lang/StringBuilder;" = some ⟨[(.object "java/lang/String")], some (.object "java/lang/StringBuilder")⟩ := by decide +kernel
theorem D11 : DecAll jdk_67_method_1_code [(0, .aload_n 0, 1), (1, .bipush 16, 2), (3, .invokespecial 1, 3), (6, .return_, 1)] := by unfold DecAll; decide +kernel
theorem pn_5 : plainName "java/lang/StringBuilder" = true := by first | (simp [plainName, overriddenIn]; done) | decide +kernel
theorem pd_13 : parseMethodDescriptor "(I)V" = some ⟨[.int], none⟩ := by decide +kernel
theorem D12 : DecAll jdk_68_method_2_code [(0, .aload_n 0, 1), (1, .invokespecial 3, 3), (4, .getstatic 18, 3), (7, .ifCond .eq 18, 3), (10, .aload_n 0, 1), (11, .iload_n 1, 1), (12, .newarray .byte, 2), (14, .putfield 15, 3), (17, .aload_n 0, 1), (18, .iconst 0, 1), (19, .putfield 22, 3), (22, .goto 16, 3), (25, .aload_n 0, 1), (26, .iload_n 1, 1), (27, .invokestatic 26, 3), (30, .putfield 15, 3), (33, .aload_n 0, 1), (34, .iconst 1, 1), (35, .putfield 22, 3), (38, .return_, 1)] := by unfold DecAll; decide +kernel
theorem pn_6 : plainName "java/lang/AbstractStringBuilder" = true := by first | (simp [plainName, overriddenIn]; done) | decide +kernel
theorem pd_14 : parseMethodDescriptor "(I)[B" = some ⟨[.int], some (.array .byte)⟩ := by decide +kernel
theorem D13 : DecAll prog_53_method_4_code [(0, .aload_n 0, 1), (1, .getfield 29, 3), (4, .areturn, 1)] := by unfold DecAll; decide +kernel
theorem pn_7 : plainName "com/example/harvest_rules/harvestrules/registry/SecretReference$Kind" = true := by first | (simp [plainName, overriddenIn]; done) | decide +kernel
theorem D14 : DecAll jdk_67_method_7_code [(0, .aload_n 0, 1), (1, .aload_n 1, 1), (2, .invokespecial 29, 3), (5, .pop, 1), (6, .aload_n 0, 1), (7, .areturn, 1)] := by unfold DecAll; decide +kernel
theorem pd_15 : parseMethodDescriptor "(Ljava/lang/String;)Ljava/lang/AbstractStringBuilder;" = some ⟨[(.object "java/lang/String")], some (.object "java/lang/AbstractStringBuilder")⟩ := by decide +kernel
theorem D15 : DecAll jdk_68_method_22_code [(0, .aload_n 1, 1), (1, .ifnonnull 8, 3), (4, .aload_n 0, 1), (5, .invokevirtual 204, 3), (8, .areturn, 1), (9, .aload_n 1, 1), (10, .invokevirtual 32, 3), (13, .istore_n 2, 1), (14, .aload_n 0, 1), (15, .aload_n 0, 1), (16, .getfield 79, 3), (19, .iload_n 2, 1), (20, .iadd, 1), (21, .invokevirtual 100, 3), (24, .aload_n 0, 1), (25, .aload_n 0, 1), (26, .getfield 79, 3), (29, .aload_n 1, 1), (30, .invokevirtual 208, 3), (33, .aload_n 0, 1), (34, .dup, 1), (35, .getfield 79, 3), (38, .iload_n 2, 1), (39, .iadd, 1), (40, .putfield 79, 3), (43, .aload_n 0, 1), (44, .areturn, 1)] := by unfold DecAll; decide +kernel
theorem pd_16 : parseMethodDescriptor "(ILjava/lang/String;)V" = some ⟨[.int, (.object "java/lang/String")], none⟩ := by decide +kernel
theorem D16 : DecAll jdk_42_method_54_code [(0, .aload_n 0, 1), (1, .getfield 9, 3), (4, .arraylength, 1), (5, .aload_n 0, 1), (6, .invokevirtual 335, 3), (9, .ishr, 1), (10, .ireturn, 1)] := by unfold DecAll; decide +kernel
theorem pd_17 : parseMethodDescriptor "()B" = some ⟨[], some .byte⟩ := by decide +kernel
theorem D17 : DecAll jdk_42_method_152_code [(0, .getstatic 38, 3), (3, .ifCond .eq 10, 3), (6, .aload_n 0, 1), (7, .getfield 15, 3), (10, .goto 4, 3), (13, .iconst 1, 1), (14, .ireturn, 1)] := by unfold DecAll; decide +kernel
theorem D18 : DecAll jdk_68_method_9_code [(0, .aload_n 0, 1), (1, .getfield 15, 3), (4, .arraylength, 1), (5, .aload_n 0, 1), (6, .getfield 22, 3), (9, .ishr, 1), (10, .istore_n 2, 1), (11, .iload_n 1, 1), (12, .iload_n 2, 1), (13, .isub, 1), (14, .ifCond .le 24, 3), (17, .aload_n 0, 1), (18, .aload_n 0, 1), (19, .getfield 15, 3), (22, .aload_n 0, 1), (23, .iload_n 1, 1), (24, .invokevirtual 104, 3), (27, .aload_n 0, 1), (28, .getfield 22, 3), (31, .ishl, 1), (32, .invokestatic 108, 3), (35, .putfield 15, 3), (38, .return_, 1)] := by unfold DecAll; decide +kernel
theorem D19 : DecAll jdk_68_method_73_code [(0, .aload_n 0, 1), (1, .aload_n 2, 1), (2, .invokevirtual 397, 3), (5, .aload_n 2, 1), (6, .aload_n 0, 1), (7, .getfield 15, 3), (10, .iload_n 1, 1), (11, .aload_n 0, 1), (12, .getfield 22, 3), (15, .invokevirtual 399, 3), (18, .return_, 1)] := by unfold DecAll; decide +kernel
theorem pd_18 : parseMethodDescriptor "(Ljava/lang/String;)V" = some ⟨[(.object "java/lang/String")], none⟩ := by decide +kernel
theorem pd_19 : parseMethodDescriptor "([BIB)V" = some ⟨[(.array .byte), .int, .byte], none⟩ := by decide +kernel
theorem D20 : DecAll jdk_68_method_71_code [(0, .getstatic 18, 3), (3, .ifCond .eq 18, 3), (6, .aload_n 0, 1), (7, .getfield 22, 3), (10, .aload_n 1, 1), (11, .invokevirtual 40, 3), (14, .if_icmp .eq 7, 3), (17, .aload_n 0, 1), (18, .invokevirtual 195, 3), (21, .return_, 1)] := by unfold DecAll; decide +kernel
theorem D21 : DecAll jdk_42_method_147_code [(0, .aload_n 0, 1), (1, .invokevirtual 335, 3), (4, .iload_n 3, 1), (5, .if_icmp .ne 23, 3), (8, .aload_n 0, 1), (9, .getfield 9, 3), (12, .iconst 0, 1), (13, .aload_n 1, 1), (14, .iload_n 2, 1), (15, .iload_n 3, 1), (16, .ishl, 1), (17, .aload_n 0, 1), (18, .getfield 9, 3), (21, .arraylength, 1), (22, .invokestatic 212, 3), (25, .goto 18, 3), (28, .aload_n 0, 1), (29, .getfield 9, 3), (32, .iconst 0, 1), (33, .aload_n 1, 1), (34, .iload_n 2, 1), (35, .aload_n 0, 1), (36, .getfield 9, 3), (39, .arraylength, 1), (40, .invokestatic 106, 3), (43, .return_, 1)] := by unfold DecAll; decide +kernel
theorem D22 : DecAll jdk_67_method_42_code [(0, .new 18, 3), (3, .dup, 1), (4, .aload_n 0, 1), (5, .invokespecial 137, 3), (8, .areturn, 1)] := by unfold DecAll; decide +kernel
theorem pd_21 : parseMethodDescriptor "(Ljava/lang/StringBuilder;)V" = some ⟨[(.object "java/lang/StringBuilder")], none⟩ := by decide +kernel
theorem D23 : DecAll jdk_42_method_53_code [(0, .aload_n 0, 1), (1, .aload_n 1, 1), (2, .aconst_null, 1), (3, .invokespecial 489, 3), (6, .return_, 1)] := by unfold DecAll; decide +kernel
theorem pd_22 : parseMethodDescriptor "(Ljava/lang/AbstractStringBuilder;Ljava/lang/Void;)V" = some ⟨[(.object "java/lang/AbstractStringBuilder"), (.object "java/lang/Void")], none⟩ := by decide +kernel
theorem D24 : DecAll jdk_42_method_150_code [(0, .aload_n 0, 1), (1, .invokespecial 1, 3), (4, .aload_n 1, 1), (5, .invokevirtual 552, 3), (8, .astore_n 3, 1), (9, .aload_n 1, 1), (10, .invokevirtual 549, 3), (13, .istore 4, 2), (15, .aload_n 1, 1), (16, .invokevirtual 1047, 3), (19, .ifCond .eq 22, 3), (22, .aload_n 0, 1), (23, .iconst 0, 1), (24, .putfield 15, 3), (27, .aload_n 0, 1), (28, .aload_n 3, 1), (29, .iconst 0, 1), (30, .iload 4, 2), (32, .invokestatic 54, 3), (35, .putfield 9, 3), (38, .goto 59, 3), (41, .getstatic 38, 3), (44, .ifCond .eq 35, 3), (47, .aload_n 1, 1), (48, .getfield 1048, 3), (51, .ifCond .eq 28, 3), (54, .aload_n 0, 1), (55, .aload_n 3, 1), (56, .iconst 0, 1), (57, .iload 4, 2), (59, .invokestatic 1051, 3), (62, .putfield 9, 3), (65, .aload_n 0, 1), (66, .aload_n 0, 1), (67, .getfield 9, 3), (70, .iload 4, 2), (72, .invokestatic 47, 3), (75, .putfield 15, 3), (78, .return_, 1), (79, .aload_n 0, 1), (80, .iconst 1, 1), (81, .putfield 15, 3), (84, .aload_n 0, 1), (85, .aload_n 3, 1), (86, .iconst 0, 1), (87, .iload 4, 2), (89, .iconst 1, 1), (90, .ishl, 1), (91, .invokestatic 54, 3), (94, .putfield 9, 3), (97, .return_, 1)] := by unfold DecAll; decide +kernel
theorem pd_23 : parseMethodDescriptor "()[B" = some ⟨[], some (.array .byte)⟩ := by decide +kernel
theorem pd_24 : parseMethodDescriptor "()Z" = some ⟨[], some .boolean⟩ := by decide +kernel
theorem pd_25 : parseMethodDescriptor "([BII)[B" = some ⟨[(.array .byte), .int, .int], some (.array .byte)⟩ := by decide +kernel
theorem D25 : DecAll jdk_68_method_64_code [(0, .aload_n 0, 1), (1, .getfield 15, 3), (4, .areturn, 1)] := by unfold DecAll; decide +kernel
theorem D26 : DecAll jdk_67_method_93_code [(0, .aload_n 0, 1), (1, .invokespecial 343, 3), (4, .ireturn, 1)] := by unfold DecAll; decide +kernel
theorem D27 : DecAll jdk_68_method_6_code [(0, .aload_n 0, 1), (1, .getfield 79, 3), (4, .ireturn, 1)] := by unfold DecAll; decide +kernel
theorem D28 : DecAll jdk_68_method_68_code [(0, .getstatic 18, 3), (3, .ifCond .eq 14, 3), (6, .aload_n 0, 1), (7, .getfield 22, 3), (10, .ifCond .ne 7, 3), (13, .iconst 1, 1), (14, .goto 4, 3), (17, .iconst 0, 1), (18, .ireturn, 1)] := by unfold DecAll; decide +kernel
theorem D29 : DecAll jdk_65_method_132_code [(0, .iload_n 1, 1), (1, .ifCond .ne 9, 3), (4, .iload_n 2, 1), (5, .aload_n 0, 1), (6, .arraylength, 1), (7, .if_icmp .eq 10, 3), (10, .aload_n 0, 1), (11, .iload_n 1, 1), (12, .iload_n 2, 1), (13, .invokestatic 339, 3), (16, .areturn, 1), (17, .aload_n 0, 1), (18, .invokevirtual 310, 3), (21, .checkcast 311, 3), (24, .areturn, 1)] := by unfold DecAll; decide +kernel
theorem pn_8 : plainName "java/util/Arrays" = true := by first | (simp [plainName, overriddenIn]; done) | decide +kernel
theorem D30 : DecAll jdk_65_method_133_code [(0, .iload_n 1, 1), (1, .iload_n 2, 1), (2, .invokestatic 343, 3), (5, .iload_n 2, 1), (6, .iload_n 1, 1), (7, .isub, 1), (8, .istore_n 3, 1), (9, .iload_n 3, 1), (10, .newarray .byte, 2), (12, .astore 4, 2), (14, .aload_n 0, 1), (15, .iload_n 1, 1), (16, .aload 4, 2), (18, .iconst 0, 1), (19, .aload_n 0, 1), (20, .arraylength, 1), (21, .iload_n 1, 1), (22, .isub, 1), (23, .iload_n 3, 1), (24, .invokestatic 304, 3), (27, .invokestatic 150, 3), (30, .aload 4, 2), (32, .areturn, 1)] := by unfold DecAll; decide +kernel
theorem pd_26 : parseMethodDescriptor "(II)V" = some ⟨[.int, .int], none⟩ := by decide +kernel
theorem pd_27 : parseMethodDescriptor "(II)I" = some ⟨[.int, .int], some .int⟩ := by decide +kernel
theorem D31 : DecAll jdk_65_method_131_code [(0, .iload_n 1, 1), (1, .iload_n 0, 1), (2, .if_icmp .ge 35, 3), (5, .new 43, 3), (8, .dup, 1), (9, .new 45, 3), (12, .dup, 1), (13, .invokespecial 47, 3), (16, .iload_n 0, 1), (17, .invokevirtual 54, 3), (20, .ldc_w 337, 3), (23, .invokevirtual 50, 3), (26, .iload_n 1, 1), (27, .invokevirtual 54, 3), (30, .invokevirtual 61, 3), (33, .invokespecial 65, 3), (36, .athrow, 1), (37, .return_, 1)] := by unfold DecAll; decide +kernel
theorem D32 : DecAll jdk_29_method_69_code [(0, .iload_n 0, 1), (1, .iload_n 1, 1), (2, .if_icmp .gt 7, 3), (5, .iload_n 0, 1), (6, .goto 4, 3), (9, .iload_n 1, 1), (10, .ireturn, 1)] := by unfold DecAll; decide +kernel
theorem D33 : DecAll method_3_code [(0, .iload_n 2, 1), (1, .iload_n 3, 1), (2, .if_icmp .ge 14, 3), (5, .aload_n 0, 1), (6, .iload_n 2, 1), (7, .invokevirtual 12, 3), (10, .aload_n 1, 1), (11, .iload_n 2, 1), (12, .caload, 1), (13, .if_icmp .ne 7, 3), (16, .iconst 1, 1), (17, .goto 4, 3), (20, .iconst 0, 1), (21, .ireturn, 1)] := by unfold DecAll; decide +kernel
theorem pd_28 : parseMethodDescriptor "(I)C" = some ⟨[.int], some .char⟩ := by decide +kernel
theorem D34 : DecAll jdk_42_method_56_code [(0, .aload_n 0, 1), (1, .invokevirtual 492, 3), (4, .ifCond .eq 12, 3), (7, .aload_n 0, 1), (8, .getfield 9, 3), (11, .iload_n 1, 1), (12, .invokestatic 495, 3), (15, .ireturn, 1), (16, .aload_n 0, 1), (17, .getfield 9, 3), (20, .iload_n 1, 1), (21, .invokestatic 498, 3), (24, .ireturn, 1)] := by unfold DecAll; decide +kernel
theorem D35 : DecAll jdk_42_method_154_code [(0, .getstatic 38, 3), (3, .ifCond .eq 14, 3), (6, .aload_n 0, 1), (7, .getfield 15, 3), (10, .ifCond .ne 7, 3), (13, .iconst 1, 1), (14, .goto 4, 3), (17, .iconst 0, 1), (18, .ireturn, 1)] := by unfold DecAll; decide +kernel
theorem D36 : DecAll jdk_43_method_2_code [(0, .iload_n 1, 1), (1, .aload_n 0, 1), (2, .arraylength, 1), (3, .invokestatic 9, 3), (6, .aload_n 0, 1), (7, .iload_n 1, 1), (8, .baload, 1), (9, .sipush 255, 3), (12, .iand, 1), (13, .i2c, 1), (14, .ireturn, 1)] := by unfold DecAll; decide +kernel
theorem pn_9 : plainName "java/lang/StringLatin1" = true := by first | (simp [plainName, overriddenIn]; done) | decide +kernel
theorem D37 : DecAll jdk_42_method_155_code [(0, .iload_n 0, 1), (1, .iload_n 1, 1), (2, .getstatic 1053, 3), (5, .invokestatic 1059, 3), (8, .pop, 1), (9, .return_, 1)] := by unfold DecAll; decide +kernel
theorem pd_29 : parseMethodDescriptor "(IILjava/util/function/BiFunction;)I" = some ⟨[.int, .int, (.object "java/util/function/BiFunction")], some .int⟩ := by decide +kernel
theorem D38 : DecAll jdk_41_method_11_code [(0, .iload_n 0, 1), (1, .ifCond .lt 8, 3), (4, .iload_n 0, 1), (5, .iload_n 1, 1), (6, .if_icmp .lt 10, 3), (9, .aload_n 2, 1), (10, .iload_n 0, 1), (11, .iload_n 1, 1), (12, .invokestatic 95, 3), (15, .athrow, 1), (16, .iload_n 0, 1), (17, .ireturn, 1)] := by unfold DecAll; decide +kernel
theorem pn_10 : plainName "jdk/internal/util/Preconditions" = true := by first | (simp [plainName, overriddenIn]; done) | decide +kernel
theorem D39 : DecAll jdk_52_method_14_code [(0, .iload_n 2, 1), (1, .invokestatic 107, 3), (4, .astore_n 3, 1), (5, .iconst 0, 1), (6, .istore 4, 2), (8, .iload 4, 2), (10, .iload_n 2, 1), (11, .if_icmp .ge 21, 3), (14, .aload_n 3, 1), (15, .iload 4, 2), (17, .aload_n 0, 1), (18, .iload_n 1, 1), (19, .caload, 1), (20, .invokestatic 111, 3), (23, .iinc 1 1, 3), (26, .iinc 4 1, 3), (29, .goto (-21), 3), (32, .aload_n 3, 1), (33, .areturn, 1)] := by unfold DecAll; decide +kernel
theorem pd_30 : parseMethodDescriptor "([BII)V" = some ⟨[(.array .byte), .int, .int], none⟩ := by decide +kernel
theorem D40 : DecAll jdk_52_method_2_code [(0, .iload_n 0, 1), (1, .invokestatic 11, 3), (4, .newarray .byte, 2), (6, .areturn, 1)] := by unfold DecAll; decide +kernel
theorem pd_31 : parseMethodDescriptor "(I)I" = some ⟨[.int], some .int⟩ := by decide +kernel
theorem D41 : DecAll jdk_52_method_3_code [(0, .iload_n 0, 1), (1, .ifCond .ge 11, 3), (4, .new 17, 3), (7, .dup, 1), (8, .invokespecial 19, 3), (11, .athrow, 1), (12, .iload_n 0, 1), (13, .ldc 20, 2), (15, .if_icmp .lt 40, 3), (18, .new 21, 3), (21, .dup, 1), (22, .new 23, 3), (25, .dup, 1), (26, .invokespecial 25, 3), (29, .ldc 26, 2), (31, .invokevirtual 28, 3), (34, .iload_n 0, 1), (35, .invokevirtual 32, 3), (38, .ldc 35, 2), (40, .invokevirtual 28, 3), (43, .ldc 20, 2), (45, .invokevirtual 32, 3), (48, .invokevirtual 37, 3), (51, .invokespecial 41, 3), (54, .athrow, 1), (55, .iload_n 0, 1), (56, .iconst 1, 1), (57, .ishl, 1), (58, .ireturn, 1)] := by unfold DecAll; decide +kernel
theorem D42 : DecAll jdk_52_method_4_code [(0, .getstatic 44, 3), (3, .ifCond .ne 25, 3), (6, .iload_n 1, 1), (7, .ifCond .lt 11, 3), (10, .iload_n 1, 1), (11, .aload_n 0, 1), (12, .invokestatic 48, 3), (15, .if_icmp .lt 13, 3), (18, .new 52, 3), (21, .dup, 1), (22, .ldc 54, 2), (24, .invokespecial 56, 3), (27, .athrow, 1), (28, .iload_n 1, 1), (29, .iconst 1, 1), (30, .ishl, 1), (31, .istore_n 1, 1), (32, .aload_n 0, 1), (33, .iload_n 1, 1), (34, .iinc 1 1, 3), (37, .iload_n 2, 1), (38, .getstatic 59, 3), (41, .ishr, 1), (42, .i2b, 1), (43, .bastore, 1), (44, .aload_n 0, 1), (45, .iload_n 1, 1), (46, .iload_n 2, 1), (47, .getstatic 63, 3), (50, .ishr, 1), (51, .i2b, 1), (52, .bastore, 1), (53, .return_, 1)] := by unfold DecAll; decide +kernel
theorem pd_32 : parseMethodDescriptor "([B)I" = some ⟨[(.array .byte)], some .int⟩ := by decide +kernel
theorem D43 : DecAll jdk_52_method_5_code [(0, .getstatic 44, 3), (3, .ifCond .ne 25, 3), (6, .iload_n 1, 1), (7, .ifCond .lt 11, 3), (10, .iload_n 1, 1), (11, .aload_n 0, 1), (12, .invokestatic 48, 3), (15, .if_icmp .lt 13, 3), (18, .new 52, 3), (21, .dup, 1), (22, .ldc 54, 2), (24, .invokespecial 56, 3), (27, .athrow, 1), (28, .iload_n 1, 1), (29, .iconst 1, 1), (30, .ishl, 1), (31, .istore_n 1, 1), (32, .aload_n 0, 1), (33, .iload_n 1, 1), (34, .iinc 1 1, 3), (37, .baload, 1), (38, .sipush 255, 3), (41, .iand, 1), (42, .getstatic 59, 3), (45, .ishl, 1), (46, .aload_n 0, 1), (47, .iload_n 1, 1), (48, .baload, 1), (49, .sipush 255, 3), (52, .iand, 1), (53, .getstatic 63, 3), (56, .ishl, 1), (57, .ior, 1), (58, .i2c, 1), (59, .ireturn, 1)] := by unfold DecAll; decide +kernel
theorem D44 : DecAll jdk_68_method_11_code [(0, .aload_n 0, 1), (1, .invokevirtual 83, 3), (4, .ifCond .ne 4, 3), (7, .return_, 1), (8, .aload_n 0, 1), (9, .getfield 15, 3), (12, .arraylength, 1), (13, .invokestatic 26, 3), (16, .astore_n 1, 1), (17, .aload_n 0, 1), (18, .getfield 15, 3), (21, .iconst 0, 1), (22, .aload_n 1, 1), (23, .iconst 0, 1), (24, .aload_n 0, 1), (25, .getfield 79, 3), (28, .invokestatic 125, 3), (31, .aload_n 0, 1), (32, .aload_n 1, 1), (33, .putfield 15, 3), (36, .aload_n 0, 1), (37, .iconst 1, 1), (38, .putfield 22, 3), (41, .return_, 1)] := by unfold DecAll; decide +kernel
theorem pd_33 : parseMethodDescriptor "([BI[BII)V" = some ⟨[(.array .byte), .int, (.array .byte), .int, .int], none⟩ := by decide +kernel
theorem D45 : DecAll jdk_43_method_50_code [(0, .aload_n 0, 1), (1, .iload_n 1, 1), (2, .aload_n 2, 1), (3, .iload_n 3, 1), (4, .iload 4, 2), (6, .invokestatic 240, 3), (9, .return_, 1)] := by unfold DecAll; decide +kernel
theorem D46 : DecAll jdk_52_method_86_code [(0, .iload_n 3, 1), (1, .iload 4, 2), (3, .aload_n 2, 1), (4, .invokestatic 173, 3), (7, .iconst 0, 1), (8, .istore 5, 2), (10, .iload 5, 2), (12, .iload 4, 2), (14, .if_icmp .ge 27, 3), (17, .aload_n 2, 1), (18, .iload_n 3, 1), (19, .iinc 3 1, 3), (22, .aload_n 0, 1), (23, .iload_n 1, 1), (24, .iinc 1 1, 3), (27, .baload, 1), (28, .sipush 255, 3), (31, .iand, 1), (32, .invokestatic 111, 3), (35, .iinc 5 1, 3), (38, .goto (-28), 3), (41, .return_, 1)] := by unfold DecAll; decide +kernel
theorem pd_34 : parseMethodDescriptor "(II[B)V" = some ⟨[.int, .int, (.array .byte)], none⟩ := by decide +kernel
theorem D47 : DecAll jdk_52_method_94_code [(0, .iload_n 0, 1), (1, .iload_n 1, 1), (2, .aload_n 2, 1), (3, .invokestatic 48, 3), (6, .invokestatic 419, 3), (9, .pop, 1), (10, .return_, 1)] := by unfold DecAll; decide +kernel
theorem pd_35 : parseMethodDescriptor "(III)I" = some ⟨[.int, .int, .int], some .int⟩ := by decide +kernel
theorem D48 : DecAll jdk_52_method_6_code [(0, .aload_n 0, 1), (1, .arraylength, 1), (2, .iconst 1, 1), (3, .ishr, 1), (4, .ireturn, 1)] := by unfold DecAll; decide +kernel
theorem D49 : DecAll jdk_42_method_157_code [(0, .iload_n 0, 1), (1, .iload_n 1, 1), (2, .iload_n 2, 1), (3, .getstatic 1053, 3), (6, .invokestatic 1065, 3), (9, .ireturn, 1)] := by unfold DecAll; decide +kernel
theorem pd_36 : parseMethodDescriptor "(IIILjava/util/function/BiFunction;)I" = some ⟨[.int, .int, .int, (.object "java/util/function/BiFunction")], some .int⟩ := by decide +kernel
theorem D50 : DecAll jdk_41_method_13_code [(0, .iload_n 2, 1), (1, .iload_n 0, 1), (2, .ior, 1), (3, .iload_n 1, 1), (4, .ior, 1), (5, .ifCond .lt 10, 3), (8, .iload_n 1, 1), (9, .iload_n 2, 1), (10, .iload_n 0, 1), (11, .isub, 1), (12, .if_icmp .le 11, 3), (15, .aload_n 3, 1), (16, .iload_n 0, 1), (17, .iload_n 1, 1), (18, .iload_n 2, 1), (19, .invokestatic 103, 3), (22, .athrow, 1), (23, .iload_n 0, 1), (24, .ireturn, 1)] := by unfold DecAll; decide +kernel
theorem D51 : DecAll jdk_52_method_83_code [(0, .iload_n 1, 1), (1, .aload_n 0, 1), (2, .invokestatic 67, 3), (5, .aload_n 0, 1), (6, .iload_n 1, 1), (7, .invokestatic 71, 3), (10, .ireturn, 1)] := by unfold DecAll; decide +kernel
theorem pd_37 : parseMethodDescriptor "(I[B)V" = some ⟨[.int, (.array .byte)], none⟩ := by decide +kernel
theorem D52 : DecAll jdk_52_method_91_code [(0, .iload_n 0, 1), (1, .aload_n 1, 1), (2, .invokestatic 48, 3), (5, .invokestatic 414, 3), (8, .return_, 1)] := by unfold DecAll; decide +kernel
/-- the two bytes that putChar lays -/
def lo16 (c : Int32) : Int32 := nar .byte ((c >>> ((0 : Int32) &&& 31)).toInt8.toInt32)
def hi16 (c : Int32) : Int32 := nar .byte ((c >>> ((8 : Int32) &&& 31)).toInt8.toInt32)
/-- the char that getChar reads of two bytes -/
def ch16 (x y : Int32) : Int32 := ((((x &&& (255 : Int32)) <<< ((0 : Int32) &&& 31)) ||| ((y &&& (255 : Int32)) <<< ((8 : Int32) &&& 31)))).toUInt32.toUInt16.toUInt32.toInt32
theorem nar_i2c (z : Int32) : narrow .char (.int (z.toUInt32.toUInt16.toUInt32.toInt32)) = .int (z.toUInt32.toUInt16.toUInt32.toInt32) := by
  have q : ∀ u : UInt32, u % 65536 % 65536 = u % 65536 := fun u => by apply UInt32.toNat_inj.mp; simp
  simp [narrow, q]
theorem u_i8 (z : Int32) : z.toInt8.toInt32.toInt8.toInt32 &&& 255 = z &&& 255 := by
  apply Int32.toBitVec_inj.mp
  apply BitVec.eq_of_getLsbD_eq
  intro i hi
  have h255 : ∀ i, i < 32 → (255#32).getLsbD i = decide (i < 8) := by decide
  simp only [Int32.toBitVec_and, BitVec.getLsbD_and]
  have e : (Int32.toBitVec 255).getLsbD i = decide (i < 8) := h255 i hi
  rw [e]
  by_cases h8 : i < 8
  · simp [h8, hi, BitVec.getElem_signExtend, BitVec.getLsbD_eq_getElem]
  · simp [h8]
theorem u_s0 (x : Int32) : x >>> ((0 : Int32) &&& 31) = x := by
  apply Int32.toBitVec_inj.mp
  simp
theorem u_l0 (x : Int32) : x <<< ((0 : Int32) &&& 31) = x := by
  apply Int32.toBitVec_inj.mp
  simp
theorem u_s8 (x : Int32) : (x >>> ((8 : Int32) &&& 31)).toBitVec = x.toBitVec.sshiftRight 8 := by
  rfl
theorem u_l8 (x : Int32) : (x <<< ((8 : Int32) &&& 31)).toBitVec = x.toBitVec <<< 8 := by
  rfl
theorem cc16 {c : Int32} (h : ¬ c < 0 ∧ ¬ (65535 : Int32) < c) : ch16 (lo16 c) (hi16 c) = c := by
  show (((((c >>> ((0 : Int32) &&& 31)).toInt8.toInt32).toInt8.toInt32 &&& (255 : Int32)) <<< ((0 : Int32) &&& 31)) ||| ((((c >>> ((8 : Int32) &&& 31)).toInt8.toInt32).toInt8.toInt32 &&& (255 : Int32)) <<< ((8 : Int32) &&& 31))).toUInt32.toUInt16.toUInt32.toInt32 = c
  rw [u_i8, u_i8, u_s0, u_l0]
  have hz : c.toBitVec.toNat < 65536 := by
    have h1 := h.1; have h2 := h.2
    rw [Int32.lt_iff_toInt_lt] at h1 h2
    have e1 : (0 : Int32).toInt = 0 := rfl
    have e2 : (65535 : Int32).toInt = 65535 := rfl
    rw [e1] at h1; rw [e2] at h2
    have e3 : c.toInt = c.toBitVec.toInt := rfl
    rw [e3, BitVec.toInt_eq_toNat_cond] at h1 h2
    have := c.toBitVec.isLt
    split at h1 <;> omega
  apply Int32.toBitVec_inj.mp
  apply BitVec.eq_of_getLsbD_eq
  intro i hi
  have h255 : ∀ i, i < 32 → (255#32).getLsbD i = decide (i < 8) := by decide
  have hT : ∀ i, 16 ≤ i → c.toBitVec.getLsbD i = false := fun i h16 => by
    rw [BitVec.getLsbD]
    exact Nat.testBit_lt_two_pow (Nat.lt_of_lt_of_le hz (by show 2 ^ 16 ≤ 2 ^ i; exact Nat.pow_le_pow_right (by decide) h16))
  have e : ∀ i, i < 32 → (Int32.toBitVec 255).getLsbD i = decide (i < 8) := h255
  have f : ∀ z : Int32, z.toUInt32.toUInt16.toUInt32.toInt32.toBitVec = (z.toBitVec.setWidth 16).setWidth 32 := fun z => rfl
  rw [f, BitVec.getLsbD_setWidth, BitVec.getLsbD_setWidth, Int32.toBitVec_or, BitVec.getLsbD_or, Int32.toBitVec_and, BitVec.getLsbD_and, e i hi, u_l8, BitVec.getLsbD_shiftLeft, Int32.toBitVec_and, BitVec.getLsbD_and, u_s8, BitVec.getLsbD_sshiftRight]
  by_cases h16 : 16 ≤ i
  · rw [hT i h16]; simp; omega
  · by_cases h8 : i < 8
    · simp [h8, hi]; omega
    · have e2 := e (i - 8) (by omega)
      rw [e2]
      have q1 : i - 8 < 8 := by omega
      have q2 : 8 + (i - 8) = i := by omega
      have q3 : i < 16 := by omega
      have q4 : ¬ (32 ≤ i - 8) := by omega
      simp [h8, hi, q1, q2, q3, q4]
theorem low16 {c : Int32} (h : ¬ c < 0 ∧ ¬ (65535 : Int32) < c) : c.toBitVec.toNat < 65536 := by
  have h1 := h.1; have h2 := h.2
  rw [Int32.lt_iff_toInt_lt] at h1 h2
  have e1 : (0 : Int32).toInt = 0 := rfl
  have e2 : (65535 : Int32).toInt = 65535 := rfl
  rw [e1] at h1; rw [e2] at h2
  have e3 : c.toInt = c.toBitVec.toInt := rfl
  rw [e3, BitVec.toInt_eq_toNat_cond] at h1 h2
  have := c.toBitVec.isLt
  split at h1 <;> omega
theorem i2c_id {c : Int32} (h : ¬ c < 0 ∧ ¬ (65535 : Int32) < c) : c.toUInt32.toUInt16.toUInt32.toInt32 = c := by
  apply Int32.toBitVec_inj.mp
  show (c.toBitVec.setWidth 16).setWidth 32 = c.toBitVec
  apply BitVec.eq_of_toNat_eq
  have := low16 h
  have q := c.toBitVec.isLt
  simp only [BitVec.toNat_setWidth]
  omega
theorem i2c_bd (z : Int32) : ¬ z.toUInt32.toUInt16.toUInt32.toInt32 < 0 ∧ ¬ (65535 : Int32) < z.toUInt32.toUInt16.toUInt32.toInt32 := by
  have e : z.toUInt32.toUInt16.toUInt32.toInt32.toInt = ((z.toBitVec.setWidth 16).setWidth 32).toInt := rfl
  have e1 : (0 : Int32).toInt = 0 := rfl
  have e2 : (65535 : Int32).toInt = 65535 := rfl
  rw [Int32.lt_iff_toInt_lt, Int32.lt_iff_toInt_lt, e, e1, e2, BitVec.toInt_eq_toNat_cond, BitVec.toNat_setWidth, BitVec.toNat_setWidth]
  have := z.toBitVec.isLt
  constructor <;> split <;> omega
theorem lat_and {c : Int32} (h : ¬ c < 0 ∧ ¬ (255 : Int32) < c) : (c.toInt8.toInt32 &&& 255).toUInt32.toUInt16.toUInt32.toInt32 = c := by
  have hz : c.toBitVec.toNat < 256 := by
    have h1 := h.1; have h2 := h.2
    rw [Int32.lt_iff_toInt_lt] at h1 h2
    have e1 : (0 : Int32).toInt = 0 := rfl
    have e2 : (255 : Int32).toInt = 255 := rfl
    rw [e1] at h1; rw [e2] at h2
    have e3 : c.toInt = c.toBitVec.toInt := rfl
    rw [e3, BitVec.toInt_eq_toNat_cond] at h1 h2
    have := c.toBitVec.isLt
    split at h1 <;> omega
  have hb : ¬ c < 0 ∧ ¬ (65535 : Int32) < c := by
    refine ⟨h.1, fun q => h.2 ?_⟩
    rw [Int32.lt_iff_toInt_lt] at q ⊢
    have e2 : (255 : Int32).toInt = 255 := rfl
    have e3 : (65535 : Int32).toInt = 65535 := rfl
    omega
  have k : c.toInt8.toInt32 &&& 255 = c := by
    apply Int32.toBitVec_inj.mp
    apply BitVec.eq_of_getLsbD_eq
    intro i hi
    have h255 : ∀ i, i < 32 → (255#32).getLsbD i = decide (i < 8) := by decide
    simp only [Int32.toBitVec_and, BitVec.getLsbD_and]
    have e : (Int32.toBitVec 255).getLsbD i = decide (i < 8) := h255 i hi
    rw [e]
    by_cases h8 : i < 8
    · simp [h8, hi, BitVec.getElem_signExtend, BitVec.getLsbD_eq_getElem]
    · have : c.toBitVec.getLsbD i = false := by
        rw [BitVec.getLsbD]
        exact Nat.testBit_lt_two_pow (Nat.lt_of_lt_of_le hz (by show 2 ^ 8 ≤ 2 ^ i; exact Nat.pow_le_pow_right (by decide) (by omega)))
      rw [this]; simp [h8]
  rw [k, i2c_id hb]
theorem kand (z : Int32) : (z &&& 1) = 0 ∨ (z &&& 1) = 1 := by
  by_cases h : (z.toBitVec.getLsbD 0) = true
  · right
    apply Int32.toBitVec_inj.mp
    apply BitVec.eq_of_getLsbD_eq
    intro i hi
    have h1 : ∀ i, i < 32 → (1#32).getLsbD i = decide (i = 0) := by decide
    have e : (Int32.toBitVec 1).getLsbD i = decide (i = 0) := h1 i hi
    rw [Int32.toBitVec_and, BitVec.getLsbD_and, e]
    by_cases q : i = 0
    · subst q; simp [h]
    · simp [q]
  · left
    apply Int32.toBitVec_inj.mp
    apply BitVec.eq_of_getLsbD_eq
    intro i hi
    have h1 : ∀ i, i < 32 → (1#32).getLsbD i = decide (i = 0) := by decide
    have e : (Int32.toBitVec 1).getLsbD i = decide (i = 0) := h1 i hi
    rw [Int32.toBitVec_and, BitVec.getLsbD_and, e]
    by_cases q : i = 0
    · subst q; simp; simpa using h
    · simp [q]
theorem mod4 (z : Int32) : (z &&& 2147483647) % 4 = 0 ∨ (z &&& 2147483647) % 4 = 1 ∨ (z &&& 2147483647) % 4 = 2 ∨ (z &&& 2147483647) % 4 = 3 := by
  have hb : (z &&& 2147483647).toBitVec.toNat < 2147483648 := by
    rw [Int32.toBitVec_and, BitVec.toNat_and]
    exact Nat.lt_succ_of_le Nat.and_le_right
  have h0 : 0 ≤ (z &&& 2147483647).toInt := by
    have e3 : (z &&& 2147483647).toInt = (z &&& 2147483647).toBitVec.toInt := rfl
    rw [e3, BitVec.toInt_eq_toNat_cond]; split <;> omega
  have hm : ((z &&& 2147483647) % 4).toInt = (z &&& 2147483647).toInt % 4 := by
    rw [Int32.toInt_mod, Int.tmod_eq_emod_of_nonneg h0]; rfl
  have k : ∀ (u : Int32) (i : Int) (v : Int32), v.toInt = i → u.toInt = i → u = v := fun u i v h1 h2 => Int32.toInt_inj.mp (h2.trans h1.symm)
  have : (z &&& 2147483647).toInt % 4 = 0 ∨ (z &&& 2147483647).toInt % 4 = 1 ∨ (z &&& 2147483647).toInt % 4 = 2 ∨ (z &&& 2147483647).toInt % 4 = 3 := by omega
  rcases this with q | q | q | q
  · exact Or.inl (k _ 0 _ rfl (hm.trans q))
  · exact Or.inr (Or.inl (k _ 1 _ rfl (hm.trans q)))
  · exact Or.inr (Or.inr (Or.inl (k _ 2 _ rfl (hm.trans q))))
  · exact Or.inr (Or.inr (Or.inr (k _ 3 _ rfl (hm.trans q))))
theorem nar_c {c : Int32} (h : ¬ c < 0 ∧ ¬ (65535 : Int32) < c) : nar .char c = c := by
  show c.toUInt32.toUInt16.toUInt32.toInt32 = c
  exact i2c_id h
theorem bd_lat {c : Int32} (h : ¬ c < 0 ∧ ¬ (65535 : Int32) < c) (g : ¬ (255 : Int32) < c) : ¬ c < 0 ∧ ¬ (255 : Int32) < c := ⟨h.1, g⟩
theorem sta_eqI {args : Array Value} {s : State} {t : Term} {z : Int32} (h : (Cond.eq t (Term.int z)).value args s none s [] = some true) : t.eval args s none [] s = some (.int z) := by
  simp only [Cond.value, Term.eval] at h
  cases ht : t.eval args s none [] s with
  | none => simp [ht] at h
  | some x => cases x <;> simp [ht] at h ⊢; exact h
theorem start_arv {s : State} {args : Array Value} {t : Term} {a : Addr} {c : Cell} {ty : FieldType} {z : Int32} {vs : List Value} {dv : Value} (hf : Fit s) (ev : t.eval args s none [] s = some (.ref a)) (A : Arr s s.heap a c ty) (hl : (Term.length t).eval args s none [] s = some (.int z)) (hz : ¬ z < 0) (hn : z.toNatClampNeg = vs.length) (H : HasL c 0 vs) : Arv s s.heap a c.cls ty z vs dv := by
  have har : s.arrayAt? a = some c := Arr.fin (Vm.Alike.refl _) A
  simp only [Term.eval, ev, har, Option.bind_eq_bind, Option.bind_some] at hl
  by_cases hb : c.slots.size < 2 ^ 31
  · simp [hb] at hl
    exact Arv.start hf A hb hl hz hn H
  · simp [hb] at hl
def utfL : List Int32 → List Value
  | [] => []
  | c :: r => .int (lo16 c) :: .int (hi16 c) :: utfL r
def latL (cs : List Int32) : List Value := (cs.map fun c => c.toInt8.toInt32).map Value.int
def ch8 (x : Int32) : Int32 := x &&& (255 : Int32)
theorem utf_len : ∀ cs : List Int32, (utfL cs).length = 2 * cs.length
  | [] => rfl
  | _ :: r => by rw [utfL, List.length_cons, List.length_cons, utf_len r, List.length_cons]; omega
theorem utf_app : ∀ a b : List Int32, utfL (a ++ b) = utfL a ++ utfL b
  | [], _ => rfl
  | _ :: r, b => by rw [List.cons_append, utfL, utf_app r b]; rfl
theorem lat_len (cs : List Int32) : (latL cs).length = cs.length := by simp [latL]
theorem lat_app (a b : List Int32) : latL (a ++ b) = latL a ++ latL b := by simp [latL]
theorem set_mid {α : Type} (us ws : List α) (x v : α) {n : Nat} (h : n = us.length) : (us ++ x :: ws).set n v = us ++ v :: ws := by
  subst h; simp
theorem get_mid {α : Type} (us ws : List α) (x d : α) {n : Nat} (h : n = us.length) : (us ++ x :: ws).getD n d = x := by
  subst h; simp
theorem utf_put (us : List Int32) (c : Int32) (m : Nat) (z : Value) : ((utfL us ++ List.replicate (m + 2) z).set (2 * us.length) (.int (lo16 c))).set (2 * us.length + 1) (.int (hi16 c)) = utfL (us ++ [c]) ++ List.replicate m z := by
  rw [List.replicate_succ, List.replicate_succ, set_mid _ _ _ _ (utf_len us).symm]
  rw [show utfL us ++ Value.int (lo16 c) :: z :: List.replicate m z = (utfL us ++ [Value.int (lo16 c)]) ++ z :: List.replicate m z by simp, set_mid _ _ _ _ (by simp [utf_len]), utf_app]
  simp [utfL]
theorem lat_put (us : List Int32) (c : Int32) (m : Nat) (z : Value) {v : Int32} (hv : v = c.toInt8.toInt32) : (latL us ++ List.replicate (m + 1) z).set us.length (.int v) = latL (us ++ [c]) ++ List.replicate m z := by
  rw [List.replicate_succ, set_mid _ _ _ _ (lat_len us).symm, lat_app, hv]
  simp [latL]
theorem o_int {n : Nat} (h : n < 2147483648) : (Int32.ofNat n).toInt = n := Int32.toInt_ofNat_of_lt h
theorem o_nat {n : Nat} (h : n < 2147483648) : (Int32.ofNat n).toNatClampNeg = n := by
  have := o_int h; simp only [Int32.toNatClampNeg, this]; omega
theorem o_nn {n : Nat} (h : n < 2147483648) : ¬ Int32.ofNat n < 0 := by
  rw [Int32.lt_iff_toInt_lt, o_int h]; have : (0 : Int32).toInt = 0 := rfl; omega
theorem o_lt {a b : Nat} (ha : a < 2147483648) (hb : b < 2147483648) : Int32.ofNat a < Int32.ofNat b ↔ a < b := by
  rw [Int32.lt_iff_toInt_lt, o_int ha, o_int hb]; omega
theorem o_in {a b : Nat} (h : a < b) (hb : b < 2147483648) : ¬ Int32.ofNat a < 0 ∧ Int32.ofNat a < Int32.ofNat b := ⟨o_nn (by omega), (o_lt (by omega) hb).2 h⟩
theorem o_ne {a b : Nat} (h : a < b) (hb : b < 2147483648) : ¬ Int32.ofNat a = Int32.ofNat b := fun e => by
  have := congrArg Int32.toInt e; rw [o_int (by omega), o_int hb] at this; omega
theorem o_add (a b : Nat) : Int32.ofNat a + Int32.ofNat b = Int32.ofNat (a + b) := (Int32.ofNat_add a b).symm
theorem o_one (a : Nat) : Int32.ofNat a + (1 : Int32) = Int32.ofNat (a + 1) := o_add a 1
theorem o_sub {a b : Nat} (h : b ≤ a) (ha : a < 2147483648) : Int32.ofNat a - Int32.ofNat b = Int32.ofNat (a - b) := by
  have e : a = (a - b) + b := by omega
  rw [show Int32.ofNat a = Int32.ofNat (a - b) + Int32.ofNat b by rw [o_add, ← e]]
  simp
theorem o_shl (a : Nat) : Int32.ofNat a <<< ((1 : Int32) &&& 31) = Int32.ofNat (2 * a) := by
  apply Int32.toBitVec_inj.mp
  show (BitVec.ofNat 32 a) <<< 1 = BitVec.ofNat 32 (2 * a)
  apply BitVec.eq_of_toNat_eq
  simp [Nat.shiftLeft_eq]
  omega
theorem o_shr {a : Nat} (h : a < 1073741824) : Int32.ofNat (2 * a) >>> ((1 : Int32) &&& 31) = Int32.ofNat a := by
  apply Int32.toBitVec_inj.mp
  show (BitVec.ofNat 32 (2 * a)).sshiftRight 1 = BitVec.ofNat 32 a
  apply BitVec.eq_of_toNat_eq
  rw [BitVec.sshiftRight_eq_of_msb_false (by rw [BitVec.msb_eq_decide]; simp; omega)]
  simp [Nat.shiftRight_eq_div_pow]
  omega
theorem o_shr0 (x : Int32) : x >>> ((0 : Int32) &&& 31) = x := by
  apply Int32.toBitVec_inj.mp
  simp
theorem o_shl0 (x : Int32) : x <<< ((0 : Int32) &&& 31) = x := by
  apply Int32.toBitVec_inj.mp
  simp
theorem at_mid {cs us ws : List Int32} {x : Int32} (h : cs = us ++ x :: ws) (hk : cs.length < 2147483648) : (cs.map Value.int).getD (Int32.ofNat us.length).toNatClampNeg (.int 0) = .int x := by
  subst h
  rw [o_nat (by simp at hk; omega), List.map_append, List.map_cons]
  exact get_mid _ _ _ _ (by simp)
theorem in_mid {cs us ws : List Int32} {x : Int32} (h : cs = us ++ x :: ws) (hk : cs.length < 2147483648) : ¬ Int32.ofNat us.length < 0 ∧ Int32.ofNat us.length < Int32.ofNat cs.length := by
  refine o_in ?_ hk; subst h; simp
theorem snoc_len (us : List Int32) (x : Int32) : Int32.ofNat us.length + (1 : Int32) = Int32.ofNat (us ++ [x]).length := by
  rw [o_one]; simp
theorem snoc_app {cs us ws : List Int32} {x : Int32} (h : cs = us ++ x :: ws) : cs = (us ++ [x]) ++ ws := by rw [h]; simp
theorem all_snoc {us : List Int32} {x : Int32} {P : Int32 → Prop} (h : ∀ c ∈ us, P c) (g : P x) : ∀ c ∈ us ++ [x], P c := fun c hc => by
  rcases List.mem_append.mp hc with q | q
  · exact h c q
  · rw [List.mem_singleton.mp q]; exact g
theorem utf_at {cs us ws : List Int32} {x : Int32} (h : cs = us ++ x :: ws) (hk : cs.length < 1073741824) : (utfL cs).getD (Int32.ofNat (2 * us.length)).toNatClampNeg (.int 0) = .int (lo16 x) ∧ (utfL cs).getD (Int32.ofNat (2 * us.length) + (1 : Int32)).toNatClampNeg (.int 0) = .int (hi16 x) := by
  have hl : us.length < 1073741824 := by subst h; simp at hk; omega
  have e : utfL cs = utfL us ++ .int (lo16 x) :: .int (hi16 x) :: utfL ws := by rw [h, utf_app]; rfl
  rw [o_one, o_nat (by omega), o_nat (by omega), e]
  refine ⟨get_mid _ _ _ _ (utf_len us).symm, ?_⟩
  rw [show utfL us ++ Value.int (lo16 x) :: Value.int (hi16 x) :: utfL ws = (utfL us ++ [Value.int (lo16 x)]) ++ Value.int (hi16 x) :: utfL ws by simp]
  exact get_mid _ _ _ _ (by simp [utf_len])
theorem lat_at {cs us ws : List Int32} {x : Int32} (h : cs = us ++ x :: ws) (hk : cs.length < 1073741824) : (latL cs).getD (Int32.ofNat us.length).toNatClampNeg (.int 0) = .int (x.toInt8.toInt32) := by
  have hl : us.length < 1073741824 := by subst h; simp at hk; omega
  have e : latL cs = latL us ++ .int (x.toInt8.toInt32) :: latL ws := by rw [h, lat_app]; rfl
  rw [o_nat (by omega), e]
  exact get_mid _ _ _ _ (lat_len us).symm
theorem range_all (ys : List Value) (d : Value) {n k : Nat} (h : n = ys.length) (hk : k = 0) : ys = (List.range n).map fun i => ys.getD (k + i) d := by
  subst h hk
  apply List.ext_getElem
  · simp
  · intro i h1 h2; simp [h1]
theorem range_pre (us rs : List Value) (d : Value) {n k : Nat} (h : n = us.length) (hk : k = 0) : us = (List.range n).map fun i => (us ++ rs).getD (k + i) d := by
  subst h hk
  apply List.ext_getElem
  · simp
  · intro i h1 h2
    simp [List.getElem?_append_left h1, h1]
theorem app_copy (bs ys : List Value) (r : Nat) (z : Value) {n m : Nat} (hn : n = bs.length) (hm : m = ys.length) : (bs ++ List.replicate (ys.length + r) z).take n ++ ys ++ (bs ++ List.replicate (ys.length + r) z).drop (n + m) = (bs ++ ys) ++ List.replicate r z := by
  subst hn hm
  simp
theorem take0_copy (us : List Value) (n : Nat) (z : Value) {a b : Nat} (ha : a = 0) (hb : b = us.length) : (List.replicate us.length z).take a ++ us ++ (List.replicate us.length z).drop (a + b) = us := by
  subst ha hb
  simp
theorem sgn_neg {x : Int32} (h : x < 0) : ((x.toUInt32 >>> ((31 : Int32) &&& 31).toUInt32).toInt32).toInt8.toInt32 = 1 := by
  have hx : 2147483648 ≤ x.toBitVec.toNat := by
    rw [Int32.lt_iff_toInt_lt] at h
    have e1 : (0 : Int32).toInt = 0 := rfl
    have e3 : x.toInt = x.toBitVec.toInt := rfl
    rw [e1, e3, BitVec.toInt_eq_toNat_cond] at h
    have := x.toBitVec.isLt
    split at h <;> omega
  have q : (x.toUInt32 >>> ((31 : Int32) &&& 31).toUInt32) = 1 := by
    apply UInt32.toNat_inj.mp
    show (x.toBitVec >>> (31 : Nat)).toNat = 1
    rw [BitVec.toNat_ushiftRight, Nat.shiftRight_eq_div_pow]
    have := x.toBitVec.isLt
    omega
  rw [q]; rfl
theorem nar_i8 (c : Int32) : c.toInt8.toInt32.toInt8.toInt32 = c.toInt8.toInt32 := by simp
theorem o_dbl {k : Nat} (h : 1 ≤ k) (hk : k < 1073741824) : Int32.ofNat k - Int32.ofNat (2 * k) < 0 := by
  rw [Int32.lt_iff_toInt_lt, Int32.toInt_sub, o_int (by omega), o_int (by omega)]
  have e1 : (0 : Int32).toInt = 0 := rfl
  rw [e1, Int.bmod_def]
  have : ((k : Int) - ((2 * k : Nat) : Int)) % (2 ^ 32 : Nat) = 4294967296 - k := by
    omega
  rw [this]
  split <;> omega
theorem or_nn {a b : Nat} (ha : a < 2147483648) (hb : b < 2147483648) : ¬ (((Int32.ofNat a ||| (0 : Int32)) ||| Int32.ofNat b) < (0 : Int32)) := by
  have e : ((Int32.ofNat a ||| (0 : Int32)) ||| Int32.ofNat b).toBitVec.toNat < 2147483648 := by
    rw [Int32.toBitVec_or, BitVec.toNat_or, Int32.toBitVec_or, BitVec.toNat_or]
    have q1 : (Int32.ofNat a).toBitVec.toNat < 2 ^ 31 := by
      show a % 2 ^ 32 < 2 ^ 31
      omega
    have q2 : (Int32.ofNat b).toBitVec.toNat < 2 ^ 31 := by
      show b % 2 ^ 32 < 2 ^ 31
      omega
    exact Nat.or_lt_two_pow (Nat.or_lt_two_pow q1 (by decide)) q2
  rw [Int32.lt_iff_toInt_lt]
  have e1 : (0 : Int32).toInt = 0 := rfl
  have e3 : ((Int32.ofNat a ||| (0 : Int32)) ||| Int32.ofNat b).toInt = ((Int32.ofNat a ||| (0 : Int32)) ||| Int32.ofNat b).toBitVec.toInt := rfl
  rw [e1, e3, BitVec.toInt_eq_toNat_cond]
  split <;> omega
theorem sub_np {a b : Nat} (h : a ≤ b) (hb : b < 1073741824) : ¬ ((0 : Int32) < (Int32.ofNat a - Int32.ofNat b)) := by
  rw [Int32.lt_iff_toInt_lt, Int32.toInt_sub, o_int (by omega), o_int (by omega)]
  have e1 : (0 : Int32).toInt = 0 := rfl
  rw [e1, Int.bmod_def]
  split <;> omega
theorem lat_ch8 {c : Int32} (h : ¬ c < 0 ∧ ¬ (255 : Int32) < c) : c.toInt8.toInt32 &&& 255 = c := by
  have hz : c.toBitVec.toNat < 256 := by
    have h1 := h.1; have h2 := h.2
    rw [Int32.lt_iff_toInt_lt] at h1 h2
    have e1 : (0 : Int32).toInt = 0 := rfl
    have e2 : (255 : Int32).toInt = 255 := rfl
    rw [e1] at h1; rw [e2] at h2
    have e3 : c.toInt = c.toBitVec.toInt := rfl
    rw [e3, BitVec.toInt_eq_toNat_cond] at h1 h2
    have := c.toBitVec.isLt
    split at h1 <;> omega
  apply Int32.toBitVec_inj.mp
  apply BitVec.eq_of_getLsbD_eq
  intro i hi
  have h255 : ∀ i, i < 32 → (255#32).getLsbD i = decide (i < 8) := by decide
  simp only [Int32.toBitVec_and, BitVec.getLsbD_and]
  have e : (Int32.toBitVec 255).getLsbD i = decide (i < 8) := h255 i hi
  rw [e]
  by_cases h8 : i < 8
  · simp [h8, hi, BitVec.getElem_signExtend, BitVec.getLsbD_eq_getElem]
  · have : c.toBitVec.getLsbD i = false := by
      rw [BitVec.getLsbD]
      exact Nat.testBit_lt_two_pow (Nat.lt_of_lt_of_le hz (by show 2 ^ 8 ≤ 2 ^ i; exact Nat.pow_le_pow_right (by decide) (by omega)))
    rw [this]; simp [h8]
theorem map_ch8 : ∀ {cs : List Int32}, (∀ c ∈ cs, ¬ c < 0 ∧ ¬ (255 : Int32) < c) → (cs.map fun c => c.toInt8.toInt32).map ch8 = cs
  | [], _ => rfl
  | c :: r, h => by
    rw [List.map_cons, List.map_cons, map_ch8 fun d hd => h d (List.mem_cons_of_mem _ hd)]
    rw [show ch8 (c.toInt8.toInt32) = c from lat_ch8 (h c (List.mem_cons_self ..))]
theorem utf_put2 (f : Int32 → Int32) (us : List Int32) (c : Int32) (m : Nat) (z : Value) : ((utfL (us.map f) ++ List.replicate (m + 2) z).set (2 * us.length) (.int (lo16 (f c)))).set (2 * us.length + 1) (.int (hi16 (f c))) = utfL ((us ++ [c]).map f) ++ List.replicate m z := by
  have := utf_put (us.map f) (f c) m z
  rw [List.length_map] at this
  rw [this, List.map_append]; rfl
theorem at_mid2 {cs us ws : List Int32} {x : Int32} (rs : List Value) (h : cs = us ++ x :: ws) (hk : cs.length < 2147483648) : (cs.map Value.int ++ rs).getD (Int32.ofNat us.length).toNatClampNeg (.int 0) = .int x := by
  subst h
  rw [o_nat (by simp at hk; omega), List.map_append, List.map_cons, List.append_assoc]
  exact get_mid _ _ _ _ (by simp)
theorem arv_eq {Z : State} {h : Heap} {a : Addr} {k : ClassId} {ty : FieldType} {n : Int32} {vs vs' : List Value} {d : Value} (A : Arv Z h a k ty n vs d) (e : vs = vs') : Arv Z h a k ty n vs' d := e ▸ A
def LatP (cs : List Int32) : Prop := ∀ c ∈ cs, ¬ c < 0 ∧ ¬ (255 : Int32) < c
/-- a String whose chars are cs, by either coder -/
def StrU (Z : State) (h : Heap) (x : Addr) (cs : List Int32) : Prop := ∃ (t : Addr) (kt : ClassId), Exa Z h x "java/lang/String" ∧ Fld Z h x "java/lang/String" "value" "[B" (.ref t) ∧ ((Fld Z h x "java/lang/String" "coder" "B" (.int 0) ∧ LatP cs ∧ Arv Z h t kt .byte (Int32.ofNat cs.length) (latL cs) (.int 0)) ∨ (Fld Z h x "java/lang/String" "coder" "B" (.int 1) ∧ (∃ c ∈ cs, (255 : Int32) < c) ∧ Arv Z h t kt .byte (Int32.ofNat (2 * cs.length)) (utfL cs) (.int 0)))
section
variable {Z : State} {h h' : Heap} {x o : Addr} {cs : List Int32} {ws : List Addr} {sl : Nat} {v : Value}
theorem StrU.exa (S : StrU Z h x cs) : Exa Z h x "java/lang/String" := by obtain ⟨_, _, E, -⟩ := S; exact E
theorem StrU.lt (S : StrU Z h x cs) : x < h.size := S.exa.lt
theorem StrU.ext (S : StrU Z h x cs) (E : Ext h h') : StrU Z h' x cs := by
  obtain ⟨t, kt, a, b, ⟨c, q, d⟩ | ⟨c, q, d⟩⟩ := S
  · exact ⟨t, kt, a.ext E, b.ext E, Or.inl ⟨c.ext E, q, d.ext E⟩⟩
  · exact ⟨t, kt, a.ext E, b.ext E, Or.inr ⟨c.ext E, q, d.ext E⟩⟩
theorem StrU.keep (S : StrU Z h x cs) (K : Keep h h' ws) (hx : x ∉ ws) (ht : ∀ t kb N vs, Arv Z h t kb .byte N vs (.int 0) → t ∉ ws) : StrU Z h' x cs := by
  obtain ⟨t, kt, a, b, ⟨c, q, d⟩ | ⟨c, q, d⟩⟩ := S
  · exact ⟨t, kt, a.keep K, b.keep K hx, Or.inl ⟨c.keep K hx, q, d.keep K (ht _ _ _ _ d)⟩⟩
  · exact ⟨t, kt, a.keep K, b.keep K hx, Or.inr ⟨c.keep K hx, q, d.keep K (ht _ _ _ _ d)⟩⟩
theorem StrU.wr (S : StrU Z h x cs) (W : Wr h h' o sl v) (hx : x ≠ o) (ht : ∀ t kb N vs, Arv Z h t kb .byte N vs (.int 0) → t ≠ o) : StrU Z h' x cs := S.keep (Keep.of_wr W) (ninS hx nin0) fun _ _ _ _ A => ninS (ht _ _ _ _ A) nin0
end
theorem o_shrD {a : Nat} (h : a < 2147483648) : Int32.ofNat a >>> ((1 : Int32) &&& 31) = Int32.ofNat (a / 2) := by
  apply Int32.toBitVec_inj.mp
  show (BitVec.ofNat 32 a).sshiftRight 1 = BitVec.ofNat 32 (a / 2)
  apply BitVec.eq_of_toNat_eq
  rw [BitVec.sshiftRight_eq_of_msb_false (by rw [BitVec.msb_eq_decide]; simp; omega)]
  simp [Nat.shiftRight_eq_div_pow]
  omega
theorem cap_ok {cd : Int32} {bs ys : List Value} {ct kk Mn : Nat} (hc : (cd = 0 ∧ bs.length = ct ∧ ys.length = kk) ∨ (cd = 1 ∧ bs.length = 2 * ct ∧ ys.length = 2 * kk)) (hM : bs.length + ys.length ≤ Mn) (hMn : Mn ≤ 100000) : ¬ ((0 : Int32) < (Int32.ofNat (ct + kk) - (Int32.ofNat Mn >>> (cd &&& 31)))) := by
  rcases hc with ⟨rfl, q1, q2⟩ | ⟨rfl, q1, q2⟩
  · rw [o_shr0]; exact sub_np (by omega) (by omega)
  · rw [o_shrD (by omega)]; exact sub_np (by omega) (by omega)
theorem all_app {a b : List Int32} (h : LatP a) (g : LatP b) : LatP (a ++ b) := fun c hc => (List.mem_append.mp hc).elim (h c) (g c)
theorem allC' {x : Int32} {r : List Int32} {P : Int32 → Prop} (h : P x) (g : ∀ c ∈ r, P c) : ∀ c ∈ x :: r, P c := fun c hc => by
  rcases List.mem_cons.mp hc with rfl | q
  · exact h
  · exact g c q
theorem ex_app {a b : List Int32} (h : ∃ c ∈ b, (255 : Int32) < c) : ∃ c ∈ a ++ b, (255 : Int32) < c := by
  obtain ⟨c, hc, q⟩ := h
  exact ⟨c, List.mem_append_right _ hc, q⟩
theorem nar_ch16 (x y : Int32) : narrow .char (.int (ch16 x y)) = .int (ch16 x y) := nar_i2c _
def Q_rm48 (Z : State) (b1 : Addr) (kb : ClassId) (N r : Int32) (vs : List Value) (dv : Value) (h0 : Heap) (n0 : Nat) : Option Value → Heap → List Loc → Prop := fun v h L => v = some (.int r) ∧ Fr n0 L ∧ h = h0
set_option maxRecDepth 65536 in
set_option maxHeartbeats 40000000 in
theorem rm48 (l : Launch) (Z : State) (a0 : Array Value) (hw : ∀ d ∈ tables_1, d.before a0 Z = true) (ws : List Jvm.Cond) (b1 : Addr) (kb : ClassId) (N r : Int32) (vs : List Value) (dv : Value) (h0 : Heap) (n0 : Nat) (V_b1 : Arv Z h0 b1 kb .byte N vs dv) (hr : (N >>> ((1 : Int32) &&& 31)) = r) :
    CT l (⟨"java/lang/StringUTF16", "length", "([B)I"⟩ : MethodName) jdk_52_method_6_code 1 (some .int) ws ({ frames := 0, cells := 0, slots := 0, locals := 0 } : Room) #[(.ref b1)] Z h0 (Q_rm48 Z b1 kb N r vs dv h0 n0) := by
  refine Go.start (plainFor_of_name pn_2) ?_
  intro p e s m below meth c s₁ Bd hx hby hml hZ hown X0 e0
  replace hown : s.vm.findClass "java/lang/StringUTF16" = some m.cls := hown
  have N0 := Fr.nil n0
  rw [show entryFrame m #[(.ref b1)] 1 = (mkF m 0 #[.val (.ref b1)] []) from by first | (simp [entryFrame, mkF, argsToLocals, Value.category, maxLocals]; done) | rfl]
  refine Go.by (fun t => XS.aloadN X0.here hx rfl (dB hby D48 0 rfl) rfl rfl) ?_
  obtain ⟨cl_101, Ar_101, q_101, S_101, M_101, -, -⟩ := id V_b1
  refine Go.by (fun t => X0.arraylength hx (by first | exact Ar_101.1 | (rw [e0]; exact Ar_101.1)) (State.isArrayOf_alike hZ.alike Ar_101.2.1) (g := (mkF m 1 #[.val (.ref b1)] [(.ref b1)])) rfl rfl (dB hby D48 1 rfl) t) ?_
  rw [len_of S_101 M_101]
  refine Go.by (fun t => XS.iconst X0.here hx rfl (dB hby D48 2 rfl)) ?_
  refine Go.by (fun t => XS.ishr X0.here hx rfl (dB hby D48 3 rfl) rfl) ?_
  show Go p e below _ (s₁.setTop (mkF m 4 #[.val (.ref b1)] [(.int (N >>> ((1 : Int32) &&& 31)))]))
  rw [hr]
  exact Go.ret1 X0 hx Bd.returns Bd.notSynchronized rfl (Or.inl ⟨rfl, by simp, _, rfl⟩) (dB hby D48 4 rfl) (by decide) (by decide) (by first | (rw [e0]; exact ⟨rfl, N0, rfl⟩) | exact ⟨rfl, N0, rfl⟩)
def Q_rm38 (Z : State) (i1 z2 : Int32) (G3 : Value) (h0 : Heap) (n0 : Nat) : Option Value → Heap → List Loc → Prop := fun v h L => v = some (.int i1) ∧ Fr n0 L ∧ h = h0
set_option maxRecDepth 65536 in
set_option maxHeartbeats 40000000 in
theorem rm38 (l : Launch) (Z : State) (a0 : Array Value) (hw : ∀ d ∈ tables_1, d.before a0 Z = true) (ws : List Jvm.Cond) (i1 z2 : Int32) (G3 : Value) (h0 : Heap) (n0 : Nat) (rG3 : G3.isRef = true) (q1 : ¬ (i1 < (0 : Int32))) (q2 : i1 < z2) :
    CT l (⟨"jdk/internal/util/Preconditions", "checkIndex", "(IILjava/util/function/BiFunction;)I"⟩ : MethodName) jdk_41_method_11_code 3 (some .int) ws ({ frames := 0, cells := 0, slots := 0, locals := 0 } : Room) #[(.int i1), (.int z2), G3] Z h0 (Q_rm38 Z i1 z2 G3 h0 n0) := by
  refine Go.start (plainFor_of_name pn_10) ?_
  intro p e s m below meth c s₁ Bd hx hby hml hZ hown X0 e0
  replace hown : s.vm.findClass "jdk/internal/util/Preconditions" = some m.cls := hown
  have N0 := Fr.nil n0
  rw [show entryFrame m #[(.int i1), (.int z2), G3] 3 = (mkF m 0 #[.val (.int i1), .val (.int z2), .val G3] []) from by rcases ref_cases rG3 with rfl | ⟨_, rfl⟩ <;> first | (simp [entryFrame, mkF, argsToLocals, Value.category, maxLocals]; done) | rfl]
  refine Go.by (fun t => XS.iloadN X0.here hx rfl (dB hby D38 0 rfl) rfl ) ?_
  refine Go.by (fun t => XS.ifNo X0.here hx rfl (dB hby D38 1 rfl) rfl ((if0 _ _).trans (flt (q1 : ¬ (i1 < (0 : Int32)))).1)) ?_
  refine Go.by (fun t => XS.iloadN X0.here hx rfl (dB hby D38 2 rfl) rfl ) ?_
  refine Go.by (fun t => XS.iloadN X0.here hx rfl (dB hby D38 3 rfl) rfl ) ?_
  refine Go.by (fun t => XS.icmpYes X0.here hx rfl (pc0 := 6) (pc' := 16) rfl (dB hby D38 4 rfl) rfl (tlt (q2 : i1 < z2)).1 (by decide) (by decide)) ?_
  refine Go.by (fun t => XS.iloadN X0.here hx rfl (dB hby D38 10 rfl) rfl ) ?_
  show Go p e below _ (s₁.setTop (mkF m 17 #[.val (.int i1), .val (.int z2), .val G3] [(.int i1)]))
  exact Go.ret1 X0 hx Bd.returns Bd.notSynchronized rfl (Or.inl ⟨rfl, by simp, _, rfl⟩) (dB hby D38 11 rfl) (by decide) (by decide) (by first | (rw [e0]; exact ⟨rfl, N0, rfl⟩) | exact ⟨rfl, N0, rfl⟩)
def Q_rm37 (Z : State) (i1 z2 : Int32) (G3 : Value) (h0 : Heap) (n0 : Nat) : Option Value → Heap → List Loc → Prop := fun v h L => v = none ∧ Fr n0 L ∧ h = h0
set_option maxRecDepth 65536 in
set_option maxHeartbeats 40000000 in
theorem rm37 (l : Launch) (Z : State) (a0 : Array Value) (hw : ∀ d ∈ tables_1, d.before a0 Z = true) (ws : List Jvm.Cond) (i1 z2 : Int32) (G3 : Value) (h0 : Heap) (n0 : Nat) (Od : Old Z n0 h0) (O4 : Sta Z Z.heap "jdk/internal/util/Preconditions" "SIOOBE_FORMATTER" "Ljava/util/function/BiFunction;" G3) (rG3 : G3.isRef = true) (q1 : ¬ (i1 < (0 : Int32))) (q2 : i1 < z2) :
    CT l (⟨"java/lang/String", "checkIndex", "(II)V"⟩ : MethodName) jdk_42_method_155_code 2 none ws ({ frames := 1, cells := 0, slots := 0, locals := 16 } : Room) #[(.int i1), (.int z2)] Z h0 (Q_rm37 Z i1 z2 G3 h0 n0) := by
  refine Go.start (plainFor_of_name pn_1) ?_
  intro p e s m below meth c s₁ Bd hx hby hml hZ hown X0 e0
  replace hown : s.vm.findClass "java/lang/String" = some m.cls := hown
  have N0 := Fr.nil n0
  rw [show entryFrame m #[(.int i1), (.int z2)] 2 = (mkF m 0 #[.val (.int i1), .val (.int z2)] []) from by first | (simp [entryFrame, mkF, argsToLocals, Value.category, maxLocals]; done) | rfl]
  refine Go.by (fun t => XS.iloadN X0.here hx rfl (dB hby D37 0 rfl) rfl ) ?_
  refine Go.by (fun t => XS.iloadN X0.here hx rfl (dB hby D37 1 rfl) rfl ) ?_
  obtain ⟨T102, X102, e102, st102⟩ := getS2 X0 hx hZ hown (host := "") (Or.inl (wd hw 198 rfl)) Via.refl e0 (O4.ext Od.2) (g := (mkF m 2 #[.val (.int i1), .val (.int z2)] [(.int z2), (.int i1)])) rfl (dB hby D37 2 rfl)
  refine Go.by (fun t => st102 t) ?_
  obtain ⟨_, _, ⟨T103, L103, k103, n103⟩, -, X103, ⟨Lc103, hQ103, l103, y103, z103⟩, st103⟩ := Jvm.LawKit.callS X102 hx (y := (⟨"jdk/internal/util/Preconditions", "checkIndex", "(IILjava/util/function/BiFunction;)I"⟩ : MethodName)) hown (mvT hZ (wd hw 200 rfl)) (mvT hZ (wd hw 201 rfl)) (mvT hZ (wd hw 199 rfl)) (mvT hZ (wd hw 202 rfl)) (by decide) (backOf (W := 0) (rm38 l Z a0 hw [] i1 z2 G3 h0 n0 rG3 q1 q2) hZ (wd hw 202 rfl) (wd hw 199 rfl) (by decide) (by decide)) (g := (mkF m 5 #[.val (.int i1), .val (.int z2)] [G3, (.int z2), (.int i1)])) rfl (by rw [hml]; rfl) (argsL := [(.int i1), (.int z2), G3]) (rest := []) (lenOf pd_29 rfl) rfl (by show 2 * 0 + _ ≤ _; exact Nat.le_of_eq rfl) (dB hby D37 3 rfl) (fun _ _ => ⟨rfl, e102, (by decide : 0 + 0 ≤ _), (by decide : 0 + 0 ≤ _)⟩)
  dsimp only [Pt.U, Pt.locs, Pt.cells, Pt.slots] at X103 l103 y103 z103 st103 hQ103
  subst y103 z103
  obtain ⟨rfl, Nq103, e103⟩ := hQ103
  have N103 : Fr n0 L103 := by rw [l103]; exact Fr.app N0 Nq103
  clear l103
  refine Go.by (fun t => st103 t) ?_
  refine Go.by (fun t => XS.pop X103.here hx rfl (dB hby D37 4 rfl) rfl rfl) ?_
  exact Go.ret0 X103 hx Bd.returns Bd.notSynchronized (dB hby D37 5 rfl) (by decide) (by decide) (by first | (rw [e103]; exact ⟨rfl, N103, rfl⟩) | exact ⟨rfl, N103, rfl⟩)
def Q_rm52 (Z : State) (b1 : Addr) (kb : ClassId) (N : Int32) (vs : List Value) (i1 z2 : Int32) (G3 : Value) (h0 : Heap) (n0 : Nat) : Option Value → Heap → List Loc → Prop := fun v h L => v = none ∧ Fr n0 L ∧ h = h0
set_option maxRecDepth 65536 in
set_option maxHeartbeats 40000000 in
theorem rm52 (l : Launch) (Z : State) (a0 : Array Value) (hw : ∀ d ∈ tables_1, d.before a0 Z = true) (ws : List Jvm.Cond) (b1 : Addr) (kb : ClassId) (N : Int32) (vs : List Value) (i1 z2 : Int32) (G3 : Value) (h0 : Heap) (n0 : Nat) (Od : Old Z n0 h0) (O4 : Sta Z Z.heap "jdk/internal/util/Preconditions" "SIOOBE_FORMATTER" "Ljava/util/function/BiFunction;" G3) (rG3 : G3.isRef = true) (V_b1 : Arv Z h0 b1 kb .byte N vs (.int 0)) (hr : (N >>> ((1 : Int32) &&& 31)) = z2) (q1 : ¬ (i1 < (0 : Int32))) (q2 : i1 < z2) :
    CT l (⟨"java/lang/StringUTF16", "checkIndex", "(I[B)V"⟩ : MethodName) jdk_52_method_91_code 2 none ws ({ frames := 2, cells := 0, slots := 0, locals := 32 } : Room) #[(.int i1), (.ref b1)] Z h0 (Q_rm52 Z b1 kb N vs i1 z2 G3 h0 n0) := by
  refine Go.start (plainFor_of_name pn_2) ?_
  intro p e s m below meth c s₁ Bd hx hby hml hZ hown X0 e0
  replace hown : s.vm.findClass "java/lang/StringUTF16" = some m.cls := hown
  have N0 := Fr.nil n0
  rw [show entryFrame m #[(.int i1), (.ref b1)] 2 = (mkF m 0 #[.val (.int i1), .val (.ref b1)] []) from by first | (simp [entryFrame, mkF, argsToLocals, Value.category, maxLocals]; done) | rfl]
  refine Go.by (fun t => XS.iloadN X0.here hx rfl (dB hby D52 0 rfl) rfl ) ?_
  refine Go.by (fun t => XS.aloadN X0.here hx rfl (dB hby D52 1 rfl) rfl rfl) ?_
  obtain ⟨_, _, ⟨T104, L104, k104, n104⟩, -, X104, ⟨Lc104, hQ104, l104, y104, z104⟩, st104⟩ := Jvm.LawKit.callS X0 hx (y := (⟨"java/lang/StringUTF16", "length", "([B)I"⟩ : MethodName)) hown (mvT hZ (wd hw 243 rfl)) (mvT hZ (wd hw 244 rfl)) (mvT hZ (wd hw 23 rfl)) (mvT hZ (wd hw 245 rfl)) (by decide) (backOf (W := 1) (rm48 l Z a0 hw [] b1 kb N z2 vs (.int 0) h0 n0 V_b1 hr) hZ (wd hw 245 rfl) (wd hw 23 rfl) (by decide) (by decide)) (g := (mkF m 2 #[.val (.int i1), .val (.ref b1)] [(.ref b1), (.int i1)])) rfl (by rw [hml]; rfl) (argsL := [(.ref b1)]) (rest := [(.int i1)]) (lenOf pd_32 rfl) rfl (by show 2 * 0 + _ ≤ _; exact Nat.le_of_eq rfl) (dB hby D52 2 rfl) (fun _ _ => ⟨rfl, e0, (by decide : 0 + 0 ≤ _), (by decide : 0 + 0 ≤ _)⟩)
  dsimp only [Pt.U, Pt.locs, Pt.cells, Pt.slots] at X104 l104 y104 z104 st104 hQ104
  subst y104 z104
  obtain ⟨rfl, Nq104, e104⟩ := hQ104
  have N104 : Fr n0 L104 := by rw [l104]; exact Fr.app N0 Nq104
  clear l104
  refine Go.by (fun t => st104 t) ?_
  obtain ⟨_, _, ⟨T105, L105, k105, n105⟩, -, X105, ⟨Lc105, hQ105, l105, y105, z105⟩, st105⟩ := Jvm.LawKit.callS X104 hx (y := (⟨"java/lang/String", "checkIndex", "(II)V"⟩ : MethodName)) hown (mvT hZ (wd hw 260 rfl)) (mvT hZ (wd hw 196 rfl)) (mvT hZ (wd hw 8 rfl)) (mvT hZ (wd hw 197 rfl)) (by decide) (backOf (W := 0) (rm37 l Z a0 hw [] i1 z2 G3 h0 n0 Od O4 rG3 q1 q2) hZ (wd hw 197 rfl) (wd hw 8 rfl) (by decide) (by decide)) (g := (mkF m 5 #[.val (.int i1), .val (.ref b1)] [(.int z2), (.int i1)])) rfl (by rw [hml]; rfl) (argsL := [(.int i1), (.int z2)]) (rest := []) (lenOf pd_26 rfl) rfl (by show 2 * 0 + _ ≤ _; exact Nat.le_of_eq rfl) (dB hby D52 3 rfl) (fun _ _ => ⟨rfl, e104, (by decide : 0 + 0 ≤ _), (by decide : 0 + 0 ≤ _)⟩)
  dsimp only [Pt.U, Pt.locs, Pt.cells, Pt.slots] at X105 l105 y105 z105 st105 hQ105
  subst y105 z105
  obtain ⟨rfl, Nq105, e105⟩ := hQ105
  have N105 : Fr n0 L105 := by rw [l105]; exact Fr.app N104 Nq105
  clear l105
  refine Go.by (fun t => st105 t) ?_
  show Go p e below _ (T105.setTop (mkF m 8 #[.val (.int i1), .val (.ref b1)] []))
  exact Go.ret0 X105 hx Bd.returns Bd.notSynchronized (dB hby D52 4 rfl) (by decide) (by decide) (by first | (rw [e105]; exact ⟨rfl, N105, rfl⟩) | exact ⟨rfl, N105, rfl⟩)
def Q_rm43 (Z : State) (b1 : Addr) (kb : ClassId) (N : Int32) (vs : List Value) (i1 j1 x1 y1 c1 : Int32) (h0 : Heap) (n0 : Nat) : Option Value → Heap → List Loc → Prop := fun v h L => v = some (.int c1) ∧ Fr n0 L ∧ h = h0
set_option maxRecDepth 65536 in
set_option maxHeartbeats 40000000 in
theorem rm43 (l : Launch) (Z : State) (a0 : Array Value) (hw : ∀ d ∈ tables_1, d.before a0 Z = true) (ws : List Jvm.Cond) (b1 : Addr) (kb : ClassId) (N : Int32) (vs : List Value) (i1 j1 x1 y1 c1 : Int32) (h0 : Heap) (n0 : Nat) (Od : Old Z n0 h0) (A1 : Sta Z Z.heap "java/lang/StringUTF16" "$assertionsDisabled" "Z" (.int 1)) (HS : Sta Z Z.heap "java/lang/StringUTF16" "HI_BYTE_SHIFT" "I" (.int 0)) (LS : Sta Z Z.heap "java/lang/StringUTF16" "LO_BYTE_SHIFT" "I" (.int 8)) (V_b1 : Arv Z h0 b1 kb .byte N vs (.int 0)) (hj1 : (i1 <<< ((1 : Int32) &&& 31)) = j1) (in1 : ¬ j1 < 0 ∧ j1 < N) (in2 : ¬ (j1 + (1 : Int32)) < 0 ∧ (j1 + (1 : Int32)) < N) (at1 : vs.getD j1.toNatClampNeg (.int 0) = .int x1) (at2 : vs.getD (j1 + (1 : Int32)).toNatClampNeg (.int 0) = .int y1) (hch : ch16 x1 y1 = c1) :
    CT l (⟨"java/lang/StringUTF16", "getChar", "([BI)C"⟩ : MethodName) jdk_52_method_5_code 2 (some .char) ws ({ frames := 0, cells := 0, slots := 0, locals := 0 } : Room) #[(.ref b1), (.int i1)] Z h0 (Q_rm43 Z b1 kb N vs i1 j1 x1 y1 c1 h0 n0) := by
  refine Go.start (plainFor_of_name pn_2) ?_
  intro p e s m below meth c s₁ Bd hx hby hml hZ hown X0 e0
  replace hown : s.vm.findClass "java/lang/StringUTF16" = some m.cls := hown
  have N0 := Fr.nil n0
  rw [show entryFrame m #[(.ref b1), (.int i1)] 2 = (mkF m 0 #[.val (.ref b1), .val (.int i1)] []) from by first | (simp [entryFrame, mkF, argsToLocals, Value.category, maxLocals]; done) | rfl]
  obtain ⟨T106, X106, e106, st106⟩ := getS2 X0 hx hZ hown (host := "") (Or.inl (wd hw 221 rfl)) Via.refl e0 (A1.ext Od.2) (g := (mkF m 0 #[.val (.ref b1), .val (.int i1)] [])) rfl (dB hby D43 0 rfl)
  refine Go.by (fun t => st106 t) ?_
  refine Go.by (fun t => XS.ifYes X106.here hx rfl (pc0 := 3) (pc' := 28) rfl (dB hby D43 1 rfl) rfl ((if0 _ _).trans (feq (by decide : ¬ ((1 : Int32) = (0 : Int32)))).2) (by decide) (by decide)) ?_
  refine Go.by (fun t => XS.iloadN X106.here hx rfl (dB hby D43 13 rfl) rfl ) ?_
  refine Go.by (fun t => XS.iconst X106.here hx rfl (dB hby D43 14 rfl)) ?_
  refine Go.by (fun t => XS.ishl X106.here hx rfl (dB hby D43 15 rfl) rfl) ?_
  show Go p e below _ (T106.setTop (mkF m 31 #[.val (.ref b1), .val (.int i1)] [(.int (i1 <<< ((1 : Int32) &&& 31)))]))
  rw [hj1]
  refine Go.by (fun t => XS.istoreN X106.here hx rfl (dB hby D43 16 rfl) rfl (l' := #[.val (.ref b1), .val (.int j1)]) rfl) ?_
  refine Go.by (fun t => XS.aloadN X106.here hx rfl (dB hby D43 17 rfl) rfl rfl) ?_
  refine Go.by (fun t => XS.iloadN X106.here hx rfl (dB hby D43 18 rfl) rfl ) ?_
  refine Go.by (fun t => XS.iinc X106.here hx rfl (dB hby D43 19 rfl) rfl (l' := #[.val (.ref b1), .val (.int (j1 + (1 : Int32)))]) rfl) ?_
  obtain ⟨cl_107, Ar_107, q_107, S_107, M_107, H_107, G_107⟩ := id V_b1
  have in_107 := inb_of S_107 (j := j1) in1
  refine Go.by (fun t => X106.baloadBytes hx (j := j1) (v := (.int x1)) (by first | exact Ar_107.1 | (rw [e106]; exact Ar_107.1)) (State.isArrayOf_alike hZ.alike Ar_107.2.1) Ar_107.2.2 in_107 (H_107.at in_107 at1) (g := (mkF m 37 #[.val (.ref b1), .val (.int (j1 + (1 : Int32)))] [(.int j1), (.ref b1)])) rfl rfl (dB hby D43 20 rfl) t) ?_
  refine Go.by (fun t => XS.sipush X106.here hx rfl (dB hby D43 21 rfl)) ?_
  refine Go.by (fun t => XS.iand X106.here hx rfl (dB hby D43 22 rfl) rfl) ?_
  obtain ⟨T108, X108, e108, st108⟩ := getS2 X106 hx hZ hown (host := "") (Or.inl (wd hw 222 rfl)) Via.refl e106 (HS.ext Od.2) (g := (mkF m 42 #[.val (.ref b1), .val (.int (j1 + (1 : Int32)))] [(.int (x1 &&& (255 : Int32)))])) rfl (dB hby D43 23 rfl)
  refine Go.by (fun t => st108 t) ?_
  refine Go.by (fun t => XS.ishl X108.here hx rfl (dB hby D43 24 rfl) rfl) ?_
  refine Go.by (fun t => XS.aloadN X108.here hx rfl (dB hby D43 25 rfl) rfl rfl) ?_
  refine Go.by (fun t => XS.iloadN X108.here hx rfl (dB hby D43 26 rfl) rfl ) ?_
  show Go p e below _ (T108.setTop (mkF m 48 #[.val (.ref b1), .val (.int (j1 + (1 : Int32)))] [(.int (j1 + (1 : Int32))), (.ref b1), (.int ((x1 &&& (255 : Int32)) <<< ((0 : Int32) &&& 31)))]))
  obtain ⟨cl_109, Ar_109, q_109, S_109, M_109, H_109, G_109⟩ := id V_b1
  have in_109 := inb_of S_109 (j := (j1 + (1 : Int32))) in2
  refine Go.by (fun t => X108.baloadBytes hx (j := (j1 + (1 : Int32))) (v := (.int y1)) (by first | exact Ar_109.1 | (rw [e108]; exact Ar_109.1)) (State.isArrayOf_alike hZ.alike Ar_109.2.1) Ar_109.2.2 in_109 (H_109.at in_109 at2) (g := (mkF m 48 #[.val (.ref b1), .val (.int (j1 + (1 : Int32)))] [(.int (j1 + (1 : Int32))), (.ref b1), (.int ((x1 &&& (255 : Int32)) <<< ((0 : Int32) &&& 31)))])) rfl rfl (dB hby D43 27 rfl) t) ?_
  refine Go.by (fun t => XS.sipush X108.here hx rfl (dB hby D43 28 rfl)) ?_
  refine Go.by (fun t => XS.iand X108.here hx rfl (dB hby D43 29 rfl) rfl) ?_
  obtain ⟨T110, X110, e110, st110⟩ := getS2 X108 hx hZ hown (host := "") (Or.inl (wd hw 223 rfl)) Via.refl e108 (LS.ext Od.2) (g := (mkF m 53 #[.val (.ref b1), .val (.int (j1 + (1 : Int32)))] [(.int (y1 &&& (255 : Int32))), (.int ((x1 &&& (255 : Int32)) <<< ((0 : Int32) &&& 31)))])) rfl (dB hby D43 30 rfl)
  refine Go.by (fun t => st110 t) ?_
  refine Go.by (fun t => XS.ishl X110.here hx rfl (dB hby D43 31 rfl) rfl) ?_
  refine Go.by (fun t => XS.ior X110.here hx rfl (dB hby D43 32 rfl) rfl) ?_
  refine Go.by (fun t => XS.i2c X110.here hx rfl (dB hby D43 33 rfl) rfl) ?_
  have hch' : ((((x1 &&& (255 : Int32)) <<< ((0 : Int32) &&& 31)) ||| ((y1 &&& (255 : Int32)) <<< ((8 : Int32) &&& 31))).toUInt32.toUInt16.toUInt32.toInt32) = c1 := hch
  show Go p e below _ (T110.setTop (mkF m 59 #[.val (.ref b1), .val (.int (j1 + (1 : Int32)))] [(.int ((((x1 &&& (255 : Int32)) <<< ((0 : Int32) &&& 31)) ||| ((y1 &&& (255 : Int32)) <<< ((8 : Int32) &&& 31))).toUInt32.toUInt16.toUInt32.toInt32))]))
  rw [hch']
  exact Go.ret1 X110 hx Bd.returns Bd.notSynchronized (by rw [← hch]; exact nar_ch16 _ _) (Or.inl ⟨rfl, by simp, _, rfl⟩) (dB hby D43 34 rfl) (by decide) (by decide) (by first | (rw [e110]; exact ⟨rfl, N0, rfl⟩) | exact ⟨rfl, N0, rfl⟩)
def Q_rm51 (Z : State) (b1 : Addr) (kb : ClassId) (N : Int32) (vs : List Value) (i1 j1 x1 y1 c1 z2 : Int32) (G3 : Value) (h0 : Heap) (n0 : Nat) : Option Value → Heap → List Loc → Prop := fun v h L => v = some (.int c1) ∧ Fr n0 L ∧ h = h0
set_option maxRecDepth 65536 in
set_option maxHeartbeats 40000000 in
theorem rm51 (l : Launch) (Z : State) (a0 : Array Value) (hw : ∀ d ∈ tables_1, d.before a0 Z = true) (ws : List Jvm.Cond) (b1 : Addr) (kb : ClassId) (N : Int32) (vs : List Value) (i1 j1 x1 y1 c1 z2 : Int32) (G3 : Value) (h0 : Heap) (n0 : Nat) (Od : Old Z n0 h0) (A1 : Sta Z Z.heap "java/lang/StringUTF16" "$assertionsDisabled" "Z" (.int 1)) (HS : Sta Z Z.heap "java/lang/StringUTF16" "HI_BYTE_SHIFT" "I" (.int 0)) (LS : Sta Z Z.heap "java/lang/StringUTF16" "LO_BYTE_SHIFT" "I" (.int 8)) (O4 : Sta Z Z.heap "jdk/internal/util/Preconditions" "SIOOBE_FORMATTER" "Ljava/util/function/BiFunction;" G3) (rG3 : G3.isRef = true) (V_b1 : Arv Z h0 b1 kb .byte N vs (.int 0)) (hr : (N >>> ((1 : Int32) &&& 31)) = z2) (q1 : ¬ (i1 < (0 : Int32))) (q2 : i1 < z2) (hj1 : (i1 <<< ((1 : Int32) &&& 31)) = j1) (in1 : ¬ j1 < 0 ∧ j1 < N) (in2 : ¬ (j1 + (1 : Int32)) < 0 ∧ (j1 + (1 : Int32)) < N) (at1 : vs.getD j1.toNatClampNeg (.int 0) = .int x1) (at2 : vs.getD (j1 + (1 : Int32)).toNatClampNeg (.int 0) = .int y1) (hch : ch16 x1 y1 = c1) :
    CT l (⟨"java/lang/StringUTF16", "charAt", "([BI)C"⟩ : MethodName) jdk_52_method_83_code 2 (some .char) ws ({ frames := 3, cells := 0, slots := 0, locals := 46 } : Room) #[(.ref b1), (.int i1)] Z h0 (Q_rm51 Z b1 kb N vs i1 j1 x1 y1 c1 z2 G3 h0 n0) := by
  refine Go.start (plainFor_of_name pn_2) ?_
  intro p e s m below meth c s₁ Bd hx hby hml hZ hown X0 e0
  replace hown : s.vm.findClass "java/lang/StringUTF16" = some m.cls := hown
  have N0 := Fr.nil n0
  rw [show entryFrame m #[(.ref b1), (.int i1)] 2 = (mkF m 0 #[.val (.ref b1), .val (.int i1)] []) from by first | (simp [entryFrame, mkF, argsToLocals, Value.category, maxLocals]; done) | rfl]
  refine Go.by (fun t => XS.iloadN X0.here hx rfl (dB hby D51 0 rfl) rfl ) ?_
  refine Go.by (fun t => XS.aloadN X0.here hx rfl (dB hby D51 1 rfl) rfl rfl) ?_
  obtain ⟨_, _, ⟨T111, L111, k111, n111⟩, -, X111, ⟨Lc111, hQ111, l111, y111, z111⟩, st111⟩ := Jvm.LawKit.callS X0 hx (y := (⟨"java/lang/StringUTF16", "checkIndex", "(I[B)V"⟩ : MethodName)) hown (mvT hZ (wd hw 257 rfl)) (mvT hZ (wd hw 258 rfl)) (mvT hZ (wd hw 23 rfl)) (mvT hZ (wd hw 259 rfl)) (by decide) (backOf (W := 0) (rm52 l Z a0 hw [] b1 kb N vs i1 z2 G3 h0 n0 Od O4 rG3 V_b1 hr q1 q2) hZ (wd hw 259 rfl) (wd hw 23 rfl) (by decide) (by decide)) (g := (mkF m 2 #[.val (.ref b1), .val (.int i1)] [(.ref b1), (.int i1)])) rfl (by rw [hml]; rfl) (argsL := [(.int i1), (.ref b1)]) (rest := []) (lenOf pd_37 rfl) rfl (by show 2 * 0 + _ ≤ _; exact Nat.le_of_eq rfl) (dB hby D51 2 rfl) (fun _ _ => ⟨rfl, e0, (by decide : 0 + 0 ≤ _), (by decide : 0 + 0 ≤ _)⟩)
  dsimp only [Pt.U, Pt.locs, Pt.cells, Pt.slots] at X111 l111 y111 z111 st111 hQ111
  subst y111 z111
  obtain ⟨rfl, Nq111, e111⟩ := hQ111
  have N111 : Fr n0 L111 := by rw [l111]; exact Fr.app N0 Nq111
  clear l111
  refine Go.by (fun t => st111 t) ?_
  refine Go.by (fun t => XS.aloadN X111.here hx rfl (dB hby D51 3 rfl) rfl rfl) ?_
  refine Go.by (fun t => XS.iloadN X111.here hx rfl (dB hby D51 4 rfl) rfl ) ?_
  obtain ⟨_, _, ⟨T112, L112, k112, n112⟩, -, X112, ⟨Lc112, hQ112, l112, y112, z112⟩, st112⟩ := Jvm.LawKit.callS X111 hx (y := (⟨"java/lang/StringUTF16", "getChar", "([BI)C"⟩ : MethodName)) hown (mvT hZ (wd hw 224 rfl)) (mvT hZ (wd hw 225 rfl)) (mvT hZ (wd hw 23 rfl)) (mvT hZ (wd hw 226 rfl)) (by decide) (backOf (W := 0) (rm43 l Z a0 hw [] b1 kb N vs i1 j1 x1 y1 c1 h0 n0 Od A1 HS LS V_b1 hj1 in1 in2 at1 at2 hch) hZ (wd hw 226 rfl) (wd hw 23 rfl) (by decide) (by decide)) (g := (mkF m 7 #[.val (.ref b1), .val (.int i1)] [(.int i1), (.ref b1)])) rfl (by rw [hml]; rfl) (argsL := [(.ref b1), (.int i1)]) (rest := []) (lenOf pd_11 rfl) rfl (by show 2 * 0 + _ ≤ _; exact Nat.le_of_eq rfl) (dB hby D51 5 rfl) (fun _ _ => ⟨rfl, e111, (by decide : 0 + 0 ≤ _), (by decide : 0 + 0 ≤ _)⟩)
  dsimp only [Pt.U, Pt.locs, Pt.cells, Pt.slots] at X112 l112 y112 z112 st112 hQ112
  subst y112 z112
  obtain ⟨rfl, Nq112, e112⟩ := hQ112
  have N112 : Fr n0 L112 := by rw [l112]; exact Fr.app N111 Nq112
  clear l112
  refine Go.by (fun t => st112 t) ?_
  show Go p e below _ (T112.setTop (mkF m 10 #[.val (.ref b1), .val (.int i1)] [(.int c1)]))
  exact Go.ret1 X112 hx Bd.returns Bd.notSynchronized (by rw [← hch]; exact nar_ch16 _ _) (Or.inl ⟨rfl, by simp, _, rfl⟩) (dB hby D51 6 rfl) (by decide) (by decide) (by first | (rw [e112]; exact ⟨rfl, N112, rfl⟩) | exact ⟨rfl, N112, rfl⟩)
def Q_rm41 (Z : State) (i1 r : Int32) (h0 : Heap) (n0 : Nat) : Option Value → Heap → List Loc → Prop := fun v h L => v = some (.int r) ∧ Fr n0 L ∧ h = h0
set_option maxRecDepth 65536 in
set_option maxHeartbeats 40000000 in
theorem rm41 (l : Launch) (Z : State) (a0 : Array Value) (hw : ∀ d ∈ tables_1, d.before a0 Z = true) (ws : List Jvm.Cond) (i1 r : Int32) (h0 : Heap) (n0 : Nat) (q1 : ¬ (i1 < (0 : Int32))) (q2 : i1 < (1073741823 : Int32)) (hr : (i1 <<< ((1 : Int32) &&& 31)) = r) :
    CT l (⟨"java/lang/StringUTF16", "newBytesLength", "(I)I"⟩ : MethodName) jdk_52_method_3_code 1 (some .int) ws ({ frames := 0, cells := 0, slots := 0, locals := 0 } : Room) #[(.int i1)] Z h0 (Q_rm41 Z i1 r h0 n0) := by
  refine Go.start (plainFor_of_name pn_2) ?_
  intro p e s m below meth c s₁ Bd hx hby hml hZ hown X0 e0
  replace hown : s.vm.findClass "java/lang/StringUTF16" = some m.cls := hown
  have N0 := Fr.nil n0
  rw [show entryFrame m #[(.int i1)] 1 = (mkF m 0 #[.val (.int i1)] []) from by first | (simp [entryFrame, mkF, argsToLocals, Value.category, maxLocals]; done) | rfl]
  refine Go.by (fun t => XS.iloadN X0.here hx rfl (dB hby D41 0 rfl) rfl ) ?_
  refine Go.by (fun t => XS.ifYes X0.here hx rfl (pc0 := 1) (pc' := 12) rfl (dB hby D41 1 rfl) rfl ((if0 _ _).trans (flt (q1 : ¬ (i1 < (0 : Int32)))).2.1) (by decide) (by decide)) ?_
  refine Go.by (fun t => XS.iloadN X0.here hx rfl (dB hby D41 6 rfl) rfl ) ?_
  refine Go.by (fun t => X0.ldcInt hx hown (mvT hZ (wd hw 217 rfl)) (g := (mkF m 13 #[.val (.int i1)] [(.int i1)])) rfl (dB hby D41 7 rfl) t) ?_
  refine Go.by (fun t => XS.icmpYes X0.here hx rfl (pc0 := 15) (pc' := 55) rfl (dB hby D41 8 rfl) rfl (tlt (q2 : i1 < (1073741823 : Int32))).1 (by decide) (by decide)) ?_
  show Go p e below _ (s₁.setTop (mkF m 55 #[.val (.int i1)] []))
  refine Go.by (fun t => XS.iloadN X0.here hx rfl (dB hby D41 25 rfl) rfl ) ?_
  refine Go.by (fun t => XS.iconst X0.here hx rfl (dB hby D41 26 rfl)) ?_
  refine Go.by (fun t => XS.ishl X0.here hx rfl (dB hby D41 27 rfl) rfl) ?_
  show Go p e below _ (s₁.setTop (mkF m 58 #[.val (.int i1)] [(.int (i1 <<< ((1 : Int32) &&& 31)))]))
  rw [hr]
  exact Go.ret1 X0 hx Bd.returns Bd.notSynchronized rfl (Or.inl ⟨rfl, by simp, _, rfl⟩) (dB hby D41 28 rfl) (by decide) (by decide) (by first | (rw [e0]; exact ⟨rfl, N0, rfl⟩) | exact ⟨rfl, N0, rfl⟩)
def Q_rmNB (Z : State) (z r : Int32) (h0 : Heap) (n0 : Nat) : Option Value → Heap → List Loc → Prop := fun v h L => ∃ (b : Addr) (kb : ClassId), v = some (.ref b) ∧ h0.size ≤ b ∧ Fr n0 L ∧ Keep h0 h [] ∧ Arv Z h b kb .byte r [] (.int 0)
set_option maxRecDepth 65536 in
set_option maxHeartbeats 40000000 in
theorem rmNB (l : Launch) (Z : State) (a0 : Array Value) (hw : ∀ d ∈ tables_1, d.before a0 Z = true) (ws : List Jvm.Cond) (z r : Int32) (h0 : Heap) (n0 : Nat) (Z0 : n0 ≤ h0.size) (q1 : ¬ (z < (0 : Int32))) (q2 : z < (1073741823 : Int32)) (hr : (z <<< ((1 : Int32) &&& 31)) = r) (q3 : ¬ r < 0) (q4 : r.toNatClampNeg ≤ 32) :
    CT l (⟨"java/lang/StringUTF16", "newBytesFor", "(I)[B"⟩ : MethodName) jdk_52_method_2_code 1 (some (.array .byte)) ws ({ frames := 1, cells := 1, slots := 32, locals := 13 } : Room) #[(.int z)] Z h0 (Q_rmNB Z z r h0 n0) := by
  refine Go.start (plainFor_of_name pn_2) ?_
  intro p e s m below meth c s₁ Bd hx hby hml hZ hown X0 e0
  replace hown : s.vm.findClass "java/lang/StringUTF16" = some m.cls := hown
  have N0 := Fr.nil n0
  rw [show entryFrame m #[(.int z)] 1 = (mkF m 0 #[.val (.int z)] []) from by first | (simp [entryFrame, mkF, argsToLocals, Value.category, maxLocals]; done) | rfl]
  have K0 : Keep h0 h0 [] := Keep.refl _ _
  refine Go.by (fun t => XS.iloadN X0.here hx rfl (dB hby D40 0 rfl) rfl ) ?_
  obtain ⟨_, _, ⟨T113, L113, k113, n113⟩, -, X113, ⟨Lc113, hQ113, l113, y113, z113⟩, st113⟩ := Jvm.LawKit.callS X0 hx (y := (⟨"java/lang/StringUTF16", "newBytesLength", "(I)I"⟩ : MethodName)) hown (mvT hZ (wd hw 214 rfl)) (mvT hZ (wd hw 215 rfl)) (mvT hZ (wd hw 23 rfl)) (mvT hZ (wd hw 216 rfl)) (by decide) (backOf (W := 0) (rm41 l Z a0 hw [] z r h0 n0 q1 q2 hr) hZ (wd hw 216 rfl) (wd hw 23 rfl) (by decide) (by decide)) (g := (mkF m 1 #[.val (.int z)] [(.int z)])) rfl (by rw [hml]; rfl) (argsL := [(.int z)]) (rest := []) (lenOf pd_31 rfl) rfl (by show 2 * 0 + _ ≤ _; exact Nat.le_of_eq rfl) (dB hby D40 1 rfl) (fun _ _ => ⟨rfl, e0, (by decide : 0 + 0 ≤ _), (by decide : 0 + 0 ≤ _)⟩)
  dsimp only [Pt.U, Pt.locs, Pt.cells, Pt.slots] at X113 l113 y113 z113 st113 hQ113
  subst y113 z113
  obtain ⟨rfl, Nq113, e113⟩ := hQ113
  have N113 : Fr n0 L113 := by rw [l113]; exact Fr.app N0 Nq113
  clear l113
  refine Go.by (fun t => st113 t) ?_
  obtain ⟨T114, h114, k114, X114, e114, E114, A114, st114⟩ := newP X113 hx hZ (wd hw 25 rfl) e113 (g := (mkF m 4 #[.val (.int z)] [(.int r)])) rfl (dB hby D40 2 rfl) rfl q3 (cap := 32) q4 (by decide) (by decide) (by decide)
  obtain ⟨b, g114⟩ : ∃ z, z = h0.size := ⟨_, rfl⟩
  rw [← g114] at A114 st114
  refine Go.by (fun t => st114 t) ?_
  have g_b : n0 ≤ b := Nat.le_trans Z0 (Nat.le_of_eq g114.symm)
  have sz_b : h0.size ≤ b := Nat.le_trans K0.1 (Nat.le_of_eq g114.symm)
  replace Z0 := Nat.le_trans Z0 E114.1
  replace K0 := K0.ext E114
  have V_b := Arv.new A114 q3
  replace X114 := Stand.num (C := 1) (S := 32) X114 rfl rfl
  exact Go.ret1 X114 hx Bd.returns Bd.notSynchronized rfl (Or.inr (Or.inr (Or.inr (Or.inr ⟨rfl, rfl, rfl⟩)))) (dB hby D40 3 rfl) (by decide) (by decide) (by first | (rw [e114]; exact ⟨b, _, rfl, sz_b, N113, K0, V_b⟩) | exact ⟨b, _, rfl, sz_b, N113, K0, V_b⟩)
def Q_rm42 (Z : State) (b1 : Addr) (kb : ClassId) (N : Int32) (vs : List Value) (i1 c1 j1 : Int32) (p1 p2 : Nat) (h0 : Heap) (n0 : Nat) : Option Value → Heap → List Loc → Prop := fun v h L => v = none ∧ Fr n0 L ∧ Keep h0 h [b1] ∧ Arv Z h b1 kb .byte N ((vs.set p1 (.int (lo16 c1))).set p2 (.int (hi16 c1))) (.int 0)
set_option maxRecDepth 65536 in
set_option maxHeartbeats 40000000 in
theorem rm42 (l : Launch) (Z : State) (a0 : Array Value) (hw : ∀ d ∈ tables_1, d.before a0 Z = true) (ws : List Jvm.Cond) (b1 : Addr) (kb : ClassId) (N : Int32) (vs : List Value) (i1 c1 j1 : Int32) (p1 p2 : Nat) (h0 : Heap) (n0 : Nat) (Od : Old Z n0 h0) (A1 : Sta Z Z.heap "java/lang/StringUTF16" "$assertionsDisabled" "Z" (.int 1)) (HS : Sta Z Z.heap "java/lang/StringUTF16" "HI_BYTE_SHIFT" "I" (.int 0)) (LS : Sta Z Z.heap "java/lang/StringUTF16" "LO_BYTE_SHIFT" "I" (.int 8)) (g_b1 : n0 ≤ b1) (V_b1 : Arv Z h0 b1 kb .byte N vs (.int 0)) (hj1 : (i1 <<< ((1 : Int32) &&& 31)) = j1) (in1 : ¬ j1 < 0 ∧ j1 < N) (in2 : ¬ (j1 + (1 : Int32)) < 0 ∧ (j1 + (1 : Int32)) < N) (hp1 : j1.toNatClampNeg = p1) (hp2 : (j1 + (1 : Int32)).toNatClampNeg = p2) (hl1 : p1 < vs.length) (hl2 : p2 < vs.length) :
    CT l (⟨"java/lang/StringUTF16", "putChar", "([BII)V"⟩ : MethodName) jdk_52_method_4_code 3 none ws ({ frames := 0, cells := 0, slots := 0, locals := 0 } : Room) #[(.ref b1), (.int i1), (.int c1)] Z h0 (Q_rm42 Z b1 kb N vs i1 c1 j1 p1 p2 h0 n0) := by
  refine Go.start (plainFor_of_name pn_2) ?_
  intro p e s m below meth c s₁ Bd hx hby hml hZ hown X0 e0
  replace hown : s.vm.findClass "java/lang/StringUTF16" = some m.cls := hown
  have N0 := Fr.nil n0
  rw [show entryFrame m #[(.ref b1), (.int i1), (.int c1)] 3 = (mkF m 0 #[.val (.ref b1), .val (.int i1), .val (.int c1)] []) from by first | (simp [entryFrame, mkF, argsToLocals, Value.category, maxLocals]; done) | rfl]
  have K0 : Keep h0 h0 [b1] := Keep.refl _ _
  obtain ⟨T115, X115, e115, st115⟩ := getS2 X0 hx hZ hown (host := "") (Or.inl (wd hw 221 rfl)) Via.refl e0 (A1.ext Od.2) (g := (mkF m 0 #[.val (.ref b1), .val (.int i1), .val (.int c1)] [])) rfl (dB hby D42 0 rfl)
  refine Go.by (fun t => st115 t) ?_
  refine Go.by (fun t => XS.ifYes X115.here hx rfl (pc0 := 3) (pc' := 28) rfl (dB hby D42 1 rfl) rfl ((if0 _ _).trans (feq (by decide : ¬ ((1 : Int32) = (0 : Int32)))).2) (by decide) (by decide)) ?_
  refine Go.by (fun t => XS.iloadN X115.here hx rfl (dB hby D42 13 rfl) rfl ) ?_
  refine Go.by (fun t => XS.iconst X115.here hx rfl (dB hby D42 14 rfl)) ?_
  refine Go.by (fun t => XS.ishl X115.here hx rfl (dB hby D42 15 rfl) rfl) ?_
  show Go p e below _ (T115.setTop (mkF m 31 #[.val (.ref b1), .val (.int i1), .val (.int c1)] [(.int (i1 <<< ((1 : Int32) &&& 31)))]))
  rw [hj1]
  refine Go.by (fun t => XS.istoreN X115.here hx rfl (dB hby D42 16 rfl) rfl (l' := #[.val (.ref b1), .val (.int j1), .val (.int c1)]) rfl) ?_
  refine Go.by (fun t => XS.aloadN X115.here hx rfl (dB hby D42 17 rfl) rfl rfl) ?_
  refine Go.by (fun t => XS.iloadN X115.here hx rfl (dB hby D42 18 rfl) rfl ) ?_
  refine Go.by (fun t => XS.iinc X115.here hx rfl (dB hby D42 19 rfl) rfl (l' := #[.val (.ref b1), .val (.int (j1 + (1 : Int32))), .val (.int c1)]) rfl) ?_
  refine Go.by (fun t => XS.iloadN X115.here hx rfl (dB hby D42 20 rfl) rfl ) ?_
  obtain ⟨T116, X116, e116, st116⟩ := getS2 X115 hx hZ hown (host := "") (Or.inl (wd hw 222 rfl)) Via.refl e115 (HS.ext Od.2) (g := (mkF m 38 #[.val (.ref b1), .val (.int (j1 + (1 : Int32))), .val (.int c1)] [(.int c1), (.int j1), (.ref b1)])) rfl (dB hby D42 21 rfl)
  refine Go.by (fun t => st116 t) ?_
  refine Go.by (fun t => XS.ishr X116.here hx rfl (dB hby D42 22 rfl) rfl) ?_
  refine Go.by (fun t => XS.i2b X116.here hx rfl (dB hby D42 23 rfl) rfl) ?_
  obtain ⟨cl_117, Ar_117, q_117, S_117, M_117, H_117, G_117⟩ := id V_b1
  obtain ⟨T117, h117, X117, e117, W117, st117⟩ := stB X116 hx hZ e116 Ar_117 (j := j1) (inb_of S_117 in1) (g := (mkF m 43 #[.val (.ref b1), .val (.int (j1 + (1 : Int32))), .val (.int c1)] [(.int ((c1 >>> ((0 : Int32) &&& 31)).toInt8.toInt32)), (.int j1), (.ref b1)])) rfl rfl (dB hby D42 24 rfl)
  refine Go.by (fun t => st117 t) ?_
  replace V_b1 := Arv.set Ar_117 q_117 S_117 M_117 H_117 G_117 (fits_nar_byte _) W117 p1 hp1 hl1
  replace Od := Od.wr W117 g_b1
  replace K0 := K0.wr W117 (Or.inl (List.mem_of_getElem? (i := 0) rfl))
  have N117 := Fr.snoc X117 N0 g_b1
  refine Go.by (fun t => XS.aloadN X117.here hx rfl (dB hby D42 25 rfl) rfl rfl) ?_
  refine Go.by (fun t => XS.iloadN X117.here hx rfl (dB hby D42 26 rfl) rfl ) ?_
  refine Go.by (fun t => XS.iloadN X117.here hx rfl (dB hby D42 27 rfl) rfl ) ?_
  show Go p e below _ (T117.setTop (mkF m 47 #[.val (.ref b1), .val (.int (j1 + (1 : Int32))), .val (.int c1)] [(.int c1), (.int (j1 + (1 : Int32))), (.ref b1)]))
  obtain ⟨T118, X118, e118, st118⟩ := getS2 X117 hx hZ hown (host := "") (Or.inl (wd hw 223 rfl)) Via.refl e117 (LS.ext Od.2) (g := (mkF m 47 #[.val (.ref b1), .val (.int (j1 + (1 : Int32))), .val (.int c1)] [(.int c1), (.int (j1 + (1 : Int32))), (.ref b1)])) rfl (dB hby D42 28 rfl)
  refine Go.by (fun t => st118 t) ?_
  refine Go.by (fun t => XS.ishr X118.here hx rfl (dB hby D42 29 rfl) rfl) ?_
  refine Go.by (fun t => XS.i2b X118.here hx rfl (dB hby D42 30 rfl) rfl) ?_
  obtain ⟨cl_119, Ar_119, q_119, S_119, M_119, H_119, G_119⟩ := id V_b1
  obtain ⟨T119, h119, X119, e119, W119, st119⟩ := stB X118 hx hZ e118 Ar_119 (j := (j1 + (1 : Int32))) (inb_of S_119 in2) (g := (mkF m 52 #[.val (.ref b1), .val (.int (j1 + (1 : Int32))), .val (.int c1)] [(.int ((c1 >>> ((8 : Int32) &&& 31)).toInt8.toInt32)), (.int (j1 + (1 : Int32))), (.ref b1)])) rfl rfl (dB hby D42 31 rfl)
  refine Go.by (fun t => st119 t) ?_
  replace V_b1 := Arv.set Ar_119 q_119 S_119 M_119 H_119 G_119 (fits_nar_byte _) W119 p2 hp2 (by rw [List.length_set]; exact hl2)
  replace Od := Od.wr W119 g_b1
  replace K0 := K0.wr W119 (Or.inl (List.mem_of_getElem? (i := 0) rfl))
  have N119 := Fr.snoc X119 N117 g_b1
  exact Go.ret0 X119 hx Bd.returns Bd.notSynchronized (dB hby D42 32 rfl) (by decide) (by decide) (by first | (rw [e119]; exact ⟨rfl, N119, K0, V_b1⟩) | exact ⟨rfl, N119, K0, V_b1⟩)
def Q_rmTB (Z : State) (a1 : Addr) (kc : ClassId) (cs : List Int32) (h0 : Heap) (n0 : Nat) : Option Value → Heap → List Loc → Prop := fun v h L => ∃ (b : Addr) (kb : ClassId), v = some (.ref b) ∧ h0.size ≤ b ∧ Fr n0 L ∧ Keep h0 h [] ∧ Arv Z h b kb .byte (Int32.ofNat (2 * cs.length)) (utfL cs) (.int 0)
set_option maxRecDepth 65536 in
set_option maxHeartbeats 40000000 in
theorem rmTB (l : Launch) (Z : State) (a0 : Array Value) (hw : ∀ d ∈ tables_1, d.before a0 Z = true) (ws : List Jvm.Cond) (a1 : Addr) (kc : ClassId) (cs : List Int32) (h0 : Heap) (n0 : Nat) (Z0 : n0 ≤ h0.size) (Od : Old Z n0 h0) (A1 : Sta Z Z.heap "java/lang/StringUTF16" "$assertionsDisabled" "Z" (.int 1)) (HS : Sta Z Z.heap "java/lang/StringUTF16" "HI_BYTE_SHIFT" "I" (.int 0)) (LS : Sta Z Z.heap "java/lang/StringUTF16" "LO_BYTE_SHIFT" "I" (.int 8)) (V_a1 : Arv Z h0 a1 kc .char (Int32.ofNat cs.length) (cs.map Value.int) (.int 0)) (hk : cs.length ≤ 3) :
    CT l (⟨"java/lang/StringUTF16", "toBytes", "([CII)[B"⟩ : MethodName) jdk_52_method_14_code 5 (some (.array .byte)) ws ({ frames := 2, cells := 1, slots := 32, locals := 30 } : Room) #[(.ref a1), (.int (0 : Int32)), (.int (Int32.ofNat cs.length))] Z h0 (Q_rmTB Z a1 kc cs h0 n0) := by
  refine Go.start (plainFor_of_name pn_2) ?_
  intro p e s m below meth c s₁ Bd hx hby hml hZ hown X0 e0
  replace hown : s.vm.findClass "java/lang/StringUTF16" = some m.cls := hown
  have N0 := Fr.nil n0
  rw [show entryFrame m #[(.ref a1), (.int (0 : Int32)), (.int (Int32.ofNat cs.length))] 5 = (mkF m 0 #[.val (.ref a1), .val (.int (0 : Int32)), .val (.int (Int32.ofNat cs.length)), .unset, .unset] []) from by first | (simp [entryFrame, mkF, argsToLocals, Value.category, maxLocals]; done) | rfl]
  have K0 : Keep h0 h0 [] := Keep.refl _ _
  refine Go.by (fun t => XS.iloadN X0.here hx rfl (dB hby D39 0 rfl) rfl ) ?_
  obtain ⟨_, _, ⟨T120, L120, k120, n120⟩, -, X120, ⟨Lc120, hQ120, l120, y120, z120⟩, st120⟩ := Jvm.LawKit.callS X0 hx (y := (⟨"java/lang/StringUTF16", "newBytesFor", "(I)[B"⟩ : MethodName)) hown (mvT hZ (wd hw 211 rfl)) (mvT hZ (wd hw 212 rfl)) (mvT hZ (wd hw 23 rfl)) (mvT hZ (wd hw 213 rfl)) (by decide) (backOf (W := 0) (rmNB l Z a0 hw [] (Int32.ofNat cs.length) (Int32.ofNat (2 * cs.length)) h0 n0 Z0 (o_nn (by omega)) ((o_lt (b := 1073741823) (by omega) (by decide)).2 (by omega)) (o_shl _) (o_nn (by omega)) (by rw [o_nat (by omega)]; omega)) hZ (wd hw 213 rfl) (wd hw 23 rfl) (by decide) (by decide)) (g := (mkF m 1 #[.val (.ref a1), .val (.int (0 : Int32)), .val (.int (Int32.ofNat cs.length)), .unset, .unset] [(.int (Int32.ofNat cs.length))])) rfl (by rw [hml]; rfl) (argsL := [(.int (Int32.ofNat cs.length))]) (rest := []) (lenOf pd_14 rfl) rfl (by show 2 * 0 + _ ≤ _; exact Nat.le_of_eq rfl) (dB hby D39 1 rfl) (fun _ _ => ⟨rfl, e0, (by decide : 0 + 1 ≤ _), (by decide : 0 + 32 ≤ _)⟩)
  dsimp only [Pt.U, Pt.locs, Pt.cells, Pt.slots] at X120 l120 y120 z120 st120 hQ120
  subst y120 z120
  obtain ⟨b, k_b, rfl, sz_b, Nq120, K120, V_b⟩ := hQ120
  have g_b : n0 ≤ b := Nat.le_trans Z0 sz_b
  have ne_a1_b : a1 ≠ b := Nat.ne_of_lt (Nat.lt_of_lt_of_le V_a1.lt sz_b)
  replace sz_b : h0.size ≤ b := Nat.le_trans K0.1 sz_b
  have N120 : Fr n0 L120 := by rw [l120]; exact Fr.app N0 Nq120
  clear l120
  refine Go.by (fun t => st120 t) ?_
  replace X120 := Stand.num (C := 1) (S := 32) X120 rfl rfl
  replace Od := Od.keep K120 all0
  replace V_a1 := V_a1.keep K120 nin0
  replace Z0 := Nat.le_trans Z0 K120.1
  replace K0 := K0.trans K120 all0
  replace V_b : Arv Z T120.heap b k_b .byte (Int32.ofNat (2 * cs.length)) (List.replicate (2 * cs.length) (.int 0)) (.int 0) := V_b.pad (pad_rep [] _ (2 * cs.length))
  refine Go.by (fun t => XS.astoreN X120.here hx rfl (dB hby D39 2 rfl) rfl rfl (l' := #[.val (.ref a1), .val (.int (0 : Int32)), .val (.int (Int32.ofNat cs.length)), .val (.ref b), .unset]) rfl) ?_
  refine Go.by (fun t => XS.iconst X120.here hx rfl (dB hby D39 3 rfl)) ?_
  refine Go.by (fun t => XS.istore X120.here hx rfl (dB hby D39 4 rfl) rfl (l' := #[.val (.ref a1), .val (.int (0 : Int32)), .val (.int (Int32.ofNat cs.length)), .val (.ref b), .val (.int (0 : Int32))]) rfl) ?_
  have loop : ∀ (ws us : List Int32) (Tl : State) (Ll : List Loc) (hcs : cs = us ++ ws) (Xl : Stand p l e ({ frames := 2, cells := 1, slots := 32, locals := 30 } : Room) s m #[(.ref a1), (.int (0 : Int32)), (.int (Int32.ofNat cs.length))] below meth c Tl Ll 1 32) (Nl : Fr n0 Ll) (K0 : Keep h0 Tl.heap []) (Od : Old Z n0 Tl.heap) (Z0 : n0 ≤ Tl.heap.size) (V_a1 : Arv Z Tl.heap a1 kc .char (Int32.ofNat cs.length) (cs.map Value.int) (.int 0)) (V_b : Arv Z Tl.heap b k_b .byte (Int32.ofNat (2 * cs.length)) (utfL us ++ List.replicate (2 * ws.length) (.int 0)) (.int 0)), Go p e below (End (fun v h L => ∃ (b : Addr) (kb : ClassId), v = some (.ref b) ∧ h0.size ≤ b ∧ Fr n0 L ∧ Keep h0 h [] ∧ Arv Z h b kb .byte (Int32.ofNat (2 * cs.length)) (utfL cs) (.int 0)) s 1 32) (Tl.setTop (mkF m 8 #[.val (.ref a1), .val (.int (Int32.ofNat us.length)), .val (.int (Int32.ofNat cs.length)), .val (.ref b), .val (.int (Int32.ofNat us.length))] [])) := by
    intro ws
    induction ws with
    | nil =>
      intro us Tl Ll hcs Xl Nl K0 Od Z0 V_a1 V_b
      have hu : us = cs := by rw [hcs, List.append_nil]
      refine Go.by (fun t => XS.iload Xl.here hx rfl (dB hby D39 5 rfl) rfl ) ?_
      refine Go.by (fun t => XS.iloadN Xl.here hx rfl (dB hby D39 6 rfl) rfl ) ?_
      refine Go.by (fun t => XS.icmpYes Xl.here hx rfl (pc0 := 11) (pc' := 32) rfl (dB hby D39 7 rfl) rfl (flt (by rw [hu]; exact Int32.lt_irrefl : ¬ ((Int32.ofNat us.length) < (Int32.ofNat cs.length)))).2.1 (by decide) (by decide)) ?_
      show Go p e below _ (Tl.setTop (mkF m 32 #[.val (.ref a1), .val (.int (Int32.ofNat us.length)), .val (.int (Int32.ofNat cs.length)), .val (.ref b), .val (.int (Int32.ofNat us.length))] []))
      refine Go.by (fun t => XS.aloadN Xl.here hx rfl (dB hby D39 17 rfl) rfl rfl) ?_
      have V_f : Arv Z Tl.heap b k_b .byte (Int32.ofNat (2 * cs.length)) (utfL us ++ []) (.int 0) := V_b
      rw [List.append_nil, hu] at V_f
      exact Go.ret1 Xl hx Bd.returns Bd.notSynchronized rfl (Or.inr (Or.inr (Or.inr (Or.inr ⟨rfl, rfl, rfl⟩)))) (dB hby D39 18 rfl) (by decide) (by decide) ⟨b, k_b, rfl, sz_b, Nl, K0, V_f⟩
    | cons cx ws ih =>
      intro us Tl Ll hcs Xl Nl K0 Od Z0 V_a1 V_b
      have hl : cs.length < 2147483648 := by omega
      have hn : cs.length = us.length + (ws.length + 1) := by rw [hcs, List.length_append, List.length_cons]
      refine Go.by (fun t => XS.iload Xl.here hx rfl (dB hby D39 5 rfl) rfl ) ?_
      refine Go.by (fun t => XS.iloadN Xl.here hx rfl (dB hby D39 6 rfl) rfl ) ?_
      refine Go.by (fun t => XS.icmpNo Xl.here hx rfl (dB hby D39 7 rfl) rfl (tlt ((in_mid hcs hl).2 : (Int32.ofNat us.length) < (Int32.ofNat cs.length))).2.1) ?_
      show Go p e below _ (Tl.setTop (mkF m 14 #[.val (.ref a1), .val (.int (Int32.ofNat us.length)), .val (.int (Int32.ofNat cs.length)), .val (.ref b), .val (.int (Int32.ofNat us.length))] []))
      refine Go.by (fun t => XS.aloadN Xl.here hx rfl (dB hby D39 8 rfl) rfl rfl) ?_
      refine Go.by (fun t => XS.iload Xl.here hx rfl (dB hby D39 9 rfl) rfl ) ?_
      refine Go.by (fun t => XS.aloadN Xl.here hx rfl (dB hby D39 10 rfl) rfl rfl) ?_
      refine Go.by (fun t => XS.iloadN Xl.here hx rfl (dB hby D39 11 rfl) rfl ) ?_
      obtain ⟨cl_121, Ar_121, q_121, S_121, M_121, H_121, G_121⟩ := id V_a1
      have in_121 := inb_of S_121 (j := (Int32.ofNat us.length)) (in_mid hcs hl)
      refine Go.by (fun t => Xl.caload hx (j := (Int32.ofNat us.length)) (v := (.int cx)) (by first | exact Ar_121.1 | (rw [rfl]; exact Ar_121.1)) (State.isArrayOf_alike hZ.alike Ar_121.2.1) Ar_121.2.2 in_121 (H_121.at in_121 (at_mid hcs hl)) (g := (mkF m 19 #[.val (.ref a1), .val (.int (Int32.ofNat us.length)), .val (.int (Int32.ofNat cs.length)), .val (.ref b), .val (.int (Int32.ofNat us.length))] [(.int (Int32.ofNat us.length)), (.ref a1), (.int (Int32.ofNat us.length)), (.ref b)])) rfl rfl (dB hby D39 12 rfl) t) ?_
      obtain ⟨_, _, ⟨T122, L122, k122, n122⟩, -, X122, ⟨Lc122, hQ122, l122, y122, z122⟩, st122⟩ := Jvm.LawKit.callS Xl hx (y := (⟨"java/lang/StringUTF16", "putChar", "([BII)V"⟩ : MethodName)) hown (mvT hZ (wd hw 218 rfl)) (mvT hZ (wd hw 219 rfl)) (mvT hZ (wd hw 23 rfl)) (mvT hZ (wd hw 220 rfl)) (by decide) (backOf (W := 0) (rm42 l Z a0 hw [] b k_b (Int32.ofNat (2 * cs.length)) _ (Int32.ofNat us.length) cx (Int32.ofNat (2 * us.length)) (2 * us.length) (2 * us.length + 1) Tl.heap n0 Od A1 HS LS g_b V_b (o_shl _) (o_in (by omega) (by omega)) (by rw [o_one]; exact o_in (by omega) (by omega)) (o_nat (by omega)) (by rw [o_one]; exact o_nat (by omega)) (by rw [List.length_append, utf_len, List.length_replicate, List.length_cons]; omega) (by rw [List.length_append, utf_len, List.length_replicate, List.length_cons]; omega)) hZ (wd hw 220 rfl) (wd hw 23 rfl) (by decide) (by decide)) (g := (mkF m 20 #[.val (.ref a1), .val (.int (Int32.ofNat us.length)), .val (.int (Int32.ofNat cs.length)), .val (.ref b), .val (.int (Int32.ofNat us.length))] [(.int cx), (.int (Int32.ofNat us.length)), (.ref b)])) rfl (by rw [hml]; rfl) (argsL := [(.ref b), (.int (Int32.ofNat us.length)), (.int cx)]) (rest := []) (lenOf pd_30 rfl) rfl (by show 2 * 0 + _ ≤ _; exact Nat.le_of_eq rfl) (dB hby D39 13 rfl) (fun _ _ => ⟨rfl, rfl, (by decide : 1 + 0 ≤ _), (by decide : 32 + 0 ≤ _)⟩)
      dsimp only [Pt.U, Pt.locs, Pt.cells, Pt.slots] at X122 l122 y122 z122 st122 hQ122
      subst y122 z122
      obtain ⟨rfl, Nq122, K122, Vn122⟩ := hQ122
      have N122 : Fr n0 L122 := by rw [l122]; exact Fr.app Nl Nq122
      clear l122
      refine Go.by (fun t => st122 t) ?_
      replace Od := Od.keep K122 (allS g_b all0)
      replace V_a1 := V_a1.keep K122 (ninS ne_a1_b nin0)
      replace Z0 := Nat.le_trans Z0 K122.1
      replace K0 := K0.trans K122 (allS (P := fun x => x ∈ _ ∨ _ ≤ x) (Or.inr sz_b) all0)
      clear V_b
      have V_b : Arv Z T122.heap b k_b .byte (Int32.ofNat (2 * cs.length)) (utfL (us ++ [cx]) ++ List.replicate (2 * ws.length) (.int 0)) (.int 0) := arv_eq Vn122 (utf_put us cx (2 * ws.length) _)
      refine Go.by (fun t => XS.iinc X122.here hx rfl (dB hby D39 14 rfl) rfl (l' := #[.val (.ref a1), .val (.int ((Int32.ofNat us.length) + (1 : Int32))), .val (.int (Int32.ofNat cs.length)), .val (.ref b), .val (.int (Int32.ofNat us.length))]) rfl) ?_
      refine Go.by (fun t => XS.iinc X122.here hx rfl (dB hby D39 15 rfl) rfl (l' := #[.val (.ref a1), .val (.int ((Int32.ofNat us.length) + (1 : Int32))), .val (.int (Int32.ofNat cs.length)), .val (.ref b), .val (.int ((Int32.ofNat us.length) + (1 : Int32)))]) rfl) ?_
      refine Go.by (fun t => XS.goto X122.here hx rfl (pc0 := 29) (pc' := 8) rfl (dB hby D39 16 rfl) (by decide) (by decide)) ?_
      show Go p e below _ (T122.setTop (mkF m 8 #[.val (.ref a1), .val (.int ((Int32.ofNat us.length) + (1 : Int32))), .val (.int (Int32.ofNat cs.length)), .val (.ref b), .val (.int ((Int32.ofNat us.length) + (1 : Int32)))] []))
      rw [snoc_len us cx]
      exact ih (us ++ [cx]) _ _ (snoc_app hcs) X122 N122 K0 Od Z0 V_a1 V_b
  exact loop cs [] _ _ rfl X120 N120 K0 Od Z0 V_a1 V_b
def Q_rmC5 (Z : State) (a1 b1 : Addr) (kc kb : ClassId) (cs : List Int32) (h0 : Heap) (n0 : Nat) : Option Value → Heap → List Loc → Prop := fun v h L => Fr n0 L ∧ Keep h0 h [b1] ∧ ((v = some (.int (Int32.ofNat cs.length)) ∧ (∀ c ∈ cs, ¬ (255 : Int32) < c) ∧ Arv Z h b1 kb .byte (Int32.ofNat cs.length) (latL cs) (.int 0)) ∨ ∃ us cx ws, cs = us ++ cx :: ws ∧ (255 : Int32) < cx ∧ v = some (.int (Int32.ofNat us.length)))
set_option maxRecDepth 65536 in
set_option maxHeartbeats 40000000 in
theorem rmC5 (l : Launch) (Z : State) (a0 : Array Value) (hw : ∀ d ∈ tables_1, d.before a0 Z = true) (ws : List Jvm.Cond) (a1 b1 : Addr) (kc kb : ClassId) (cs : List Int32) (h0 : Heap) (n0 : Nat) (V_a1 : Arv Z h0 a1 kc .char (Int32.ofNat cs.length) (cs.map Value.int) (.int 0)) (g_b1 : n0 ≤ b1) (V_b1 : Arv Z h0 b1 kb .byte (Int32.ofNat cs.length) (List.replicate cs.length (.int 0)) (.int 0)) (hk : cs.length ≤ 3) :
    CT l (⟨"java/lang/StringUTF16", "compress", "([CI[BII)I"⟩ : MethodName) jdk_52_method_21_code 7 (some .int) ws ({ frames := 0, cells := 0, slots := 0, locals := 0 } : Room) #[(.ref a1), (.int (0 : Int32)), (.ref b1), (.int (0 : Int32)), (.int (Int32.ofNat cs.length))] Z h0 (Q_rmC5 Z a1 b1 kc kb cs h0 n0) := by
  refine Go.start (plainFor_of_name pn_2) ?_
  intro p e s m below meth c s₁ Bd hx hby hml hZ hown X0 e0
  replace hown : s.vm.findClass "java/lang/StringUTF16" = some m.cls := hown
  have N0 := Fr.nil n0
  have ne_a1_b1 : a1 ≠ b1 := arv_neT V_a1 V_b1 (by decide)
  rw [show entryFrame m #[(.ref a1), (.int (0 : Int32)), (.ref b1), (.int (0 : Int32)), (.int (Int32.ofNat cs.length))] 7 = (mkF m 0 #[.val (.ref a1), .val (.int (0 : Int32)), .val (.ref b1), .val (.int (0 : Int32)), .val (.int (Int32.ofNat cs.length)), .unset, .unset] []) from by first | (simp [entryFrame, mkF, argsToLocals, Value.category, maxLocals]; done) | rfl]
  have K0 : Keep h0 h0 [b1] := Keep.refl _ _
  refine Go.by (fun t => XS.iconst X0.here hx rfl (dB hby D6 0 rfl)) ?_
  refine Go.by (fun t => XS.istore X0.here hx rfl (dB hby D6 1 rfl) rfl (l' := #[.val (.ref a1), .val (.int (0 : Int32)), .val (.ref b1), .val (.int (0 : Int32)), .val (.int (Int32.ofNat cs.length)), .val (.int (0 : Int32)), .unset]) rfl) ?_
  replace K0 : Keep h0 s₁.heap [b1] := by rw [e0]; exact K0
  replace V_a1 : Arv Z s₁.heap a1 kc .char (Int32.ofNat cs.length) (cs.map Value.int) (.int 0) := by rw [e0]; exact V_a1
  replace V_b1 : Arv Z s₁.heap b1 kb .byte (Int32.ofNat cs.length) (List.replicate cs.length (.int 0)) (.int 0) := by rw [e0]; exact V_b1
  have loop : ∀ (ws us : List Int32) (sl6 : Slot) (hsl6 : One sl6) (Tl : State) (Ll : List Loc) (hcs : cs = us ++ ws) (hla : ∀ c ∈ us, ¬ (255 : Int32) < c) (Xl : Stand p l e ({ frames := 0, cells := 0, slots := 0, locals := 0 } : Room) s m #[(.ref a1), (.int (0 : Int32)), (.ref b1), (.int (0 : Int32)), (.int (Int32.ofNat cs.length))] below meth c Tl Ll 0 0) (Nl : Fr n0 Ll) (K0 : Keep h0 Tl.heap [b1]) (V_a1 : Arv Z Tl.heap a1 kc .char (Int32.ofNat cs.length) (cs.map Value.int) (.int 0)) (V_b1 : Arv Z Tl.heap b1 kb .byte (Int32.ofNat cs.length) (latL us ++ List.replicate ws.length (.int 0)) (.int 0)), Go p e below (End (fun v h L => Fr n0 L ∧ Keep h0 h [b1] ∧ ((v = some (.int (Int32.ofNat cs.length)) ∧ (∀ c ∈ cs, ¬ (255 : Int32) < c) ∧ Arv Z h b1 kb .byte (Int32.ofNat cs.length) (latL cs) (.int 0)) ∨ ∃ us cx ws, cs = us ++ cx :: ws ∧ (255 : Int32) < cx ∧ v = some (.int (Int32.ofNat us.length)))) s 0 0) (Tl.setTop (mkF m 3 #[.val (.ref a1), .val (.int (Int32.ofNat us.length)), .val (.ref b1), .val (.int (Int32.ofNat us.length)), .val (.int (Int32.ofNat cs.length)), .val (.int (Int32.ofNat us.length)), sl6] [])) := by
    intro ws
    induction ws with
    | nil =>
      intro us sl6 hsl6 Tl Ll hcs hla Xl Nl K0 V_a1 V_b1
      have hu : us = cs := by rw [hcs, List.append_nil]
      refine Go.by (fun t => XS.iload Xl.here hx rfl (dB hby D6 2 rfl) rfl ) ?_
      refine Go.by (fun t => XS.iload Xl.here hx rfl (dB hby D6 3 rfl) rfl ) ?_
      refine Go.by (fun t => XS.icmpYes Xl.here hx rfl (pc0 := 7) (pc' := 44) rfl (dB hby D6 4 rfl) rfl (flt (by rw [hu]; exact Int32.lt_irrefl : ¬ ((Int32.ofNat us.length) < (Int32.ofNat cs.length)))).2.1 (by decide) (by decide)) ?_
      refine Go.by (fun t => XS.iload Xl.here hx rfl (dB hby D6 23 rfl) rfl ) ?_
      have V_f : Arv Z Tl.heap b1 kb .byte (Int32.ofNat cs.length) (latL us ++ []) (.int 0) := V_b1
      rw [List.append_nil, hu] at V_f
      rw [hu] at hla
      exact Go.ret1 Xl hx Bd.returns Bd.notSynchronized rfl (Or.inl ⟨rfl, by simp, _, rfl⟩) (dB hby D6 24 rfl) (by decide) (by decide) ⟨Nl, K0, Or.inl ⟨rfl, hla, V_f⟩⟩
    | cons cx ws ih =>
      intro us sl6 hsl6 Tl Ll hcs hla Xl Nl K0 V_a1 V_b1
      have hl : cs.length < 2147483648 := by omega
      have hn : cs.length = us.length + (ws.length + 1) := by rw [hcs, List.length_append, List.length_cons]
      refine Go.by (fun t => XS.iload Xl.here hx rfl (dB hby D6 2 rfl) rfl ) ?_
      refine Go.by (fun t => XS.iload Xl.here hx rfl (dB hby D6 3 rfl) rfl ) ?_
      refine Go.by (fun t => XS.icmpNo Xl.here hx rfl (dB hby D6 4 rfl) rfl (tlt ((in_mid hcs hl).2 : (Int32.ofNat us.length) < (Int32.ofNat cs.length))).2.1) ?_
      refine Go.by (fun t => XS.aloadN Xl.here hx rfl (dB hby D6 5 rfl) rfl rfl) ?_
      refine Go.by (fun t => XS.iloadN Xl.here hx rfl (dB hby D6 6 rfl) rfl ) ?_
      obtain ⟨cl_123, Ar_123, q_123, S_123, M_123, H_123, G_123⟩ := id V_a1
      have in_123 := inb_of S_123 (j := (Int32.ofNat us.length)) (in_mid hcs hl)
      refine Go.by (fun t => Xl.caload hx (j := (Int32.ofNat us.length)) (v := (.int cx)) (by first | exact Ar_123.1 | (rw [rfl]; exact Ar_123.1)) (State.isArrayOf_alike hZ.alike Ar_123.2.1) Ar_123.2.2 in_123 (H_123.at in_123 (at_mid hcs hl)) (g := (mkF m 12 #[.val (.ref a1), .val (.int (Int32.ofNat us.length)), .val (.ref b1), .val (.int (Int32.ofNat us.length)), .val (.int (Int32.ofNat cs.length)), .val (.int (Int32.ofNat us.length)), sl6] [(.int (Int32.ofNat us.length)), (.ref a1)])) rfl rfl (dB hby D6 7 rfl) t) ?_
      show Go p e below _ (Tl.setTop (mkF m 13 #[.val (.ref a1), .val (.int (Int32.ofNat us.length)), .val (.ref b1), .val (.int (Int32.ofNat us.length)), .val (.int (Int32.ofNat cs.length)), .val (.int (Int32.ofNat us.length)), sl6] [(.int cx)]))
      refine Go.by (fun t => XS.istore Xl.here hx rfl (dB hby D6 8 rfl) rfl (l' := #[.val (.ref a1), .val (.int (Int32.ofNat us.length)), .val (.ref b1), .val (.int (Int32.ofNat us.length)), .val (.int (Int32.ofNat cs.length)), .val (.int (Int32.ofNat us.length)), .val (.int cx)]) (by rcases hsl6 with rfl | ⟨wz, rfl, hwz⟩ <;> first | rfl | (cases wz <;> first | rfl | (simp [Value.category] at hwz)))) ?_
      refine Go.by (fun t => XS.iload Xl.here hx rfl (dB hby D6 9 rfl) rfl ) ?_
      refine Go.by (fun t => XS.sipush Xl.here hx rfl (dB hby D6 10 rfl)) ?_
      by_cases gt : (255 : Int32) < cx
      ·
        refine Go.by (fun t => XS.icmpNo Xl.here hx rfl (dB hby D6 11 rfl) rfl (tlt (gt : (255 : Int32) < cx)).2.2.2) ?_
        refine Go.by (fun t => XS.iload Xl.here hx rfl (dB hby D6 12 rfl) rfl ) ?_
        exact Go.ret1 Xl hx Bd.returns Bd.notSynchronized rfl (Or.inl ⟨rfl, by simp, _, rfl⟩) (dB hby D6 13 rfl) (by decide) (by decide) ⟨Nl, K0, Or.inr ⟨us, cx, ws, hcs, gt, rfl⟩⟩
      refine Go.by (fun t => XS.icmpYes Xl.here hx rfl (pc0 := 20) (pc' := 26) rfl (dB hby D6 11 rfl) rfl (flt (gt : ¬ ((255 : Int32) < cx))).2.2.2 (by decide) (by decide)) ?_
      refine Go.by (fun t => XS.aloadN Xl.here hx rfl (dB hby D6 14 rfl) rfl rfl) ?_
      refine Go.by (fun t => XS.iloadN Xl.here hx rfl (dB hby D6 15 rfl) rfl ) ?_
      refine Go.by (fun t => XS.iload Xl.here hx rfl (dB hby D6 16 rfl) rfl ) ?_
      refine Go.by (fun t => XS.i2b Xl.here hx rfl (dB hby D6 17 rfl) rfl) ?_
      obtain ⟨cl_124, Ar_124, q_124, S_124, M_124, H_124, G_124⟩ := id V_b1
      obtain ⟨T124, h124, X124, e124, W124, st124⟩ := stB Xl hx hZ rfl Ar_124 (j := (Int32.ofNat us.length)) (inb_of S_124 (in_mid hcs hl)) (g := (mkF m 31 #[.val (.ref a1), .val (.int (Int32.ofNat us.length)), .val (.ref b1), .val (.int (Int32.ofNat us.length)), .val (.int (Int32.ofNat cs.length)), .val (.int (Int32.ofNat us.length)), .val (.int cx)] [(.int (cx.toInt8.toInt32)), (.int (Int32.ofNat us.length)), (.ref b1)])) rfl rfl (dB hby D6 18 rfl)
      refine Go.by (fun t => st124 t) ?_
      replace V_b1 := Arv.set Ar_124 q_124 S_124 M_124 H_124 G_124 (fits_nar_byte _) W124 us.length (o_nat (by omega)) (by rw [List.length_append, lat_len, List.length_replicate, List.length_cons]; omega)
      replace V_a1 := V_a1.other W124 ne_a1_b1
      replace K0 := K0.wr W124 (Or.inl (List.mem_of_getElem? (i := 0) rfl))
      have N124 := Fr.snoc X124 Nl g_b1
      replace V_b1 := arv_eq V_b1 (lat_put us cx ws.length _ (nar_i8 cx))
      refine Go.by (fun t => XS.iinc X124.here hx rfl (dB hby D6 19 rfl) rfl (l' := #[.val (.ref a1), .val (.int ((Int32.ofNat us.length) + (1 : Int32))), .val (.ref b1), .val (.int (Int32.ofNat us.length)), .val (.int (Int32.ofNat cs.length)), .val (.int (Int32.ofNat us.length)), .val (.int cx)]) rfl) ?_
      refine Go.by (fun t => XS.iinc X124.here hx rfl (dB hby D6 20 rfl) rfl (l' := #[.val (.ref a1), .val (.int ((Int32.ofNat us.length) + (1 : Int32))), .val (.ref b1), .val (.int ((Int32.ofNat us.length) + (1 : Int32))), .val (.int (Int32.ofNat cs.length)), .val (.int (Int32.ofNat us.length)), .val (.int cx)]) rfl) ?_
      refine Go.by (fun t => XS.iinc X124.here hx rfl (dB hby D6 21 rfl) rfl (l' := #[.val (.ref a1), .val (.int ((Int32.ofNat us.length) + (1 : Int32))), .val (.ref b1), .val (.int ((Int32.ofNat us.length) + (1 : Int32))), .val (.int (Int32.ofNat cs.length)), .val (.int ((Int32.ofNat us.length) + (1 : Int32))), .val (.int cx)]) rfl) ?_
      refine Go.by (fun t => XS.goto X124.here hx rfl (pc0 := 41) (pc' := 3) rfl (dB hby D6 22 rfl) (by decide) (by decide)) ?_
      subst e124
      show Go p e below _ (T124.setTop (mkF m 3 #[.val (.ref a1), .val (.int ((Int32.ofNat us.length) + (1 : Int32))), .val (.ref b1), .val (.int ((Int32.ofNat us.length) + (1 : Int32))), .val (.int (Int32.ofNat cs.length)), .val (.int ((Int32.ofNat us.length) + (1 : Int32))), .val (.int cx)] []))
      rw [snoc_len us cx]
      exact ih (us ++ [cx]) _ (One.val rfl) _ _ (snoc_app hcs) (all_snoc hla gt) X124 N124 K0 V_a1 V_b1
  exact loop cs [] _ One.u _ _ rfl (fun _ h => nomatch h) X0 N0 K0 V_a1 V_b1
def Q_rmC3 (Z : State) (a1 : Addr) (kc : ClassId) (cs : List Int32) (h0 : Heap) (n0 : Nat) : Option Value → Heap → List Loc → Prop := fun v h L => ∃ (b : Addr) (kb : ClassId), v = some (.ref b) ∧ h0.size ≤ b ∧ Fr n0 L ∧ Keep h0 h [] ∧ (((∀ c ∈ cs, ¬ (255 : Int32) < c) ∧ Arv Z h b kb .byte (Int32.ofNat cs.length) (latL cs) (.int 0)) ∨ ((∃ c ∈ cs, (255 : Int32) < c) ∧ Arv Z h b kb .byte (Int32.ofNat (2 * cs.length)) (utfL cs) (.int 0)))
set_option maxRecDepth 65536 in
set_option maxHeartbeats 40000000 in
theorem rmC3 (l : Launch) (Z : State) (a0 : Array Value) (hw : ∀ d ∈ tables_1, d.before a0 Z = true) (ws : List Jvm.Cond) (a1 : Addr) (kc : ClassId) (cs : List Int32) (h0 : Heap) (n0 : Nat) (Z0 : n0 ≤ h0.size) (Od : Old Z n0 h0) (A1 : Sta Z Z.heap "java/lang/StringUTF16" "$assertionsDisabled" "Z" (.int 1)) (HS : Sta Z Z.heap "java/lang/StringUTF16" "HI_BYTE_SHIFT" "I" (.int 0)) (LS : Sta Z Z.heap "java/lang/StringUTF16" "LO_BYTE_SHIFT" "I" (.int 8)) (V_a1 : Arv Z h0 a1 kc .char (Int32.ofNat cs.length) (cs.map Value.int) (.int 0)) (hk : cs.length ≤ 3) (hbd : ∀ c ∈ cs, ¬ c < 0 ∧ ¬ (65535 : Int32) < c) :
    CT l (⟨"java/lang/StringUTF16", "compress", "([CII)[B"⟩ : MethodName) jdk_52_method_16_code 6 (some (.array .byte)) ws ({ frames := 3, cells := 2, slots := 35, locals := 46 } : Room) #[(.ref a1), (.int (0 : Int32)), (.int (Int32.ofNat cs.length))] Z h0 (Q_rmC3 Z a1 kc cs h0 n0) := by
  refine Go.start (plainFor_of_name pn_2) ?_
  intro p e s m below meth c s₁ Bd hx hby hml hZ hown X0 e0
  replace hown : s.vm.findClass "java/lang/StringUTF16" = some m.cls := hown
  have N0 := Fr.nil n0
  rw [show entryFrame m #[(.ref a1), (.int (0 : Int32)), (.int (Int32.ofNat cs.length))] 6 = (mkF m 0 #[.val (.ref a1), .val (.int (0 : Int32)), .val (.int (Int32.ofNat cs.length)), .unset, .unset, .unset] []) from by first | (simp [entryFrame, mkF, argsToLocals, Value.category, maxLocals]; done) | rfl]
  have K0 : Keep h0 h0 [] := Keep.refl _ _
  refine Go.by (fun t => XS.iloadN X0.here hx rfl (dB hby D5 0 rfl) rfl ) ?_
  obtain ⟨T125, h125, k125, X125, e125, E125, A125, st125⟩ := newP X0 hx hZ (wd hw 25 rfl) e0 (g := (mkF m 1 #[.val (.ref a1), .val (.int (0 : Int32)), .val (.int (Int32.ofNat cs.length)), .unset, .unset, .unset] [(.int (Int32.ofNat cs.length))])) rfl (dB hby D5 1 rfl) rfl (o_nn (by omega)) (cap := 3) (by rw [o_nat (by omega)]; omega) (by decide) (by decide) (by decide)
  obtain ⟨lb, g125⟩ : ∃ z, z = h0.size := ⟨_, rfl⟩
  rw [← g125] at A125 st125
  refine Go.by (fun t => st125 t) ?_
  have g_lb : n0 ≤ lb := Nat.le_trans Z0 (Nat.le_of_eq g125.symm)
  have sz_lb : h0.size ≤ lb := Nat.le_trans K0.1 (Nat.le_of_eq g125.symm)
  have ne_a1_lb : a1 ≠ lb := Nat.ne_of_lt (Nat.lt_of_lt_of_le V_a1.lt (Nat.le_of_eq g125.symm))
  replace Od := Od.ext E125
  replace V_a1 := V_a1.ext E125
  replace Z0 := Nat.le_trans Z0 E125.1
  replace K0 := K0.ext E125
  have V_lb := Arv.new A125 (o_nn (by omega))
  replace X125 := Stand.num (C := 1) (S := 3) X125 rfl rfl
  replace V_lb : Arv Z h125 lb k125 .byte (Int32.ofNat cs.length) (List.replicate cs.length (.int 0)) (.int 0) := V_lb.pad (pad_rep [] _ cs.length)
  refine Go.by (fun t => XS.astoreN X125.here hx rfl (dB hby D5 2 rfl) rfl rfl (l' := #[.val (.ref a1), .val (.int (0 : Int32)), .val (.int (Int32.ofNat cs.length)), .val (.ref lb), .unset, .unset]) rfl) ?_
  refine Go.by (fun t => XS.aloadN X125.here hx rfl (dB hby D5 3 rfl) rfl rfl) ?_
  refine Go.by (fun t => XS.iloadN X125.here hx rfl (dB hby D5 4 rfl) rfl ) ?_
  refine Go.by (fun t => XS.aloadN X125.here hx rfl (dB hby D5 5 rfl) rfl rfl) ?_
  refine Go.by (fun t => XS.iconst X125.here hx rfl (dB hby D5 6 rfl)) ?_
  refine Go.by (fun t => XS.iloadN X125.here hx rfl (dB hby D5 7 rfl) rfl ) ?_
  obtain ⟨_, _, ⟨T126, L126, k126, n126⟩, -, X126, ⟨Lc126, hQ126, l126, y126, z126⟩, st126⟩ := Jvm.LawKit.callS X125 hx (y := (⟨"java/lang/StringUTF16", "compress", "([CI[BII)I"⟩ : MethodName)) hown (mvT hZ (wd hw 26 rfl)) (mvT hZ (wd hw 27 rfl)) (mvT hZ (wd hw 23 rfl)) (mvT hZ (wd hw 28 rfl)) (by decide) (backOf (W := 0) (rmC5 l Z a0 hw [] a1 lb kc _ cs h125 n0 V_a1 g_lb V_lb hk) hZ (wd hw 28 rfl) (wd hw 23 rfl) (by decide) (by decide)) (g := (mkF m 9 #[.val (.ref a1), .val (.int (0 : Int32)), .val (.int (Int32.ofNat cs.length)), .val (.ref lb), .unset, .unset] [(.int (Int32.ofNat cs.length)), (.int (0 : Int32)), (.ref lb), (.int (0 : Int32)), (.ref a1)])) rfl (by rw [hml]; rfl) (argsL := [(.ref a1), (.int (0 : Int32)), (.ref lb), (.int (0 : Int32)), (.int (Int32.ofNat cs.length))]) (rest := []) (lenOf pd_10 rfl) rfl (by show 2 * 0 + _ ≤ _; exact Nat.le_of_eq rfl) (dB hby D5 8 rfl) (fun _ _ => ⟨rfl, e125, (by decide : 1 + 0 ≤ _), (by decide : 3 + 0 ≤ _)⟩)
  dsimp only [Pt.U, Pt.locs, Pt.cells, Pt.slots] at X126 l126 y126 z126 st126 hQ126
  subst y126 z126
  obtain ⟨Nq126, K126, ⟨rfl, hla, Vl⟩ | ⟨us, cx, ws, hcs, gt, rfl⟩⟩ := hQ126
  ·
    have N126 : Fr n0 L126 := by rw [l126]; exact Fr.app N0 Nq126
    clear l126
    refine Go.by (fun t => st126 t) ?_
    replace Od := Od.keep K126 (allS g_lb all0)
    replace V_a1 := V_a1.keep K126 (ninS ne_a1_lb nin0)
    replace Z0 := Nat.le_trans Z0 K126.1
    replace K0 := K0.trans K126 (allS (P := fun x => x ∈ _ ∨ _ ≤ x) (Or.inr sz_lb) all0)
    refine Go.by (fun t => XS.istore X126.here hx rfl (dB hby D5 9 rfl) rfl (l' := #[.val (.ref a1), .val (.int (0 : Int32)), .val (.int (Int32.ofNat cs.length)), .val (.ref lb), .val (.int (Int32.ofNat cs.length)), .unset]) rfl) ?_
    refine Go.by (fun t => XS.iload X126.here hx rfl (dB hby D5 10 rfl) rfl ) ?_
    refine Go.by (fun t => XS.iloadN X126.here hx rfl (dB hby D5 11 rfl) rfl ) ?_
    show Go p e below _ (T126.setTop (mkF m 17 #[.val (.ref a1), .val (.int (0 : Int32)), .val (.int (Int32.ofNat cs.length)), .val (.ref lb), .val (.int (Int32.ofNat cs.length)), .unset] [(.int (Int32.ofNat cs.length)), (.int (Int32.ofNat cs.length))]))
    refine Go.by (fun t => XS.icmpYes X126.here hx rfl (pc0 := 17) (pc' := 57) rfl (dB hby D5 12 rfl) rfl (teq (rfl : (Int32.ofNat cs.length) = (Int32.ofNat cs.length))).1 (by decide) (by decide)) ?_
    refine Go.by (fun t => XS.aloadN X126.here hx rfl (dB hby D5 33 rfl) rfl rfl) ?_
    exact Go.ret1 X126 hx Bd.returns Bd.notSynchronized rfl (Or.inr (Or.inr (Or.inr (Or.inr ⟨rfl, rfl, rfl⟩)))) (dB hby D5 34 rfl) (by decide) (by decide) ⟨lb, _, rfl, sz_lb, N126, K0, Or.inl ⟨hla, Vl⟩⟩
  ·
    have hlt : us.length < cs.length := by rw [hcs, List.length_append, List.length_cons]; omega
    have hmem : cx ∈ cs := by rw [hcs]; exact List.mem_append_right _ (List.mem_cons_self ..)
    have N126 : Fr n0 L126 := by rw [l126]; exact Fr.app N0 Nq126
    clear l126
    refine Go.by (fun t => st126 t) ?_
    replace Od := Od.keep K126 (allS g_lb all0)
    replace V_a1 := V_a1.keep K126 (ninS ne_a1_lb nin0)
    replace Z0 := Nat.le_trans Z0 K126.1
    replace K0 := K0.trans K126 (allS (P := fun x => x ∈ _ ∨ _ ≤ x) (Or.inr sz_lb) all0)
    refine Go.by (fun t => XS.istore X126.here hx rfl (dB hby D5 9 rfl) rfl (l' := #[.val (.ref a1), .val (.int (0 : Int32)), .val (.int (Int32.ofNat cs.length)), .val (.ref lb), .val (.int (Int32.ofNat us.length)), .unset]) rfl) ?_
    refine Go.by (fun t => XS.iload X126.here hx rfl (dB hby D5 10 rfl) rfl ) ?_
    refine Go.by (fun t => XS.iloadN X126.here hx rfl (dB hby D5 11 rfl) rfl ) ?_
    show Go p e below _ (T126.setTop (mkF m 17 #[.val (.ref a1), .val (.int (0 : Int32)), .val (.int (Int32.ofNat cs.length)), .val (.ref lb), .val (.int (Int32.ofNat us.length)), .unset] [(.int (Int32.ofNat cs.length)), (.int (Int32.ofNat us.length))]))
    refine Go.by (fun t => XS.icmpNo X126.here hx rfl (dB hby D5 12 rfl) rfl (feq (o_ne hlt (by omega) : ¬ ((Int32.ofNat us.length) = (Int32.ofNat cs.length)))).1) ?_
    refine Go.by (fun t => XS.aloadN X126.here hx rfl (dB hby D5 13 rfl) rfl rfl) ?_
    refine Go.by (fun t => XS.iloadN X126.here hx rfl (dB hby D5 14 rfl) rfl ) ?_
    refine Go.by (fun t => XS.iloadN X126.here hx rfl (dB hby D5 15 rfl) rfl ) ?_
    obtain ⟨_, _, ⟨T127, L127, k127, n127⟩, -, X127, ⟨Lc127, hQ127, l127, y127, z127⟩, st127⟩ := Jvm.LawKit.callS X126 hx (y := (⟨"java/lang/StringUTF16", "toBytes", "([CII)[B"⟩ : MethodName)) hown (mvT hZ (wd hw 208 rfl)) (mvT hZ (wd hw 209 rfl)) (mvT hZ (wd hw 23 rfl)) (mvT hZ (wd hw 210 rfl)) (by decide) (backOf (W := 0) (rmTB l Z a0 hw [] a1 kc cs T126.heap n0 Z0 Od A1 HS LS V_a1 hk) hZ (wd hw 210 rfl) (wd hw 23 rfl) (by decide) (by decide)) (g := (mkF m 23 #[.val (.ref a1), .val (.int (0 : Int32)), .val (.int (Int32.ofNat cs.length)), .val (.ref lb), .val (.int (Int32.ofNat us.length)), .unset] [(.int (Int32.ofNat cs.length)), (.int (0 : Int32)), (.ref a1)])) rfl (by rw [hml]; rfl) (argsL := [(.ref a1), (.int (0 : Int32)), (.int (Int32.ofNat cs.length))]) (rest := []) (lenOf pd_8 rfl) rfl (by show 2 * 0 + _ ≤ _; exact Nat.le_of_eq rfl) (dB hby D5 16 rfl) (fun _ _ => ⟨rfl, rfl, (by decide : 1 + 1 ≤ _), (by decide : 3 + 32 ≤ _)⟩)
    dsimp only [Pt.U, Pt.locs, Pt.cells, Pt.slots] at X127 l127 y127 z127 st127 hQ127
    subst y127 z127
    obtain ⟨b, k_b, rfl, sz_b, Nq127, K127, V_b⟩ := hQ127
    have g_b : n0 ≤ b := Nat.le_trans Z0 sz_b
    have ne_a1_b : a1 ≠ b := Nat.ne_of_lt (Nat.lt_of_lt_of_le V_a1.lt sz_b)
    replace sz_b : h0.size ≤ b := Nat.le_trans K0.1 sz_b
    have N127 : Fr n0 L127 := by rw [l127]; exact Fr.app N126 Nq127
    clear l127
    refine Go.by (fun t => st127 t) ?_
    replace X127 := Stand.num (C := 2) (S := 35) X127 rfl rfl
    replace Od := Od.keep K127 all0
    replace V_a1 := V_a1.keep K127 nin0
    replace Z0 := Nat.le_trans Z0 K127.1
    replace K0 := K0.trans K127 all0
    refine Go.by (fun t => XS.astore X127.here hx rfl (dB hby D5 17 rfl) rfl rfl (l' := #[.val (.ref a1), .val (.int (0 : Int32)), .val (.int (Int32.ofNat cs.length)), .val (.ref lb), .val (.int (Int32.ofNat us.length)), .val (.ref b)]) rfl) ?_
    refine Go.by (fun t => XS.aload X127.here hx rfl (dB hby D5 18 rfl) rfl rfl) ?_
    refine Go.by (fun t => XS.iload X127.here hx rfl (dB hby D5 19 rfl) rfl ) ?_
    obtain ⟨_, _, ⟨T128, L128, k128, n128⟩, -, X128, ⟨Lc128, hQ128, l128, y128, z128⟩, st128⟩ := Jvm.LawKit.callS X127 hx (y := (⟨"java/lang/StringUTF16", "getChar", "([BI)C"⟩ : MethodName)) hown (mvT hZ (wd hw 224 rfl)) (mvT hZ (wd hw 225 rfl)) (mvT hZ (wd hw 23 rfl)) (mvT hZ (wd hw 226 rfl)) (by decide) (backOf (W := 0) (rm43 l Z a0 hw [] b k_b (Int32.ofNat (2 * cs.length)) _ (Int32.ofNat us.length) (Int32.ofNat (2 * us.length)) (lo16 cx) (hi16 cx) cx T127.heap n0 Od A1 HS LS V_b (o_shl _) (o_in (by omega) (by omega)) (by rw [o_one]; exact o_in (by omega) (by omega)) (utf_at hcs (by omega)).1 (utf_at hcs (by omega)).2 (cc16 (hbd cx hmem))) hZ (wd hw 226 rfl) (wd hw 23 rfl) (by decide) (by decide)) (g := (mkF m 32 #[.val (.ref a1), .val (.int (0 : Int32)), .val (.int (Int32.ofNat cs.length)), .val (.ref lb), .val (.int (Int32.ofNat us.length)), .val (.ref b)] [(.int (Int32.ofNat us.length)), (.ref b)])) rfl (by rw [hml]; rfl) (argsL := [(.ref b), (.int (Int32.ofNat us.length))]) (rest := []) (lenOf pd_11 rfl) rfl (by show 2 * 0 + _ ≤ _; exact Nat.le_of_eq rfl) (dB hby D5 20 rfl) (fun _ _ => ⟨rfl, rfl, (by decide : 2 + 0 ≤ _), (by decide : 35 + 0 ≤ _)⟩)
    dsimp only [Pt.U, Pt.locs, Pt.cells, Pt.slots] at X128 l128 y128 z128 st128 hQ128
    subst y128 z128
    obtain ⟨rfl, Nq128, e128⟩ := hQ128
    have N128 : Fr n0 L128 := by rw [l128]; exact Fr.app N127 Nq128
    clear l128
    refine Go.by (fun t => st128 t) ?_
    refine Go.by (fun t => XS.sipush X128.here hx rfl (dB hby D5 21 rfl)) ?_
    show Go p e below _ (T128.setTop (mkF m 38 #[.val (.ref a1), .val (.int (0 : Int32)), .val (.int (Int32.ofNat cs.length)), .val (.ref lb), .val (.int (Int32.ofNat us.length)), .val (.ref b)] [(.int (255 : Int32)), (.int cx)]))
    refine Go.by (fun t => XS.icmpYes X128.here hx rfl (pc0 := 38) (pc' := 54) rfl (dB hby D5 22 rfl) rfl (tlt (gt : (255 : Int32) < cx)).2.2.1 (by decide) (by decide)) ?_
    refine Go.by (fun t => XS.aload X128.here hx rfl (dB hby D5 31 rfl) rfl rfl) ?_
    exact Go.ret1 X128 hx Bd.returns Bd.notSynchronized rfl (Or.inr (Or.inr (Or.inr (Or.inr ⟨rfl, rfl, rfl⟩)))) (dB hby D5 32 rfl) (by decide) (by decide) (by first | (rw [e128]; exact ⟨b, k_b, rfl, sz_b, N128, K0, Or.inr ⟨⟨cx, hmem, gt⟩, V_b⟩⟩) | exact ⟨b, k_b, rfl, sz_b, N128, K0, Or.inr ⟨⟨cx, hmem, gt⟩, V_b⟩⟩)
def Q_rmCO (Z : State) (b1 : Addr) (kb : ClassId) (N k r : Int32) (vs : List Value) (h0 : Heap) (n0 : Nat) : Option Value → Heap → List Loc → Prop := fun v h L => v = some (.int r) ∧ Fr n0 L ∧ h = h0
set_option maxRecDepth 65536 in
set_option maxHeartbeats 40000000 in
theorem rmCO (l : Launch) (Z : State) (a0 : Array Value) (hw : ∀ d ∈ tables_1, d.before a0 Z = true) (ws : List Jvm.Cond) (b1 : Addr) (kb : ClassId) (N k r : Int32) (vs : List Value) (h0 : Heap) (n0 : Nat) (V_b1 : Arv Z h0 b1 kb .byte N vs (.int 0)) (hr : (((k - N).toUInt32 >>> ((31 : Int32) &&& 31).toUInt32).toInt32).toInt8.toInt32 = r) (h01 : r = 0 ∨ r = 1) :
    CT l (⟨"java/lang/StringUTF16", "coderFromArrayLen", "([BI)B"⟩ : MethodName) jdk_52_method_15_code 2 (some .byte) ws ({ frames := 0, cells := 0, slots := 0, locals := 0 } : Room) #[(.ref b1), (.int k)] Z h0 (Q_rmCO Z b1 kb N k r vs h0 n0) := by
  refine Go.start (plainFor_of_name pn_2) ?_
  intro p e s m below meth c s₁ Bd hx hby hml hZ hown X0 e0
  replace hown : s.vm.findClass "java/lang/StringUTF16" = some m.cls := hown
  have N0 := Fr.nil n0
  rw [show entryFrame m #[(.ref b1), (.int k)] 2 = (mkF m 0 #[.val (.ref b1), .val (.int k)] []) from by first | (simp [entryFrame, mkF, argsToLocals, Value.category, maxLocals]; done) | rfl]
  refine Go.by (fun t => XS.iloadN X0.here hx rfl (dB hby D7 0 rfl) rfl ) ?_
  refine Go.by (fun t => XS.aloadN X0.here hx rfl (dB hby D7 1 rfl) rfl rfl) ?_
  obtain ⟨cl_129, Ar_129, q_129, S_129, M_129, -, -⟩ := id V_b1
  refine Go.by (fun t => X0.arraylength hx (by first | exact Ar_129.1 | (rw [e0]; exact Ar_129.1)) (State.isArrayOf_alike hZ.alike Ar_129.2.1) (g := (mkF m 2 #[.val (.ref b1), .val (.int k)] [(.ref b1), (.int k)])) rfl rfl (dB hby D7 2 rfl) t) ?_
  rw [len_of S_129 M_129]
  refine Go.by (fun t => XS.isub X0.here hx rfl (dB hby D7 3 rfl) rfl) ?_
  refine Go.by (fun t => XS.bipush X0.here hx rfl (dB hby D7 4 rfl)) ?_
  refine Go.by (fun t => XS.iushr X0.here hx rfl (dB hby D7 5 rfl) rfl) ?_
  refine Go.by (fun t => XS.i2b X0.here hx rfl (dB hby D7 6 rfl) rfl) ?_
  have hr' : ((((k - N).toUInt32 >>> ((31 : Int32) &&& 31).toUInt32).toInt32).toInt8.toInt32) = r := hr
  show Go p e below _ (s₁.setTop (mkF m 8 #[.val (.ref b1), .val (.int k)] [(.int ((((k - N).toUInt32 >>> ((31 : Int32) &&& 31).toUInt32).toInt32).toInt8.toInt32))]))
  rw [hr']
  exact Go.ret1 X0 hx Bd.returns Bd.notSynchronized (by rcases h01 with rfl | rfl <;> rfl) (Or.inl ⟨rfl, by simp, _, rfl⟩) (dB hby D7 7 rfl) (by decide) (by decide) (by first | (rw [e0]; exact ⟨rfl, N0, rfl⟩) | exact ⟨rfl, N0, rfl⟩)
def Q_rmI5 (Z : State) (s1 : Addr) (a1 : Addr) (kc : ClassId) (cs : List Int32) (G1 : Int32) (h0 : Heap) (n0 : Nat) : Option Value → Heap → List Loc → Prop := fun v h L => v = none ∧ Fr n0 L ∧ Keep h0 h [s1] ∧ StrU Z h s1 cs
set_option maxRecDepth 65536 in
set_option maxHeartbeats 40000000 in
theorem rmI5 (l : Launch) (Z : State) (a0 : Array Value) (hw : ∀ d ∈ tables_1, d.before a0 Z = true) (ws : List Jvm.Cond) (s1 : Addr) (a1 : Addr) (kc : ClassId) (cs : List Int32) (G1 : Int32) (h0 : Heap) (n0 : Nat) (Z0 : n0 ≤ h0.size) (Od : Old Z n0 h0) (A1 : Sta Z Z.heap "java/lang/StringUTF16" "$assertionsDisabled" "Z" (.int 1)) (HS : Sta Z Z.heap "java/lang/StringUTF16" "HI_BYTE_SHIFT" "I" (.int 0)) (LS : Sta Z Z.heap "java/lang/StringUTF16" "LO_BYTE_SHIFT" "I" (.int 8)) (O2 : Sta Z Z.heap "java/lang/String" "COMPACT_STRINGS" "Z" (.int G1)) (P5 : ¬ (G1 = (0 : Int32))) (E_s1 : Exa Z h0 s1 "java/lang/String") (F_value_s1 : Fld Z h0 s1 "java/lang/String" "value" "[B" .null) (F_coder_s1 : Fld Z h0 s1 "java/lang/String" "coder" "B" (.int 0)) (g_s1 : n0 ≤ s1) (V_a1 : Arv Z h0 a1 kc .char (Int32.ofNat cs.length) (cs.map Value.int) (.int 0)) (hk : cs.length ≤ 3) (h1 : 1 ≤ cs.length) (hbd : ∀ c ∈ cs, ¬ c < 0 ∧ ¬ (65535 : Int32) < c) :
    CT l (⟨"java/lang/String", "<init>", "([CIILjava/lang/Void;)V"⟩ : MethodName) jdk_42_method_149_code 6 none ws ({ frames := 4, cells := 2, slots := 35, locals := 64 } : Room) #[(.ref s1), (.ref a1), (.int (0 : Int32)), (.int (Int32.ofNat cs.length)), .null] Z h0 (Q_rmI5 Z s1 a1 kc cs G1 h0 n0) := by
  refine Go.start (plainFor_of_name pn_1) ?_
  intro p e s m below meth c s₁ Bd hx hby hml hZ hown X0 e0
  replace hown : s.vm.findClass "java/lang/String" = some m.cls := hown
  have hnm := (name_of_methodNamed Bd.named Bd.method).1
  have N0 := Fr.nil n0
  rw [show entryFrame m #[(.ref s1), (.ref a1), (.int (0 : Int32)), (.int (Int32.ofNat cs.length)), .null] 6 = (mkF m 0 #[.val (.ref s1), .val (.ref a1), .val (.int (0 : Int32)), .val (.int (Int32.ofNat cs.length)), .val .null, .unset] []) from by first | (simp [entryFrame, mkF, argsToLocals, Value.category, maxLocals]; done) | rfl]
  have K0 : Keep h0 h0 [s1] := Keep.refl _ _
  refine Go.by (fun t => XS.aloadN X0.here hx rfl (dB hby D3 0 rfl) rfl rfl) ?_
  obtain ⟨T130, X130, e130, st130⟩ := initO X0 hx hZ hown (wd hw 17 rfl) (wd hw 18 rfl) (wd hw 19 rfl) e0 (g := (mkF m 1 #[.val (.ref s1), .val (.ref a1), .val (.int (0 : Int32)), .val (.int (Int32.ofNat cs.length)), .val .null, .unset] [(.ref s1)])) rfl (by rw [hml]; rfl) rfl (dB hby D3 1 rfl) (by decide) (W := 0) (by show 2 * 0 + _ ≤ _; exact Nat.le_of_eq rfl) (by decide)
  refine Go.by (fun t => st130 t) ?_
  refine Go.by (fun t => XS.iloadN X130.here hx rfl (dB hby D3 2 rfl) rfl ) ?_
  refine Go.by (fun t => XS.ifYes X130.here hx rfl (pc0 := 5) (pc' := 27) rfl (dB hby D3 3 rfl) rfl ((if0 _ _).trans (feq (fun q => o_ne (a := 0) (b := cs.length) (by omega) (by omega) q.symm : ¬ ((Int32.ofNat cs.length) = (0 : Int32)))).2) (by decide) (by decide)) ?_
  show Go p e below _ (T130.setTop (mkF m 27 #[.val (.ref s1), .val (.ref a1), .val (.int (0 : Int32)), .val (.int (Int32.ofNat cs.length)), .val .null, .unset] []))
  obtain ⟨T131, X131, e131, st131⟩ := getS2 X130 hx hZ hown (host := "") (Or.inl (wd hw 20 rfl)) Via.refl e130 (O2.ext Od.2) (g := (mkF m 27 #[.val (.ref s1), .val (.ref a1), .val (.int (0 : Int32)), .val (.int (Int32.ofNat cs.length)), .val .null, .unset] [])) rfl (dB hby D3 13 rfl)
  refine Go.by (fun t => st131 t) ?_
  refine Go.by (fun t => XS.ifNo X131.here hx rfl (dB hby D3 14 rfl) rfl ((if0 _ _).trans (feq (P5 : ¬ (G1 = (0 : Int32)))).1)) ?_
  refine Go.by (fun t => XS.aloadN X131.here hx rfl (dB hby D3 15 rfl) rfl rfl) ?_
  refine Go.by (fun t => XS.iloadN X131.here hx rfl (dB hby D3 16 rfl) rfl ) ?_
  refine Go.by (fun t => XS.iloadN X131.here hx rfl (dB hby D3 17 rfl) rfl ) ?_
  obtain ⟨_, _, ⟨T132, L132, k132, n132⟩, -, X132, ⟨Lc132, hQ132, l132, y132, z132⟩, st132⟩ := Jvm.LawKit.callS X131 hx (y := (⟨"java/lang/StringUTF16", "compress", "([CII)[B"⟩ : MethodName)) hown (mvT hZ (wd hw 21 rfl)) (mvT hZ (wd hw 22 rfl)) (mvT hZ (wd hw 23 rfl)) (mvT hZ (wd hw 24 rfl)) (by decide) (backOf (W := 0) (rmC3 l Z a0 hw [] a1 kc cs h0 n0 Z0 Od A1 HS LS V_a1 hk hbd) hZ (wd hw 24 rfl) (wd hw 23 rfl) (by decide) (by decide)) (g := (mkF m 36 #[.val (.ref s1), .val (.ref a1), .val (.int (0 : Int32)), .val (.int (Int32.ofNat cs.length)), .val .null, .unset] [(.int (Int32.ofNat cs.length)), (.int (0 : Int32)), (.ref a1)])) rfl (by rw [hml]; rfl) (argsL := [(.ref a1), (.int (0 : Int32)), (.int (Int32.ofNat cs.length))]) (rest := []) (lenOf pd_8 rfl) rfl (by show 2 * 0 + _ ≤ _; exact Nat.le_of_eq rfl) (dB hby D3 18 rfl) (fun _ _ => ⟨rfl, e131, (by decide : 0 + 2 ≤ _), (by decide : 0 + 35 ≤ _)⟩)
  dsimp only [Pt.U, Pt.locs, Pt.cells, Pt.slots] at X132 l132 y132 z132 st132 hQ132
  subst y132 z132
  obtain ⟨b, k_b, rfl, sz_b, Nq132, K132, ⟨hla, V_b⟩ | ⟨hgt, V_b⟩⟩ := hQ132
  ·
    have g_b : n0 ≤ b := Nat.le_trans Z0 sz_b
    have ne_a1_b : a1 ≠ b := Nat.ne_of_lt (Nat.lt_of_lt_of_le V_a1.lt sz_b)
    have ne_s1_b : s1 ≠ b := Nat.ne_of_lt (Nat.lt_of_lt_of_le E_s1.lt sz_b)
    replace sz_b : h0.size ≤ b := Nat.le_trans K0.1 sz_b
    have N132 : Fr n0 L132 := by rw [l132]; exact Fr.app N0 Nq132
    clear l132
    refine Go.by (fun t => st132 t) ?_
    replace X132 := Stand.num (C := 2) (S := 35) X132 rfl rfl
    replace Od := Od.keep K132 all0
    replace E_s1 := E_s1.keep K132
    replace F_value_s1 := F_value_s1.keep K132 nin0
    replace F_coder_s1 := F_coder_s1.keep K132 nin0
    replace V_a1 := V_a1.keep K132 nin0
    replace Z0 := Nat.le_trans Z0 K132.1
    replace K0 := K0.trans K132 all0
    refine Go.by (fun t => XS.astore X132.here hx rfl (dB hby D3 19 rfl) rfl rfl (l' := #[.val (.ref s1), .val (.ref a1), .val (.int (0 : Int32)), .val (.int (Int32.ofNat cs.length)), .val .null, .val (.ref b)]) rfl) ?_
    refine Go.by (fun t => XS.aloadN X132.here hx rfl (dB hby D3 20 rfl) rfl rfl) ?_
    refine Go.by (fun t => XS.aload X132.here hx rfl (dB hby D3 21 rfl) rfl rfl) ?_
    refine Go.by (fun t => XS.iloadN X132.here hx rfl (dB hby D3 22 rfl) rfl ) ?_
    obtain ⟨_, _, ⟨T133, L133, k133, n133⟩, -, X133, ⟨Lc133, hQ133, l133, y133, z133⟩, st133⟩ := Jvm.LawKit.callS X132 hx (y := (⟨"java/lang/StringUTF16", "coderFromArrayLen", "([BI)B"⟩ : MethodName)) hown (mvT hZ (wd hw 29 rfl)) (mvT hZ (wd hw 30 rfl)) (mvT hZ (wd hw 23 rfl)) (mvT hZ (wd hw 31 rfl)) (by decide) (backOf (W := 1) (rmCO l Z a0 hw [] b k_b (Int32.ofNat cs.length) (Int32.ofNat cs.length) 0 _ T132.heap n0 V_b (by rw [Int32.sub_self]; rfl) (Or.inl rfl)) hZ (wd hw 31 rfl) (wd hw 23 rfl) (by decide) (by decide)) (g := (mkF m 45 #[.val (.ref s1), .val (.ref a1), .val (.int (0 : Int32)), .val (.int (Int32.ofNat cs.length)), .val .null, .val (.ref b)] [(.int (Int32.ofNat cs.length)), (.ref b), (.ref s1)])) rfl (by rw [hml]; rfl) (argsL := [(.ref b), (.int (Int32.ofNat cs.length))]) (rest := [(.ref s1)]) (lenOf pd_9 rfl) rfl (by show 2 * 0 + _ ≤ _; exact Nat.le_of_eq rfl) (dB hby D3 23 rfl) (fun _ _ => ⟨rfl, rfl, (by decide : 2 + 0 ≤ _), (by decide : 35 + 0 ≤ _)⟩)
    dsimp only [Pt.U, Pt.locs, Pt.cells, Pt.slots] at X133 l133 y133 z133 st133 hQ133
    subst y133 z133
    obtain ⟨rfl, Nq133, e133⟩ := hQ133
    have N133 : Fr n0 L133 := by rw [l133]; exact Fr.app N132 Nq133
    clear l133
    refine Go.by (fun t => st133 t) ?_
    show Go p e below _ (T133.setTop (mkF m 48 #[.val (.ref s1), .val (.ref a1), .val (.int (0 : Int32)), .val (.int (Int32.ofNat cs.length)), .val .null, .val (.ref b)] [(.int (0 : Int32)), (.ref s1)]))
    obtain ⟨T134, h134, X134, e134, W134, st134⟩ := putFN X133 hx hZ hown (wd hw 32 rfl) Via.refl e133 F_coder_s1 E_s1 (Or.inr ⟨(wd hw 33 rfl), rfl, hnm⟩) (wd hw 7 rfl) (ty := .byte) (v' := (.int (0 : Int32))) (by decide) (by first | rfl | decide) (by first | rfl | decide | exact fits_nar_byte _) (g := (mkF m 48 #[.val (.ref s1), .val (.ref a1), .val (.int (0 : Int32)), .val (.int (Int32.ofNat cs.length)), .val .null, .val (.ref b)] [(.int (0 : Int32)), (.ref s1)])) rfl rfl (dB hby D3 24 rfl)
    refine Go.by (fun t => st134 t) ?_
    have ne_a1_s1 : a1 ≠ s1 := Ne.symm (Exa.neArv E_s1 V_a1 (wd hw 7 rfl))
    replace F_coder_s1 := F_coder_s1.same W134
    replace Od := Od.wr W134 g_s1
    replace E_s1 := E_s1.wr W134
    replace F_value_s1 := F_value_s1.other W134 (Or.inr (slot_ne (Or.inr (wd hw 35 rfl)) (Or.inr (wd hw 33 rfl)) (by decide) (t := (.array .byte)) (t' := .byte) (by decide) (by decide)))
    replace V_a1 := V_a1.other W134 ne_a1_s1
    replace V_b := V_b.other W134 (Ne.symm ne_s1_b)
    replace Z0 := Nat.le_trans Z0 (Keep.of_wr W134).1
    replace K0 := K0.wr W134 (Or.inl (List.mem_of_getElem? (i := 0) rfl))
    have N134 := Fr.snoc X134 N133 g_s1
    refine Go.by (fun t => XS.aloadN X134.here hx rfl (dB hby D3 25 rfl) rfl rfl) ?_
    refine Go.by (fun t => XS.aload X134.here hx rfl (dB hby D3 26 rfl) rfl rfl) ?_
    obtain ⟨T135, h135, X135, e135, W135, st135⟩ := putF X134 hx hZ hown (host := "") (Or.inl (wd hw 34 rfl)) Via.refl e134 F_value_s1 E_s1 (Or.inr ⟨(wd hw 35 rfl), rfl, hnm⟩) (wd hw 7 rfl) (ty := (.array .byte)) (by decide) rfl rfl (g := (mkF m 54 #[.val (.ref s1), .val (.ref a1), .val (.int (0 : Int32)), .val (.int (Int32.ofNat cs.length)), .val .null, .val (.ref b)] [(.ref b), (.ref s1)])) rfl rfl (dB hby D3 27 rfl)
    refine Go.by (fun t => st135 t) ?_
    replace F_value_s1 := F_value_s1.same W135
    replace Od := Od.wr W135 g_s1
    replace E_s1 := E_s1.wr W135
    replace F_coder_s1 := F_coder_s1.other W135 (Or.inr (slot_ne (Or.inr (wd hw 33 rfl)) (Or.inr (wd hw 35 rfl)) (by decide) (t := .byte) (t' := (.array .byte)) (by decide) (by decide)))
    replace V_a1 := V_a1.other W135 ne_a1_s1
    replace V_b := V_b.other W135 (Ne.symm ne_s1_b)
    replace Z0 := Nat.le_trans Z0 (Keep.of_wr W135).1
    replace K0 := K0.wr W135 (Or.inl (List.mem_of_getElem? (i := 0) rfl))
    have N135 := Fr.snoc X135 N134 g_s1
    exact Go.ret0 X135 hx Bd.returns Bd.notSynchronized (dB hby D3 28 rfl) (by decide) (by decide) (by first | (rw [e135]; exact ⟨rfl, N135, K0, b, k_b, E_s1, F_value_s1, Or.inl ⟨F_coder_s1, fun c hc => ⟨(hbd c hc).1, hla c hc⟩, V_b⟩⟩) | exact ⟨rfl, N135, K0, b, k_b, E_s1, F_value_s1, Or.inl ⟨F_coder_s1, fun c hc => ⟨(hbd c hc).1, hla c hc⟩, V_b⟩⟩)
  ·
    have g_b : n0 ≤ b := Nat.le_trans Z0 sz_b
    have ne_a1_b : a1 ≠ b := Nat.ne_of_lt (Nat.lt_of_lt_of_le V_a1.lt sz_b)
    have ne_s1_b : s1 ≠ b := Nat.ne_of_lt (Nat.lt_of_lt_of_le E_s1.lt sz_b)
    replace sz_b : h0.size ≤ b := Nat.le_trans K0.1 sz_b
    have N132 : Fr n0 L132 := by rw [l132]; exact Fr.app N0 Nq132
    clear l132
    refine Go.by (fun t => st132 t) ?_
    replace X132 := Stand.num (C := 2) (S := 35) X132 rfl rfl
    replace Od := Od.keep K132 all0
    replace E_s1 := E_s1.keep K132
    replace F_value_s1 := F_value_s1.keep K132 nin0
    replace F_coder_s1 := F_coder_s1.keep K132 nin0
    replace V_a1 := V_a1.keep K132 nin0
    replace Z0 := Nat.le_trans Z0 K132.1
    replace K0 := K0.trans K132 all0
    refine Go.by (fun t => XS.astore X132.here hx rfl (dB hby D3 19 rfl) rfl rfl (l' := #[.val (.ref s1), .val (.ref a1), .val (.int (0 : Int32)), .val (.int (Int32.ofNat cs.length)), .val .null, .val (.ref b)]) rfl) ?_
    refine Go.by (fun t => XS.aloadN X132.here hx rfl (dB hby D3 20 rfl) rfl rfl) ?_
    refine Go.by (fun t => XS.aload X132.here hx rfl (dB hby D3 21 rfl) rfl rfl) ?_
    refine Go.by (fun t => XS.iloadN X132.here hx rfl (dB hby D3 22 rfl) rfl ) ?_
    obtain ⟨_, _, ⟨T136, L136, k136, n136⟩, -, X136, ⟨Lc136, hQ136, l136, y136, z136⟩, st136⟩ := Jvm.LawKit.callS X132 hx (y := (⟨"java/lang/StringUTF16", "coderFromArrayLen", "([BI)B"⟩ : MethodName)) hown (mvT hZ (wd hw 29 rfl)) (mvT hZ (wd hw 30 rfl)) (mvT hZ (wd hw 23 rfl)) (mvT hZ (wd hw 31 rfl)) (by decide) (backOf (W := 1) (rmCO l Z a0 hw [] b k_b (Int32.ofNat (2 * cs.length)) (Int32.ofNat cs.length) 1 _ T132.heap n0 V_b (sgn_neg (o_dbl h1 (by omega))) (Or.inr rfl)) hZ (wd hw 31 rfl) (wd hw 23 rfl) (by decide) (by decide)) (g := (mkF m 45 #[.val (.ref s1), .val (.ref a1), .val (.int (0 : Int32)), .val (.int (Int32.ofNat cs.length)), .val .null, .val (.ref b)] [(.int (Int32.ofNat cs.length)), (.ref b), (.ref s1)])) rfl (by rw [hml]; rfl) (argsL := [(.ref b), (.int (Int32.ofNat cs.length))]) (rest := [(.ref s1)]) (lenOf pd_9 rfl) rfl (by show 2 * 0 + _ ≤ _; exact Nat.le_of_eq rfl) (dB hby D3 23 rfl) (fun _ _ => ⟨rfl, rfl, (by decide : 2 + 0 ≤ _), (by decide : 35 + 0 ≤ _)⟩)
    dsimp only [Pt.U, Pt.locs, Pt.cells, Pt.slots] at X136 l136 y136 z136 st136 hQ136
    subst y136 z136
    obtain ⟨rfl, Nq136, e136⟩ := hQ136
    have N136 : Fr n0 L136 := by rw [l136]; exact Fr.app N132 Nq136
    clear l136
    refine Go.by (fun t => st136 t) ?_
    show Go p e below _ (T136.setTop (mkF m 48 #[.val (.ref s1), .val (.ref a1), .val (.int (0 : Int32)), .val (.int (Int32.ofNat cs.length)), .val .null, .val (.ref b)] [(.int (1 : Int32)), (.ref s1)]))
    obtain ⟨T137, h137, X137, e137, W137, st137⟩ := putFN X136 hx hZ hown (wd hw 32 rfl) Via.refl e136 F_coder_s1 E_s1 (Or.inr ⟨(wd hw 33 rfl), rfl, hnm⟩) (wd hw 7 rfl) (ty := .byte) (v' := (.int (1 : Int32))) (by decide) (by first | rfl | decide) (by first | rfl | decide | exact fits_nar_byte _) (g := (mkF m 48 #[.val (.ref s1), .val (.ref a1), .val (.int (0 : Int32)), .val (.int (Int32.ofNat cs.length)), .val .null, .val (.ref b)] [(.int (1 : Int32)), (.ref s1)])) rfl rfl (dB hby D3 24 rfl)
    refine Go.by (fun t => st137 t) ?_
    have ne_a1_s1 : a1 ≠ s1 := Ne.symm (Exa.neArv E_s1 V_a1 (wd hw 7 rfl))
    replace F_coder_s1 := F_coder_s1.same W137
    replace Od := Od.wr W137 g_s1
    replace E_s1 := E_s1.wr W137
    replace F_value_s1 := F_value_s1.other W137 (Or.inr (slot_ne (Or.inr (wd hw 35 rfl)) (Or.inr (wd hw 33 rfl)) (by decide) (t := (.array .byte)) (t' := .byte) (by decide) (by decide)))
    replace V_a1 := V_a1.other W137 ne_a1_s1
    replace V_b := V_b.other W137 (Ne.symm ne_s1_b)
    replace Z0 := Nat.le_trans Z0 (Keep.of_wr W137).1
    replace K0 := K0.wr W137 (Or.inl (List.mem_of_getElem? (i := 0) rfl))
    have N137 := Fr.snoc X137 N136 g_s1
    refine Go.by (fun t => XS.aloadN X137.here hx rfl (dB hby D3 25 rfl) rfl rfl) ?_
    refine Go.by (fun t => XS.aload X137.here hx rfl (dB hby D3 26 rfl) rfl rfl) ?_
    obtain ⟨T138, h138, X138, e138, W138, st138⟩ := putF X137 hx hZ hown (host := "") (Or.inl (wd hw 34 rfl)) Via.refl e137 F_value_s1 E_s1 (Or.inr ⟨(wd hw 35 rfl), rfl, hnm⟩) (wd hw 7 rfl) (ty := (.array .byte)) (by decide) rfl rfl (g := (mkF m 54 #[.val (.ref s1), .val (.ref a1), .val (.int (0 : Int32)), .val (.int (Int32.ofNat cs.length)), .val .null, .val (.ref b)] [(.ref b), (.ref s1)])) rfl rfl (dB hby D3 27 rfl)
    refine Go.by (fun t => st138 t) ?_
    replace F_value_s1 := F_value_s1.same W138
    replace Od := Od.wr W138 g_s1
    replace E_s1 := E_s1.wr W138
    replace F_coder_s1 := F_coder_s1.other W138 (Or.inr (slot_ne (Or.inr (wd hw 33 rfl)) (Or.inr (wd hw 35 rfl)) (by decide) (t := .byte) (t' := (.array .byte)) (by decide) (by decide)))
    replace V_a1 := V_a1.other W138 ne_a1_s1
    replace V_b := V_b.other W138 (Ne.symm ne_s1_b)
    replace Z0 := Nat.le_trans Z0 (Keep.of_wr W138).1
    replace K0 := K0.wr W138 (Or.inl (List.mem_of_getElem? (i := 0) rfl))
    have N138 := Fr.snoc X138 N137 g_s1
    exact Go.ret0 X138 hx Bd.returns Bd.notSynchronized (dB hby D3 28 rfl) (by decide) (by decide) (by first | (rw [e138]; exact ⟨rfl, N138, K0, b, k_b, E_s1, F_value_s1, Or.inr ⟨F_coder_s1, hgt, V_b⟩⟩) | exact ⟨rfl, N138, K0, b, k_b, E_s1, F_value_s1, Or.inr ⟨F_coder_s1, hgt, V_b⟩⟩)
def Q_rmI1 (Z : State) (s1 : Addr) (a1 : Addr) (kc : ClassId) (cs : List Int32) (G1 : Int32) (h0 : Heap) (n0 : Nat) : Option Value → Heap → List Loc → Prop := fun v h L => v = none ∧ Fr n0 L ∧ Keep h0 h [s1] ∧ StrU Z h s1 cs
set_option maxRecDepth 65536 in
set_option maxHeartbeats 40000000 in
theorem rmI1 (l : Launch) (Z : State) (a0 : Array Value) (hw : ∀ d ∈ tables_1, d.before a0 Z = true) (ws : List Jvm.Cond) (s1 : Addr) (a1 : Addr) (kc : ClassId) (cs : List Int32) (G1 : Int32) (h0 : Heap) (n0 : Nat) (Z0 : n0 ≤ h0.size) (Od : Old Z n0 h0) (A1 : Sta Z Z.heap "java/lang/StringUTF16" "$assertionsDisabled" "Z" (.int 1)) (HS : Sta Z Z.heap "java/lang/StringUTF16" "HI_BYTE_SHIFT" "I" (.int 0)) (LS : Sta Z Z.heap "java/lang/StringUTF16" "LO_BYTE_SHIFT" "I" (.int 8)) (O2 : Sta Z Z.heap "java/lang/String" "COMPACT_STRINGS" "Z" (.int G1)) (P5 : ¬ (G1 = (0 : Int32))) (E_s1 : Exa Z h0 s1 "java/lang/String") (F_value_s1 : Fld Z h0 s1 "java/lang/String" "value" "[B" .null) (F_coder_s1 : Fld Z h0 s1 "java/lang/String" "coder" "B" (.int 0)) (g_s1 : n0 ≤ s1) (V_a1 : Arv Z h0 a1 kc .char (Int32.ofNat cs.length) (cs.map Value.int) (.int 0)) (hk : cs.length ≤ 3) (h1 : 1 ≤ cs.length) (hbd : ∀ c ∈ cs, ¬ c < 0 ∧ ¬ (65535 : Int32) < c) :
    CT l (⟨"java/lang/String", "<init>", "([C)V"⟩ : MethodName) jdk_42_method_3_code 2 none ws ({ frames := 5, cells := 2, slots := 35, locals := 84 } : Room) #[(.ref s1), (.ref a1)] Z h0 (Q_rmI1 Z s1 a1 kc cs G1 h0 n0) := by
  refine Go.start (plainFor_of_name pn_1) ?_
  intro p e s m below meth c s₁ Bd hx hby hml hZ hown X0 e0
  replace hown : s.vm.findClass "java/lang/String" = some m.cls := hown
  have N0 := Fr.nil n0
  rw [show entryFrame m #[(.ref s1), (.ref a1)] 2 = (mkF m 0 #[.val (.ref s1), .val (.ref a1)] []) from by first | (simp [entryFrame, mkF, argsToLocals, Value.category, maxLocals]; done) | rfl]
  refine Go.by (fun t => XS.aloadN X0.here hx rfl (dB hby D2 0 rfl) rfl rfl) ?_
  refine Go.by (fun t => XS.aloadN X0.here hx rfl (dB hby D2 1 rfl) rfl rfl) ?_
  refine Go.by (fun t => XS.iconst X0.here hx rfl (dB hby D2 2 rfl)) ?_
  refine Go.by (fun t => XS.aloadN X0.here hx rfl (dB hby D2 3 rfl) rfl rfl) ?_
  obtain ⟨cl_139, Ar_139, q_139, S_139, M_139, -, -⟩ := id V_a1
  refine Go.by (fun t => X0.arraylength hx (by first | exact Ar_139.1 | (rw [e0]; exact Ar_139.1)) (State.isArrayOf_alike hZ.alike Ar_139.2.1) (g := (mkF m 4 #[.val (.ref s1), .val (.ref a1)] [(.ref a1), (.int (0 : Int32)), (.ref a1), (.ref s1)])) rfl rfl (dB hby D2 4 rfl) t) ?_
  rw [len_of S_139 M_139]
  refine Go.by (fun t => XS.aconstNull X0.here hx rfl (dB hby D2 5 rfl)) ?_
  obtain ⟨_, _, ⟨T140, L140, k140, n140⟩, -, X140, ⟨Lc140, hQ140, l140, y140, z140⟩, st140⟩ := X0.specialBack hx (y := (⟨"java/lang/String", "<init>", "([CIILjava/lang/Void;)V"⟩ : MethodName)) rfl hown (mvT hZ (wd hw 13 rfl)) (mvT hZ (wd hw 14 rfl)) (mvT hZ (wd hw 16 rfl)) (by decide) (backOf (W := 0) (rmI5 l Z a0 hw [] s1 a1 kc cs G1 h0 n0 Z0 Od A1 HS LS O2 P5 E_s1 F_value_s1 F_coder_s1 g_s1 V_a1 hk h1 hbd) hZ (wd hw 16 rfl) (wd hw 8 rfl) (by decide) (by decide)) (g := (mkF m 6 #[.val (.ref s1), .val (.ref a1)] [.null, (.int (Int32.ofNat cs.length)), (.int (0 : Int32)), (.ref a1), (.ref s1)])) rfl (by rw [hml]; rfl) (Steps.refl _) (a := s1) (argsL := [(.ref a1), (.int (0 : Int32)), (.int (Int32.ofNat cs.length)), .null]) (rest := []) (lenOf pd_6 rfl) rfl (by show 2 * 0 + _ ≤ _; exact Nat.le_of_eq rfl) (dB hby D2 6 rfl) (fun _ _ => ⟨rfl, e0, (by decide : 0 + 2 ≤ _), (by decide : 0 + 35 ≤ _)⟩)
  dsimp only [Pt.U, Pt.locs, Pt.cells, Pt.slots] at X140 l140 y140 z140 st140 hQ140
  subst y140 z140
  obtain ⟨rfl, Nq140, K140, S1⟩ := hQ140
  have N140 : Fr n0 L140 := by rw [l140]; exact Fr.app N0 Nq140
  clear l140
  refine Go.by (fun t => st140.trans) ?_
  replace X140 := Stand.num (C := 2) (S := 35) X140 rfl rfl
  show Go p e below _ (T140.setTop (mkF m 9 #[.val (.ref s1), .val (.ref a1)] []))
  exact Go.ret0 X140 hx Bd.returns Bd.notSynchronized (dB hby D2 7 rfl) (by decide) (by decide) ⟨rfl, N140, K140, S1⟩
def Q_rmE5 (Z : State) (a1 b2 : Addr) (h0 : Heap) (n0 : Nat) : Option Value → Heap → List Loc → Prop := fun v h L => v = none ∧ Fr n0 L ∧ Keep h0 h [a1] ∧ StrU Z h a1 []
set_option maxRecDepth 65536 in
set_option maxHeartbeats 40000000 in
theorem rmE5 (l : Launch) (Z : State) (a0 : Array Value) (hw : ∀ d ∈ tables_1, d.before a0 Z = true) (ws : List Jvm.Cond) (a1 b2 : Addr) (h0 : Heap) (n0 : Nat) (E_a1 : Exa Z h0 a1 "java/lang/String") (F_value_a1 : Fld Z h0 a1 "java/lang/String" "value" "[B" .null) (F_coder_a1 : Fld Z h0 a1 "java/lang/String" "coder" "B" (.int 0)) (g_a1 : n0 ≤ a1) :
    CTW EL l (⟨"java/lang/String", "<init>", "([CIILjava/lang/Void;)V"⟩ : MethodName) jdk_42_method_149_code 6 none ws ({ frames := 1, cells := 4, slots := 8, locals := 12 } : Room) #[(.ref a1), (.ref b2), (.int (0 : Int32)), (.int (0 : Int32)), .null] Z h0 (Q_rmE5 Z a1 b2 h0 n0) := by
  refine Go.startW (plainFor_of_name pn_1) ?_
  intro p e s m below meth c s₁ Bd hx hby hml hZ hown X0 e0 hS CR
  replace hown : s.vm.findClass "java/lang/String" = some m.cls := hown
  have hk : 0 ≤ h0.size := Nat.zero_le _
  have hEL := ew_of hw
  have hwS := ws_of hw
  have hnm := (name_of_methodNamed Bd.named Bd.method).1
  have N0 := Fr.nil n0
  have Sf_a1 : Safe Z EL s.vm h0 a1 := Safe.null hZ.alike E_a1 F_value_a1 (wd hw 7 rfl)
  rw [show entryFrame m #[(.ref a1), (.ref b2), (.int (0 : Int32)), (.int (0 : Int32)), .null] 6 = (mkF m 0 #[.val (.ref a1), .val (.ref b2), .val (.int (0 : Int32)), .val (.int (0 : Int32)), .val .null, .unset] []) from by first | (simp [entryFrame, mkF, argsToLocals, Value.category, maxLocals]; done) | rfl]
  have K0 : Keep h0 h0 [a1] := Keep.refl _ _
  refine Go.by (fun t => XS.aloadN X0.here hx rfl (dB hby D3 0 rfl) rfl rfl) ?_
  obtain ⟨T141, X141, e141, st141⟩ := initO X0 hx hZ hown (wd hw 17 rfl) (wd hw 18 rfl) (wd hw 19 rfl) e0 (g := (mkF m 1 #[.val (.ref a1), .val (.ref b2), .val (.int (0 : Int32)), .val (.int (0 : Int32)), .val .null, .unset] [(.ref a1)])) rfl (by rw [hml]; rfl) rfl (dB hby D3 1 rfl) (by decide) (W := 0) (by show 2 * 0 + _ ≤ _; exact Nat.le_of_eq rfl) (by decide)
  refine Go.by (fun t => st141 t) ?_
  refine Go.by (fun t => XS.iloadN X141.here hx rfl (dB hby D3 2 rfl) rfl ) ?_
  refine Go.by (fun t => XS.ifNo X141.here hx rfl (dB hby D3 3 rfl) rfl ((if0 _ _).trans (teq (rfl : (0 : Int32) = (0 : Int32))).2)) ?_
  refine Go.by (fun t => XS.aloadN X141.here hx rfl (dB hby D3 4 rfl) rfl rfl) ?_
  show Go p e below _ (T141.setTop (mkF m 9 #[.val (.ref a1), .val (.ref b2), .val (.int (0 : Int32)), .val (.int (0 : Int32)), .val .null, .unset] [(.ref a1)]))
  obtain ⟨c1, T142, h142, k142, t_c1, kb_c1, X142, e142, E142, hS142, hk142, hZ142, hown142, E_c1, F_coder_c1, F_value_c1, V_t_c1, lt_c1, ltb_c1, CRn, Lit142, sf142, st142⟩ := ldcCH X141 hx hZ hown (wd hw 203 rfl) hwS e141 hS hk hEL (by decide) CR.1 (vs := []) (z := 0) (by decide) (by decide) rfl (g := (mkF m 9 #[.val (.ref a1), .val (.ref b2), .val (.int (0 : Int32)), .val (.int (0 : Int32)), .val .null, .unset] [(.ref a1)])) rfl (dB hby D3 5 rfl) (n := 0) (by decide) (by decide) (by decide) (by decide)
  refine Go.by (fun t => st142 t) ?_
  replace Sf_a1 := CRn.safe E_a1.lt Sf_a1
  replace CR := CR.trans CRn
  replace E_a1 := E_a1.ext E142
  replace F_value_a1 := F_value_a1.ext E142
  replace F_coder_a1 := F_coder_a1.ext E142
  replace K0 := K0.ext E142
  clear CRn hS hk
  have hS := hS142
  have hk := hk142
  replace hZ := hZ142
  replace hown := hown142
  replace X142 := Stand.num (C := 2) (S := 4) X142 rfl rfl
  have ne_a1_c1 := (sf142 _ Sf_a1).1
  have ne_a1_t_c1 := (sf142 _ Sf_a1).2
  obtain ⟨T143, X143, e143, st143⟩ := getF X142 hx hZ hown (host := "") (Or.inl (wd hw 34 rfl)) Via.refl e142 F_value_c1 (g := (mkF m 11 #[.val (.ref a1), .val (.ref b2), .val (.int (0 : Int32)), .val (.int (0 : Int32)), .val .null, .unset] [(.ref c1), (.ref a1)])) rfl rfl (dB hby D3 6 rfl)
  refine Go.by (fun t => st143 t) ?_
  obtain ⟨T144, h144, X144, e144, W144, st144⟩ := putF X143 hx hZ hown (host := "") (Or.inl (wd hw 34 rfl)) Via.refl e143 F_value_a1 E_a1 (Or.inr ⟨(wd hw 35 rfl), rfl, hnm⟩) (wd hw 7 rfl) (ty := (.array .byte)) (by decide) rfl rfl (g := (mkF m 14 #[.val (.ref a1), .val (.ref b2), .val (.int (0 : Int32)), .val (.int (0 : Int32)), .val .null, .unset] [(.ref t_c1), (.ref a1)])) rfl rfl (dB hby D3 7 rfl)
  refine Go.by (fun t => st144 t) ?_
  have Sfw : Safe Z EL T142.vm h142 a1 := Sf_a1
  replace Sf_a1 := Safe.wr W144 Sfw CR.1 Sf_a1
  replace CR := CR.trans (CHr.wr W144 Sfw CR.1)
  clear Sfw
  replace hk := Nat.le_trans hk (Keep.of_wr W144).1
  replace F_value_a1 := F_value_a1.same W144
  replace E_a1 := E_a1.wr W144
  replace F_coder_a1 := F_coder_a1.other W144 (Or.inr (slot_ne (Or.inr (wd hw 33 rfl)) (Or.inr (wd hw 35 rfl)) (by decide) (t := .byte) (t' := (.array .byte)) (by decide) (by decide)))
  replace E_c1 := E_c1.wr W144
  replace F_coder_c1 := F_coder_c1.other W144 (Or.inl (Ne.symm ne_a1_c1))
  replace F_value_c1 := F_value_c1.other W144 (Or.inl (Ne.symm ne_a1_c1))
  replace V_t_c1 := V_t_c1.other W144 (Ne.symm ne_a1_t_c1)
  replace K0 := K0.wr W144 (Or.inl (List.mem_of_getElem? (i := 0) rfl))
  have N144 := Fr.snoc X144 N0 g_a1
  refine Go.by (fun t => XS.aloadN X144.here hx rfl (dB hby D3 8 rfl) rfl rfl) ?_
  obtain ⟨c2, T145, h145, k145, t_c2, kb_c2, X145, e145, E145, hS145, hk145, hZ145, hown145, E_c2, F_coder_c2, F_value_c2, V_t_c2, lt_c2, ltb_c2, CRn, Lit145, sf145, st145⟩ := ldcCH X144 hx hZ hown (wd hw 203 rfl) hwS e144 hS hk hEL (by decide) CR.1 (vs := []) (z := 0) (by decide) (by decide) rfl (g := (mkF m 18 #[.val (.ref a1), .val (.ref b2), .val (.int (0 : Int32)), .val (.int (0 : Int32)), .val .null, .unset] [(.ref a1)])) rfl (dB hby D3 9 rfl) (n := 0) (by decide) (by decide) (by decide) (by decide)
  refine Go.by (fun t => st145 t) ?_
  replace Sf_a1 := CRn.safe E_a1.lt Sf_a1
  replace CR := CR.trans CRn
  replace E_a1 := E_a1.ext E145
  replace F_value_a1 := F_value_a1.ext E145
  replace F_coder_a1 := F_coder_a1.ext E145
  replace E_c1 := E_c1.ext E145
  replace F_coder_c1 := F_coder_c1.ext E145
  replace F_value_c1 := F_value_c1.ext E145
  replace V_t_c1 := V_t_c1.ext E145
  replace K0 := K0.ext E145
  clear CRn hS hk
  have hS := hS145
  have hk := hk145
  replace hZ := hZ145
  replace hown := hown145
  replace X145 := Stand.num (C := 4) (S := 8) X145 rfl rfl
  have ne_a1_c2 := (sf145 _ Sf_a1).1
  have ne_a1_t_c2 := (sf145 _ Sf_a1).2
  obtain ⟨T146, X146, e146, st146⟩ := getF X145 hx hZ hown (host := "") (Or.inl (wd hw 32 rfl)) Via.refl e145 F_coder_c2 (g := (mkF m 20 #[.val (.ref a1), .val (.ref b2), .val (.int (0 : Int32)), .val (.int (0 : Int32)), .val .null, .unset] [(.ref c2), (.ref a1)])) rfl rfl (dB hby D3 10 rfl)
  refine Go.by (fun t => st146 t) ?_
  show Go p e below _ (T146.setTop (mkF m 23 #[.val (.ref a1), .val (.ref b2), .val (.int (0 : Int32)), .val (.int (0 : Int32)), .val .null, .unset] [(.int (0 : Int32)), (.ref a1)]))
  obtain ⟨T147, h147, X147, e147, W147, st147⟩ := putFN X146 hx hZ hown (wd hw 32 rfl) Via.refl e146 F_coder_a1 E_a1 (Or.inr ⟨(wd hw 33 rfl), rfl, hnm⟩) (wd hw 7 rfl) (ty := .byte) (v' := (.int (0 : Int32))) (by decide) (by first | rfl | decide) (by first | rfl | decide | exact fits_nar_byte _) (g := (mkF m 23 #[.val (.ref a1), .val (.ref b2), .val (.int (0 : Int32)), .val (.int (0 : Int32)), .val .null, .unset] [(.int (0 : Int32)), (.ref a1)])) rfl rfl (dB hby D3 11 rfl)
  refine Go.by (fun t => st147 t) ?_
  have Sfw : Safe Z EL T145.vm h145 a1 := Sf_a1
  replace Sf_a1 := Safe.wr W147 Sfw CR.1 Sf_a1
  replace CR := CR.trans (CHr.wr W147 Sfw CR.1)
  clear Sfw
  replace hk := Nat.le_trans hk (Keep.of_wr W147).1
  replace F_coder_a1 := F_coder_a1.same W147
  replace E_a1 := E_a1.wr W147
  replace F_value_a1 := F_value_a1.other W147 (Or.inr (slot_ne (Or.inr (wd hw 35 rfl)) (Or.inr (wd hw 33 rfl)) (by decide) (t := (.array .byte)) (t' := .byte) (by decide) (by decide)))
  replace E_c1 := E_c1.wr W147
  replace F_coder_c1 := F_coder_c1.other W147 (Or.inl (Ne.symm ne_a1_c1))
  replace F_value_c1 := F_value_c1.other W147 (Or.inl (Ne.symm ne_a1_c1))
  replace V_t_c1 := V_t_c1.other W147 (Ne.symm ne_a1_t_c1)
  replace E_c2 := E_c2.wr W147
  replace F_coder_c2 := F_coder_c2.other W147 (Or.inl (Ne.symm ne_a1_c2))
  replace F_value_c2 := F_value_c2.other W147 (Or.inl (Ne.symm ne_a1_c2))
  replace V_t_c2 := V_t_c2.other W147 (Ne.symm ne_a1_t_c2)
  replace K0 := K0.wr W147 (Or.inl (List.mem_of_getElem? (i := 0) rfl))
  have N147 := Fr.snoc X147 N144 g_a1
  exact Go.ret0W X147 hS (by rw [e147]; exact hk) (by rw [e147]; exact CR) hZ hEL hx Bd.returns Bd.notSynchronized (dB hby D3 12 rfl) (by decide) (by decide) (by first | (rw [e147]; exact ⟨rfl, N147, K0, t_c1, kb_c1, E_a1, F_value_a1, Or.inl ⟨F_coder_a1, (fun _ h => nomatch h), V_t_c1⟩⟩) | exact ⟨rfl, N147, K0, t_c1, kb_c1, E_a1, F_value_a1, Or.inl ⟨F_coder_a1, (fun _ h => nomatch h), V_t_c1⟩⟩)
def Q_rmE1 (Z : State) (a1 b2 : Addr) (kc : ClassId) (vs : List Value) (dv : Value) (h0 : Heap) (n0 : Nat) : Option Value → Heap → List Loc → Prop := fun v h L => v = none ∧ Fr n0 L ∧ Keep h0 h [a1] ∧ StrU Z h a1 []
set_option maxRecDepth 65536 in
set_option maxHeartbeats 40000000 in
theorem rmE1 (l : Launch) (Z : State) (a0 : Array Value) (hw : ∀ d ∈ tables_1, d.before a0 Z = true) (ws : List Jvm.Cond) (a1 b2 : Addr) (kc : ClassId) (vs : List Value) (dv : Value) (h0 : Heap) (n0 : Nat) (E_a1 : Exa Z h0 a1 "java/lang/String") (F_value_a1 : Fld Z h0 a1 "java/lang/String" "value" "[B" .null) (F_coder_a1 : Fld Z h0 a1 "java/lang/String" "coder" "B" (.int 0)) (g_a1 : n0 ≤ a1) (V_b2 : Arv Z h0 b2 kc .char (0 : Int32) vs dv) :
    CTW EL l (⟨"java/lang/String", "<init>", "([C)V"⟩ : MethodName) jdk_42_method_3_code 2 none ws ({ frames := 2, cells := 4, slots := 8, locals := 29 } : Room) #[(.ref a1), (.ref b2)] Z h0 (Q_rmE1 Z a1 b2 kc vs dv h0 n0) := by
  refine Go.startW (plainFor_of_name pn_1) ?_
  intro p e s m below meth c s₁ Bd hx hby hml hZ hown X0 e0 hS CR
  replace hown : s.vm.findClass "java/lang/String" = some m.cls := hown
  have hk : 0 ≤ h0.size := Nat.zero_le _
  have hEL := ew_of hw
  have hwS := ws_of hw
  have N0 := Fr.nil n0
  rw [show entryFrame m #[(.ref a1), (.ref b2)] 2 = (mkF m 0 #[.val (.ref a1), .val (.ref b2)] []) from by first | (simp [entryFrame, mkF, argsToLocals, Value.category, maxLocals]; done) | rfl]
  refine Go.by (fun t => XS.aloadN X0.here hx rfl (dB hby D2 0 rfl) rfl rfl) ?_
  refine Go.by (fun t => XS.aloadN X0.here hx rfl (dB hby D2 1 rfl) rfl rfl) ?_
  refine Go.by (fun t => XS.iconst X0.here hx rfl (dB hby D2 2 rfl)) ?_
  refine Go.by (fun t => XS.aloadN X0.here hx rfl (dB hby D2 3 rfl) rfl rfl) ?_
  obtain ⟨cl_148, Ar_148, q_148, S_148, M_148, -, -⟩ := id V_b2
  refine Go.by (fun t => X0.arraylength hx (by first | exact Ar_148.1 | (rw [e0]; exact Ar_148.1)) (State.isArrayOf_alike hZ.alike Ar_148.2.1) (g := (mkF m 4 #[.val (.ref a1), .val (.ref b2)] [(.ref b2), (.int (0 : Int32)), (.ref b2), (.ref a1)])) rfl rfl (dB hby D2 4 rfl) t) ?_
  rw [len_of S_148 M_148]
  refine Go.by (fun t => XS.aconstNull X0.here hx rfl (dB hby D2 5 rfl)) ?_
  obtain ⟨_, _, ⟨T149, L149, k149, n149⟩, -, X149, hSn, hgn, ⟨Lc149, hQ149, l149, y149, z149, CRn⟩, st149⟩ := X0.specialBackS hx (y := (⟨"java/lang/String", "<init>", "([CIILjava/lang/Void;)V"⟩ : MethodName)) rfl hown (mvT (s := s.setVm s.vm) hZ (wd hw 13 rfl)) (mvT (s := s.setVm s.vm) hZ (wd hw 14 rfl)) (mvT (s := s.setVm s.vm) hZ (wd hw 16 rfl)) (by decide) (backOfSH (W := 0) (rmE5 l Z a0 hw [] a1 b2 h0 n0 E_a1 F_value_a1 F_coder_a1 g_a1) hZ (wd hw 16 rfl) (wd hw 8 rfl) (by decide) (by decide) hEL CR.1) (g := (mkF m 6 #[.val (.ref a1), .val (.ref b2)] [.null, (.int (0 : Int32)), (.int (0 : Int32)), (.ref b2), (.ref a1)])) rfl (by rw [hml]; rfl) (Steps.refl _) (a := a1) (argsL := [(.ref b2), (.int (0 : Int32)), (.int (0 : Int32)), .null]) (rest := []) (lenOf pd_6 rfl) rfl (by show 2 * 0 + _ ≤ _; exact Nat.le_of_eq rfl) (dB hby D2 6 rfl) (fun _ _ => ⟨rfl, e0, (by decide : 0 + 4 ≤ _), (by decide : 0 + 8 ≤ _)⟩)
  dsimp only [Pt.U, Pt.locs, Pt.cells, Pt.slots] at X149 l149 y149 z149 st149 hQ149 hSn hgn CRn
  subst y149 z149
  rw [e0] at hgn
  obtain ⟨X149', hS149, hZ149, hown149⟩ := rebS hS hk X149 hSn hgn hZ hown
  obtain ⟨rfl, Nq149, K149, S1⟩ := hQ149
  have N149 : Fr n0 L149 := by rw [l149]; exact Fr.app N0 Nq149
  clear l149
  refine Go.by (fun t => st149.trans) ?_
  replace X149' := Stand.num (C := 4) (S := 8) X149' rfl rfl
  replace CR := CR.trans CRn
  clear CRn hS hk hSn
  have hS := hS149
  have hk : T149.heap.size ≤ T149.heap.size := Nat.le_refl _
  replace hZ := hZ149
  replace hown := hown149
  show Go p e below _ (T149.setTop (mkF m 9 #[.val (.ref a1), .val (.ref b2)] []))
  exact Go.ret0W X149' hS hk CR hZ hEL hx Bd.returns Bd.notSynchronized (dB hby D2 7 rfl) (by decide) (by decide) ⟨rfl, N149, K149, S1⟩
def Q_rmCD (Z : State) (s1 : Addr) (cd G1 : Int32) (h0 : Heap) (n0 : Nat) : Option Value → Heap → List Loc → Prop := fun v h L => v = some (.int cd) ∧ Fr n0 L ∧ h = h0
set_option maxRecDepth 65536 in
set_option maxHeartbeats 40000000 in
theorem rmCD (l : Launch) (Z : State) (a0 : Array Value) (hw : ∀ d ∈ tables_1, d.before a0 Z = true) (ws : List Jvm.Cond) (s1 : Addr) (cd G1 : Int32) (h0 : Heap) (n0 : Nat) (Od : Old Z n0 h0) (O2 : Sta Z Z.heap "java/lang/String" "COMPACT_STRINGS" "Z" (.int G1)) (P5 : ¬ (G1 = (0 : Int32))) (F_coder_s1 : Fld Z h0 s1 "java/lang/String" "coder" "B" (.int cd)) (h01 : cd = 0 ∨ cd = 1) :
    CT l (⟨"java/lang/String", "coder", "()B"⟩ : MethodName) jdk_42_method_152_code 1 (some .byte) ws ({ frames := 0, cells := 0, slots := 0, locals := 0 } : Room) #[(.ref s1)] Z h0 (Q_rmCD Z s1 cd G1 h0 n0) := by
  refine Go.start (plainFor_of_name pn_1) ?_
  intro p e s m below meth c s₁ Bd hx hby hml hZ hown X0 e0
  replace hown : s.vm.findClass "java/lang/String" = some m.cls := hown
  have N0 := Fr.nil n0
  rw [show entryFrame m #[(.ref s1)] 1 = (mkF m 0 #[.val (.ref s1)] []) from by first | (simp [entryFrame, mkF, argsToLocals, Value.category, maxLocals]; done) | rfl]
  obtain ⟨T150, X150, e150, st150⟩ := getS2 X0 hx hZ hown (host := "") (Or.inl (wd hw 20 rfl)) Via.refl e0 (O2.ext Od.2) (g := (mkF m 0 #[.val (.ref s1)] [])) rfl (dB hby D17 0 rfl)
  refine Go.by (fun t => st150 t) ?_
  refine Go.by (fun t => XS.ifNo X150.here hx rfl (dB hby D17 1 rfl) rfl ((if0 _ _).trans (feq (P5 : ¬ (G1 = (0 : Int32)))).1)) ?_
  refine Go.by (fun t => XS.aloadN X150.here hx rfl (dB hby D17 2 rfl) rfl rfl) ?_
  obtain ⟨T151, X151, e151, st151⟩ := getF X150 hx hZ hown (host := "") (Or.inl (wd hw 32 rfl)) Via.refl e150 F_coder_s1 (g := (mkF m 7 #[.val (.ref s1)] [(.ref s1)])) rfl rfl (dB hby D17 3 rfl)
  refine Go.by (fun t => st151 t) ?_
  show Go p e below _ (T151.setTop (mkF m 10 #[.val (.ref s1)] [(.int cd)]))
  refine Go.by (fun t => XS.goto X151.here hx rfl (pc0 := 10) (pc' := 14) rfl (dB hby D17 4 rfl) (by decide) (by decide)) ?_
  exact Go.ret1 X151 hx Bd.returns Bd.notSynchronized (by rcases h01 with rfl | rfl <;> rfl) (Or.inl ⟨rfl, by simp, _, rfl⟩) (dB hby D17 6 rfl) (by decide) (by decide) (by first | (rw [e151]; exact ⟨rfl, N0, rfl⟩) | exact ⟨rfl, N0, rfl⟩)
def Q_rmSL (Z : State) (s1 t1 : Addr) (kt : ClassId) (N r cd : Int32) (vs : List Value) (G1 : Int32) (h0 : Heap) (n0 : Nat) : Option Value → Heap → List Loc → Prop := fun v h L => v = some (.int r) ∧ Fr n0 L ∧ h = h0
set_option maxRecDepth 65536 in
set_option maxHeartbeats 40000000 in
theorem rmSL (l : Launch) (Z : State) (a0 : Array Value) (hw : ∀ d ∈ tables_1, d.before a0 Z = true) (ws : List Jvm.Cond) (s1 t1 : Addr) (kt : ClassId) (N r cd : Int32) (vs : List Value) (G1 : Int32) (h0 : Heap) (n0 : Nat) (Od : Old Z n0 h0) (O2 : Sta Z Z.heap "java/lang/String" "COMPACT_STRINGS" "Z" (.int G1)) (P5 : ¬ (G1 = (0 : Int32))) (E_s1 : Exa Z h0 s1 "java/lang/String") (F_value_s1 : Fld Z h0 s1 "java/lang/String" "value" "[B" (.ref t1)) (F_coder_s1 : Fld Z h0 s1 "java/lang/String" "coder" "B" (.int cd)) (V_t1 : Arv Z h0 t1 kt .byte N vs (.int 0)) (h01 : cd = 0 ∨ cd = 1) (hr : (N >>> (cd &&& 31)) = r) :
    CT l (⟨"java/lang/String", "length", "()I"⟩ : MethodName) jdk_42_method_54_code 1 (some .int) ws ({ frames := 1, cells := 0, slots := 0, locals := 13 } : Room) #[(.ref s1)] Z h0 (Q_rmSL Z s1 t1 kt N r cd vs G1 h0 n0) := by
  refine Go.start (plainFor_of_name pn_1) ?_
  intro p e s m below meth c s₁ Bd hx hby hml hZ hown X0 e0
  replace hown : s.vm.findClass "java/lang/String" = some m.cls := hown
  have N0 := Fr.nil n0
  rw [show entryFrame m #[(.ref s1)] 1 = (mkF m 0 #[.val (.ref s1)] []) from by first | (simp [entryFrame, mkF, argsToLocals, Value.category, maxLocals]; done) | rfl]
  refine Go.by (fun t => XS.aloadN X0.here hx rfl (dB hby D16 0 rfl) rfl rfl) ?_
  obtain ⟨T152, X152, e152, st152⟩ := getF X0 hx hZ hown (host := "") (Or.inl (wd hw 34 rfl)) Via.refl e0 F_value_s1 (g := (mkF m 1 #[.val (.ref s1)] [(.ref s1)])) rfl rfl (dB hby D16 1 rfl)
  refine Go.by (fun t => st152 t) ?_
  obtain ⟨cl_153, Ar_153, q_153, S_153, M_153, -, -⟩ := id V_t1
  refine Go.by (fun t => X152.arraylength hx (by first | exact Ar_153.1 | (rw [e152]; exact Ar_153.1)) (State.isArrayOf_alike hZ.alike Ar_153.2.1) (g := (mkF m 4 #[.val (.ref s1)] [(.ref t1)])) rfl rfl (dB hby D16 2 rfl) t) ?_
  rw [len_of S_153 M_153]
  refine Go.by (fun t => XS.aloadN X152.here hx rfl (dB hby D16 3 rfl) rfl rfl) ?_
  obtain ⟨cq154, kq154, q154a, q154b, q154c⟩ := isOf hZ e152 E_s1
  obtain ⟨_, _, ⟨T154, L154, k154, n154⟩, -, X154, ⟨Lc154, hQ154, l154, y154, z154⟩, st154⟩ := X152.virtualBack hx (y := (⟨"java/lang/String", "coder", "()B"⟩ : MethodName)) (z := (⟨"java/lang/String", "coder", "()B"⟩ : MethodName)) hown (mvT hZ (wd hw 100 rfl)) (mvT hZ (wd hw 101 rfl)) (notFace_of_selects (args := #[]) (mvT hZ (wd hw 103 rfl))) (mvT hZ (wd hw 103 rfl)) (mvT hZ (wd hw 102 rfl)) (by decide) (backOf (W := 1) (rmCD l Z a0 hw [] s1 cd G1 h0 n0 Od O2 P5 F_coder_s1 h01) hZ (wd hw 104 rfl) (wd hw 8 rfl) (by decide) (by decide)) q154a q154c (g := (mkF m 6 #[.val (.ref s1)] [(.ref s1), (.int N)])) rfl (by rw [hml]; rfl) (Steps.refl _) (argsL := []) (rest := [(.int N)]) (lenOf pd_17 rfl) rfl (by show 2 * 0 + _ ≤ _; exact Nat.le_of_eq rfl) (dB hby D16 4 rfl) (fun _ _ => ⟨rfl, e152, (by decide : 0 + 0 ≤ _), (by decide : 0 + 0 ≤ _)⟩)
  dsimp only [Pt.U, Pt.locs, Pt.cells, Pt.slots] at X154 l154 y154 z154 st154 hQ154
  subst y154 z154
  obtain ⟨rfl, Nq154, e154⟩ := hQ154
  have N154 : Fr n0 L154 := by rw [l154]; exact Fr.app N0 Nq154
  clear l154
  refine Go.by (fun t => st154.trans) ?_
  show Go p e below _ (T154.setTop (mkF m 9 #[.val (.ref s1)] [(.int cd), (.int N)]))
  refine Go.by (fun t => XS.ishr X154.here hx rfl (dB hby D16 5 rfl) rfl) ?_
  show Go p e below _ (T154.setTop (mkF m 10 #[.val (.ref s1)] [(.int (N >>> (cd &&& 31)))]))
  rw [hr]
  exact Go.ret1 X154 hx Bd.returns Bd.notSynchronized rfl (Or.inl ⟨rfl, by simp, _, rfl⟩) (dB hby D16 6 rfl) (by decide) (by decide) (by first | (rw [e154]; exact ⟨rfl, N154, rfl⟩) | exact ⟨rfl, N154, rfl⟩)
def Q_rmIL0 (Z : State) (s1 : Addr) (G1 : Int32) (h0 : Heap) (n0 : Nat) : Option Value → Heap → List Loc → Prop := fun v h L => v = some (.int 1) ∧ Fr n0 L ∧ h = h0
set_option maxRecDepth 65536 in
set_option maxHeartbeats 40000000 in
theorem rmIL0 (l : Launch) (Z : State) (a0 : Array Value) (hw : ∀ d ∈ tables_1, d.before a0 Z = true) (ws : List Jvm.Cond) (s1 : Addr) (G1 : Int32) (h0 : Heap) (n0 : Nat) (Od : Old Z n0 h0) (O2 : Sta Z Z.heap "java/lang/String" "COMPACT_STRINGS" "Z" (.int G1)) (P5 : ¬ (G1 = (0 : Int32))) (F_coder_s1 : Fld Z h0 s1 "java/lang/String" "coder" "B" (.int 0)) :
    CT l (⟨"java/lang/String", "isLatin1", "()Z"⟩ : MethodName) jdk_42_method_154_code 1 (some .boolean) ws ({ frames := 0, cells := 0, slots := 0, locals := 0 } : Room) #[(.ref s1)] Z h0 (Q_rmIL0 Z s1 G1 h0 n0) := by
  refine Go.start (plainFor_of_name pn_1) ?_
  intro p e s m below meth c s₁ Bd hx hby hml hZ hown X0 e0
  replace hown : s.vm.findClass "java/lang/String" = some m.cls := hown
  have N0 := Fr.nil n0
  rw [show entryFrame m #[(.ref s1)] 1 = (mkF m 0 #[.val (.ref s1)] []) from by first | (simp [entryFrame, mkF, argsToLocals, Value.category, maxLocals]; done) | rfl]
  obtain ⟨T155, X155, e155, st155⟩ := getS2 X0 hx hZ hown (host := "") (Or.inl (wd hw 20 rfl)) Via.refl e0 (O2.ext Od.2) (g := (mkF m 0 #[.val (.ref s1)] [])) rfl (dB hby D35 0 rfl)
  refine Go.by (fun t => st155 t) ?_
  refine Go.by (fun t => XS.ifNo X155.here hx rfl (dB hby D35 1 rfl) rfl ((if0 _ _).trans (feq (P5 : ¬ (G1 = (0 : Int32)))).1)) ?_
  refine Go.by (fun t => XS.aloadN X155.here hx rfl (dB hby D35 2 rfl) rfl rfl) ?_
  obtain ⟨T156, X156, e156, st156⟩ := getF X155 hx hZ hown (host := "") (Or.inl (wd hw 32 rfl)) Via.refl e155 F_coder_s1 (g := (mkF m 7 #[.val (.ref s1)] [(.ref s1)])) rfl rfl (dB hby D35 3 rfl)
  refine Go.by (fun t => st156 t) ?_
  show Go p e below _ (T156.setTop (mkF m 10 #[.val (.ref s1)] [(.int (0 : Int32))]))
  refine Go.by (fun t => XS.ifNo X156.here hx rfl (dB hby D35 4 rfl) rfl ((if0 _ _).trans (teq (by decide : (0 : Int32) = (0 : Int32))).2)) ?_
  refine Go.by (fun t => XS.iconst X156.here hx rfl (dB hby D35 5 rfl)) ?_
  refine Go.by (fun t => XS.goto X156.here hx rfl (pc0 := 14) (pc' := 18) rfl (dB hby D35 6 rfl) (by decide) (by decide)) ?_
  exact Go.ret1 X156 hx Bd.returns Bd.notSynchronized (by first | rfl | decide) (Or.inl ⟨rfl, by simp, _, rfl⟩) (dB hby D35 8 rfl) (by decide) (by decide) (by first | (rw [e156]; exact ⟨rfl, N0, rfl⟩) | exact ⟨rfl, N0, rfl⟩)
def Q_rmIL1 (Z : State) (s1 : Addr) (G1 : Int32) (h0 : Heap) (n0 : Nat) : Option Value → Heap → List Loc → Prop := fun v h L => v = some (.int 0) ∧ Fr n0 L ∧ h = h0
set_option maxRecDepth 65536 in
set_option maxHeartbeats 40000000 in
theorem rmIL1 (l : Launch) (Z : State) (a0 : Array Value) (hw : ∀ d ∈ tables_1, d.before a0 Z = true) (ws : List Jvm.Cond) (s1 : Addr) (G1 : Int32) (h0 : Heap) (n0 : Nat) (Od : Old Z n0 h0) (O2 : Sta Z Z.heap "java/lang/String" "COMPACT_STRINGS" "Z" (.int G1)) (P5 : ¬ (G1 = (0 : Int32))) (F_coder_s1 : Fld Z h0 s1 "java/lang/String" "coder" "B" (.int 1)) :
    CT l (⟨"java/lang/String", "isLatin1", "()Z"⟩ : MethodName) jdk_42_method_154_code 1 (some .boolean) ws ({ frames := 0, cells := 0, slots := 0, locals := 0 } : Room) #[(.ref s1)] Z h0 (Q_rmIL1 Z s1 G1 h0 n0) := by
  refine Go.start (plainFor_of_name pn_1) ?_
  intro p e s m below meth c s₁ Bd hx hby hml hZ hown X0 e0
  replace hown : s.vm.findClass "java/lang/String" = some m.cls := hown
  have N0 := Fr.nil n0
  rw [show entryFrame m #[(.ref s1)] 1 = (mkF m 0 #[.val (.ref s1)] []) from by first | (simp [entryFrame, mkF, argsToLocals, Value.category, maxLocals]; done) | rfl]
  obtain ⟨T157, X157, e157, st157⟩ := getS2 X0 hx hZ hown (host := "") (Or.inl (wd hw 20 rfl)) Via.refl e0 (O2.ext Od.2) (g := (mkF m 0 #[.val (.ref s1)] [])) rfl (dB hby D35 0 rfl)
  refine Go.by (fun t => st157 t) ?_
  refine Go.by (fun t => XS.ifNo X157.here hx rfl (dB hby D35 1 rfl) rfl ((if0 _ _).trans (feq (P5 : ¬ (G1 = (0 : Int32)))).1)) ?_
  refine Go.by (fun t => XS.aloadN X157.here hx rfl (dB hby D35 2 rfl) rfl rfl) ?_
  obtain ⟨T158, X158, e158, st158⟩ := getF X157 hx hZ hown (host := "") (Or.inl (wd hw 32 rfl)) Via.refl e157 F_coder_s1 (g := (mkF m 7 #[.val (.ref s1)] [(.ref s1)])) rfl rfl (dB hby D35 3 rfl)
  refine Go.by (fun t => st158 t) ?_
  show Go p e below _ (T158.setTop (mkF m 10 #[.val (.ref s1)] [(.int (1 : Int32))]))
  refine Go.by (fun t => XS.ifYes X158.here hx rfl (pc0 := 10) (pc' := 17) rfl (dB hby D35 4 rfl) rfl ((if0 _ _).trans (feq (by decide : ¬ ((1 : Int32) = (0 : Int32)))).2) (by decide) (by decide)) ?_
  refine Go.by (fun t => XS.iconst X158.here hx rfl (dB hby D35 7 rfl)) ?_
  exact Go.ret1 X158 hx Bd.returns Bd.notSynchronized (by first | rfl | decide) (Or.inl ⟨rfl, by simp, _, rfl⟩) (dB hby D35 8 rfl) (by decide) (by decide) (by first | (rw [e158]; exact ⟨rfl, N0, rfl⟩) | exact ⟨rfl, N0, rfl⟩)
def Q_rmLEN (Z : State) (s1 : Addr) (cs : List Int32) (G1 : Int32) (h0 : Heap) (n0 : Nat) : Option Value → Heap → List Loc → Prop := fun v h L => v = some (.int (Int32.ofNat cs.length)) ∧ Fr n0 L ∧ h = h0
set_option maxRecDepth 65536 in
set_option maxHeartbeats 40000000 in
theorem rmLEN (l : Launch) (Z : State) (a0 : Array Value) (hw : ∀ d ∈ tables_1, d.before a0 Z = true) (ws : List Jvm.Cond) (s1 : Addr) (cs : List Int32) (G1 : Int32) (h0 : Heap) (n0 : Nat) (Od : Old Z n0 h0) (O2 : Sta Z Z.heap "java/lang/String" "COMPACT_STRINGS" "Z" (.int G1)) (P5 : ¬ (G1 = (0 : Int32))) (S1 : StrU Z h0 s1 cs) (hk : cs.length < 1000000) :
    CT l (⟨"java/lang/String", "length", "()I"⟩ : MethodName) jdk_42_method_54_code 1 (some .int) ws ({ frames := 1, cells := 0, slots := 0, locals := 13 } : Room) #[(.ref s1)] Z h0 (Q_rmLEN Z s1 cs G1 h0 n0) := by
  obtain ⟨t, kt, E, F, ⟨C, -, A⟩ | ⟨C, -, A⟩⟩ := S1
  · exact rmSL l Z a0 hw ws s1 t kt _ _ 0 _ G1 h0 n0 Od O2 P5 E F C A (Or.inl rfl) (o_shr0 _)
  · exact rmSL l Z a0 hw ws s1 t kt _ _ 1 _ G1 h0 n0 Od O2 P5 E F C A (Or.inr rfl) (o_shr (by omega))
def Q_rm12 (Z : State) (x1 : Addr) (G1 : Int32) (h0 : Heap) (n0 : Nat) : Option Value → Heap → List Loc → Prop := fun v h L => ∃ (vb : Addr) (kv : ClassId), v = none ∧ Fr n0 L ∧ Keep h0 h [x1] ∧ h0.size ≤ vb ∧ Fld Z h x1 "java/lang/AbstractStringBuilder" "value" "[B" (.ref vb) ∧ Fld Z h x1 "java/lang/AbstractStringBuilder" "coder" "B" (.int 0) ∧ Fld Z h x1 "java/lang/AbstractStringBuilder" "count" "I" (.int 0) ∧ Fld Z h x1 "java/lang/AbstractStringBuilder" "maybeLatin1" "Z" (.int 0) ∧ Arv Z h vb kv .byte (16 : Int32) [] (.int 0)
set_option maxRecDepth 65536 in
set_option maxHeartbeats 40000000 in
theorem rm12 (l : Launch) (Z : State) (a0 : Array Value) (hw : ∀ d ∈ tables_1, d.before a0 Z = true) (ws : List Jvm.Cond) (x1 : Addr) (G1 : Int32) (h0 : Heap) (n0 : Nat) (Z0 : n0 ≤ h0.size) (Od : Old Z n0 h0) (O2 : Sta Z Z.heap "java/lang/String" "COMPACT_STRINGS" "Z" (.int G1)) (P5 : ¬ (G1 = (0 : Int32))) (E_x1 : Exa Z h0 x1 "java/lang/StringBuilder") (F_value_x1 : Fld Z h0 x1 "java/lang/AbstractStringBuilder" "value" "[B" .null) (F_coder_x1 : Fld Z h0 x1 "java/lang/AbstractStringBuilder" "coder" "B" (.int 0)) (F_count_x1 : Fld Z h0 x1 "java/lang/AbstractStringBuilder" "count" "I" (.int 0)) (F_maybeLatin1_x1 : Fld Z h0 x1 "java/lang/AbstractStringBuilder" "maybeLatin1" "Z" (.int 0)) (g_x1 : n0 ≤ x1) :
    CT l (⟨"java/lang/AbstractStringBuilder", "<init>", "(I)V"⟩ : MethodName) jdk_68_method_2_code 2 none ws ({ frames := 1, cells := 1, slots := 16, locals := 12 } : Room) #[(.ref x1), (.int (16 : Int32))] Z h0 (Q_rm12 Z x1 G1 h0 n0) := by
  refine Go.start (plainFor_of_name pn_6) ?_
  intro p e s m below meth c s₁ Bd hx hby hml hZ hown X0 e0
  replace hown : s.vm.findClass "java/lang/AbstractStringBuilder" = some m.cls := hown
  have N0 := Fr.nil n0
  rw [show entryFrame m #[(.ref x1), (.int (16 : Int32))] 2 = (mkF m 0 #[.val (.ref x1), .val (.int (16 : Int32))] []) from by first | (simp [entryFrame, mkF, argsToLocals, Value.category, maxLocals]; done) | rfl]
  have K0 : Keep h0 h0 [x1] := Keep.refl _ _
  refine Go.by (fun t => XS.aloadN X0.here hx rfl (dB hby D12 0 rfl) rfl rfl) ?_
  obtain ⟨T159, X159, e159, st159⟩ := initO X0 hx hZ hown (wd hw 72 rfl) (wd hw 18 rfl) (wd hw 19 rfl) e0 (g := (mkF m 1 #[.val (.ref x1), .val (.int (16 : Int32))] [(.ref x1)])) rfl (by rw [hml]; rfl) rfl (dB hby D12 1 rfl) (by decide) (W := 0) (by show 2 * 0 + _ ≤ _; exact Nat.le_of_eq rfl) (by decide)
  refine Go.by (fun t => st159 t) ?_
  obtain ⟨T160, X160, e160, st160⟩ := getS2 X159 hx hZ hown (host := "") (Or.inl (wd hw 73 rfl)) Via.refl e159 (O2.ext Od.2) (g := (mkF m 4 #[.val (.ref x1), .val (.int (16 : Int32))] [])) rfl (dB hby D12 2 rfl)
  refine Go.by (fun t => st160 t) ?_
  refine Go.by (fun t => XS.ifNo X160.here hx rfl (dB hby D12 3 rfl) rfl ((if0 _ _).trans (feq (P5 : ¬ (G1 = (0 : Int32)))).1)) ?_
  show Go p e below _ (T160.setTop (mkF m 10 #[.val (.ref x1), .val (.int (16 : Int32))] []))
  refine Go.by (fun t => XS.aloadN X160.here hx rfl (dB hby D12 4 rfl) rfl rfl) ?_
  refine Go.by (fun t => XS.iloadN X160.here hx rfl (dB hby D12 5 rfl) rfl ) ?_
  obtain ⟨T161, h161, k161, X161, e161, E161, A161, st161⟩ := newP X160 hx hZ (wd hw 25 rfl) e160 (g := (mkF m 12 #[.val (.ref x1), .val (.int (16 : Int32))] [(.int (16 : Int32)), (.ref x1)])) rfl (dB hby D12 6 rfl) rfl (by decide) (cap := 16) (by decide) (by decide) (by decide) (by decide)
  obtain ⟨vb, g161⟩ : ∃ z, z = h0.size := ⟨_, rfl⟩
  rw [← g161] at A161 st161
  refine Go.by (fun t => st161 t) ?_
  have g_vb : n0 ≤ vb := Nat.le_trans Z0 (Nat.le_of_eq g161.symm)
  have sz_vb : h0.size ≤ vb := Nat.le_trans K0.1 (Nat.le_of_eq g161.symm)
  have ne_x1_vb : x1 ≠ vb := Nat.ne_of_lt (Nat.lt_of_lt_of_le E_x1.lt (Nat.le_of_eq g161.symm))
  replace Od := Od.ext E161
  replace E_x1 := E_x1.ext E161
  replace F_value_x1 := F_value_x1.ext E161
  replace F_coder_x1 := F_coder_x1.ext E161
  replace F_count_x1 := F_count_x1.ext E161
  replace F_maybeLatin1_x1 := F_maybeLatin1_x1.ext E161
  replace Z0 := Nat.le_trans Z0 E161.1
  replace K0 := K0.ext E161
  have V_vb : Arv Z h161 vb k161 .byte (16 : Int32) [(.int (0 : Int32)), (.int (0 : Int32)), (.int (0 : Int32)), (.int (0 : Int32)), (.int (0 : Int32)), (.int (0 : Int32)), (.int (0 : Int32)), (.int (0 : Int32)), (.int (0 : Int32)), (.int (0 : Int32)), (.int (0 : Int32)), (.int (0 : Int32)), (.int (0 : Int32)), (.int (0 : Int32)), (.int (0 : Int32)), (.int (0 : Int32))] (.int (0 : Int32)) := (Arv.new A161 (by decide)).pad (pad_rep [] (.int (0 : Int32)) 16)
  replace X161 := Stand.num (C := 1) (S := 16) X161 rfl rfl
  replace V_vb := V_vb.pad (vs' := []) (fun i => (pad_rep [] _ 16 i).symm)
  obtain ⟨T162, h162, X162, e162, W162, st162⟩ := putF X161 hx hZ hown (host := "") (Or.inl (wd hw 74 rfl)) Via.refl e161 F_value_x1 E_x1 (Or.inl (wd hw 75 rfl)) (wd hw 61 rfl) (ty := (.array .byte)) (by decide) rfl rfl (g := (mkF m 14 #[.val (.ref x1), .val (.int (16 : Int32))] [(.ref vb), (.ref x1)])) rfl rfl (dB hby D12 7 rfl)
  refine Go.by (fun t => st162 t) ?_
  replace F_value_x1 := F_value_x1.same W162
  replace Od := Od.wr W162 g_x1
  replace E_x1 := E_x1.wr W162
  replace F_coder_x1 := F_coder_x1.other W162 (Or.inr (slot_ne (Or.inl (wd hw 77 rfl)) (Or.inl (wd hw 75 rfl)) (by decide) (t := .byte) (t' := (.array .byte)) (by decide) (by decide)))
  replace F_count_x1 := F_count_x1.other W162 (Or.inr (slot_ne (Or.inl (wd hw 106 rfl)) (Or.inl (wd hw 75 rfl)) (by decide) (t := .int) (t' := (.array .byte)) (by decide) (by decide)))
  replace F_maybeLatin1_x1 := F_maybeLatin1_x1.other W162 (Or.inr (slot_ne (Or.inl (wd hw 253 rfl)) (Or.inl (wd hw 75 rfl)) (by decide) (t := .boolean) (t' := (.array .byte)) (by decide) (by decide)))
  replace V_vb := V_vb.other W162 (Ne.symm ne_x1_vb)
  replace Z0 := Nat.le_trans Z0 (Keep.of_wr W162).1
  replace K0 := K0.wr W162 (Or.inl (List.mem_of_getElem? (i := 0) rfl))
  have N162 := Fr.snoc X162 N0 g_x1
  refine Go.by (fun t => XS.aloadN X162.here hx rfl (dB hby D12 8 rfl) rfl rfl) ?_
  refine Go.by (fun t => XS.iconst X162.here hx rfl (dB hby D12 9 rfl)) ?_
  obtain ⟨T163, h163, X163, e163, W163, st163⟩ := putFN X162 hx hZ hown (wd hw 76 rfl) Via.refl e162 F_coder_x1 E_x1 (Or.inl (wd hw 77 rfl)) (wd hw 61 rfl) (ty := .byte) (v' := (.int (0 : Int32))) (by decide) (by first | rfl | decide) (by first | rfl | decide | exact fits_nar_byte _) (g := (mkF m 19 #[.val (.ref x1), .val (.int (16 : Int32))] [(.int (0 : Int32)), (.ref x1)])) rfl rfl (dB hby D12 10 rfl)
  refine Go.by (fun t => st163 t) ?_
  replace F_coder_x1 := F_coder_x1.same W163
  replace Od := Od.wr W163 g_x1
  replace E_x1 := E_x1.wr W163
  replace F_value_x1 := F_value_x1.other W163 (Or.inr (slot_ne (Or.inl (wd hw 75 rfl)) (Or.inl (wd hw 77 rfl)) (by decide) (t := (.array .byte)) (t' := .byte) (by decide) (by decide)))
  replace F_count_x1 := F_count_x1.other W163 (Or.inr (slot_ne (Or.inl (wd hw 106 rfl)) (Or.inl (wd hw 77 rfl)) (by decide) (t := .int) (t' := .byte) (by decide) (by decide)))
  replace F_maybeLatin1_x1 := F_maybeLatin1_x1.other W163 (Or.inr (slot_ne (Or.inl (wd hw 253 rfl)) (Or.inl (wd hw 77 rfl)) (by decide) (t := .boolean) (t' := .byte) (by decide) (by decide)))
  replace V_vb := V_vb.other W163 (Ne.symm ne_x1_vb)
  replace Z0 := Nat.le_trans Z0 (Keep.of_wr W163).1
  replace K0 := K0.wr W163 (Or.inl (List.mem_of_getElem? (i := 0) rfl))
  have N163 := Fr.snoc X163 N162 g_x1
  refine Go.by (fun t => XS.goto X163.here hx rfl (pc0 := 22) (pc' := 38) rfl (dB hby D12 11 rfl) (by decide) (by decide)) ?_
  show Go p e below _ (T163.setTop (mkF m 38 #[.val (.ref x1), .val (.int (16 : Int32))] []))
  exact Go.ret0 X163 hx Bd.returns Bd.notSynchronized (dB hby D12 19 rfl) (by decide) (by decide) (by first | (rw [e163]; exact ⟨vb, _, rfl, N163, K0, sz_vb, F_value_x1, F_coder_x1, F_count_x1, F_maybeLatin1_x1, V_vb⟩) | exact ⟨vb, _, rfl, N163, K0, sz_vb, F_value_x1, F_coder_x1, F_count_x1, F_maybeLatin1_x1, V_vb⟩)
def Q_rm11 (Z : State) (x1 : Addr) (G1 : Int32) (h0 : Heap) (n0 : Nat) : Option Value → Heap → List Loc → Prop := fun v h L => ∃ (vb : Addr) (kv : ClassId), v = none ∧ Fr n0 L ∧ Keep h0 h [x1] ∧ h0.size ≤ vb ∧ Fld Z h x1 "java/lang/AbstractStringBuilder" "value" "[B" (.ref vb) ∧ Fld Z h x1 "java/lang/AbstractStringBuilder" "coder" "B" (.int 0) ∧ Fld Z h x1 "java/lang/AbstractStringBuilder" "count" "I" (.int 0) ∧ Fld Z h x1 "java/lang/AbstractStringBuilder" "maybeLatin1" "Z" (.int 0) ∧ Arv Z h vb kv .byte (16 : Int32) [] (.int 0)
set_option maxRecDepth 65536 in
set_option maxHeartbeats 40000000 in
theorem rm11 (l : Launch) (Z : State) (a0 : Array Value) (hw : ∀ d ∈ tables_1, d.before a0 Z = true) (ws : List Jvm.Cond) (x1 : Addr) (G1 : Int32) (h0 : Heap) (n0 : Nat) (Z0 : n0 ≤ h0.size) (Od : Old Z n0 h0) (O2 : Sta Z Z.heap "java/lang/String" "COMPACT_STRINGS" "Z" (.int G1)) (P5 : ¬ (G1 = (0 : Int32))) (E_x1 : Exa Z h0 x1 "java/lang/StringBuilder") (F_value_x1 : Fld Z h0 x1 "java/lang/AbstractStringBuilder" "value" "[B" .null) (F_coder_x1 : Fld Z h0 x1 "java/lang/AbstractStringBuilder" "coder" "B" (.int 0)) (F_count_x1 : Fld Z h0 x1 "java/lang/AbstractStringBuilder" "count" "I" (.int 0)) (F_maybeLatin1_x1 : Fld Z h0 x1 "java/lang/AbstractStringBuilder" "maybeLatin1" "Z" (.int 0)) (g_x1 : n0 ≤ x1) :
    CT l (⟨"java/lang/StringBuilder", "<init>", "()V"⟩ : MethodName) jdk_67_method_1_code 1 none ws ({ frames := 2, cells := 1, slots := 16, locals := 28 } : Room) #[(.ref x1)] Z h0 (Q_rm11 Z x1 G1 h0 n0) := by
  refine Go.start (plainFor_of_name pn_5) ?_
  intro p e s m below meth c s₁ Bd hx hby hml hZ hown X0 e0
  replace hown : s.vm.findClass "java/lang/StringBuilder" = some m.cls := hown
  have N0 := Fr.nil n0
  rw [show entryFrame m #[(.ref x1)] 1 = (mkF m 0 #[.val (.ref x1)] []) from by first | (simp [entryFrame, mkF, argsToLocals, Value.category, maxLocals]; done) | rfl]
  refine Go.by (fun t => XS.aloadN X0.here hx rfl (dB hby D11 0 rfl) rfl rfl) ?_
  refine Go.by (fun t => XS.bipush X0.here hx rfl (dB hby D11 1 rfl)) ?_
  obtain ⟨_, _, ⟨T164, L164, k164, n164⟩, -, X164, ⟨Lc164, hQ164, l164, y164, z164⟩, st164⟩ := X0.specialBack hx (y := (⟨"java/lang/AbstractStringBuilder", "<init>", "(I)V"⟩ : MethodName)) rfl hown (mvT hZ (wd hw 66 rfl)) (mvT hZ (wd hw 67 rfl)) (mvT hZ (wd hw 71 rfl)) (by decide) (backOf (W := 0) (rm12 l Z a0 hw [] x1 G1 h0 n0 Z0 Od O2 P5 E_x1 F_value_x1 F_coder_x1 F_count_x1 F_maybeLatin1_x1 g_x1) hZ (wd hw 71 rfl) (wd hw 70 rfl) (by decide) (by decide)) (g := (mkF m 3 #[.val (.ref x1)] [(.int (16 : Int32)), (.ref x1)])) rfl (by rw [hml]; rfl) (Steps.refl _) (a := x1) (argsL := [(.int (16 : Int32))]) (rest := []) (lenOf pd_13 rfl) rfl (by show 2 * 0 + _ ≤ _; exact Nat.le_of_eq rfl) (dB hby D11 2 rfl) (fun _ _ => ⟨rfl, e0, (by decide : 0 + 1 ≤ _), (by decide : 0 + 16 ≤ _)⟩)
  dsimp only [Pt.U, Pt.locs, Pt.cells, Pt.slots] at X164 l164 y164 z164 st164 hQ164
  subst y164 z164
  obtain ⟨vb, kv, rfl, Nq164, K164, sz, f1, f2, f3, f4, V_vb⟩ := hQ164
  have N164 : Fr n0 L164 := by rw [l164]; exact Fr.app N0 Nq164
  clear l164
  refine Go.by (fun t => st164.trans) ?_
  replace X164 := Stand.num (C := 1) (S := 16) X164 rfl rfl
  exact Go.ret0 X164 hx Bd.returns Bd.notSynchronized (dB hby D11 3 rfl) (by decide) (by decide) ⟨vb, kv, rfl, N164, K164, sz, f1, f2, f3, f4, V_vb⟩
def Q_rmAL0 (Z : State) (x1 : Addr) (G1 : Int32) (h0 : Heap) (n0 : Nat) : Option Value → Heap → List Loc → Prop := fun v h L => v = some (.int 1) ∧ Fr n0 L ∧ h = h0
set_option maxRecDepth 65536 in
set_option maxHeartbeats 40000000 in
theorem rmAL0 (l : Launch) (Z : State) (a0 : Array Value) (hw : ∀ d ∈ tables_1, d.before a0 Z = true) (ws : List Jvm.Cond) (x1 : Addr) (G1 : Int32) (h0 : Heap) (n0 : Nat) (Od : Old Z n0 h0) (O2 : Sta Z Z.heap "java/lang/String" "COMPACT_STRINGS" "Z" (.int G1)) (P5 : ¬ (G1 = (0 : Int32))) (F_coder_x1 : Fld Z h0 x1 "java/lang/AbstractStringBuilder" "coder" "B" (.int 0)) :
    CT l (⟨"java/lang/AbstractStringBuilder", "isLatin1", "()Z"⟩ : MethodName) jdk_68_method_68_code 1 (some .boolean) ws ({ frames := 0, cells := 0, slots := 0, locals := 0 } : Room) #[(.ref x1)] Z h0 (Q_rmAL0 Z x1 G1 h0 n0) := by
  refine Go.start (plainFor_of_name pn_6) ?_
  intro p e s m below meth c s₁ Bd hx hby hml hZ hown X0 e0
  replace hown : s.vm.findClass "java/lang/AbstractStringBuilder" = some m.cls := hown
  have N0 := Fr.nil n0
  rw [show entryFrame m #[(.ref x1)] 1 = (mkF m 0 #[.val (.ref x1)] []) from by first | (simp [entryFrame, mkF, argsToLocals, Value.category, maxLocals]; done) | rfl]
  obtain ⟨T165, X165, e165, st165⟩ := getS2 X0 hx hZ hown (host := "") (Or.inl (wd hw 73 rfl)) Via.refl e0 (O2.ext Od.2) (g := (mkF m 0 #[.val (.ref x1)] [])) rfl (dB hby D28 0 rfl)
  refine Go.by (fun t => st165 t) ?_
  refine Go.by (fun t => XS.ifNo X165.here hx rfl (dB hby D28 1 rfl) rfl ((if0 _ _).trans (feq (P5 : ¬ (G1 = (0 : Int32)))).1)) ?_
  refine Go.by (fun t => XS.aloadN X165.here hx rfl (dB hby D28 2 rfl) rfl rfl) ?_
  obtain ⟨T166, X166, e166, st166⟩ := getF X165 hx hZ hown (host := "") (Or.inl (wd hw 76 rfl)) Via.refl e165 F_coder_x1 (g := (mkF m 7 #[.val (.ref x1)] [(.ref x1)])) rfl rfl (dB hby D28 3 rfl)
  refine Go.by (fun t => st166 t) ?_
  show Go p e below _ (T166.setTop (mkF m 10 #[.val (.ref x1)] [(.int (0 : Int32))]))
  refine Go.by (fun t => XS.ifNo X166.here hx rfl (dB hby D28 4 rfl) rfl ((if0 _ _).trans (teq (by decide : (0 : Int32) = (0 : Int32))).2)) ?_
  refine Go.by (fun t => XS.iconst X166.here hx rfl (dB hby D28 5 rfl)) ?_
  refine Go.by (fun t => XS.goto X166.here hx rfl (pc0 := 14) (pc' := 18) rfl (dB hby D28 6 rfl) (by decide) (by decide)) ?_
  exact Go.ret1 X166 hx Bd.returns Bd.notSynchronized (by first | rfl | decide) (Or.inl ⟨rfl, by simp, _, rfl⟩) (dB hby D28 8 rfl) (by decide) (by decide) (by first | (rw [e166]; exact ⟨rfl, N0, rfl⟩) | exact ⟨rfl, N0, rfl⟩)
def Q_rmAL1 (Z : State) (x1 : Addr) (G1 : Int32) (h0 : Heap) (n0 : Nat) : Option Value → Heap → List Loc → Prop := fun v h L => v = some (.int 0) ∧ Fr n0 L ∧ h = h0
set_option maxRecDepth 65536 in
set_option maxHeartbeats 40000000 in
theorem rmAL1 (l : Launch) (Z : State) (a0 : Array Value) (hw : ∀ d ∈ tables_1, d.before a0 Z = true) (ws : List Jvm.Cond) (x1 : Addr) (G1 : Int32) (h0 : Heap) (n0 : Nat) (Od : Old Z n0 h0) (O2 : Sta Z Z.heap "java/lang/String" "COMPACT_STRINGS" "Z" (.int G1)) (P5 : ¬ (G1 = (0 : Int32))) (F_coder_x1 : Fld Z h0 x1 "java/lang/AbstractStringBuilder" "coder" "B" (.int 1)) :
    CT l (⟨"java/lang/AbstractStringBuilder", "isLatin1", "()Z"⟩ : MethodName) jdk_68_method_68_code 1 (some .boolean) ws ({ frames := 0, cells := 0, slots := 0, locals := 0 } : Room) #[(.ref x1)] Z h0 (Q_rmAL1 Z x1 G1 h0 n0) := by
  refine Go.start (plainFor_of_name pn_6) ?_
  intro p e s m below meth c s₁ Bd hx hby hml hZ hown X0 e0
  replace hown : s.vm.findClass "java/lang/AbstractStringBuilder" = some m.cls := hown
  have N0 := Fr.nil n0
  rw [show entryFrame m #[(.ref x1)] 1 = (mkF m 0 #[.val (.ref x1)] []) from by first | (simp [entryFrame, mkF, argsToLocals, Value.category, maxLocals]; done) | rfl]
  obtain ⟨T167, X167, e167, st167⟩ := getS2 X0 hx hZ hown (host := "") (Or.inl (wd hw 73 rfl)) Via.refl e0 (O2.ext Od.2) (g := (mkF m 0 #[.val (.ref x1)] [])) rfl (dB hby D28 0 rfl)
  refine Go.by (fun t => st167 t) ?_
  refine Go.by (fun t => XS.ifNo X167.here hx rfl (dB hby D28 1 rfl) rfl ((if0 _ _).trans (feq (P5 : ¬ (G1 = (0 : Int32)))).1)) ?_
  refine Go.by (fun t => XS.aloadN X167.here hx rfl (dB hby D28 2 rfl) rfl rfl) ?_
  obtain ⟨T168, X168, e168, st168⟩ := getF X167 hx hZ hown (host := "") (Or.inl (wd hw 76 rfl)) Via.refl e167 F_coder_x1 (g := (mkF m 7 #[.val (.ref x1)] [(.ref x1)])) rfl rfl (dB hby D28 3 rfl)
  refine Go.by (fun t => st168 t) ?_
  show Go p e below _ (T168.setTop (mkF m 10 #[.val (.ref x1)] [(.int (1 : Int32))]))
  refine Go.by (fun t => XS.ifYes X168.here hx rfl (pc0 := 10) (pc' := 17) rfl (dB hby D28 4 rfl) rfl ((if0 _ _).trans (feq (by decide : ¬ ((1 : Int32) = (0 : Int32)))).2) (by decide) (by decide)) ?_
  refine Go.by (fun t => XS.iconst X168.here hx rfl (dB hby D28 7 rfl)) ?_
  exact Go.ret1 X168 hx Bd.returns Bd.notSynchronized (by first | rfl | decide) (Or.inl ⟨rfl, by simp, _, rfl⟩) (dB hby D28 8 rfl) (by decide) (by decide) (by first | (rw [e168]; exact ⟨rfl, N0, rfl⟩) | exact ⟨rfl, N0, rfl⟩)
def Q_rmEC (Z : State) (x1 vb : Addr) (kv : ClassId) (N z m2 cd : Int32) (vs : List Value) (h0 : Heap) (n0 : Nat) : Option Value → Heap → List Loc → Prop := fun v h L => v = none ∧ Fr n0 L ∧ h = h0
set_option maxRecDepth 65536 in
set_option maxHeartbeats 40000000 in
theorem rmEC (l : Launch) (Z : State) (a0 : Array Value) (hw : ∀ d ∈ tables_1, d.before a0 Z = true) (ws : List Jvm.Cond) (x1 vb : Addr) (kv : ClassId) (N z m2 cd : Int32) (vs : List Value) (h0 : Heap) (n0 : Nat) (F_value_x1 : Fld Z h0 x1 "java/lang/AbstractStringBuilder" "value" "[B" (.ref vb)) (F_coder_x1 : Fld Z h0 x1 "java/lang/AbstractStringBuilder" "coder" "B" (.int cd)) (V_vb : Arv Z h0 vb kv .byte N vs (.int 0)) (hz : (N >>> (cd &&& 31)) = z) (hle : ¬ ((0 : Int32) < (m2 - z))) :
    CT l (⟨"java/lang/AbstractStringBuilder", "ensureCapacityInternal", "(I)V"⟩ : MethodName) jdk_68_method_9_code 3 none ws ({ frames := 0, cells := 0, slots := 0, locals := 0 } : Room) #[(.ref x1), (.int m2)] Z h0 (Q_rmEC Z x1 vb kv N z m2 cd vs h0 n0) := by
  refine Go.start (plainFor_of_name pn_6) ?_
  intro p e s m below meth c s₁ Bd hx hby hml hZ hown X0 e0
  replace hown : s.vm.findClass "java/lang/AbstractStringBuilder" = some m.cls := hown
  have N0 := Fr.nil n0
  rw [show entryFrame m #[(.ref x1), (.int m2)] 3 = (mkF m 0 #[.val (.ref x1), .val (.int m2), .unset] []) from by first | (simp [entryFrame, mkF, argsToLocals, Value.category, maxLocals]; done) | rfl]
  refine Go.by (fun t => XS.aloadN X0.here hx rfl (dB hby D18 0 rfl) rfl rfl) ?_
  obtain ⟨T169, X169, e169, st169⟩ := getF X0 hx hZ hown (host := "") (Or.inl (wd hw 74 rfl)) Via.refl e0 F_value_x1 (g := (mkF m 1 #[.val (.ref x1), .val (.int m2), .unset] [(.ref x1)])) rfl rfl (dB hby D18 1 rfl)
  refine Go.by (fun t => st169 t) ?_
  obtain ⟨cl_170, Ar_170, q_170, S_170, M_170, -, -⟩ := id V_vb
  refine Go.by (fun t => X169.arraylength hx (by first | exact Ar_170.1 | (rw [e169]; exact Ar_170.1)) (State.isArrayOf_alike hZ.alike Ar_170.2.1) (g := (mkF m 4 #[.val (.ref x1), .val (.int m2), .unset] [(.ref vb)])) rfl rfl (dB hby D18 2 rfl) t) ?_
  rw [len_of S_170 M_170]
  refine Go.by (fun t => XS.aloadN X169.here hx rfl (dB hby D18 3 rfl) rfl rfl) ?_
  obtain ⟨T171, X171, e171, st171⟩ := getF X169 hx hZ hown (host := "") (Or.inl (wd hw 76 rfl)) Via.refl e169 F_coder_x1 (g := (mkF m 6 #[.val (.ref x1), .val (.int m2), .unset] [(.ref x1), (.int N)])) rfl rfl (dB hby D18 4 rfl)
  refine Go.by (fun t => st171 t) ?_
  show Go p e below _ (T171.setTop (mkF m 9 #[.val (.ref x1), .val (.int m2), .unset] [(.int cd), (.int N)]))
  refine Go.by (fun t => XS.ishr X171.here hx rfl (dB hby D18 5 rfl) rfl) ?_
  show Go p e below _ (T171.setTop (mkF m 10 #[.val (.ref x1), .val (.int m2), .unset] [(.int (N >>> (cd &&& 31)))]))
  rw [hz]
  refine Go.by (fun t => XS.istoreN X171.here hx rfl (dB hby D18 6 rfl) rfl (l' := #[.val (.ref x1), .val (.int m2), .val (.int z)]) rfl) ?_
  refine Go.by (fun t => XS.iloadN X171.here hx rfl (dB hby D18 7 rfl) rfl ) ?_
  refine Go.by (fun t => XS.iloadN X171.here hx rfl (dB hby D18 8 rfl) rfl ) ?_
  refine Go.by (fun t => XS.isub X171.here hx rfl (dB hby D18 9 rfl) rfl) ?_
  refine Go.by (fun t => XS.ifYes X171.here hx rfl (pc0 := 14) (pc' := 38) rfl (dB hby D18 10 rfl) rfl ((if0 _ _).trans (flt (hle : ¬ ((0 : Int32) < (m2 - z)))).2.2.2) (by decide) (by decide)) ?_
  exact Go.ret0 X171 hx Bd.returns Bd.notSynchronized (dB hby D18 22 rfl) (by decide) (by decide) (by first | (rw [e171]; exact ⟨rfl, N0, rfl⟩) | exact ⟨rfl, N0, rfl⟩)
def Q_rm50 (Z : State) (i1 z2 z3 : Int32) (G3 : Value) (h0 : Heap) (n0 : Nat) : Option Value → Heap → List Loc → Prop := fun v h L => v = some (.int i1) ∧ Fr n0 L ∧ h = h0
set_option maxRecDepth 65536 in
set_option maxHeartbeats 40000000 in
theorem rm50 (l : Launch) (Z : State) (a0 : Array Value) (hw : ∀ d ∈ tables_1, d.before a0 Z = true) (ws : List Jvm.Cond) (i1 z2 z3 : Int32) (G3 : Value) (h0 : Heap) (n0 : Nat) (rG3 : G3.isRef = true) (q1 : ¬ (((z3 ||| i1) ||| z2) < (0 : Int32))) (q2 : ¬ ((z3 - i1) < z2)) :
    CT l (⟨"jdk/internal/util/Preconditions", "checkFromIndexSize", "(IIILjava/util/function/BiFunction;)I"⟩ : MethodName) jdk_41_method_13_code 4 (some .int) ws ({ frames := 0, cells := 0, slots := 0, locals := 0 } : Room) #[(.int i1), (.int z2), (.int z3), G3] Z h0 (Q_rm50 Z i1 z2 z3 G3 h0 n0) := by
  refine Go.start (plainFor_of_name pn_10) ?_
  intro p e s m below meth c s₁ Bd hx hby hml hZ hown X0 e0
  replace hown : s.vm.findClass "jdk/internal/util/Preconditions" = some m.cls := hown
  have N0 := Fr.nil n0
  rw [show entryFrame m #[(.int i1), (.int z2), (.int z3), G3] 4 = (mkF m 0 #[.val (.int i1), .val (.int z2), .val (.int z3), .val G3] []) from by rcases ref_cases rG3 with rfl | ⟨_, rfl⟩ <;> first | (simp [entryFrame, mkF, argsToLocals, Value.category, maxLocals]; done) | rfl]
  refine Go.by (fun t => XS.iloadN X0.here hx rfl (dB hby D50 0 rfl) rfl ) ?_
  refine Go.by (fun t => XS.iloadN X0.here hx rfl (dB hby D50 1 rfl) rfl ) ?_
  refine Go.by (fun t => XS.ior X0.here hx rfl (dB hby D50 2 rfl) rfl) ?_
  refine Go.by (fun t => XS.iloadN X0.here hx rfl (dB hby D50 3 rfl) rfl ) ?_
  refine Go.by (fun t => XS.ior X0.here hx rfl (dB hby D50 4 rfl) rfl) ?_
  refine Go.by (fun t => XS.ifNo X0.here hx rfl (dB hby D50 5 rfl) rfl ((if0 _ _).trans (flt (q1 : ¬ (((z3 ||| i1) ||| z2) < (0 : Int32)))).1)) ?_
  refine Go.by (fun t => XS.iloadN X0.here hx rfl (dB hby D50 6 rfl) rfl ) ?_
  refine Go.by (fun t => XS.iloadN X0.here hx rfl (dB hby D50 7 rfl) rfl ) ?_
  refine Go.by (fun t => XS.iloadN X0.here hx rfl (dB hby D50 8 rfl) rfl ) ?_
  refine Go.by (fun t => XS.isub X0.here hx rfl (dB hby D50 9 rfl) rfl) ?_
  refine Go.by (fun t => XS.icmpYes X0.here hx rfl (pc0 := 12) (pc' := 23) rfl (dB hby D50 10 rfl) rfl (flt (q2 : ¬ ((z3 - i1) < z2))).2.2.2 (by decide) (by decide)) ?_
  refine Go.by (fun t => XS.iloadN X0.here hx rfl (dB hby D50 17 rfl) rfl ) ?_
  show Go p e below _ (s₁.setTop (mkF m 24 #[.val (.int i1), .val (.int z2), .val (.int z3), .val G3] [(.int i1)]))
  exact Go.ret1 X0 hx Bd.returns Bd.notSynchronized rfl (Or.inl ⟨rfl, by simp, _, rfl⟩) (dB hby D50 18 rfl) (by decide) (by decide) (by first | (rw [e0]; exact ⟨rfl, N0, rfl⟩) | exact ⟨rfl, N0, rfl⟩)
def Q_rm49 (Z : State) (i1 z2 z3 : Int32) (G3 : Value) (h0 : Heap) (n0 : Nat) : Option Value → Heap → List Loc → Prop := fun v h L => v = some (.int i1) ∧ Fr n0 L ∧ h = h0
set_option maxRecDepth 65536 in
set_option maxHeartbeats 40000000 in
theorem rm49 (l : Launch) (Z : State) (a0 : Array Value) (hw : ∀ d ∈ tables_1, d.before a0 Z = true) (ws : List Jvm.Cond) (i1 z2 z3 : Int32) (G3 : Value) (h0 : Heap) (n0 : Nat) (Od : Old Z n0 h0) (O4 : Sta Z Z.heap "jdk/internal/util/Preconditions" "SIOOBE_FORMATTER" "Ljava/util/function/BiFunction;" G3) (rG3 : G3.isRef = true) (q1 : ¬ (((z3 ||| i1) ||| z2) < (0 : Int32))) (q2 : ¬ ((z3 - i1) < z2)) :
    CT l (⟨"java/lang/String", "checkBoundsOffCount", "(III)I"⟩ : MethodName) jdk_42_method_157_code 3 (some .int) ws ({ frames := 1, cells := 0, slots := 0, locals := 16 } : Room) #[(.int i1), (.int z2), (.int z3)] Z h0 (Q_rm49 Z i1 z2 z3 G3 h0 n0) := by
  refine Go.start (plainFor_of_name pn_1) ?_
  intro p e s m below meth c s₁ Bd hx hby hml hZ hown X0 e0
  replace hown : s.vm.findClass "java/lang/String" = some m.cls := hown
  have N0 := Fr.nil n0
  rw [show entryFrame m #[(.int i1), (.int z2), (.int z3)] 3 = (mkF m 0 #[.val (.int i1), .val (.int z2), .val (.int z3)] []) from by first | (simp [entryFrame, mkF, argsToLocals, Value.category, maxLocals]; done) | rfl]
  refine Go.by (fun t => XS.iloadN X0.here hx rfl (dB hby D49 0 rfl) rfl ) ?_
  refine Go.by (fun t => XS.iloadN X0.here hx rfl (dB hby D49 1 rfl) rfl ) ?_
  refine Go.by (fun t => XS.iloadN X0.here hx rfl (dB hby D49 2 rfl) rfl ) ?_
  obtain ⟨T172, X172, e172, st172⟩ := getS2 X0 hx hZ hown (host := "") (Or.inl (wd hw 198 rfl)) Via.refl e0 (O4.ext Od.2) (g := (mkF m 3 #[.val (.int i1), .val (.int z2), .val (.int z3)] [(.int z3), (.int z2), (.int i1)])) rfl (dB hby D49 3 rfl)
  refine Go.by (fun t => st172 t) ?_
  obtain ⟨_, _, ⟨T173, L173, k173, n173⟩, -, X173, ⟨Lc173, hQ173, l173, y173, z173⟩, st173⟩ := Jvm.LawKit.callS X172 hx (y := (⟨"jdk/internal/util/Preconditions", "checkFromIndexSize", "(IIILjava/util/function/BiFunction;)I"⟩ : MethodName)) hown (mvT hZ (wd hw 249 rfl)) (mvT hZ (wd hw 250 rfl)) (mvT hZ (wd hw 199 rfl)) (mvT hZ (wd hw 251 rfl)) (by decide) (backOf (W := 0) (rm50 l Z a0 hw [] i1 z2 z3 G3 h0 n0 rG3 q1 q2) hZ (wd hw 251 rfl) (wd hw 199 rfl) (by decide) (by decide)) (g := (mkF m 6 #[.val (.int i1), .val (.int z2), .val (.int z3)] [G3, (.int z3), (.int z2), (.int i1)])) rfl (by rw [hml]; rfl) (argsL := [(.int i1), (.int z2), (.int z3), G3]) (rest := []) (lenOf pd_36 rfl) rfl (by show 2 * 0 + _ ≤ _; exact Nat.le_of_eq rfl) (dB hby D49 4 rfl) (fun _ _ => ⟨rfl, e172, (by decide : 0 + 0 ≤ _), (by decide : 0 + 0 ≤ _)⟩)
  dsimp only [Pt.U, Pt.locs, Pt.cells, Pt.slots] at X173 l173 y173 z173 st173 hQ173
  subst y173 z173
  obtain ⟨rfl, Nq173, e173⟩ := hQ173
  have N173 : Fr n0 L173 := by rw [l173]; exact Fr.app N0 Nq173
  clear l173
  refine Go.by (fun t => st173 t) ?_
  exact Go.ret1 X173 hx Bd.returns Bd.notSynchronized rfl (Or.inl ⟨rfl, by simp, _, rfl⟩) (dB hby D49 5 rfl) (by decide) (by decide) (by first | (rw [e173]; exact ⟨rfl, N173, rfl⟩) | exact ⟨rfl, N173, rfl⟩)
def Q_rm47 (Z : State) (b1 : Addr) (kb : ClassId) (N : Int32) (vs : List Value) (i1 z2 z3 : Int32) (G3 : Value) (h0 : Heap) (n0 : Nat) : Option Value → Heap → List Loc → Prop := fun v h L => v = none ∧ Fr n0 L ∧ h = h0
set_option maxRecDepth 65536 in
set_option maxHeartbeats 40000000 in
theorem rm47 (l : Launch) (Z : State) (a0 : Array Value) (hw : ∀ d ∈ tables_1, d.before a0 Z = true) (ws : List Jvm.Cond) (b1 : Addr) (kb : ClassId) (N : Int32) (vs : List Value) (i1 z2 z3 : Int32) (G3 : Value) (h0 : Heap) (n0 : Nat) (Od : Old Z n0 h0) (O4 : Sta Z Z.heap "jdk/internal/util/Preconditions" "SIOOBE_FORMATTER" "Ljava/util/function/BiFunction;" G3) (rG3 : G3.isRef = true) (V_b1 : Arv Z h0 b1 kb .byte N vs (.int 0)) (hr : (N >>> ((1 : Int32) &&& 31)) = z3) (q1 : ¬ (((z3 ||| i1) ||| z2) < (0 : Int32))) (q2 : ¬ ((z3 - i1) < z2)) :
    CT l (⟨"java/lang/StringUTF16", "checkBoundsOffCount", "(II[B)V"⟩ : MethodName) jdk_52_method_94_code 3 none ws ({ frames := 2, cells := 0, slots := 0, locals := 32 } : Room) #[(.int i1), (.int z2), (.ref b1)] Z h0 (Q_rm47 Z b1 kb N vs i1 z2 z3 G3 h0 n0) := by
  refine Go.start (plainFor_of_name pn_2) ?_
  intro p e s m below meth c s₁ Bd hx hby hml hZ hown X0 e0
  replace hown : s.vm.findClass "java/lang/StringUTF16" = some m.cls := hown
  have N0 := Fr.nil n0
  rw [show entryFrame m #[(.int i1), (.int z2), (.ref b1)] 3 = (mkF m 0 #[.val (.int i1), .val (.int z2), .val (.ref b1)] []) from by first | (simp [entryFrame, mkF, argsToLocals, Value.category, maxLocals]; done) | rfl]
  refine Go.by (fun t => XS.iloadN X0.here hx rfl (dB hby D47 0 rfl) rfl ) ?_
  refine Go.by (fun t => XS.iloadN X0.here hx rfl (dB hby D47 1 rfl) rfl ) ?_
  refine Go.by (fun t => XS.aloadN X0.here hx rfl (dB hby D47 2 rfl) rfl rfl) ?_
  obtain ⟨_, _, ⟨T174, L174, k174, n174⟩, -, X174, ⟨Lc174, hQ174, l174, y174, z174⟩, st174⟩ := Jvm.LawKit.callS X0 hx (y := (⟨"java/lang/StringUTF16", "length", "([B)I"⟩ : MethodName)) hown (mvT hZ (wd hw 243 rfl)) (mvT hZ (wd hw 244 rfl)) (mvT hZ (wd hw 23 rfl)) (mvT hZ (wd hw 245 rfl)) (by decide) (backOf (W := 2) (rm48 l Z a0 hw [] b1 kb N z3 vs (.int 0) h0 n0 V_b1 hr) hZ (wd hw 245 rfl) (wd hw 23 rfl) (by decide) (by decide)) (g := (mkF m 3 #[.val (.int i1), .val (.int z2), .val (.ref b1)] [(.ref b1), (.int z2), (.int i1)])) rfl (by rw [hml]; rfl) (argsL := [(.ref b1)]) (rest := [(.int z2), (.int i1)]) (lenOf pd_32 rfl) rfl (by show 2 * 0 + _ ≤ _; exact Nat.le_of_eq rfl) (dB hby D47 3 rfl) (fun _ _ => ⟨rfl, e0, (by decide : 0 + 0 ≤ _), (by decide : 0 + 0 ≤ _)⟩)
  dsimp only [Pt.U, Pt.locs, Pt.cells, Pt.slots] at X174 l174 y174 z174 st174 hQ174
  subst y174 z174
  obtain ⟨rfl, Nq174, e174⟩ := hQ174
  have N174 : Fr n0 L174 := by rw [l174]; exact Fr.app N0 Nq174
  clear l174
  refine Go.by (fun t => st174 t) ?_
  obtain ⟨_, _, ⟨T175, L175, k175, n175⟩, -, X175, ⟨Lc175, hQ175, l175, y175, z175⟩, st175⟩ := Jvm.LawKit.callS X174 hx (y := (⟨"java/lang/String", "checkBoundsOffCount", "(III)I"⟩ : MethodName)) hown (mvT hZ (wd hw 246 rfl)) (mvT hZ (wd hw 247 rfl)) (mvT hZ (wd hw 8 rfl)) (mvT hZ (wd hw 248 rfl)) (by decide) (backOf (W := 0) (rm49 l Z a0 hw [] i1 z2 z3 G3 h0 n0 Od O4 rG3 q1 q2) hZ (wd hw 248 rfl) (wd hw 8 rfl) (by decide) (by decide)) (g := (mkF m 6 #[.val (.int i1), .val (.int z2), .val (.ref b1)] [(.int z3), (.int z2), (.int i1)])) rfl (by rw [hml]; rfl) (argsL := [(.int i1), (.int z2), (.int z3)]) (rest := []) (lenOf pd_35 rfl) rfl (by show 2 * 0 + _ ≤ _; exact Nat.le_of_eq rfl) (dB hby D47 4 rfl) (fun _ _ => ⟨rfl, e174, (by decide : 0 + 0 ≤ _), (by decide : 0 + 0 ≤ _)⟩)
  dsimp only [Pt.U, Pt.locs, Pt.cells, Pt.slots] at X175 l175 y175 z175 st175 hQ175
  subst y175 z175
  obtain ⟨rfl, Nq175, e175⟩ := hQ175
  have N175 : Fr n0 L175 := by rw [l175]; exact Fr.app N174 Nq175
  clear l175
  refine Go.by (fun t => st175 t) ?_
  refine Go.by (fun t => XS.pop X175.here hx rfl (dB hby D47 5 rfl) rfl rfl) ?_
  show Go p e below _ (T175.setTop (mkF m 10 #[.val (.int i1), .val (.int z2), .val (.ref b1)] []))
  exact Go.ret0 X175 hx Bd.returns Bd.notSynchronized (dB hby D47 6 rfl) (by decide) (by decide) (by first | (rw [e175]; exact ⟨rfl, N175, rfl⟩) | exact ⟨rfl, N175, rfl⟩)
def Q_rmUF (Z : State) (vb bf : Addr) (kv kb : ClassId) (Mn rr : Nat) (cs : List Int32) (rs : List Value) (G3 : Value) (h0 : Heap) (n0 : Nat) : Option Value → Heap → List Loc → Prop := fun v h L => v = none ∧ Fr n0 L ∧ Keep h0 h [bf] ∧ Arv Z h bf kb .byte (Int32.ofNat (2 * Mn)) (utfL (cs.map ch8) ++ List.replicate rr (.int 0)) (.int 0)
set_option maxRecDepth 65536 in
set_option maxHeartbeats 40000000 in
theorem rmUF (l : Launch) (Z : State) (a0 : Array Value) (hw : ∀ d ∈ tables_1, d.before a0 Z = true) (ws : List Jvm.Cond) (vb bf : Addr) (kv kb : ClassId) (Mn rr : Nat) (cs : List Int32) (rs : List Value) (G3 : Value) (h0 : Heap) (n0 : Nat) (Od : Old Z n0 h0) (A1 : Sta Z Z.heap "java/lang/StringUTF16" "$assertionsDisabled" "Z" (.int 1)) (HS : Sta Z Z.heap "java/lang/StringUTF16" "HI_BYTE_SHIFT" "I" (.int 0)) (LS : Sta Z Z.heap "java/lang/StringUTF16" "LO_BYTE_SHIFT" "I" (.int 8)) (O4 : Sta Z Z.heap "jdk/internal/util/Preconditions" "SIOOBE_FORMATTER" "Ljava/util/function/BiFunction;" G3) (rG3 : G3.isRef = true) (V_vb : Arv Z h0 vb kv .byte (Int32.ofNat Mn) (cs.map Value.int ++ rs) (.int 0)) (V_bf : Arv Z h0 bf kb .byte (Int32.ofNat (2 * Mn)) (List.replicate (rr + 2 * cs.length) (.int 0)) (.int 0)) (g_bf : n0 ≤ bf) (ne_vb_bf : vb ≠ bf) (hm : cs.length ≤ Mn) (hMn : 2 * Mn ≤ 32) :
    CT l (⟨"java/lang/StringUTF16", "inflate", "([BI[BII)V"⟩ : MethodName) jdk_52_method_86_code 6 none ws ({ frames := 3, cells := 0, slots := 0, locals := 50 } : Room) #[(.ref vb), (.int (0 : Int32)), (.ref bf), (.int (0 : Int32)), (.int (Int32.ofNat cs.length))] Z h0 (Q_rmUF Z vb bf kv kb Mn rr cs rs G3 h0 n0) := by
  refine Go.start (plainFor_of_name pn_2) ?_
  intro p e s m below meth c s₁ Bd hx hby hml hZ hown X0 e0
  replace hown : s.vm.findClass "java/lang/StringUTF16" = some m.cls := hown
  have N0 := Fr.nil n0
  rw [show entryFrame m #[(.ref vb), (.int (0 : Int32)), (.ref bf), (.int (0 : Int32)), (.int (Int32.ofNat cs.length))] 6 = (mkF m 0 #[.val (.ref vb), .val (.int (0 : Int32)), .val (.ref bf), .val (.int (0 : Int32)), .val (.int (Int32.ofNat cs.length)), .unset] []) from by first | (simp [entryFrame, mkF, argsToLocals, Value.category, maxLocals]; done) | rfl]
  have K0 : Keep h0 h0 [bf] := Keep.refl _ _
  refine Go.by (fun t => XS.iloadN X0.here hx rfl (dB hby D46 0 rfl) rfl ) ?_
  refine Go.by (fun t => XS.iload X0.here hx rfl (dB hby D46 1 rfl) rfl ) ?_
  refine Go.by (fun t => XS.aloadN X0.here hx rfl (dB hby D46 2 rfl) rfl rfl) ?_
  obtain ⟨_, _, ⟨T176, L176, k176, n176⟩, -, X176, ⟨Lc176, hQ176, l176, y176, z176⟩, st176⟩ := Jvm.LawKit.callS X0 hx (y := (⟨"java/lang/StringUTF16", "checkBoundsOffCount", "(II[B)V"⟩ : MethodName)) hown (mvT hZ (wd hw 240 rfl)) (mvT hZ (wd hw 241 rfl)) (mvT hZ (wd hw 23 rfl)) (mvT hZ (wd hw 242 rfl)) (by decide) (backOf (W := 0) (rm47 l Z a0 hw [] bf kb (Int32.ofNat (2 * Mn)) _ 0 (Int32.ofNat cs.length) (Int32.ofNat Mn) G3 h0 n0 Od O4 rG3 V_bf (o_shr (by omega)) (or_nn (by omega) (by omega)) (by rw [Int32.sub_zero, o_lt (by omega) (by omega)]; omega)) hZ (wd hw 242 rfl) (wd hw 23 rfl) (by decide) (by decide)) (g := (mkF m 4 #[.val (.ref vb), .val (.int (0 : Int32)), .val (.ref bf), .val (.int (0 : Int32)), .val (.int (Int32.ofNat cs.length)), .unset] [(.ref bf), (.int (Int32.ofNat cs.length)), (.int (0 : Int32))])) rfl (by rw [hml]; rfl) (argsL := [(.int (0 : Int32)), (.int (Int32.ofNat cs.length)), (.ref bf)]) (rest := []) (lenOf pd_34 rfl) rfl (by show 2 * 0 + _ ≤ _; exact Nat.le_of_eq rfl) (dB hby D46 3 rfl) (fun _ _ => ⟨rfl, e0, (by decide : 0 + 0 ≤ _), (by decide : 0 + 0 ≤ _)⟩)
  dsimp only [Pt.U, Pt.locs, Pt.cells, Pt.slots] at X176 l176 y176 z176 st176 hQ176
  subst y176 z176
  obtain ⟨rfl, Nq176, e176⟩ := hQ176
  have N176 : Fr n0 L176 := by rw [l176]; exact Fr.app N0 Nq176
  clear l176
  refine Go.by (fun t => st176 t) ?_
  refine Go.by (fun t => XS.iconst X176.here hx rfl (dB hby D46 4 rfl)) ?_
  refine Go.by (fun t => XS.istore X176.here hx rfl (dB hby D46 5 rfl) rfl (l' := #[.val (.ref vb), .val (.int (0 : Int32)), .val (.ref bf), .val (.int (0 : Int32)), .val (.int (Int32.ofNat cs.length)), .val (.int (0 : Int32))]) rfl) ?_
  replace K0 : Keep h0 T176.heap [bf] := by rw [e176]; exact K0
  replace Od : Old Z n0 T176.heap := by rw [e176]; exact Od
  replace V_vb : Arv Z T176.heap vb kv .byte (Int32.ofNat Mn) (cs.map Value.int ++ rs) (.int 0) := by rw [e176]; exact V_vb
  replace V_bf : Arv Z T176.heap bf kb .byte (Int32.ofNat (2 * Mn)) (List.replicate (rr + 2 * cs.length) (.int 0)) (.int 0) := by rw [e176]; exact V_bf
  have loop : ∀ (ws us : List Int32) (Tl : State) (Ll : List Loc) (hcs : cs = us ++ ws) (Xl : Stand p l e ({ frames := 3, cells := 0, slots := 0, locals := 50 } : Room) s m #[(.ref vb), (.int (0 : Int32)), (.ref bf), (.int (0 : Int32)), (.int (Int32.ofNat cs.length))] below meth c Tl Ll 0 0) (Nl : Fr n0 Ll) (K0 : Keep h0 Tl.heap [bf]) (Od : Old Z n0 Tl.heap) (V_vb : Arv Z Tl.heap vb kv .byte (Int32.ofNat Mn) (cs.map Value.int ++ rs) (.int 0)) (V_bf : Arv Z Tl.heap bf kb .byte (Int32.ofNat (2 * Mn)) (utfL (us.map ch8) ++ List.replicate (rr + 2 * ws.length) (.int 0)) (.int 0)), Go p e below (End (fun v h L => v = none ∧ Fr n0 L ∧ Keep h0 h [bf] ∧ Arv Z h bf kb .byte (Int32.ofNat (2 * Mn)) (utfL (cs.map ch8) ++ List.replicate rr (.int 0)) (.int 0)) s 0 0) (Tl.setTop (mkF m 10 #[.val (.ref vb), .val (.int (Int32.ofNat us.length)), .val (.ref bf), .val (.int (Int32.ofNat us.length)), .val (.int (Int32.ofNat cs.length)), .val (.int (Int32.ofNat us.length))] [])) := by
    intro ws
    induction ws with
    | nil =>
      intro us Tl Ll hcs Xl Nl K0 Od V_vb V_bf
      have hu : us = cs := by rw [hcs, List.append_nil]
      refine Go.by (fun t => XS.iload Xl.here hx rfl (dB hby D46 6 rfl) rfl ) ?_
      refine Go.by (fun t => XS.iload Xl.here hx rfl (dB hby D46 7 rfl) rfl ) ?_
      refine Go.by (fun t => XS.icmpYes Xl.here hx rfl (pc0 := 14) (pc' := 41) rfl (dB hby D46 8 rfl) rfl (flt (by rw [hu]; exact Int32.lt_irrefl : ¬ ((Int32.ofNat us.length) < (Int32.ofNat cs.length)))).2.1 (by decide) (by decide)) ?_
      show Go p e below _ (Tl.setTop (mkF m 41 #[.val (.ref vb), .val (.int (Int32.ofNat us.length)), .val (.ref bf), .val (.int (Int32.ofNat us.length)), .val (.int (Int32.ofNat cs.length)), .val (.int (Int32.ofNat us.length))] []))
      have V_f : Arv Z Tl.heap bf kb .byte (Int32.ofNat (2 * Mn)) (utfL (us.map ch8) ++ List.replicate rr (.int 0)) (.int 0) := V_bf
      rw [hu] at V_f
      exact Go.ret0 Xl hx Bd.returns Bd.notSynchronized (dB hby D46 21 rfl) (by decide) (by decide) ⟨rfl, Nl, K0, V_f⟩
    | cons cx ws ih =>
      intro us Tl Ll hcs Xl Nl K0 Od V_vb V_bf
      have hl : cs.length < 2147483648 := by omega
      have hn : cs.length = us.length + (ws.length + 1) := by rw [hcs, List.length_append, List.length_cons]
      refine Go.by (fun t => XS.iload Xl.here hx rfl (dB hby D46 6 rfl) rfl ) ?_
      refine Go.by (fun t => XS.iload Xl.here hx rfl (dB hby D46 7 rfl) rfl ) ?_
      refine Go.by (fun t => XS.icmpNo Xl.here hx rfl (dB hby D46 8 rfl) rfl (tlt ((in_mid hcs hl).2 : (Int32.ofNat us.length) < (Int32.ofNat cs.length))).2.1) ?_
      show Go p e below _ (Tl.setTop (mkF m 17 #[.val (.ref vb), .val (.int (Int32.ofNat us.length)), .val (.ref bf), .val (.int (Int32.ofNat us.length)), .val (.int (Int32.ofNat cs.length)), .val (.int (Int32.ofNat us.length))] []))
      refine Go.by (fun t => XS.aloadN Xl.here hx rfl (dB hby D46 9 rfl) rfl rfl) ?_
      refine Go.by (fun t => XS.iloadN Xl.here hx rfl (dB hby D46 10 rfl) rfl ) ?_
      refine Go.by (fun t => XS.iinc Xl.here hx rfl (dB hby D46 11 rfl) rfl (l' := #[.val (.ref vb), .val (.int (Int32.ofNat us.length)), .val (.ref bf), .val (.int ((Int32.ofNat us.length) + (1 : Int32))), .val (.int (Int32.ofNat cs.length)), .val (.int (Int32.ofNat us.length))]) rfl) ?_
      refine Go.by (fun t => XS.aloadN Xl.here hx rfl (dB hby D46 12 rfl) rfl rfl) ?_
      refine Go.by (fun t => XS.iloadN Xl.here hx rfl (dB hby D46 13 rfl) rfl ) ?_
      refine Go.by (fun t => XS.iinc Xl.here hx rfl (dB hby D46 14 rfl) rfl (l' := #[.val (.ref vb), .val (.int ((Int32.ofNat us.length) + (1 : Int32))), .val (.ref bf), .val (.int ((Int32.ofNat us.length) + (1 : Int32))), .val (.int (Int32.ofNat cs.length)), .val (.int (Int32.ofNat us.length))]) rfl) ?_
      obtain ⟨cl_177, Ar_177, q_177, S_177, M_177, H_177, G_177⟩ := id V_vb
      have in_177 := inb_of S_177 (j := (Int32.ofNat us.length)) (o_in (by omega) (by omega))
      refine Go.by (fun t => Xl.baloadBytes hx (j := (Int32.ofNat us.length)) (v := (.int cx)) (by first | exact Ar_177.1 | (rw [rfl]; exact Ar_177.1)) (State.isArrayOf_alike hZ.alike Ar_177.2.1) Ar_177.2.2 in_177 (H_177.at in_177 (at_mid2 rs hcs hl)) (g := (mkF m 27 #[.val (.ref vb), .val (.int ((Int32.ofNat us.length) + (1 : Int32))), .val (.ref bf), .val (.int ((Int32.ofNat us.length) + (1 : Int32))), .val (.int (Int32.ofNat cs.length)), .val (.int (Int32.ofNat us.length))] [(.int (Int32.ofNat us.length)), (.ref vb), (.int (Int32.ofNat us.length)), (.ref bf)])) rfl rfl (dB hby D46 15 rfl) t) ?_
      refine Go.by (fun t => XS.sipush Xl.here hx rfl (dB hby D46 16 rfl)) ?_
      refine Go.by (fun t => XS.iand Xl.here hx rfl (dB hby D46 17 rfl) rfl) ?_
      obtain ⟨_, _, ⟨T178, L178, k178, n178⟩, -, X178, ⟨Lc178, hQ178, l178, y178, z178⟩, st178⟩ := Jvm.LawKit.callS Xl hx (y := (⟨"java/lang/StringUTF16", "putChar", "([BII)V"⟩ : MethodName)) hown (mvT hZ (wd hw 218 rfl)) (mvT hZ (wd hw 219 rfl)) (mvT hZ (wd hw 23 rfl)) (mvT hZ (wd hw 220 rfl)) (by decide) (backOf (W := 0) (rm42 l Z a0 hw [] bf kb (Int32.ofNat (2 * Mn)) _ (Int32.ofNat us.length) (cx &&& (255 : Int32)) (Int32.ofNat (2 * us.length)) (2 * us.length) (2 * us.length + 1) Tl.heap n0 Od A1 HS LS g_bf V_bf (o_shl _) (o_in (by omega) (by omega)) (by rw [o_one]; exact o_in (by omega) (by omega)) (o_nat (by omega)) (by rw [o_one]; exact o_nat (by omega)) (by rw [List.length_append, utf_len, List.length_map, List.length_replicate, List.length_cons]; omega) (by rw [List.length_append, utf_len, List.length_map, List.length_replicate, List.length_cons]; omega)) hZ (wd hw 220 rfl) (wd hw 23 rfl) (by decide) (by decide)) (g := (mkF m 32 #[.val (.ref vb), .val (.int ((Int32.ofNat us.length) + (1 : Int32))), .val (.ref bf), .val (.int ((Int32.ofNat us.length) + (1 : Int32))), .val (.int (Int32.ofNat cs.length)), .val (.int (Int32.ofNat us.length))] [(.int (cx &&& (255 : Int32))), (.int (Int32.ofNat us.length)), (.ref bf)])) rfl (by rw [hml]; rfl) (argsL := [(.ref bf), (.int (Int32.ofNat us.length)), (.int (cx &&& (255 : Int32)))]) (rest := []) (lenOf pd_30 rfl) rfl (by show 2 * 0 + _ ≤ _; exact Nat.le_of_eq rfl) (dB hby D46 18 rfl) (fun _ _ => ⟨rfl, rfl, (by decide : 0 + 0 ≤ _), (by decide : 0 + 0 ≤ _)⟩)
      dsimp only [Pt.U, Pt.locs, Pt.cells, Pt.slots] at X178 l178 y178 z178 st178 hQ178
      subst y178 z178
      obtain ⟨rfl, Nq178, K178, Vn178⟩ := hQ178
      have N178 : Fr n0 L178 := by rw [l178]; exact Fr.app Nl Nq178
      clear l178
      refine Go.by (fun t => st178 t) ?_
      replace Od := Od.keep K178 (allS g_bf all0)
      replace V_vb := V_vb.keep K178 (ninS ne_vb_bf nin0)
      replace K0 := K0.trans K178 (allS (P := fun x => x ∈ _ ∨ _ ≤ x) (Or.inl (List.mem_of_getElem? (i := 0) rfl)) all0)
      clear V_bf
      have V_bf : Arv Z T178.heap bf kb .byte (Int32.ofNat (2 * Mn)) (utfL ((us ++ [cx]).map ch8) ++ List.replicate (rr + 2 * ws.length) (.int 0)) (.int 0) := arv_eq Vn178 (utf_put2 ch8 us cx (rr + 2 * ws.length) _)
      refine Go.by (fun t => XS.iinc X178.here hx rfl (dB hby D46 19 rfl) rfl (l' := #[.val (.ref vb), .val (.int ((Int32.ofNat us.length) + (1 : Int32))), .val (.ref bf), .val (.int ((Int32.ofNat us.length) + (1 : Int32))), .val (.int (Int32.ofNat cs.length)), .val (.int ((Int32.ofNat us.length) + (1 : Int32)))]) rfl) ?_
      refine Go.by (fun t => XS.goto X178.here hx rfl (pc0 := 38) (pc' := 10) rfl (dB hby D46 20 rfl) (by decide) (by decide)) ?_
      show Go p e below _ (T178.setTop (mkF m 10 #[.val (.ref vb), .val (.int ((Int32.ofNat us.length) + (1 : Int32))), .val (.ref bf), .val (.int ((Int32.ofNat us.length) + (1 : Int32))), .val (.int (Int32.ofNat cs.length)), .val (.int ((Int32.ofNat us.length) + (1 : Int32)))] []))
      rw [snoc_len us cx]
      exact ih (us ++ [cx]) _ _ (snoc_app hcs) X178 N178 K0 Od V_vb V_bf
  exact loop cs [] _ _ rfl X176 N176 K0 Od V_vb V_bf
def Q_rmLF (Z : State) (vb bf : Addr) (kv kb : ClassId) (Mn rr : Nat) (cs : List Int32) (rs : List Value) (G3 : Value) (h0 : Heap) (n0 : Nat) : Option Value → Heap → List Loc → Prop := fun v h L => v = none ∧ Fr n0 L ∧ Keep h0 h [bf] ∧ Arv Z h bf kb .byte (Int32.ofNat (2 * Mn)) (utfL (cs.map ch8) ++ List.replicate rr (.int 0)) (.int 0)
set_option maxRecDepth 65536 in
set_option maxHeartbeats 40000000 in
theorem rmLF (l : Launch) (Z : State) (a0 : Array Value) (hw : ∀ d ∈ tables_1, d.before a0 Z = true) (ws : List Jvm.Cond) (vb bf : Addr) (kv kb : ClassId) (Mn rr : Nat) (cs : List Int32) (rs : List Value) (G3 : Value) (h0 : Heap) (n0 : Nat) (Od : Old Z n0 h0) (A1 : Sta Z Z.heap "java/lang/StringUTF16" "$assertionsDisabled" "Z" (.int 1)) (HS : Sta Z Z.heap "java/lang/StringUTF16" "HI_BYTE_SHIFT" "I" (.int 0)) (LS : Sta Z Z.heap "java/lang/StringUTF16" "LO_BYTE_SHIFT" "I" (.int 8)) (O4 : Sta Z Z.heap "jdk/internal/util/Preconditions" "SIOOBE_FORMATTER" "Ljava/util/function/BiFunction;" G3) (rG3 : G3.isRef = true) (V_vb : Arv Z h0 vb kv .byte (Int32.ofNat Mn) (cs.map Value.int ++ rs) (.int 0)) (V_bf : Arv Z h0 bf kb .byte (Int32.ofNat (2 * Mn)) (List.replicate (rr + 2 * cs.length) (.int 0)) (.int 0)) (g_bf : n0 ≤ bf) (ne_vb_bf : vb ≠ bf) (hm : cs.length ≤ Mn) (hMn : 2 * Mn ≤ 32) :
    CT l (⟨"java/lang/StringLatin1", "inflate", "([BI[BII)V"⟩ : MethodName) jdk_43_method_50_code 5 none ws ({ frames := 4, cells := 0, slots := 0, locals := 72 } : Room) #[(.ref vb), (.int (0 : Int32)), (.ref bf), (.int (0 : Int32)), (.int (Int32.ofNat cs.length))] Z h0 (Q_rmLF Z vb bf kv kb Mn rr cs rs G3 h0 n0) := by
  refine Go.start (plainFor_of_name pn_9) ?_
  intro p e s m below meth c s₁ Bd hx hby hml hZ hown X0 e0
  replace hown : s.vm.findClass "java/lang/StringLatin1" = some m.cls := hown
  have N0 := Fr.nil n0
  rw [show entryFrame m #[(.ref vb), (.int (0 : Int32)), (.ref bf), (.int (0 : Int32)), (.int (Int32.ofNat cs.length))] 5 = (mkF m 0 #[.val (.ref vb), .val (.int (0 : Int32)), .val (.ref bf), .val (.int (0 : Int32)), .val (.int (Int32.ofNat cs.length))] []) from by first | (simp [entryFrame, mkF, argsToLocals, Value.category, maxLocals]; done) | rfl]
  refine Go.by (fun t => XS.aloadN X0.here hx rfl (dB hby D45 0 rfl) rfl rfl) ?_
  refine Go.by (fun t => XS.iloadN X0.here hx rfl (dB hby D45 1 rfl) rfl ) ?_
  refine Go.by (fun t => XS.aloadN X0.here hx rfl (dB hby D45 2 rfl) rfl rfl) ?_
  refine Go.by (fun t => XS.iloadN X0.here hx rfl (dB hby D45 3 rfl) rfl ) ?_
  refine Go.by (fun t => XS.iload X0.here hx rfl (dB hby D45 4 rfl) rfl ) ?_
  obtain ⟨_, _, ⟨T179, L179, k179, n179⟩, -, X179, ⟨Lc179, hQ179, l179, y179, z179⟩, st179⟩ := Jvm.LawKit.callS X0 hx (y := (⟨"java/lang/StringUTF16", "inflate", "([BI[BII)V"⟩ : MethodName)) hown (mvT hZ (wd hw 237 rfl)) (mvT hZ (wd hw 238 rfl)) (mvT hZ (wd hw 23 rfl)) (mvT hZ (wd hw 239 rfl)) (by decide) (backOf (W := 0) (rmUF l Z a0 hw [] vb bf kv kb Mn rr cs rs G3 h0 n0 Od A1 HS LS O4 rG3 V_vb V_bf g_bf ne_vb_bf hm hMn) hZ (wd hw 239 rfl) (wd hw 23 rfl) (by decide) (by decide)) (g := (mkF m 6 #[.val (.ref vb), .val (.int (0 : Int32)), .val (.ref bf), .val (.int (0 : Int32)), .val (.int (Int32.ofNat cs.length))] [(.int (Int32.ofNat cs.length)), (.int (0 : Int32)), (.ref bf), (.int (0 : Int32)), (.ref vb)])) rfl (by rw [hml]; rfl) (argsL := [(.ref vb), (.int (0 : Int32)), (.ref bf), (.int (0 : Int32)), (.int (Int32.ofNat cs.length))]) (rest := []) (lenOf pd_33 rfl) rfl (by show 2 * 0 + _ ≤ _; exact Nat.le_of_eq rfl) (dB hby D45 5 rfl) (fun _ _ => ⟨rfl, e0, (by decide : 0 + 0 ≤ _), (by decide : 0 + 0 ≤ _)⟩)
  dsimp only [Pt.U, Pt.locs, Pt.cells, Pt.slots] at X179 l179 y179 z179 st179 hQ179
  subst y179 z179
  obtain ⟨rfl, Nq179, K179, Vn⟩ := hQ179
  have N179 : Fr n0 L179 := by rw [l179]; exact Fr.app N0 Nq179
  clear l179
  refine Go.by (fun t => st179 t) ?_
  exact Go.ret0 X179 hx Bd.returns Bd.notSynchronized (dB hby D45 6 rfl) (by decide) (by decide) ⟨rfl, N179, K179, Vn⟩
def Q_rmAF (Z : State) (x1 vb : Addr) (kv : ClassId) (Mn rr : Nat) (cs : List Int32) (rs : List Value) (G1 : Int32) (G3 : Value) (h0 : Heap) (n0 : Nat) : Option Value → Heap → List Loc → Prop := fun v h L => ∃ (bf : Addr) (kb : ClassId), v = none ∧ Fr n0 L ∧ Keep h0 h [x1] ∧ h0.size ≤ bf ∧ Fld Z h x1 "java/lang/AbstractStringBuilder" "value" "[B" (.ref bf) ∧ Fld Z h x1 "java/lang/AbstractStringBuilder" "coder" "B" (.int 1) ∧ Fld Z h x1 "java/lang/AbstractStringBuilder" "count" "I" (.int (Int32.ofNat cs.length)) ∧ Fld Z h x1 "java/lang/AbstractStringBuilder" "maybeLatin1" "Z" (.int 0) ∧ Arv Z h bf kb .byte (Int32.ofNat (2 * Mn)) (utfL (cs.map ch8) ++ List.replicate rr (.int 0)) (.int 0)
set_option maxRecDepth 65536 in
set_option maxHeartbeats 40000000 in
theorem rmAF (l : Launch) (Z : State) (a0 : Array Value) (hw : ∀ d ∈ tables_1, d.before a0 Z = true) (ws : List Jvm.Cond) (x1 vb : Addr) (kv : ClassId) (Mn rr : Nat) (cs : List Int32) (rs : List Value) (G1 : Int32) (G3 : Value) (h0 : Heap) (n0 : Nat) (Z0 : n0 ≤ h0.size) (Od : Old Z n0 h0) (A1 : Sta Z Z.heap "java/lang/StringUTF16" "$assertionsDisabled" "Z" (.int 1)) (HS : Sta Z Z.heap "java/lang/StringUTF16" "HI_BYTE_SHIFT" "I" (.int 0)) (LS : Sta Z Z.heap "java/lang/StringUTF16" "LO_BYTE_SHIFT" "I" (.int 8)) (O4 : Sta Z Z.heap "jdk/internal/util/Preconditions" "SIOOBE_FORMATTER" "Ljava/util/function/BiFunction;" G3) (rG3 : G3.isRef = true) (O2 : Sta Z Z.heap "java/lang/String" "COMPACT_STRINGS" "Z" (.int G1)) (P5 : ¬ (G1 = (0 : Int32))) (E_x1 : Exa Z h0 x1 "java/lang/StringBuilder") (F_value_x1 : Fld Z h0 x1 "java/lang/AbstractStringBuilder" "value" "[B" (.ref vb)) (F_coder_x1 : Fld Z h0 x1 "java/lang/AbstractStringBuilder" "coder" "B" (.int 0)) (F_count_x1 : Fld Z h0 x1 "java/lang/AbstractStringBuilder" "count" "I" (.int (Int32.ofNat cs.length))) (F_maybeLatin1_x1 : Fld Z h0 x1 "java/lang/AbstractStringBuilder" "maybeLatin1" "Z" (.int 0)) (V_vb : Arv Z h0 vb kv .byte (Int32.ofNat Mn) (cs.map Value.int ++ rs) (.int 0)) (g_x1 : n0 ≤ x1) (hm : cs.length ≤ Mn) (hMn : 2 * Mn ≤ 32) :
    CT l (⟨"java/lang/AbstractStringBuilder", "inflate", "()V"⟩ : MethodName) jdk_68_method_11_code 2 none ws ({ frames := 5, cells := 1, slots := 32, locals := 92 } : Room) #[(.ref x1)] Z h0 (Q_rmAF Z x1 vb kv Mn rr cs rs G1 G3 h0 n0) := by
  refine Go.start (plainFor_of_name pn_6) ?_
  intro p e s m below meth c s₁ Bd hx hby hml hZ hown X0 e0
  replace hown : s.vm.findClass "java/lang/AbstractStringBuilder" = some m.cls := hown
  have N0 := Fr.nil n0
  rw [show entryFrame m #[(.ref x1)] 2 = (mkF m 0 #[.val (.ref x1), .unset] []) from by first | (simp [entryFrame, mkF, argsToLocals, Value.category, maxLocals]; done) | rfl]
  have K0 : Keep h0 h0 [x1] := Keep.refl _ _
  refine Go.by (fun t => XS.aloadN X0.here hx rfl (dB hby D44 0 rfl) rfl rfl) ?_
  obtain ⟨cq180, kq180, q180a, q180b, q180c⟩ := isOf hZ e0 E_x1
  obtain ⟨_, _, ⟨T180, L180, k180, n180⟩, -, X180, ⟨Lc180, hQ180, l180, y180, z180⟩, st180⟩ := X0.virtualBack hx (y := (⟨"java/lang/AbstractStringBuilder", "isLatin1", "()Z"⟩ : MethodName)) (z := (⟨"java/lang/AbstractStringBuilder", "isLatin1", "()Z"⟩ : MethodName)) hown (mvT hZ (wd hw 232 rfl)) (mvT hZ (wd hw 158 rfl)) (notFace_of_selects (args := #[]) (mvT hZ (wd hw 160 rfl))) (mvT hZ (wd hw 160 rfl)) (mvT hZ (wd hw 159 rfl)) (by decide) (backOf (W := 0) (rmAL0 l Z a0 hw [] x1 G1 h0 n0 Od O2 P5 F_coder_x1) hZ (wd hw 161 rfl) (wd hw 70 rfl) (by decide) (by decide)) q180a q180c (g := (mkF m 1 #[.val (.ref x1), .unset] [(.ref x1)])) rfl (by rw [hml]; rfl) (Steps.refl _) (argsL := []) (rest := []) (lenOf pd_24 rfl) rfl (by show 2 * 0 + _ ≤ _; exact Nat.le_of_eq rfl) (dB hby D44 1 rfl) (fun _ _ => ⟨rfl, e0, (by decide : 0 + 0 ≤ _), (by decide : 0 + 0 ≤ _)⟩)
  dsimp only [Pt.U, Pt.locs, Pt.cells, Pt.slots] at X180 l180 y180 z180 st180 hQ180
  subst y180 z180
  obtain ⟨rfl, Nq180, e180⟩ := hQ180
  have N180 : Fr n0 L180 := by rw [l180]; exact Fr.app N0 Nq180
  clear l180
  refine Go.by (fun t => st180.trans) ?_
  refine Go.by (fun t => XS.ifYes X180.here hx rfl (pc0 := 4) (pc' := 8) rfl (dB hby D44 2 rfl) rfl ((if0 _ _).trans (feq (by decide : ¬ ((1 : Int32) = (0 : Int32)))).2) (by decide) (by decide)) ?_
  refine Go.by (fun t => XS.aloadN X180.here hx rfl (dB hby D44 4 rfl) rfl rfl) ?_
  obtain ⟨T181, X181, e181, st181⟩ := getF X180 hx hZ hown (host := "") (Or.inl (wd hw 74 rfl)) Via.refl e180 F_value_x1 (g := (mkF m 9 #[.val (.ref x1), .unset] [(.ref x1)])) rfl rfl (dB hby D44 5 rfl)
  refine Go.by (fun t => st181 t) ?_
  show Go p e below _ (T181.setTop (mkF m 12 #[.val (.ref x1), .unset] [(.ref vb)]))
  obtain ⟨cl_182, Ar_182, q_182, S_182, M_182, -, -⟩ := id V_vb
  refine Go.by (fun t => X181.arraylength hx (by first | exact Ar_182.1 | (rw [e181]; exact Ar_182.1)) (State.isArrayOf_alike hZ.alike Ar_182.2.1) (g := (mkF m 12 #[.val (.ref x1), .unset] [(.ref vb)])) rfl rfl (dB hby D44 6 rfl) t) ?_
  rw [len_of S_182 M_182]
  obtain ⟨_, _, ⟨T183, L183, k183, n183⟩, -, X183, ⟨Lc183, hQ183, l183, y183, z183⟩, st183⟩ := Jvm.LawKit.callS X181 hx (y := (⟨"java/lang/StringUTF16", "newBytesFor", "(I)[B"⟩ : MethodName)) hown (mvT hZ (wd hw 233 rfl)) (mvT hZ (wd hw 212 rfl)) (mvT hZ (wd hw 23 rfl)) (mvT hZ (wd hw 213 rfl)) (by decide) (backOf (W := 0) (rmNB l Z a0 hw [] (Int32.ofNat Mn) (Int32.ofNat (2 * Mn)) h0 n0 Z0 (o_nn (by omega)) ((o_lt (b := 1073741823) (by omega) (by decide)).2 (by omega)) (o_shl _) (o_nn (by omega)) (by rw [o_nat (by omega)]; omega)) hZ (wd hw 213 rfl) (wd hw 23 rfl) (by decide) (by decide)) (g := (mkF m 13 #[.val (.ref x1), .unset] [(.int (Int32.ofNat Mn))])) rfl (by rw [hml]; rfl) (argsL := [(.int (Int32.ofNat Mn))]) (rest := []) (lenOf pd_14 rfl) rfl (by show 2 * 0 + _ ≤ _; exact Nat.le_of_eq rfl) (dB hby D44 7 rfl) (fun _ _ => ⟨rfl, e181, (by decide : 0 + 1 ≤ _), (by decide : 0 + 32 ≤ _)⟩)
  dsimp only [Pt.U, Pt.locs, Pt.cells, Pt.slots] at X183 l183 y183 z183 st183 hQ183
  subst y183 z183
  obtain ⟨bf, k_bf, rfl, sz_bf, Nq183, K183, V_bf⟩ := hQ183
  have g_bf : n0 ≤ bf := Nat.le_trans Z0 sz_bf
  have ne_vb_bf : vb ≠ bf := Nat.ne_of_lt (Nat.lt_of_lt_of_le V_vb.lt sz_bf)
  have ne_x1_bf : x1 ≠ bf := Nat.ne_of_lt (Nat.lt_of_lt_of_le E_x1.lt sz_bf)
  replace sz_bf : h0.size ≤ bf := Nat.le_trans K0.1 sz_bf
  have N183 : Fr n0 L183 := by rw [l183]; exact Fr.app N180 Nq183
  clear l183
  refine Go.by (fun t => st183 t) ?_
  replace X183 := Stand.num (C := 1) (S := 32) X183 rfl rfl
  replace Od := Od.keep K183 all0
  replace E_x1 := E_x1.keep K183
  replace F_value_x1 := F_value_x1.keep K183 nin0
  replace F_coder_x1 := F_coder_x1.keep K183 nin0
  replace F_count_x1 := F_count_x1.keep K183 nin0
  replace F_maybeLatin1_x1 := F_maybeLatin1_x1.keep K183 nin0
  replace V_vb := V_vb.keep K183 nin0
  replace Z0 := Nat.le_trans Z0 K183.1
  replace K0 := K0.trans K183 all0
  replace V_bf : Arv Z T183.heap bf k_bf .byte (Int32.ofNat (2 * Mn)) (List.replicate (rr + 2 * cs.length) (.int 0)) (.int 0) := V_bf.pad (pad_rep [] _ (rr + 2 * cs.length))
  refine Go.by (fun t => XS.astoreN X183.here hx rfl (dB hby D44 8 rfl) rfl rfl (l' := #[.val (.ref x1), .val (.ref bf)]) rfl) ?_
  refine Go.by (fun t => XS.aloadN X183.here hx rfl (dB hby D44 9 rfl) rfl rfl) ?_
  obtain ⟨T184, X184, e184, st184⟩ := getF X183 hx hZ hown (host := "") (Or.inl (wd hw 74 rfl)) Via.refl rfl F_value_x1 (g := (mkF m 18 #[.val (.ref x1), .val (.ref bf)] [(.ref x1)])) rfl rfl (dB hby D44 10 rfl)
  refine Go.by (fun t => st184 t) ?_
  refine Go.by (fun t => XS.iconst X184.here hx rfl (dB hby D44 11 rfl)) ?_
  refine Go.by (fun t => XS.aloadN X184.here hx rfl (dB hby D44 12 rfl) rfl rfl) ?_
  refine Go.by (fun t => XS.iconst X184.here hx rfl (dB hby D44 13 rfl)) ?_
  refine Go.by (fun t => XS.aloadN X184.here hx rfl (dB hby D44 14 rfl) rfl rfl) ?_
  obtain ⟨T185, X185, e185, st185⟩ := getF X184 hx hZ hown (host := "") (Or.inl (wd hw 105 rfl)) Via.refl e184 F_count_x1 (g := (mkF m 25 #[.val (.ref x1), .val (.ref bf)] [(.ref x1), (.int (0 : Int32)), (.ref bf), (.int (0 : Int32)), (.ref vb)])) rfl rfl (dB hby D44 15 rfl)
  refine Go.by (fun t => st185 t) ?_
  show Go p e below _ (T185.setTop (mkF m 28 #[.val (.ref x1), .val (.ref bf)] [(.int (Int32.ofNat cs.length)), (.int (0 : Int32)), (.ref bf), (.int (0 : Int32)), (.ref vb)]))
  obtain ⟨_, _, ⟨T186, L186, k186, n186⟩, -, X186, ⟨Lc186, hQ186, l186, y186, z186⟩, st186⟩ := Jvm.LawKit.callS X185 hx (y := (⟨"java/lang/StringLatin1", "inflate", "([BI[BII)V"⟩ : MethodName)) hown (mvT hZ (wd hw 234 rfl)) (mvT hZ (wd hw 235 rfl)) (mvT hZ (wd hw 193 rfl)) (mvT hZ (wd hw 236 rfl)) (by decide) (backOf (W := 0) (rmLF l Z a0 hw [] vb bf kv k_bf Mn rr cs rs G3 T183.heap n0 Od A1 HS LS O4 rG3 V_vb V_bf g_bf ne_vb_bf hm hMn) hZ (wd hw 236 rfl) (wd hw 193 rfl) (by decide) (by decide)) (g := (mkF m 28 #[.val (.ref x1), .val (.ref bf)] [(.int (Int32.ofNat cs.length)), (.int (0 : Int32)), (.ref bf), (.int (0 : Int32)), (.ref vb)])) rfl (by rw [hml]; rfl) (argsL := [(.ref vb), (.int (0 : Int32)), (.ref bf), (.int (0 : Int32)), (.int (Int32.ofNat cs.length))]) (rest := []) (lenOf pd_33 rfl) rfl (by show 2 * 0 + _ ≤ _; exact Nat.le_of_eq rfl) (dB hby D44 16 rfl) (fun _ _ => ⟨rfl, e185, (by decide : 1 + 0 ≤ _), (by decide : 32 + 0 ≤ _)⟩)
  dsimp only [Pt.U, Pt.locs, Pt.cells, Pt.slots] at X186 l186 y186 z186 st186 hQ186
  subst y186 z186
  obtain ⟨rfl, Nq186, K186, Vn⟩ := hQ186
  have N186 : Fr n0 L186 := by rw [l186]; exact Fr.app N183 Nq186
  clear l186
  refine Go.by (fun t => st186 t) ?_
  replace Od := Od.keep K186 (allS g_bf all0)
  replace E_x1 := E_x1.keep K186
  replace F_value_x1 := F_value_x1.keep K186 (ninS ne_x1_bf nin0)
  replace F_coder_x1 := F_coder_x1.keep K186 (ninS ne_x1_bf nin0)
  replace F_count_x1 := F_count_x1.keep K186 (ninS ne_x1_bf nin0)
  replace F_maybeLatin1_x1 := F_maybeLatin1_x1.keep K186 (ninS ne_x1_bf nin0)
  replace V_vb := V_vb.keep K186 (ninS ne_vb_bf nin0)
  replace Z0 := Nat.le_trans Z0 K186.1
  replace K0 := K0.trans K186 (allS (P := fun x => x ∈ _ ∨ _ ≤ x) (Or.inr sz_bf) all0)
  clear V_bf
  have V_bf := Vn
  refine Go.by (fun t => XS.aloadN X186.here hx rfl (dB hby D44 17 rfl) rfl rfl) ?_
  refine Go.by (fun t => XS.aloadN X186.here hx rfl (dB hby D44 18 rfl) rfl rfl) ?_
  obtain ⟨T187, h187, X187, e187, W187, st187⟩ := putF X186 hx hZ hown (host := "") (Or.inl (wd hw 74 rfl)) Via.refl rfl F_value_x1 E_x1 (Or.inl (wd hw 75 rfl)) (wd hw 61 rfl) (ty := (.array .byte)) (by decide) rfl rfl (g := (mkF m 33 #[.val (.ref x1), .val (.ref bf)] [(.ref bf), (.ref x1)])) rfl rfl (dB hby D44 19 rfl)
  refine Go.by (fun t => st187 t) ?_
  have ne_vb_x1 : vb ≠ x1 := Ne.symm (Exa.neArv E_x1 V_vb (wd hw 61 rfl))
  replace F_value_x1 := F_value_x1.same W187
  replace Od := Od.wr W187 g_x1
  replace E_x1 := E_x1.wr W187
  replace F_coder_x1 := F_coder_x1.other W187 (Or.inr (slot_ne (Or.inl (wd hw 77 rfl)) (Or.inl (wd hw 75 rfl)) (by decide) (t := .byte) (t' := (.array .byte)) (by decide) (by decide)))
  replace F_count_x1 := F_count_x1.other W187 (Or.inr (slot_ne (Or.inl (wd hw 106 rfl)) (Or.inl (wd hw 75 rfl)) (by decide) (t := .int) (t' := (.array .byte)) (by decide) (by decide)))
  replace F_maybeLatin1_x1 := F_maybeLatin1_x1.other W187 (Or.inr (slot_ne (Or.inl (wd hw 253 rfl)) (Or.inl (wd hw 75 rfl)) (by decide) (t := .boolean) (t' := (.array .byte)) (by decide) (by decide)))
  replace V_vb := V_vb.other W187 ne_vb_x1
  replace V_bf := V_bf.other W187 (Ne.symm ne_x1_bf)
  replace Z0 := Nat.le_trans Z0 (Keep.of_wr W187).1
  replace K0 := K0.wr W187 (Or.inl (List.mem_of_getElem? (i := 0) rfl))
  have N187 := Fr.snoc X187 N186 g_x1
  refine Go.by (fun t => XS.aloadN X187.here hx rfl (dB hby D44 20 rfl) rfl rfl) ?_
  refine Go.by (fun t => XS.iconst X187.here hx rfl (dB hby D44 21 rfl)) ?_
  obtain ⟨T188, h188, X188, e188, W188, st188⟩ := putFN X187 hx hZ hown (wd hw 76 rfl) Via.refl e187 F_coder_x1 E_x1 (Or.inl (wd hw 77 rfl)) (wd hw 61 rfl) (ty := .byte) (v' := (.int (1 : Int32))) (by decide) (by first | rfl | decide) (by first | rfl | decide | exact fits_nar_byte _) (g := (mkF m 38 #[.val (.ref x1), .val (.ref bf)] [(.int (1 : Int32)), (.ref x1)])) rfl rfl (dB hby D44 22 rfl)
  refine Go.by (fun t => st188 t) ?_
  replace F_coder_x1 := F_coder_x1.same W188
  replace Od := Od.wr W188 g_x1
  replace E_x1 := E_x1.wr W188
  replace F_value_x1 := F_value_x1.other W188 (Or.inr (slot_ne (Or.inl (wd hw 75 rfl)) (Or.inl (wd hw 77 rfl)) (by decide) (t := (.array .byte)) (t' := .byte) (by decide) (by decide)))
  replace F_count_x1 := F_count_x1.other W188 (Or.inr (slot_ne (Or.inl (wd hw 106 rfl)) (Or.inl (wd hw 77 rfl)) (by decide) (t := .int) (t' := .byte) (by decide) (by decide)))
  replace F_maybeLatin1_x1 := F_maybeLatin1_x1.other W188 (Or.inr (slot_ne (Or.inl (wd hw 253 rfl)) (Or.inl (wd hw 77 rfl)) (by decide) (t := .boolean) (t' := .byte) (by decide) (by decide)))
  replace V_vb := V_vb.other W188 ne_vb_x1
  replace V_bf := V_bf.other W188 (Ne.symm ne_x1_bf)
  replace Z0 := Nat.le_trans Z0 (Keep.of_wr W188).1
  replace K0 := K0.wr W188 (Or.inl (List.mem_of_getElem? (i := 0) rfl))
  have N188 := Fr.snoc X188 N187 g_x1
  show Go p e below _ (T188.setTop (mkF m 41 #[.val (.ref x1), .val (.ref bf)] []))
  exact Go.ret0 X188 hx Bd.returns Bd.notSynchronized (dB hby D44 23 rfl) (by decide) (by decide) (by first | (rw [e188]; exact ⟨bf, k_bf, rfl, N188, K0, sz_bf, F_value_x1, F_coder_x1, F_count_x1, F_maybeLatin1_x1, V_bf⟩) | exact ⟨bf, k_bf, rfl, N188, K0, sz_bf, F_value_x1, F_coder_x1, F_count_x1, F_maybeLatin1_x1, V_bf⟩)
def Q_rmGB (Z : State) (s1 t1 b1 : Addr) (kt kb : ClassId) (cd : Int32) (bs ys : List Value) (r : Nat) (mw M ct off : Int32) (G1 : Int32) (h0 : Heap) (n0 : Nat) : Option Value → Heap → List Loc → Prop := fun v h L => v = none ∧ Fr n0 L ∧ Keep h0 h [b1] ∧ Arv Z h b1 kb .byte M ((bs ++ ys) ++ List.replicate r (.int 0)) (.int 0)
set_option maxRecDepth 65536 in
set_option maxHeartbeats 40000000 in
theorem rmGB (l : Launch) (Z : State) (a0 : Array Value) (hw : ∀ d ∈ tables_1, d.before a0 Z = true) (ws : List Jvm.Cond) (s1 t1 b1 : Addr) (kt kb : ClassId) (cd : Int32) (bs ys : List Value) (r : Nat) (mw M ct off : Int32) (G1 : Int32) (h0 : Heap) (n0 : Nat) (Od : Old Z n0 h0) (O2 : Sta Z Z.heap "java/lang/String" "COMPACT_STRINGS" "Z" (.int G1)) (P5 : ¬ (G1 = (0 : Int32))) (E_s1 : Exa Z h0 s1 "java/lang/String") (F_value_s1 : Fld Z h0 s1 "java/lang/String" "value" "[B" (.ref t1)) (F_coder_s1 : Fld Z h0 s1 "java/lang/String" "coder" "B" (.int cd)) (h01 : cd = 0 ∨ cd = 1) (V_t1 : Arv Z h0 t1 kt .byte mw ys (.int 0)) (V_b1 : Arv Z h0 b1 kb .byte M (bs ++ List.replicate (ys.length + r) (.int 0)) (.int 0)) (g_b1 : n0 ≤ b1) (ne_t1_b1 : t1 ≠ b1) (hoff : (ct <<< (cd &&& 31)) = off) (hm : mw.toNatClampNeg = ys.length) (hm0 : ¬ mw < 0) (ho : off.toNatClampNeg = bs.length) (ho0 : ¬ off < 0) (hM : bs.length + ys.length ≤ M.toNatClampNeg) :
    CT l (⟨"java/lang/String", "getBytes", "([BIB)V"⟩ : MethodName) jdk_42_method_147_code 4 none ws ({ frames := 1, cells := 0, slots := 0, locals := 40 } : Room) #[(.ref s1), (.ref b1), (.int ct), (.int cd)] Z h0 (Q_rmGB Z s1 t1 b1 kt kb cd bs ys r mw M ct off G1 h0 n0) := by
  refine Go.start (plainFor_of_name pn_1) ?_
  intro p e s m below meth c s₁ Bd hx hby hml hZ hown X0 e0
  replace hown : s.vm.findClass "java/lang/String" = some m.cls := hown
  have N0 := Fr.nil n0
  rw [show entryFrame m #[(.ref s1), (.ref b1), (.int ct), (.int cd)] 4 = (mkF m 0 #[.val (.ref s1), .val (.ref b1), .val (.int ct), .val (.int cd)] []) from by first | (simp [entryFrame, mkF, argsToLocals, Value.category, maxLocals]; done) | rfl]
  have K0 : Keep h0 h0 [b1] := Keep.refl _ _
  refine Go.by (fun t => XS.aloadN X0.here hx rfl (dB hby D21 0 rfl) rfl rfl) ?_
  obtain ⟨cq189, kq189, q189a, q189b, q189c⟩ := isOf hZ e0 E_s1
  obtain ⟨_, _, ⟨T189, L189, k189, n189⟩, -, X189, ⟨Lc189, hQ189, l189, y189, z189⟩, st189⟩ := X0.virtualBack hx (y := (⟨"java/lang/String", "coder", "()B"⟩ : MethodName)) (z := (⟨"java/lang/String", "coder", "()B"⟩ : MethodName)) hown (mvT hZ (wd hw 100 rfl)) (mvT hZ (wd hw 101 rfl)) (notFace_of_selects (args := #[]) (mvT hZ (wd hw 103 rfl))) (mvT hZ (wd hw 103 rfl)) (mvT hZ (wd hw 102 rfl)) (by decide) (backOf (W := 0) (rmCD l Z a0 hw [] s1 cd G1 h0 n0 Od O2 P5 F_coder_s1 h01) hZ (wd hw 104 rfl) (wd hw 8 rfl) (by decide) (by decide)) q189a q189c (g := (mkF m 1 #[.val (.ref s1), .val (.ref b1), .val (.int ct), .val (.int cd)] [(.ref s1)])) rfl (by rw [hml]; rfl) (Steps.refl _) (argsL := []) (rest := []) (lenOf pd_17 rfl) rfl (by show 2 * 0 + _ ≤ _; exact Nat.le_of_eq rfl) (dB hby D21 1 rfl) (fun _ _ => ⟨rfl, e0, (by decide : 0 + 0 ≤ _), (by decide : 0 + 0 ≤ _)⟩)
  dsimp only [Pt.U, Pt.locs, Pt.cells, Pt.slots] at X189 l189 y189 z189 st189 hQ189
  subst y189 z189
  obtain ⟨rfl, Nq189, e189⟩ := hQ189
  have N189 : Fr n0 L189 := by rw [l189]; exact Fr.app N0 Nq189
  clear l189
  refine Go.by (fun t => st189.trans) ?_
  refine Go.by (fun t => XS.iloadN X189.here hx rfl (dB hby D21 2 rfl) rfl ) ?_
  refine Go.by (fun t => XS.icmpNo X189.here hx rfl (dB hby D21 3 rfl) rfl (teq (rfl : cd = cd)).2) ?_
  refine Go.by (fun t => XS.aloadN X189.here hx rfl (dB hby D21 4 rfl) rfl rfl) ?_
  show Go p e below _ (T189.setTop (mkF m 9 #[.val (.ref s1), .val (.ref b1), .val (.int ct), .val (.int cd)] [(.ref s1)]))
  obtain ⟨T190, X190, e190, st190⟩ := getF X189 hx hZ hown (host := "") (Or.inl (wd hw 34 rfl)) Via.refl e189 F_value_s1 (g := (mkF m 9 #[.val (.ref s1), .val (.ref b1), .val (.int ct), .val (.int cd)] [(.ref s1)])) rfl rfl (dB hby D21 5 rfl)
  refine Go.by (fun t => st190 t) ?_
  refine Go.by (fun t => XS.iconst X190.here hx rfl (dB hby D21 6 rfl)) ?_
  refine Go.by (fun t => XS.aloadN X190.here hx rfl (dB hby D21 7 rfl) rfl rfl) ?_
  refine Go.by (fun t => XS.iloadN X190.here hx rfl (dB hby D21 8 rfl) rfl ) ?_
  refine Go.by (fun t => XS.iloadN X190.here hx rfl (dB hby D21 9 rfl) rfl ) ?_
  refine Go.by (fun t => XS.ishl X190.here hx rfl (dB hby D21 10 rfl) rfl) ?_
  refine Go.by (fun t => XS.aloadN X190.here hx rfl (dB hby D21 11 rfl) rfl rfl) ?_
  show Go p e below _ (T190.setTop (mkF m 18 #[.val (.ref s1), .val (.ref b1), .val (.int ct), .val (.int cd)] [(.ref s1), (.int (ct <<< (cd &&& 31))), (.ref b1), (.int (0 : Int32)), (.ref t1)]))
  rw [hoff]
  obtain ⟨T191, X191, e191, st191⟩ := getF X190 hx hZ hown (host := "") (Or.inl (wd hw 34 rfl)) Via.refl e190 F_value_s1 (g := (mkF m 18 #[.val (.ref s1), .val (.ref b1), .val (.int ct), .val (.int cd)] [(.ref s1), (.int off), (.ref b1), (.int (0 : Int32)), (.ref t1)])) rfl rfl (dB hby D21 12 rfl)
  refine Go.by (fun t => st191 t) ?_
  obtain ⟨cl_192, Ar_192, q_192, S_192, M_192, -, -⟩ := id V_t1
  refine Go.by (fun t => X191.arraylength hx (by first | exact Ar_192.1 | (rw [e191]; exact Ar_192.1)) (State.isArrayOf_alike hZ.alike Ar_192.2.1) (g := (mkF m 21 #[.val (.ref s1), .val (.ref b1), .val (.int ct), .val (.int cd)] [(.ref t1), (.int off), (.ref b1), (.int (0 : Int32)), (.ref t1)])) rfl rfl (dB hby D21 13 rfl) t) ?_
  rw [len_of S_192 M_192]
  obtain ⟨T193, h193, L193, X193, e193, N193, K193, Vn193, st193⟩ := cpA X191 hx hZ hown (wd hw 128 rfl) (wd hw 131 rfl) (wd hw 129 rfl) (wd hw 130 rfl) e191 V_t1 V_b1 (us := ys) (Or.inl ⟨rfl, rfl⟩) (by decide) ho0 hm0 (by rw [show (0 : Int32).toNatClampNeg = 0 from rfl, Nat.zero_add]; exact Nat.le_refl _) (by rw [ho, hm]; exact hM) (range_all ys _ hm rfl) (by rw [ho, hm, List.length_append, List.length_replicate]; omega) N189 g_b1 (g := (mkF m 22 #[.val (.ref s1), .val (.ref b1), .val (.int ct), .val (.int cd)] [(.int mw), (.int off), (.ref b1), (.int (0 : Int32)), (.ref t1)])) rfl (by rw [hml]; rfl) rfl (dB hby D21 14 rfl) (by decide) (W := 0) (by show 2 * 0 + _ ≤ _; exact Nat.le_of_eq rfl) (by decide)
  refine Go.by (fun t => st193 t) ?_
  have ne_s1_b1 : s1 ≠ b1 := Exa.neArv E_s1 V_b1 (wd hw 7 rfl)
  replace Od := Od.keep K193 (allS g_b1 all0)
  replace E_s1 := E_s1.keep K193
  replace F_value_s1 := F_value_s1.keep K193 (ninS ne_s1_b1 nin0)
  replace F_coder_s1 := F_coder_s1.keep K193 (ninS ne_s1_b1 nin0)
  replace V_t1 := V_t1.keep K193 (ninS ne_t1_b1 nin0)
  replace K0 := K0.trans K193 (allS (P := fun x => x ∈ _ ∨ _ ≤ x) (Or.inl (List.mem_of_getElem? (i := 0) rfl)) all0)
  clear V_b1
  have V_b1 := Vn193
  replace V_b1 := arv_eq V_b1 (app_copy bs ys r _ ho hm)
  refine Go.by (fun t => XS.goto X193.here hx rfl (pc0 := 25) (pc' := 43) rfl (dB hby D21 15 rfl) (by decide) (by decide)) ?_
  exact Go.ret0 X193 hx Bd.returns Bd.notSynchronized (dB hby D21 25 rfl) (by decide) (by decide) (by first | (rw [e193]; exact ⟨rfl, N193, K0, V_b1⟩) | exact ⟨rfl, N193, K0, V_b1⟩)
def Q_rmIF0 (Z : State) (x1 s1 : Addr) (cd G1 : Int32) (h0 : Heap) (n0 : Nat) : Option Value → Heap → List Loc → Prop := fun v h L => v = none ∧ Fr n0 L ∧ h = h0
set_option maxRecDepth 65536 in
set_option maxHeartbeats 40000000 in
theorem rmIF0 (l : Launch) (Z : State) (a0 : Array Value) (hw : ∀ d ∈ tables_1, d.before a0 Z = true) (ws : List Jvm.Cond) (x1 s1 : Addr) (cd G1 : Int32) (h0 : Heap) (n0 : Nat) (Od : Old Z n0 h0) (O2 : Sta Z Z.heap "java/lang/String" "COMPACT_STRINGS" "Z" (.int G1)) (P5 : ¬ (G1 = (0 : Int32))) (E_s1 : Exa Z h0 s1 "java/lang/String") (F_coder_x1 : Fld Z h0 x1 "java/lang/AbstractStringBuilder" "coder" "B" (.int cd)) (F_coder_s1 : Fld Z h0 s1 "java/lang/String" "coder" "B" (.int cd)) (h01 : cd = 0 ∨ cd = 1) :
    CT l (⟨"java/lang/AbstractStringBuilder", "inflateIfNeededFor", "(Ljava/lang/String;)V"⟩ : MethodName) jdk_68_method_71_code 2 none ws ({ frames := 1, cells := 0, slots := 0, locals := 13 } : Room) #[(.ref x1), (.ref s1)] Z h0 (Q_rmIF0 Z x1 s1 cd G1 h0 n0) := by
  refine Go.start (plainFor_of_name pn_6) ?_
  intro p e s m below meth c s₁ Bd hx hby hml hZ hown X0 e0
  replace hown : s.vm.findClass "java/lang/AbstractStringBuilder" = some m.cls := hown
  have N0 := Fr.nil n0
  rw [show entryFrame m #[(.ref x1), (.ref s1)] 2 = (mkF m 0 #[.val (.ref x1), .val (.ref s1)] []) from by first | (simp [entryFrame, mkF, argsToLocals, Value.category, maxLocals]; done) | rfl]
  obtain ⟨T194, X194, e194, st194⟩ := getS2 X0 hx hZ hown (host := "") (Or.inl (wd hw 73 rfl)) Via.refl e0 (O2.ext Od.2) (g := (mkF m 0 #[.val (.ref x1), .val (.ref s1)] [])) rfl (dB hby D20 0 rfl)
  refine Go.by (fun t => st194 t) ?_
  refine Go.by (fun t => XS.ifNo X194.here hx rfl (dB hby D20 1 rfl) rfl ((if0 _ _).trans (feq (P5 : ¬ (G1 = (0 : Int32)))).1)) ?_
  refine Go.by (fun t => XS.aloadN X194.here hx rfl (dB hby D20 2 rfl) rfl rfl) ?_
  obtain ⟨T195, X195, e195, st195⟩ := getF X194 hx hZ hown (host := "") (Or.inl (wd hw 76 rfl)) Via.refl e194 F_coder_x1 (g := (mkF m 7 #[.val (.ref x1), .val (.ref s1)] [(.ref x1)])) rfl rfl (dB hby D20 3 rfl)
  refine Go.by (fun t => st195 t) ?_
  show Go p e below _ (T195.setTop (mkF m 10 #[.val (.ref x1), .val (.ref s1)] [(.int cd)]))
  refine Go.by (fun t => XS.aloadN X195.here hx rfl (dB hby D20 4 rfl) rfl rfl) ?_
  obtain ⟨cq196, kq196, q196a, q196b, q196c⟩ := isOf hZ e195 E_s1
  obtain ⟨_, _, ⟨T196, L196, k196, n196⟩, -, X196, ⟨Lc196, hQ196, l196, y196, z196⟩, st196⟩ := X195.virtualBack hx (y := (⟨"java/lang/String", "coder", "()B"⟩ : MethodName)) (z := (⟨"java/lang/String", "coder", "()B"⟩ : MethodName)) hown (mvT hZ (wd hw 122 rfl)) (mvT hZ (wd hw 101 rfl)) (notFace_of_selects (args := #[]) (mvT hZ (wd hw 103 rfl))) (mvT hZ (wd hw 103 rfl)) (mvT hZ (wd hw 102 rfl)) (by decide) (backOf (W := 1) (rmCD l Z a0 hw [] s1 cd G1 h0 n0 Od O2 P5 F_coder_s1 h01) hZ (wd hw 104 rfl) (wd hw 8 rfl) (by decide) (by decide)) q196a q196c (g := (mkF m 11 #[.val (.ref x1), .val (.ref s1)] [(.ref s1), (.int cd)])) rfl (by rw [hml]; rfl) (Steps.refl _) (argsL := []) (rest := [(.int cd)]) (lenOf pd_17 rfl) rfl (by show 2 * 0 + _ ≤ _; exact Nat.le_of_eq rfl) (dB hby D20 5 rfl) (fun _ _ => ⟨rfl, e195, (by decide : 0 + 0 ≤ _), (by decide : 0 + 0 ≤ _)⟩)
  dsimp only [Pt.U, Pt.locs, Pt.cells, Pt.slots] at X196 l196 y196 z196 st196 hQ196
  subst y196 z196
  obtain ⟨rfl, Nq196, e196⟩ := hQ196
  have N196 : Fr n0 L196 := by rw [l196]; exact Fr.app N0 Nq196
  clear l196
  refine Go.by (fun t => st196.trans) ?_
  refine Go.by (fun t => XS.icmpYes X196.here hx rfl (pc0 := 14) (pc' := 21) rfl (dB hby D20 6 rfl) rfl (teq (rfl : cd = cd)).1 (by decide) (by decide)) ?_
  exact Go.ret0 X196 hx Bd.returns Bd.notSynchronized (dB hby D20 9 rfl) (by decide) (by decide) (by first | (rw [e196]; exact ⟨rfl, N196, rfl⟩) | exact ⟨rfl, N196, rfl⟩)
def Q_rmIFU (Z : State) (s1 : Addr) (x1 vb : Addr) (kv : ClassId) (Mn rr : Nat) (cs : List Int32) (rs : List Value) (G1 : Int32) (G3 : Value) (h0 : Heap) (n0 : Nat) : Option Value → Heap → List Loc → Prop := fun v h L => ∃ (bf : Addr) (kb : ClassId), v = none ∧ Fr n0 L ∧ Keep h0 h [x1] ∧ h0.size ≤ bf ∧ Fld Z h x1 "java/lang/AbstractStringBuilder" "value" "[B" (.ref bf) ∧ Fld Z h x1 "java/lang/AbstractStringBuilder" "coder" "B" (.int 1) ∧ Fld Z h x1 "java/lang/AbstractStringBuilder" "count" "I" (.int (Int32.ofNat cs.length)) ∧ Fld Z h x1 "java/lang/AbstractStringBuilder" "maybeLatin1" "Z" (.int 0) ∧ Arv Z h bf kb .byte (Int32.ofNat (2 * Mn)) (utfL (cs.map ch8) ++ List.replicate rr (.int 0)) (.int 0)
set_option maxRecDepth 65536 in
set_option maxHeartbeats 40000000 in
theorem rmIFU (l : Launch) (Z : State) (a0 : Array Value) (hw : ∀ d ∈ tables_1, d.before a0 Z = true) (ws : List Jvm.Cond) (s1 : Addr) (x1 vb : Addr) (kv : ClassId) (Mn rr : Nat) (cs : List Int32) (rs : List Value) (G1 : Int32) (G3 : Value) (h0 : Heap) (n0 : Nat) (Z0 : n0 ≤ h0.size) (Od : Old Z n0 h0) (A1 : Sta Z Z.heap "java/lang/StringUTF16" "$assertionsDisabled" "Z" (.int 1)) (HS : Sta Z Z.heap "java/lang/StringUTF16" "HI_BYTE_SHIFT" "I" (.int 0)) (LS : Sta Z Z.heap "java/lang/StringUTF16" "LO_BYTE_SHIFT" "I" (.int 8)) (O4 : Sta Z Z.heap "jdk/internal/util/Preconditions" "SIOOBE_FORMATTER" "Ljava/util/function/BiFunction;" G3) (rG3 : G3.isRef = true) (O2 : Sta Z Z.heap "java/lang/String" "COMPACT_STRINGS" "Z" (.int G1)) (P5 : ¬ (G1 = (0 : Int32))) (E_x1 : Exa Z h0 x1 "java/lang/StringBuilder") (F_value_x1 : Fld Z h0 x1 "java/lang/AbstractStringBuilder" "value" "[B" (.ref vb)) (F_coder_x1 : Fld Z h0 x1 "java/lang/AbstractStringBuilder" "coder" "B" (.int 0)) (F_count_x1 : Fld Z h0 x1 "java/lang/AbstractStringBuilder" "count" "I" (.int (Int32.ofNat cs.length))) (F_maybeLatin1_x1 : Fld Z h0 x1 "java/lang/AbstractStringBuilder" "maybeLatin1" "Z" (.int 0)) (V_vb : Arv Z h0 vb kv .byte (Int32.ofNat Mn) (cs.map Value.int ++ rs) (.int 0)) (g_x1 : n0 ≤ x1) (hm : cs.length ≤ Mn) (hMn : 2 * Mn ≤ 32) (E_s1 : Exa Z h0 s1 "java/lang/String") (F_coder_s1 : Fld Z h0 s1 "java/lang/String" "coder" "B" (.int 1)) :
    CT l (⟨"java/lang/AbstractStringBuilder", "inflateIfNeededFor", "(Ljava/lang/String;)V"⟩ : MethodName) jdk_68_method_71_code 2 none ws ({ frames := 6, cells := 1, slots := 32, locals := 108 } : Room) #[(.ref x1), (.ref s1)] Z h0 (Q_rmIFU Z s1 x1 vb kv Mn rr cs rs G1 G3 h0 n0) := by
  refine Go.start (plainFor_of_name pn_6) ?_
  intro p e s m below meth c s₁ Bd hx hby hml hZ hown X0 e0
  replace hown : s.vm.findClass "java/lang/AbstractStringBuilder" = some m.cls := hown
  have N0 := Fr.nil n0
  rw [show entryFrame m #[(.ref x1), (.ref s1)] 2 = (mkF m 0 #[.val (.ref x1), .val (.ref s1)] []) from by first | (simp [entryFrame, mkF, argsToLocals, Value.category, maxLocals]; done) | rfl]
  obtain ⟨T197, X197, e197, st197⟩ := getS2 X0 hx hZ hown (host := "") (Or.inl (wd hw 73 rfl)) Via.refl e0 (O2.ext Od.2) (g := (mkF m 0 #[.val (.ref x1), .val (.ref s1)] [])) rfl (dB hby D20 0 rfl)
  refine Go.by (fun t => st197 t) ?_
  refine Go.by (fun t => XS.ifNo X197.here hx rfl (dB hby D20 1 rfl) rfl ((if0 _ _).trans (feq (P5 : ¬ (G1 = (0 : Int32)))).1)) ?_
  refine Go.by (fun t => XS.aloadN X197.here hx rfl (dB hby D20 2 rfl) rfl rfl) ?_
  obtain ⟨T198, X198, e198, st198⟩ := getF X197 hx hZ hown (host := "") (Or.inl (wd hw 76 rfl)) Via.refl e197 F_coder_x1 (g := (mkF m 7 #[.val (.ref x1), .val (.ref s1)] [(.ref x1)])) rfl rfl (dB hby D20 3 rfl)
  refine Go.by (fun t => st198 t) ?_
  show Go p e below _ (T198.setTop (mkF m 10 #[.val (.ref x1), .val (.ref s1)] [(.int (0 : Int32))]))
  refine Go.by (fun t => XS.aloadN X198.here hx rfl (dB hby D20 4 rfl) rfl rfl) ?_
  obtain ⟨cq199, kq199, q199a, q199b, q199c⟩ := isOf hZ e198 E_s1
  obtain ⟨_, _, ⟨T199, L199, k199, n199⟩, -, X199, ⟨Lc199, hQ199, l199, y199, z199⟩, st199⟩ := X198.virtualBack hx (y := (⟨"java/lang/String", "coder", "()B"⟩ : MethodName)) (z := (⟨"java/lang/String", "coder", "()B"⟩ : MethodName)) hown (mvT hZ (wd hw 122 rfl)) (mvT hZ (wd hw 101 rfl)) (notFace_of_selects (args := #[]) (mvT hZ (wd hw 103 rfl))) (mvT hZ (wd hw 103 rfl)) (mvT hZ (wd hw 102 rfl)) (by decide) (backOf (W := 1) (rmCD l Z a0 hw [] s1 1 G1 h0 n0 Od O2 P5 F_coder_s1 (Or.inr rfl)) hZ (wd hw 104 rfl) (wd hw 8 rfl) (by decide) (by decide)) q199a q199c (g := (mkF m 11 #[.val (.ref x1), .val (.ref s1)] [(.ref s1), (.int (0 : Int32))])) rfl (by rw [hml]; rfl) (Steps.refl _) (argsL := []) (rest := [(.int (0 : Int32))]) (lenOf pd_17 rfl) rfl (by show 2 * 0 + _ ≤ _; exact Nat.le_of_eq rfl) (dB hby D20 5 rfl) (fun _ _ => ⟨rfl, e198, (by decide : 0 + 0 ≤ _), (by decide : 0 + 0 ≤ _)⟩)
  dsimp only [Pt.U, Pt.locs, Pt.cells, Pt.slots] at X199 l199 y199 z199 st199 hQ199
  subst y199 z199
  obtain ⟨rfl, Nq199, e199⟩ := hQ199
  have N199 : Fr n0 L199 := by rw [l199]; exact Fr.app N0 Nq199
  clear l199
  refine Go.by (fun t => st199.trans) ?_
  refine Go.by (fun t => XS.icmpNo X199.here hx rfl (dB hby D20 6 rfl) rfl (feq (by decide : ¬ ((0 : Int32) = (1 : Int32)))).1) ?_
  refine Go.by (fun t => XS.aloadN X199.here hx rfl (dB hby D20 7 rfl) rfl rfl) ?_
  obtain ⟨cq200, q200, q200'⟩ := E_x1.cell
  obtain ⟨_, _, ⟨T200, L200, k200, n200⟩, -, X200, ⟨Lc200, hQ200, l200, y200, z200⟩, st200⟩ := X199.privateBack hx (y := (⟨"java/lang/AbstractStringBuilder", "inflate", "()V"⟩ : MethodName)) hown (mvT hZ (wd hw 227 rfl)) (mvT hZ (wd hw 228 rfl)) (selSelf (mvT hZ (wd hw 230 rfl)) (Cond.privateMethod_at (mvP hZ (wd hw 229 rfl) (args := #[]))) (mvT hZ (wd hw 228 rfl)) (by decide)) (Cond.privateMethod_at (mvP hZ (wd hw 229 rfl) (args := #[]))) (mvT hZ (wd hw 231 rfl)) (by decide) (backOf (W := 0) (rmAF l Z a0 hw [] x1 vb kv Mn rr cs rs G1 G3 h0 n0 Z0 Od A1 HS LS O4 rG3 O2 P5 E_x1 F_value_x1 F_coder_x1 F_count_x1 F_maybeLatin1_x1 V_vb g_x1 hm hMn) hZ (wd hw 231 rfl) (wd hw 70 rfl) (by decide) (by decide)) (g := (mkF m 18 #[.val (.ref x1), .val (.ref s1)] [(.ref x1)])) rfl (by rw [hml]; rfl) (Steps.refl _) (a := x1) (by rw [e199]; exact q200) q200' (argsL := []) (rest := []) (lenOf pd_7 rfl) rfl (by show 2 * 0 + _ ≤ _; exact Nat.le_of_eq rfl) (dB hby D20 8 rfl) (fun _ _ => ⟨rfl, e199, (by decide : 0 + 1 ≤ _), (by decide : 0 + 32 ≤ _)⟩)
  dsimp only [Pt.U, Pt.locs, Pt.cells, Pt.slots] at X200 l200 y200 z200 st200 hQ200
  subst y200 z200
  obtain ⟨bf, kb, rfl, Nq200, K200, sz, f1, f2, f3, f4, Vn⟩ := hQ200
  have N200 : Fr n0 L200 := by rw [l200]; exact Fr.app N199 Nq200
  clear l200
  refine Go.by (fun t => st200.trans) ?_
  replace X200 := Stand.num (C := 1) (S := 32) X200 rfl rfl
  show Go p e below _ (T200.setTop (mkF m 21 #[.val (.ref x1), .val (.ref s1)] []))
  exact Go.ret0 X200 hx Bd.returns Bd.notSynchronized (dB hby D20 9 rfl) (by decide) (by decide) ⟨bf, kb, rfl, N200, K200, sz, f1, f2, f3, f4, Vn⟩
def Q_rmPS0 (Z : State) (x1 s1 t1 vb : Addr) (kt kv : ClassId) (cd : Int32) (bs ys : List Value) (ct kk r Mn : Nat) (G1 : Int32) (h0 : Heap) (n0 : Nat) : Option Value → Heap → List Loc → Prop := fun v h L => v = none ∧ Fr n0 L ∧ Keep h0 h [vb] ∧ Arv Z h vb kv .byte (Int32.ofNat Mn) ((bs ++ ys) ++ List.replicate r (.int 0)) (.int 0)
set_option maxRecDepth 65536 in
set_option maxHeartbeats 40000000 in
theorem rmPS0 (l : Launch) (Z : State) (a0 : Array Value) (hw : ∀ d ∈ tables_1, d.before a0 Z = true) (ws : List Jvm.Cond) (x1 s1 t1 vb : Addr) (kt kv : ClassId) (cd : Int32) (bs ys : List Value) (ct kk r Mn : Nat) (G1 : Int32) (h0 : Heap) (n0 : Nat) (Od : Old Z n0 h0) (O2 : Sta Z Z.heap "java/lang/String" "COMPACT_STRINGS" "Z" (.int G1)) (P5 : ¬ (G1 = (0 : Int32))) (E_x1 : Exa Z h0 x1 "java/lang/StringBuilder") (F_value_x1 : Fld Z h0 x1 "java/lang/AbstractStringBuilder" "value" "[B" (.ref vb)) (F_coder_x1 : Fld Z h0 x1 "java/lang/AbstractStringBuilder" "coder" "B" (.int cd)) (F_count_x1 : Fld Z h0 x1 "java/lang/AbstractStringBuilder" "count" "I" (.int (Int32.ofNat ct))) (F_maybeLatin1_x1 : Fld Z h0 x1 "java/lang/AbstractStringBuilder" "maybeLatin1" "Z" (.int 0)) (g_x1 : n0 ≤ x1) (E_s1 : Exa Z h0 s1 "java/lang/String") (F_value_s1 : Fld Z h0 s1 "java/lang/String" "value" "[B" (.ref t1)) (F_coder_s1 : Fld Z h0 s1 "java/lang/String" "coder" "B" (.int cd)) (V_t1 : Arv Z h0 t1 kt .byte (Int32.ofNat ys.length) ys (.int 0)) (V_vb : Arv Z h0 vb kv .byte (Int32.ofNat Mn) (bs ++ List.replicate (ys.length + r) (.int 0)) (.int 0)) (g_vb : n0 ≤ vb) (ne_t1_vb : t1 ≠ vb) (hc : (cd = 0 ∧ bs.length = ct ∧ ys.length = kk) ∨ (cd = 1 ∧ bs.length = 2 * ct ∧ ys.length = 2 * kk)) (hM : bs.length + ys.length ≤ Mn) (hMn : Mn ≤ 100000) :
    CT l (⟨"java/lang/AbstractStringBuilder", "putStringAt", "(ILjava/lang/String;)V"⟩ : MethodName) jdk_68_method_73_code 3 none ws ({ frames := 2, cells := 0, slots := 0, locals := 58 } : Room) #[(.ref x1), (.int (Int32.ofNat ct)), (.ref s1)] Z h0 (Q_rmPS0 Z x1 s1 t1 vb kt kv cd bs ys ct kk r Mn G1 h0 n0) := by
  refine Go.start (plainFor_of_name pn_6) ?_
  intro p e s m below meth c s₁ Bd hx hby hml hZ hown X0 e0
  replace hown : s.vm.findClass "java/lang/AbstractStringBuilder" = some m.cls := hown
  have N0 := Fr.nil n0
  rw [show entryFrame m #[(.ref x1), (.int (Int32.ofNat ct)), (.ref s1)] 3 = (mkF m 0 #[.val (.ref x1), .val (.int (Int32.ofNat ct)), .val (.ref s1)] []) from by first | (simp [entryFrame, mkF, argsToLocals, Value.category, maxLocals]; done) | rfl]
  have K0 : Keep h0 h0 [vb] := Keep.refl _ _
  refine Go.by (fun t => XS.aloadN X0.here hx rfl (dB hby D19 0 rfl) rfl rfl) ?_
  refine Go.by (fun t => XS.aloadN X0.here hx rfl (dB hby D19 1 rfl) rfl rfl) ?_
  obtain ⟨cq201, q201, q201'⟩ := E_x1.cell
  obtain ⟨_, _, ⟨T201, L201, k201, n201⟩, -, X201, ⟨Lc201, hQ201, l201, y201, z201⟩, st201⟩ := X0.privateBack hx (y := (⟨"java/lang/AbstractStringBuilder", "inflateIfNeededFor", "(Ljava/lang/String;)V"⟩ : MethodName)) hown (mvT hZ (wd hw 117 rfl)) (mvT hZ (wd hw 118 rfl)) (selSelf (mvT hZ (wd hw 120 rfl)) (Cond.privateMethod_at (mvP hZ (wd hw 119 rfl) (args := #[]))) (mvT hZ (wd hw 118 rfl)) (by decide)) (Cond.privateMethod_at (mvP hZ (wd hw 119 rfl) (args := #[]))) (mvT hZ (wd hw 121 rfl)) (by decide) (backOf (W := 0) (rmIF0 l Z a0 hw [] x1 s1 cd G1 h0 n0 Od O2 P5 E_s1 F_coder_x1 F_coder_s1 (hc.imp And.left And.left)) hZ (wd hw 121 rfl) (wd hw 70 rfl) (by decide) (by decide)) (g := (mkF m 2 #[.val (.ref x1), .val (.int (Int32.ofNat ct)), .val (.ref s1)] [(.ref s1), (.ref x1)])) rfl (by rw [hml]; rfl) (Steps.refl _) (a := x1) (by rw [e0]; exact q201) q201' (argsL := [(.ref s1)]) (rest := []) (lenOf pd_18 rfl) rfl (by show 2 * 0 + _ ≤ _; exact Nat.le_of_eq rfl) (dB hby D19 2 rfl) (fun _ _ => ⟨rfl, e0, (by decide : 0 + 0 ≤ _), (by decide : 0 + 0 ≤ _)⟩)
  dsimp only [Pt.U, Pt.locs, Pt.cells, Pt.slots] at X201 l201 y201 z201 st201 hQ201
  subst y201 z201
  obtain ⟨rfl, Nq201, e201⟩ := hQ201
  have N201 : Fr n0 L201 := by rw [l201]; exact Fr.app N0 Nq201
  clear l201
  refine Go.by (fun t => st201.trans) ?_
  refine Go.by (fun t => XS.aloadN X201.here hx rfl (dB hby D19 3 rfl) rfl rfl) ?_
  refine Go.by (fun t => XS.aloadN X201.here hx rfl (dB hby D19 4 rfl) rfl rfl) ?_
  obtain ⟨T202, X202, e202, st202⟩ := getF X201 hx hZ hown (host := "") (Or.inl (wd hw 74 rfl)) Via.refl e201 F_value_x1 (g := (mkF m 7 #[.val (.ref x1), .val (.int (Int32.ofNat ct)), .val (.ref s1)] [(.ref x1), (.ref s1)])) rfl rfl (dB hby D19 5 rfl)
  refine Go.by (fun t => st202 t) ?_
  refine Go.by (fun t => XS.iloadN X202.here hx rfl (dB hby D19 6 rfl) rfl ) ?_
  refine Go.by (fun t => XS.aloadN X202.here hx rfl (dB hby D19 7 rfl) rfl rfl) ?_
  show Go p e below _ (T202.setTop (mkF m 12 #[.val (.ref x1), .val (.int (Int32.ofNat ct)), .val (.ref s1)] [(.ref x1), (.int (Int32.ofNat ct)), (.ref vb), (.ref s1)]))
  obtain ⟨T203, X203, e203, st203⟩ := getF X202 hx hZ hown (host := "") (Or.inl (wd hw 76 rfl)) Via.refl e202 F_coder_x1 (g := (mkF m 12 #[.val (.ref x1), .val (.int (Int32.ofNat ct)), .val (.ref s1)] [(.ref x1), (.int (Int32.ofNat ct)), (.ref vb), (.ref s1)])) rfl rfl (dB hby D19 8 rfl)
  refine Go.by (fun t => st203 t) ?_
  have hof : (Int32.ofNat ct <<< (cd &&& 31)) = Int32.ofNat bs.length := by rcases hc with ⟨rfl, q, -⟩ | ⟨rfl, q, -⟩ <;> rw [q] <;> first | exact o_shl0 _ | exact o_shl _
  obtain ⟨cq204, kq204, q204a, q204b, q204c⟩ := isOf hZ e203 E_s1
  obtain ⟨_, _, ⟨T204, L204, k204, n204⟩, -, X204, ⟨Lc204, hQ204, l204, y204, z204⟩, st204⟩ := X203.virtualBack hx (y := (⟨"java/lang/String", "getBytes", "([BIB)V"⟩ : MethodName)) (z := (⟨"java/lang/String", "getBytes", "([BIB)V"⟩ : MethodName)) hown (mvT hZ (wd hw 123 rfl)) (mvT hZ (wd hw 124 rfl)) (notFace_of_selects (args := #[]) (mvT hZ (wd hw 126 rfl))) (mvT hZ (wd hw 126 rfl)) (mvT hZ (wd hw 125 rfl)) (by decide) (backOf (W := 0) (rmGB l Z a0 hw [] s1 t1 vb kt kv cd bs ys r _ _ (Int32.ofNat ct) (Int32.ofNat bs.length) G1 h0 n0 Od O2 P5 E_s1 F_value_s1 F_coder_s1 (hc.imp And.left And.left) V_t1 V_vb g_vb ne_t1_vb hof (o_nat (by omega)) (o_nn (by omega)) (o_nat (by omega)) (o_nn (by omega)) (by rw [o_nat (by omega)]; exact hM)) hZ (wd hw 127 rfl) (wd hw 8 rfl) (by decide) (by decide)) q204a q204c (g := (mkF m 15 #[.val (.ref x1), .val (.int (Int32.ofNat ct)), .val (.ref s1)] [(.int cd), (.int (Int32.ofNat ct)), (.ref vb), (.ref s1)])) rfl (by rw [hml]; rfl) (Steps.refl _) (argsL := [(.ref vb), (.int (Int32.ofNat ct)), (.int cd)]) (rest := []) (lenOf pd_19 rfl) rfl (by show 2 * 0 + _ ≤ _; exact Nat.le_of_eq rfl) (dB hby D19 9 rfl) (fun _ _ => ⟨rfl, e203, (by decide : 0 + 0 ≤ _), (by decide : 0 + 0 ≤ _)⟩)
  dsimp only [Pt.U, Pt.locs, Pt.cells, Pt.slots] at X204 l204 y204 z204 st204 hQ204
  subst y204 z204
  obtain ⟨rfl, Nq204, K204, Vn⟩ := hQ204
  have N204 : Fr n0 L204 := by rw [l204]; exact Fr.app N201 Nq204
  clear l204
  refine Go.by (fun t => st204.trans) ?_
  replace K0 := K0.trans K204 (allS (P := fun x => x ∈ _ ∨ _ ≤ x) (Or.inl (List.mem_of_getElem? (i := 0) rfl)) all0)
  exact Go.ret0 X204 hx Bd.returns Bd.notSynchronized (dB hby D19 10 rfl) (by decide) (by decide) ⟨rfl, N204, K0, Vn⟩
def Q_rmAP0 (Z : State) (x1 s1 t1 vb : Addr) (kt kv : ClassId) (cd : Int32) (bs ys : List Value) (ct kk r Mn : Nat) (G1 : Int32) (h0 : Heap) (n0 : Nat) : Option Value → Heap → List Loc → Prop := fun v h L => v = some (.ref x1) ∧ Fr n0 L ∧ Keep h0 h [x1, vb] ∧ Fld Z h x1 "java/lang/AbstractStringBuilder" "value" "[B" (.ref vb) ∧ Fld Z h x1 "java/lang/AbstractStringBuilder" "coder" "B" (.int cd) ∧ Fld Z h x1 "java/lang/AbstractStringBuilder" "count" "I" (.int (Int32.ofNat (ct + kk))) ∧ Fld Z h x1 "java/lang/AbstractStringBuilder" "maybeLatin1" "Z" (.int 0) ∧ Arv Z h vb kv .byte (Int32.ofNat Mn) ((bs ++ ys) ++ List.replicate r (.int 0)) (.int 0)
set_option maxRecDepth 65536 in
set_option maxHeartbeats 40000000 in
theorem rmAP0 (l : Launch) (Z : State) (a0 : Array Value) (hw : ∀ d ∈ tables_1, d.before a0 Z = true) (ws : List Jvm.Cond) (x1 s1 t1 vb : Addr) (kt kv : ClassId) (cd : Int32) (bs ys : List Value) (ct kk r Mn : Nat) (G1 : Int32) (h0 : Heap) (n0 : Nat) (Od : Old Z n0 h0) (O2 : Sta Z Z.heap "java/lang/String" "COMPACT_STRINGS" "Z" (.int G1)) (P5 : ¬ (G1 = (0 : Int32))) (E_x1 : Exa Z h0 x1 "java/lang/StringBuilder") (F_value_x1 : Fld Z h0 x1 "java/lang/AbstractStringBuilder" "value" "[B" (.ref vb)) (F_coder_x1 : Fld Z h0 x1 "java/lang/AbstractStringBuilder" "coder" "B" (.int cd)) (F_count_x1 : Fld Z h0 x1 "java/lang/AbstractStringBuilder" "count" "I" (.int (Int32.ofNat ct))) (F_maybeLatin1_x1 : Fld Z h0 x1 "java/lang/AbstractStringBuilder" "maybeLatin1" "Z" (.int 0)) (g_x1 : n0 ≤ x1) (E_s1 : Exa Z h0 s1 "java/lang/String") (F_value_s1 : Fld Z h0 s1 "java/lang/String" "value" "[B" (.ref t1)) (F_coder_s1 : Fld Z h0 s1 "java/lang/String" "coder" "B" (.int cd)) (V_t1 : Arv Z h0 t1 kt .byte (Int32.ofNat ys.length) ys (.int 0)) (V_vb : Arv Z h0 vb kv .byte (Int32.ofNat Mn) (bs ++ List.replicate (ys.length + r) (.int 0)) (.int 0)) (g_vb : n0 ≤ vb) (ne_t1_vb : t1 ≠ vb) (hc : (cd = 0 ∧ bs.length = ct ∧ ys.length = kk) ∨ (cd = 1 ∧ bs.length = 2 * ct ∧ ys.length = 2 * kk)) (hM : bs.length + ys.length ≤ Mn) (hMn : Mn ≤ 100000) :
    CT l (⟨"java/lang/AbstractStringBuilder", "append", "(Ljava/lang/String;)Ljava/lang/AbstractStringBuilder;"⟩ : MethodName) jdk_68_method_22_code 3 (some (.object "java/lang/AbstractStringBuilder")) ws ({ frames := 3, cells := 0, slots := 0, locals := 76 } : Room) #[(.ref x1), (.ref s1)] Z h0 (Q_rmAP0 Z x1 s1 t1 vb kt kv cd bs ys ct kk r Mn G1 h0 n0) := by
  refine Go.start (plainFor_of_name pn_6) ?_
  intro p e s m below meth c s₁ Bd hx hby hml hZ hown X0 e0
  replace hown : s.vm.findClass "java/lang/AbstractStringBuilder" = some m.cls := hown
  have N0 := Fr.nil n0
  rw [show entryFrame m #[(.ref x1), (.ref s1)] 3 = (mkF m 0 #[.val (.ref x1), .val (.ref s1), .unset] []) from by first | (simp [entryFrame, mkF, argsToLocals, Value.category, maxLocals]; done) | rfl]
  have K0 : Keep h0 h0 [x1, vb] := Keep.refl _ _
  have hlen : (Int32.ofNat ys.length >>> (cd &&& 31)) = Int32.ofNat kk := by rcases hc with ⟨rfl, -, q⟩ | ⟨rfl, -, q⟩ <;> rw [q] <;> first | exact o_shr0 _ | exact o_shr (by omega)
  obtain ⟨zc, hzc, hle⟩ : ∃ zc : Int32, (Int32.ofNat Mn >>> (cd &&& 31)) = zc ∧ ¬ ((0 : Int32) < (Int32.ofNat (ct + kk) - zc)) := ⟨_, rfl, cap_ok hc hM hMn⟩
  refine Go.by (fun t => XS.aloadN X0.here hx rfl (dB hby D15 0 rfl) rfl rfl) ?_
  refine Go.by (fun t => XS.ifnonnullYes X0.here hx rfl (pc0 := 1) (pc' := 9) rfl (dB hby D15 1 rfl) rfl (by decide) (by decide)) ?_
  refine Go.by (fun t => XS.aloadN X0.here hx rfl (dB hby D15 5 rfl) rfl rfl) ?_
  obtain ⟨cq205, kq205, q205a, q205b, q205c⟩ := isOf hZ e0 E_s1
  obtain ⟨_, _, ⟨T205, L205, k205, n205⟩, -, X205, ⟨Lc205, hQ205, l205, y205, z205⟩, st205⟩ := X0.virtualBack hx (y := (⟨"java/lang/String", "length", "()I"⟩ : MethodName)) (z := (⟨"java/lang/String", "length", "()I"⟩ : MethodName)) hown (mvT hZ (wd hw 95 rfl)) (mvT hZ (wd hw 96 rfl)) (notFace_of_selects (args := #[]) (mvT hZ (wd hw 98 rfl))) (mvT hZ (wd hw 98 rfl)) (mvT hZ (wd hw 97 rfl)) (by decide) (backOf (W := 0) (rmSL l Z a0 hw [] s1 t1 kt _ _ cd _ G1 h0 n0 Od O2 P5 E_s1 F_value_s1 F_coder_s1 V_t1 (hc.imp And.left And.left) hlen) hZ (wd hw 99 rfl) (wd hw 8 rfl) (by decide) (by decide)) q205a q205c (g := (mkF m 10 #[.val (.ref x1), .val (.ref s1), .unset] [(.ref s1)])) rfl (by rw [hml]; rfl) (Steps.refl _) (argsL := []) (rest := []) (lenOf pd_3 rfl) rfl (by show 2 * 0 + _ ≤ _; exact Nat.le_of_eq rfl) (dB hby D15 6 rfl) (fun _ _ => ⟨rfl, e0, (by decide : 0 + 0 ≤ _), (by decide : 0 + 0 ≤ _)⟩)
  dsimp only [Pt.U, Pt.locs, Pt.cells, Pt.slots] at X205 l205 y205 z205 st205 hQ205
  subst y205 z205
  obtain ⟨rfl, Nq205, e205⟩ := hQ205
  have N205 : Fr n0 L205 := by rw [l205]; exact Fr.app N0 Nq205
  clear l205
  refine Go.by (fun t => st205.trans) ?_
  refine Go.by (fun t => XS.istoreN X205.here hx rfl (dB hby D15 7 rfl) rfl (l' := #[.val (.ref x1), .val (.ref s1), .val (.int (Int32.ofNat kk))]) rfl) ?_
  refine Go.by (fun t => XS.aloadN X205.here hx rfl (dB hby D15 8 rfl) rfl rfl) ?_
  refine Go.by (fun t => XS.aloadN X205.here hx rfl (dB hby D15 9 rfl) rfl rfl) ?_
  show Go p e below _ (T205.setTop (mkF m 16 #[.val (.ref x1), .val (.ref s1), .val (.int (Int32.ofNat kk))] [(.ref x1), (.ref x1)]))
  obtain ⟨T206, X206, e206, st206⟩ := getF X205 hx hZ hown (host := "") (Or.inl (wd hw 105 rfl)) Via.refl e205 F_count_x1 (g := (mkF m 16 #[.val (.ref x1), .val (.ref s1), .val (.int (Int32.ofNat kk))] [(.ref x1), (.ref x1)])) rfl rfl (dB hby D15 10 rfl)
  refine Go.by (fun t => st206 t) ?_
  refine Go.by (fun t => XS.iloadN X206.here hx rfl (dB hby D15 11 rfl) rfl ) ?_
  refine Go.by (fun t => XS.iadd X206.here hx rfl (dB hby D15 12 rfl) rfl) ?_
  show Go p e below _ (T206.setTop (mkF m 21 #[.val (.ref x1), .val (.ref s1), .val (.int (Int32.ofNat kk))] [(.int ((Int32.ofNat ct) + (Int32.ofNat kk))), (.ref x1)]))
  rw [o_add ct kk]
  obtain ⟨cq207, q207, q207'⟩ := E_x1.cell
  obtain ⟨_, _, ⟨T207, L207, k207, n207⟩, -, X207, ⟨Lc207, hQ207, l207, y207, z207⟩, st207⟩ := X206.privateBack hx (y := (⟨"java/lang/AbstractStringBuilder", "ensureCapacityInternal", "(I)V"⟩ : MethodName)) hown (mvT hZ (wd hw 107 rfl)) (mvT hZ (wd hw 108 rfl)) (selSelf (mvT hZ (wd hw 110 rfl)) (Cond.privateMethod_at (mvP hZ (wd hw 109 rfl) (args := #[]))) (mvT hZ (wd hw 108 rfl)) (by decide)) (Cond.privateMethod_at (mvP hZ (wd hw 109 rfl) (args := #[]))) (mvT hZ (wd hw 111 rfl)) (by decide) (backOf (W := 0) (rmEC l Z a0 hw [] x1 vb kv _ zc (Int32.ofNat (ct + kk)) cd _ h0 n0 F_value_x1 F_coder_x1 V_vb hzc hle) hZ (wd hw 111 rfl) (wd hw 70 rfl) (by decide) (by decide)) (g := (mkF m 21 #[.val (.ref x1), .val (.ref s1), .val (.int (Int32.ofNat kk))] [(.int (Int32.ofNat (ct + kk))), (.ref x1)])) rfl (by rw [hml]; rfl) (Steps.refl _) (a := x1) (by rw [e206]; exact q207) q207' (argsL := [(.int (Int32.ofNat (ct + kk)))]) (rest := []) (lenOf pd_13 rfl) rfl (by show 2 * 0 + _ ≤ _; exact Nat.le_of_eq rfl) (dB hby D15 13 rfl) (fun _ _ => ⟨rfl, e206, (by decide : 0 + 0 ≤ _), (by decide : 0 + 0 ≤ _)⟩)
  dsimp only [Pt.U, Pt.locs, Pt.cells, Pt.slots] at X207 l207 y207 z207 st207 hQ207
  subst y207 z207
  obtain ⟨rfl, Nq207, e207⟩ := hQ207
  have N207 : Fr n0 L207 := by rw [l207]; exact Fr.app N205 Nq207
  clear l207
  refine Go.by (fun t => st207.trans) ?_
  refine Go.by (fun t => XS.aloadN X207.here hx rfl (dB hby D15 14 rfl) rfl rfl) ?_
  refine Go.by (fun t => XS.aloadN X207.here hx rfl (dB hby D15 15 rfl) rfl rfl) ?_
  obtain ⟨T208, X208, e208, st208⟩ := getF X207 hx hZ hown (host := "") (Or.inl (wd hw 105 rfl)) Via.refl e207 F_count_x1 (g := (mkF m 26 #[.val (.ref x1), .val (.ref s1), .val (.int (Int32.ofNat kk))] [(.ref x1), (.ref x1)])) rfl rfl (dB hby D15 16 rfl)
  refine Go.by (fun t => st208 t) ?_
  refine Go.by (fun t => XS.aloadN X208.here hx rfl (dB hby D15 17 rfl) rfl rfl) ?_
  obtain ⟨cq209, q209, q209'⟩ := E_x1.cell
  obtain ⟨_, _, ⟨T209, L209, k209, n209⟩, -, X209, ⟨Lc209, hQ209, l209, y209, z209⟩, st209⟩ := X208.privateBack hx (y := (⟨"java/lang/AbstractStringBuilder", "putStringAt", "(ILjava/lang/String;)V"⟩ : MethodName)) hown (mvT hZ (wd hw 112 rfl)) (mvT hZ (wd hw 113 rfl)) (selSelf (mvT hZ (wd hw 115 rfl)) (Cond.privateMethod_at (mvP hZ (wd hw 114 rfl) (args := #[]))) (mvT hZ (wd hw 113 rfl)) (by decide)) (Cond.privateMethod_at (mvP hZ (wd hw 114 rfl) (args := #[]))) (mvT hZ (wd hw 116 rfl)) (by decide) (backOf (W := 0) (rmPS0 l Z a0 hw [] x1 s1 t1 vb kt kv cd bs ys ct kk r Mn G1 h0 n0 Od O2 P5 E_x1 F_value_x1 F_coder_x1 F_count_x1 F_maybeLatin1_x1 g_x1 E_s1 F_value_s1 F_coder_s1 V_t1 V_vb g_vb ne_t1_vb hc hM hMn) hZ (wd hw 116 rfl) (wd hw 70 rfl) (by decide) (by decide)) (g := (mkF m 30 #[.val (.ref x1), .val (.ref s1), .val (.int (Int32.ofNat kk))] [(.ref s1), (.int (Int32.ofNat ct)), (.ref x1)])) rfl (by rw [hml]; rfl) (Steps.refl _) (a := x1) (by rw [e208]; exact q209) q209' (argsL := [(.int (Int32.ofNat ct)), (.ref s1)]) (rest := []) (lenOf pd_16 rfl) rfl (by show 2 * 0 + _ ≤ _; exact Nat.le_of_eq rfl) (dB hby D15 18 rfl) (fun _ _ => ⟨rfl, e208, (by decide : 0 + 0 ≤ _), (by decide : 0 + 0 ≤ _)⟩)
  dsimp only [Pt.U, Pt.locs, Pt.cells, Pt.slots] at X209 l209 y209 z209 st209 hQ209
  subst y209 z209
  obtain ⟨rfl, Nq209, K209, Vn⟩ := hQ209
  have ne_x1_vb : x1 ≠ vb := Exa.neArv E_x1 V_vb (wd hw 61 rfl)
  have ne_s1_vb : s1 ≠ vb := Exa.neArv E_s1 V_vb (wd hw 7 rfl)
  have N209 : Fr n0 L209 := by rw [l209]; exact Fr.app N207 Nq209
  clear l209
  refine Go.by (fun t => st209.trans) ?_
  replace Od := Od.keep K209 (allS g_vb all0)
  replace E_x1 := E_x1.keep K209
  replace F_value_x1 := F_value_x1.keep K209 (ninS ne_x1_vb nin0)
  replace F_coder_x1 := F_coder_x1.keep K209 (ninS ne_x1_vb nin0)
  replace F_count_x1 := F_count_x1.keep K209 (ninS ne_x1_vb nin0)
  replace F_maybeLatin1_x1 := F_maybeLatin1_x1.keep K209 (ninS ne_x1_vb nin0)
  replace E_s1 := E_s1.keep K209
  replace F_value_s1 := F_value_s1.keep K209 (ninS ne_s1_vb nin0)
  replace F_coder_s1 := F_coder_s1.keep K209 (ninS ne_s1_vb nin0)
  replace V_t1 := V_t1.keep K209 (ninS ne_t1_vb nin0)
  replace K0 := K0.trans K209 (allS (P := fun x => x ∈ _ ∨ _ ≤ x) (Or.inl (List.mem_of_getElem? (i := 1) rfl)) all0)
  show Go p e below _ (T209.setTop (mkF m 33 #[.val (.ref x1), .val (.ref s1), .val (.int (Int32.ofNat kk))] []))
  clear V_vb
  have V_vb := Vn
  refine Go.by (fun t => XS.aloadN X209.here hx rfl (dB hby D15 19 rfl) rfl rfl) ?_
  refine Go.by (fun t => XS.dup X209.here hx rfl (dB hby D15 20 rfl) rfl rfl) ?_
  obtain ⟨T210, X210, e210, st210⟩ := getF X209 hx hZ hown (host := "") (Or.inl (wd hw 105 rfl)) Via.refl rfl F_count_x1 (g := (mkF m 35 #[.val (.ref x1), .val (.ref s1), .val (.int (Int32.ofNat kk))] [(.ref x1), (.ref x1)])) rfl rfl (dB hby D15 21 rfl)
  refine Go.by (fun t => st210 t) ?_
  refine Go.by (fun t => XS.iloadN X210.here hx rfl (dB hby D15 22 rfl) rfl ) ?_
  refine Go.by (fun t => XS.iadd X210.here hx rfl (dB hby D15 23 rfl) rfl) ?_
  show Go p e below _ (T210.setTop (mkF m 40 #[.val (.ref x1), .val (.ref s1), .val (.int (Int32.ofNat kk))] [(.int ((Int32.ofNat ct) + (Int32.ofNat kk))), (.ref x1)]))
  rw [o_add ct kk]
  obtain ⟨T211, h211, X211, e211, W211, st211⟩ := putF X210 hx hZ hown (host := "") (Or.inl (wd hw 105 rfl)) Via.refl e210 F_count_x1 E_x1 (Or.inl (wd hw 106 rfl)) (wd hw 61 rfl) (ty := .int) (by decide) rfl rfl (g := (mkF m 40 #[.val (.ref x1), .val (.ref s1), .val (.int (Int32.ofNat kk))] [(.int (Int32.ofNat (ct + kk))), (.ref x1)])) rfl rfl (dB hby D15 24 rfl)
  refine Go.by (fun t => st211 t) ?_
  have ne_s1_x1 : s1 ≠ x1 := Exa.ne E_s1 E_x1 (by decide)
  have ne_t1_x1 : t1 ≠ x1 := Ne.symm (Exa.neArv E_x1 V_t1 (wd hw 61 rfl))
  replace F_count_x1 := F_count_x1.same W211
  replace Od := Od.wr W211 g_x1
  replace E_x1 := E_x1.wr W211
  replace F_value_x1 := F_value_x1.other W211 (Or.inr (slot_ne (Or.inl (wd hw 75 rfl)) (Or.inl (wd hw 106 rfl)) (by decide) (t := (.array .byte)) (t' := .int) (by decide) (by decide)))
  replace F_coder_x1 := F_coder_x1.other W211 (Or.inr (slot_ne (Or.inl (wd hw 77 rfl)) (Or.inl (wd hw 106 rfl)) (by decide) (t := .byte) (t' := .int) (by decide) (by decide)))
  replace F_maybeLatin1_x1 := F_maybeLatin1_x1.other W211 (Or.inr (slot_ne (Or.inl (wd hw 253 rfl)) (Or.inl (wd hw 106 rfl)) (by decide) (t := .boolean) (t' := .int) (by decide) (by decide)))
  replace E_s1 := E_s1.wr W211
  replace F_value_s1 := F_value_s1.other W211 (Or.inl ne_s1_x1)
  replace F_coder_s1 := F_coder_s1.other W211 (Or.inl ne_s1_x1)
  replace V_t1 := V_t1.other W211 ne_t1_x1
  replace V_vb := V_vb.other W211 (Ne.symm ne_x1_vb)
  replace K0 := K0.wr W211 (Or.inl (List.mem_of_getElem? (i := 0) rfl))
  have N211 := Fr.snoc X211 N209 g_x1
  refine Go.by (fun t => XS.aloadN X211.here hx rfl (dB hby D15 25 rfl) rfl rfl) ?_
  exact Go.ret1 X211 hx Bd.returns Bd.notSynchronized rfl (Or.inr (Or.inr (Or.inr (Or.inr ⟨rfl, rfl, rfl⟩)))) (dB hby D15 26 rfl) (by decide) (by decide) (by first | (rw [e211]; exact ⟨rfl, N211, K0, F_value_x1, F_coder_x1, F_count_x1, F_maybeLatin1_x1, V_vb⟩) | exact ⟨rfl, N211, K0, F_value_x1, F_coder_x1, F_count_x1, F_maybeLatin1_x1, V_vb⟩)
def Q_rmSA0 (Z : State) (x1 s1 t1 vb : Addr) (kt kv : ClassId) (cd : Int32) (bs ys : List Value) (ct kk r Mn : Nat) (G1 : Int32) (h0 : Heap) (n0 : Nat) : Option Value → Heap → List Loc → Prop := fun v h L => v = some (.ref x1) ∧ Fr n0 L ∧ Keep h0 h [x1, vb] ∧ Fld Z h x1 "java/lang/AbstractStringBuilder" "value" "[B" (.ref vb) ∧ Fld Z h x1 "java/lang/AbstractStringBuilder" "coder" "B" (.int cd) ∧ Fld Z h x1 "java/lang/AbstractStringBuilder" "count" "I" (.int (Int32.ofNat (ct + kk))) ∧ Fld Z h x1 "java/lang/AbstractStringBuilder" "maybeLatin1" "Z" (.int 0) ∧ Arv Z h vb kv .byte (Int32.ofNat Mn) ((bs ++ ys) ++ List.replicate r (.int 0)) (.int 0)
set_option maxRecDepth 65536 in
set_option maxHeartbeats 40000000 in
theorem rmSA0 (l : Launch) (Z : State) (a0 : Array Value) (hw : ∀ d ∈ tables_1, d.before a0 Z = true) (ws : List Jvm.Cond) (x1 s1 t1 vb : Addr) (kt kv : ClassId) (cd : Int32) (bs ys : List Value) (ct kk r Mn : Nat) (G1 : Int32) (h0 : Heap) (n0 : Nat) (Od : Old Z n0 h0) (O2 : Sta Z Z.heap "java/lang/String" "COMPACT_STRINGS" "Z" (.int G1)) (P5 : ¬ (G1 = (0 : Int32))) (E_x1 : Exa Z h0 x1 "java/lang/StringBuilder") (F_value_x1 : Fld Z h0 x1 "java/lang/AbstractStringBuilder" "value" "[B" (.ref vb)) (F_coder_x1 : Fld Z h0 x1 "java/lang/AbstractStringBuilder" "coder" "B" (.int cd)) (F_count_x1 : Fld Z h0 x1 "java/lang/AbstractStringBuilder" "count" "I" (.int (Int32.ofNat ct))) (F_maybeLatin1_x1 : Fld Z h0 x1 "java/lang/AbstractStringBuilder" "maybeLatin1" "Z" (.int 0)) (g_x1 : n0 ≤ x1) (E_s1 : Exa Z h0 s1 "java/lang/String") (F_value_s1 : Fld Z h0 s1 "java/lang/String" "value" "[B" (.ref t1)) (F_coder_s1 : Fld Z h0 s1 "java/lang/String" "coder" "B" (.int cd)) (V_t1 : Arv Z h0 t1 kt .byte (Int32.ofNat ys.length) ys (.int 0)) (V_vb : Arv Z h0 vb kv .byte (Int32.ofNat Mn) (bs ++ List.replicate (ys.length + r) (.int 0)) (.int 0)) (g_vb : n0 ≤ vb) (ne_t1_vb : t1 ≠ vb) (hc : (cd = 0 ∧ bs.length = ct ∧ ys.length = kk) ∨ (cd = 1 ∧ bs.length = 2 * ct ∧ ys.length = 2 * kk)) (hM : bs.length + ys.length ≤ Mn) (hMn : Mn ≤ 100000) :
    CT l (⟨"java/lang/StringBuilder", "append", "(Ljava/lang/String;)Ljava/lang/StringBuilder;"⟩ : MethodName) jdk_67_method_7_code 2 (some (.object "java/lang/StringBuilder")) ws ({ frames := 4, cells := 0, slots := 0, locals := 94 } : Room) #[(.ref x1), (.ref s1)] Z h0 (Q_rmSA0 Z x1 s1 t1 vb kt kv cd bs ys ct kk r Mn G1 h0 n0) := by
  refine Go.start (plainFor_of_name pn_5) ?_
  intro p e s m below meth c s₁ Bd hx hby hml hZ hown X0 e0
  replace hown : s.vm.findClass "java/lang/StringBuilder" = some m.cls := hown
  have N0 := Fr.nil n0
  rw [show entryFrame m #[(.ref x1), (.ref s1)] 2 = (mkF m 0 #[.val (.ref x1), .val (.ref s1)] []) from by first | (simp [entryFrame, mkF, argsToLocals, Value.category, maxLocals]; done) | rfl]
  refine Go.by (fun t => XS.aloadN X0.here hx rfl (dB hby D14 0 rfl) rfl rfl) ?_
  refine Go.by (fun t => XS.aloadN X0.here hx rfl (dB hby D14 1 rfl) rfl rfl) ?_
  obtain ⟨_, _, ⟨T212, L212, k212, n212⟩, -, X212, ⟨Lc212, hQ212, l212, y212, z212⟩, st212⟩ := superBack X0 hx hZ (y := (⟨"java/lang/AbstractStringBuilder", "append", "(Ljava/lang/String;)Ljava/lang/AbstractStringBuilder;"⟩ : MethodName)) hown (wd hw 90 rfl) (sameSelf (wd hw 91 rfl) (wd hw 110 rfl) rfl (by decide)) (wd hw 91 rfl) (wd hw 92 rfl) (by decide) (backOf (W := 0) (rmAP0 l Z a0 hw [] x1 s1 t1 vb kt kv cd bs ys ct kk r Mn G1 h0 n0 Od O2 P5 E_x1 F_value_x1 F_coder_x1 F_count_x1 F_maybeLatin1_x1 g_x1 E_s1 F_value_s1 F_coder_s1 V_t1 V_vb g_vb ne_t1_vb hc hM hMn) hZ (wd hw 94 rfl) (wd hw 70 rfl) (by decide) (by decide)) e0 (Ins.self E_x1) (g := (mkF m 2 #[.val (.ref x1), .val (.ref s1)] [(.ref s1), (.ref x1)])) rfl (by rw [hml]; rfl) (wd hw 94 rfl) (argsL := [(.ref s1)]) (rest := []) (lenOf pd_15 rfl) rfl (by show 2 * 0 + _ ≤ _; exact Nat.le_of_eq rfl) (dB hby D14 2 rfl) (fun _ _ => ⟨rfl, e0, (by decide : 0 + 0 ≤ _), (by decide : 0 + 0 ≤ _)⟩)
  dsimp only [Pt.U, Pt.locs, Pt.cells, Pt.slots] at X212 l212 y212 z212 st212 hQ212
  subst y212 z212
  obtain ⟨rfl, Nq212, K212, f1, f2, f3, f4, Vn⟩ := hQ212
  have N212 : Fr n0 L212 := by rw [l212]; exact Fr.app N0 Nq212
  clear l212
  refine Go.by (fun t => st212.trans) ?_
  refine Go.by (fun t => XS.pop X212.here hx rfl (dB hby D14 3 rfl) rfl rfl) ?_
  refine Go.by (fun t => XS.aloadN X212.here hx rfl (dB hby D14 4 rfl) rfl rfl) ?_
  exact Go.ret1 X212 hx Bd.returns Bd.notSynchronized rfl (Or.inr (Or.inr (Or.inr (Or.inr ⟨rfl, rfl, rfl⟩)))) (dB hby D14 5 rfl) (by decide) (by decide) ⟨rfl, N212, K212, f1, f2, f3, f4, Vn⟩
def Q_rmPS1 (Z : State) (x1 s1 t1 vb : Addr) (kt kv : ClassId) (cs ds : List Int32) (rs : List Value) (r Mn : Nat) (G1 : Int32) (G3 : Value) (h0 : Heap) (n0 : Nat) : Option Value → Heap → List Loc → Prop := fun v h L => ∃ (bf : Addr) (kb : ClassId), v = none ∧ Fr n0 L ∧ Keep h0 h [x1] ∧ h0.size ≤ bf ∧ Fld Z h x1 "java/lang/AbstractStringBuilder" "value" "[B" (.ref bf) ∧ Fld Z h x1 "java/lang/AbstractStringBuilder" "coder" "B" (.int 1) ∧ Fld Z h x1 "java/lang/AbstractStringBuilder" "count" "I" (.int (Int32.ofNat cs.length)) ∧ Fld Z h x1 "java/lang/AbstractStringBuilder" "maybeLatin1" "Z" (.int 0) ∧ Arv Z h bf kb .byte (Int32.ofNat (2 * Mn)) ((utfL (cs.map ch8) ++ utfL ds) ++ List.replicate r (.int 0)) (.int 0)
set_option maxRecDepth 65536 in
set_option maxHeartbeats 40000000 in
theorem rmPS1 (l : Launch) (Z : State) (a0 : Array Value) (hw : ∀ d ∈ tables_1, d.before a0 Z = true) (ws : List Jvm.Cond) (x1 s1 t1 vb : Addr) (kt kv : ClassId) (cs ds : List Int32) (rs : List Value) (r Mn : Nat) (G1 : Int32) (G3 : Value) (h0 : Heap) (n0 : Nat) (Z0 : n0 ≤ h0.size) (Od : Old Z n0 h0) (A1 : Sta Z Z.heap "java/lang/StringUTF16" "$assertionsDisabled" "Z" (.int 1)) (HS : Sta Z Z.heap "java/lang/StringUTF16" "HI_BYTE_SHIFT" "I" (.int 0)) (LS : Sta Z Z.heap "java/lang/StringUTF16" "LO_BYTE_SHIFT" "I" (.int 8)) (O4 : Sta Z Z.heap "jdk/internal/util/Preconditions" "SIOOBE_FORMATTER" "Ljava/util/function/BiFunction;" G3) (rG3 : G3.isRef = true) (O2 : Sta Z Z.heap "java/lang/String" "COMPACT_STRINGS" "Z" (.int G1)) (P5 : ¬ (G1 = (0 : Int32))) (E_x1 : Exa Z h0 x1 "java/lang/StringBuilder") (F_value_x1 : Fld Z h0 x1 "java/lang/AbstractStringBuilder" "value" "[B" (.ref vb)) (F_coder_x1 : Fld Z h0 x1 "java/lang/AbstractStringBuilder" "coder" "B" (.int 0)) (F_count_x1 : Fld Z h0 x1 "java/lang/AbstractStringBuilder" "count" "I" (.int (Int32.ofNat cs.length))) (F_maybeLatin1_x1 : Fld Z h0 x1 "java/lang/AbstractStringBuilder" "maybeLatin1" "Z" (.int 0)) (g_x1 : n0 ≤ x1) (E_s1 : Exa Z h0 s1 "java/lang/String") (F_value_s1 : Fld Z h0 s1 "java/lang/String" "value" "[B" (.ref t1)) (F_coder_s1 : Fld Z h0 s1 "java/lang/String" "coder" "B" (.int 1)) (V_t1 : Arv Z h0 t1 kt .byte (Int32.ofNat (2 * ds.length)) (utfL ds) (.int 0)) (V_vb : Arv Z h0 vb kv .byte (Int32.ofNat Mn) (cs.map Value.int ++ rs) (.int 0)) (hM : cs.length + ds.length ≤ Mn) (hMn : 2 * Mn ≤ 32) :
    CT l (⟨"java/lang/AbstractStringBuilder", "putStringAt", "(ILjava/lang/String;)V"⟩ : MethodName) jdk_68_method_73_code 3 none ws ({ frames := 7, cells := 1, slots := 32, locals := 126 } : Room) #[(.ref x1), (.int (Int32.ofNat cs.length)), (.ref s1)] Z h0 (Q_rmPS1 Z x1 s1 t1 vb kt kv cs ds rs r Mn G1 G3 h0 n0) := by
  refine Go.start (plainFor_of_name pn_6) ?_
  intro p e s m below meth c s₁ Bd hx hby hml hZ hown X0 e0
  replace hown : s.vm.findClass "java/lang/AbstractStringBuilder" = some m.cls := hown
  have N0 := Fr.nil n0
  rw [show entryFrame m #[(.ref x1), (.int (Int32.ofNat cs.length)), (.ref s1)] 3 = (mkF m 0 #[.val (.ref x1), .val (.int (Int32.ofNat cs.length)), .val (.ref s1)] []) from by first | (simp [entryFrame, mkF, argsToLocals, Value.category, maxLocals]; done) | rfl]
  have K0 : Keep h0 h0 [x1] := Keep.refl _ _
  refine Go.by (fun t => XS.aloadN X0.here hx rfl (dB hby D19 0 rfl) rfl rfl) ?_
  refine Go.by (fun t => XS.aloadN X0.here hx rfl (dB hby D19 1 rfl) rfl rfl) ?_
  obtain ⟨cq213, q213, q213'⟩ := E_x1.cell
  obtain ⟨_, _, ⟨T213, L213, k213, n213⟩, -, X213, ⟨Lc213, hQ213, l213, y213, z213⟩, st213⟩ := X0.privateBack hx (y := (⟨"java/lang/AbstractStringBuilder", "inflateIfNeededFor", "(Ljava/lang/String;)V"⟩ : MethodName)) hown (mvT hZ (wd hw 117 rfl)) (mvT hZ (wd hw 118 rfl)) (selSelf (mvT hZ (wd hw 120 rfl)) (Cond.privateMethod_at (mvP hZ (wd hw 119 rfl) (args := #[]))) (mvT hZ (wd hw 118 rfl)) (by decide)) (Cond.privateMethod_at (mvP hZ (wd hw 119 rfl) (args := #[]))) (mvT hZ (wd hw 121 rfl)) (by decide) (backOf (W := 0) (rmIFU l Z a0 hw [] s1 x1 vb kv Mn ((utfL ds).length + r) cs rs G1 G3 h0 n0 Z0 Od A1 HS LS O4 rG3 O2 P5 E_x1 F_value_x1 F_coder_x1 F_count_x1 F_maybeLatin1_x1 V_vb g_x1 (by omega) hMn E_s1 F_coder_s1) hZ (wd hw 121 rfl) (wd hw 70 rfl) (by decide) (by decide)) (g := (mkF m 2 #[.val (.ref x1), .val (.int (Int32.ofNat cs.length)), .val (.ref s1)] [(.ref s1), (.ref x1)])) rfl (by rw [hml]; rfl) (Steps.refl _) (a := x1) (by rw [e0]; exact q213) q213' (argsL := [(.ref s1)]) (rest := []) (lenOf pd_18 rfl) rfl (by show 2 * 0 + _ ≤ _; exact Nat.le_of_eq rfl) (dB hby D19 2 rfl) (fun _ _ => ⟨rfl, e0, (by decide : 0 + 1 ≤ _), (by decide : 0 + 32 ≤ _)⟩)
  dsimp only [Pt.U, Pt.locs, Pt.cells, Pt.slots] at X213 l213 y213 z213 st213 hQ213
  subst y213 z213
  obtain ⟨bf, kb, rfl, Nq213, K213, sz_bf, f1, f2, f3, f4, V_bf⟩ := hQ213
  have g_bf : n0 ≤ bf := Nat.le_trans Z0 sz_bf
  have ne_t1_bf : t1 ≠ bf := Nat.ne_of_lt (Nat.lt_of_lt_of_le V_t1.lt sz_bf)
  have ne_x1_bf : x1 ≠ bf := Nat.ne_of_lt (Nat.lt_of_lt_of_le E_x1.lt sz_bf)
  have ne_s1_bf : s1 ≠ bf := Nat.ne_of_lt (Nat.lt_of_lt_of_le E_s1.lt sz_bf)
  have N213 : Fr n0 L213 := by rw [l213]; exact Fr.app N0 Nq213
  clear l213
  refine Go.by (fun t => st213.trans) ?_
  replace X213 := Stand.num (C := 1) (S := 32) X213 rfl rfl
  have ne_s1_x1 : s1 ≠ x1 := Exa.ne E_s1 E_x1 (by decide)
  have ne_t1_x1 : t1 ≠ x1 := Ne.symm (Exa.neArv E_x1 V_t1 (wd hw 61 rfl))
  replace Od := Od.keep K213 (allS g_x1 all0)
  replace E_x1 := E_x1.keep K213
  replace E_s1 := E_s1.keep K213
  replace F_value_s1 := F_value_s1.keep K213 (ninS ne_s1_x1 nin0)
  replace F_coder_s1 := F_coder_s1.keep K213 (ninS ne_s1_x1 nin0)
  replace V_t1 := V_t1.keep K213 (ninS ne_t1_x1 nin0)
  replace Z0 := Nat.le_trans Z0 K213.1
  replace K0 := K0.trans K213 (allS (P := fun x => x ∈ _ ∨ _ ≤ x) (Or.inl (List.mem_of_getElem? (i := 0) rfl)) all0)
  clear F_value_x1 F_coder_x1 F_count_x1 F_maybeLatin1_x1
  have F_value_x1 := f1
  have F_coder_x1 := f2
  have F_count_x1 := f3
  have F_maybeLatin1_x1 := f4
  clear f1 f2 f3 f4
  refine Go.by (fun t => XS.aloadN X213.here hx rfl (dB hby D19 3 rfl) rfl rfl) ?_
  refine Go.by (fun t => XS.aloadN X213.here hx rfl (dB hby D19 4 rfl) rfl rfl) ?_
  obtain ⟨T214, X214, e214, st214⟩ := getF X213 hx hZ hown (host := "") (Or.inl (wd hw 74 rfl)) Via.refl rfl F_value_x1 (g := (mkF m 7 #[.val (.ref x1), .val (.int (Int32.ofNat cs.length)), .val (.ref s1)] [(.ref x1), (.ref s1)])) rfl rfl (dB hby D19 5 rfl)
  refine Go.by (fun t => st214 t) ?_
  refine Go.by (fun t => XS.iloadN X214.here hx rfl (dB hby D19 6 rfl) rfl ) ?_
  refine Go.by (fun t => XS.aloadN X214.here hx rfl (dB hby D19 7 rfl) rfl rfl) ?_
  show Go p e below _ (T214.setTop (mkF m 12 #[.val (.ref x1), .val (.int (Int32.ofNat cs.length)), .val (.ref s1)] [(.ref x1), (.int (Int32.ofNat cs.length)), (.ref bf), (.ref s1)]))
  obtain ⟨T215, X215, e215, st215⟩ := getF X214 hx hZ hown (host := "") (Or.inl (wd hw 76 rfl)) Via.refl e214 F_coder_x1 (g := (mkF m 12 #[.val (.ref x1), .val (.int (Int32.ofNat cs.length)), .val (.ref s1)] [(.ref x1), (.int (Int32.ofNat cs.length)), (.ref bf), (.ref s1)])) rfl rfl (dB hby D19 8 rfl)
  refine Go.by (fun t => st215 t) ?_
  obtain ⟨cq216, kq216, q216a, q216b, q216c⟩ := isOf hZ e215 E_s1
  obtain ⟨_, _, ⟨T216, L216, k216, n216⟩, -, X216, ⟨Lc216, hQ216, l216, y216, z216⟩, st216⟩ := X215.virtualBack hx (y := (⟨"java/lang/String", "getBytes", "([BIB)V"⟩ : MethodName)) (z := (⟨"java/lang/String", "getBytes", "([BIB)V"⟩ : MethodName)) hown (mvT hZ (wd hw 123 rfl)) (mvT hZ (wd hw 124 rfl)) (notFace_of_selects (args := #[]) (mvT hZ (wd hw 126 rfl))) (mvT hZ (wd hw 126 rfl)) (mvT hZ (wd hw 125 rfl)) (by decide) (backOf (W := 0) (rmGB l Z a0 hw [] s1 t1 bf kt kb 1 (utfL (cs.map ch8)) (utfL ds) r _ _ (Int32.ofNat cs.length) (Int32.ofNat (2 * cs.length)) G1 T213.heap n0 Od O2 P5 E_s1 F_value_s1 F_coder_s1 (Or.inr rfl) V_t1 V_bf g_bf ne_t1_bf (o_shl _) (by rw [utf_len]; exact o_nat (by omega)) (o_nn (by omega)) (by rw [utf_len, List.length_map]; exact o_nat (by omega)) (o_nn (by omega)) (by rw [utf_len, utf_len, List.length_map, o_nat (by omega)]; omega)) hZ (wd hw 127 rfl) (wd hw 8 rfl) (by decide) (by decide)) q216a q216c (g := (mkF m 15 #[.val (.ref x1), .val (.int (Int32.ofNat cs.length)), .val (.ref s1)] [(.int (1 : Int32)), (.int (Int32.ofNat cs.length)), (.ref bf), (.ref s1)])) rfl (by rw [hml]; rfl) (Steps.refl _) (argsL := [(.ref bf), (.int (Int32.ofNat cs.length)), (.int (1 : Int32))]) (rest := []) (lenOf pd_19 rfl) rfl (by show 2 * 0 + _ ≤ _; exact Nat.le_of_eq rfl) (dB hby D19 9 rfl) (fun _ _ => ⟨rfl, e215, (by decide : 1 + 0 ≤ _), (by decide : 32 + 0 ≤ _)⟩)
  dsimp only [Pt.U, Pt.locs, Pt.cells, Pt.slots] at X216 l216 y216 z216 st216 hQ216
  subst y216 z216
  obtain ⟨rfl, Nq216, K216, Vn⟩ := hQ216
  have N216 : Fr n0 L216 := by rw [l216]; exact Fr.app N213 Nq216
  clear l216
  refine Go.by (fun t => st216.trans) ?_
  replace Od := Od.keep K216 (allS g_bf all0)
  replace E_s1 := E_s1.keep K216
  replace F_value_s1 := F_value_s1.keep K216 (ninS ne_s1_bf nin0)
  replace F_coder_s1 := F_coder_s1.keep K216 (ninS ne_s1_bf nin0)
  replace V_t1 := V_t1.keep K216 (ninS ne_t1_bf nin0)
  replace E_x1 := E_x1.keep K216
  replace F_value_x1 := F_value_x1.keep K216 (ninS ne_x1_bf nin0)
  replace F_coder_x1 := F_coder_x1.keep K216 (ninS ne_x1_bf nin0)
  replace F_count_x1 := F_count_x1.keep K216 (ninS ne_x1_bf nin0)
  replace F_maybeLatin1_x1 := F_maybeLatin1_x1.keep K216 (ninS ne_x1_bf nin0)
  replace Z0 := Nat.le_trans Z0 K216.1
  replace K0 := K0.trans K216 (allS (P := fun x => x ∈ _ ∨ _ ≤ x) (Or.inr sz_bf) all0)
  exact Go.ret0 X216 hx Bd.returns Bd.notSynchronized (dB hby D19 10 rfl) (by decide) (by decide) ⟨bf, kb, rfl, N216, K0, sz_bf, F_value_x1, F_coder_x1, F_count_x1, F_maybeLatin1_x1, Vn⟩
def Q_rmAP1 (Z : State) (x1 s1 t1 vb : Addr) (kt kv : ClassId) (cs ds : List Int32) (rs : List Value) (r Mn : Nat) (G1 : Int32) (G3 : Value) (h0 : Heap) (n0 : Nat) : Option Value → Heap → List Loc → Prop := fun v h L => ∃ (bf : Addr) (kb : ClassId), v = some (.ref x1) ∧ Fr n0 L ∧ Keep h0 h [x1] ∧ h0.size ≤ bf ∧ Fld Z h x1 "java/lang/AbstractStringBuilder" "value" "[B" (.ref bf) ∧ Fld Z h x1 "java/lang/AbstractStringBuilder" "coder" "B" (.int 1) ∧ Fld Z h x1 "java/lang/AbstractStringBuilder" "count" "I" (.int (Int32.ofNat (cs.length + ds.length))) ∧ Fld Z h x1 "java/lang/AbstractStringBuilder" "maybeLatin1" "Z" (.int 0) ∧ Arv Z h bf kb .byte (Int32.ofNat (2 * Mn)) ((utfL (cs.map ch8) ++ utfL ds) ++ List.replicate r (.int 0)) (.int 0)
set_option maxRecDepth 65536 in
set_option maxHeartbeats 40000000 in
theorem rmAP1 (l : Launch) (Z : State) (a0 : Array Value) (hw : ∀ d ∈ tables_1, d.before a0 Z = true) (ws : List Jvm.Cond) (x1 s1 t1 vb : Addr) (kt kv : ClassId) (cs ds : List Int32) (rs : List Value) (r Mn : Nat) (G1 : Int32) (G3 : Value) (h0 : Heap) (n0 : Nat) (Z0 : n0 ≤ h0.size) (Od : Old Z n0 h0) (A1 : Sta Z Z.heap "java/lang/StringUTF16" "$assertionsDisabled" "Z" (.int 1)) (HS : Sta Z Z.heap "java/lang/StringUTF16" "HI_BYTE_SHIFT" "I" (.int 0)) (LS : Sta Z Z.heap "java/lang/StringUTF16" "LO_BYTE_SHIFT" "I" (.int 8)) (O4 : Sta Z Z.heap "jdk/internal/util/Preconditions" "SIOOBE_FORMATTER" "Ljava/util/function/BiFunction;" G3) (rG3 : G3.isRef = true) (O2 : Sta Z Z.heap "java/lang/String" "COMPACT_STRINGS" "Z" (.int G1)) (P5 : ¬ (G1 = (0 : Int32))) (E_x1 : Exa Z h0 x1 "java/lang/StringBuilder") (F_value_x1 : Fld Z h0 x1 "java/lang/AbstractStringBuilder" "value" "[B" (.ref vb)) (F_coder_x1 : Fld Z h0 x1 "java/lang/AbstractStringBuilder" "coder" "B" (.int 0)) (F_count_x1 : Fld Z h0 x1 "java/lang/AbstractStringBuilder" "count" "I" (.int (Int32.ofNat cs.length))) (F_maybeLatin1_x1 : Fld Z h0 x1 "java/lang/AbstractStringBuilder" "maybeLatin1" "Z" (.int 0)) (g_x1 : n0 ≤ x1) (E_s1 : Exa Z h0 s1 "java/lang/String") (F_value_s1 : Fld Z h0 s1 "java/lang/String" "value" "[B" (.ref t1)) (F_coder_s1 : Fld Z h0 s1 "java/lang/String" "coder" "B" (.int 1)) (V_t1 : Arv Z h0 t1 kt .byte (Int32.ofNat (2 * ds.length)) (utfL ds) (.int 0)) (V_vb : Arv Z h0 vb kv .byte (Int32.ofNat Mn) (cs.map Value.int ++ rs) (.int 0)) (hM : cs.length + ds.length ≤ Mn) (hMn : 2 * Mn ≤ 32) :
    CT l (⟨"java/lang/AbstractStringBuilder", "append", "(Ljava/lang/String;)Ljava/lang/AbstractStringBuilder;"⟩ : MethodName) jdk_68_method_22_code 3 (some (.object "java/lang/AbstractStringBuilder")) ws ({ frames := 8, cells := 1, slots := 32, locals := 144 } : Room) #[(.ref x1), (.ref s1)] Z h0 (Q_rmAP1 Z x1 s1 t1 vb kt kv cs ds rs r Mn G1 G3 h0 n0) := by
  refine Go.start (plainFor_of_name pn_6) ?_
  intro p e s m below meth c s₁ Bd hx hby hml hZ hown X0 e0
  replace hown : s.vm.findClass "java/lang/AbstractStringBuilder" = some m.cls := hown
  have N0 := Fr.nil n0
  rw [show entryFrame m #[(.ref x1), (.ref s1)] 3 = (mkF m 0 #[.val (.ref x1), .val (.ref s1), .unset] []) from by first | (simp [entryFrame, mkF, argsToLocals, Value.category, maxLocals]; done) | rfl]
  have K0 : Keep h0 h0 [x1] := Keep.refl _ _
  refine Go.by (fun t => XS.aloadN X0.here hx rfl (dB hby D15 0 rfl) rfl rfl) ?_
  refine Go.by (fun t => XS.ifnonnullYes X0.here hx rfl (pc0 := 1) (pc' := 9) rfl (dB hby D15 1 rfl) rfl (by decide) (by decide)) ?_
  refine Go.by (fun t => XS.aloadN X0.here hx rfl (dB hby D15 5 rfl) rfl rfl) ?_
  obtain ⟨cq217, kq217, q217a, q217b, q217c⟩ := isOf hZ e0 E_s1
  obtain ⟨_, _, ⟨T217, L217, k217, n217⟩, -, X217, ⟨Lc217, hQ217, l217, y217, z217⟩, st217⟩ := X0.virtualBack hx (y := (⟨"java/lang/String", "length", "()I"⟩ : MethodName)) (z := (⟨"java/lang/String", "length", "()I"⟩ : MethodName)) hown (mvT hZ (wd hw 95 rfl)) (mvT hZ (wd hw 96 rfl)) (notFace_of_selects (args := #[]) (mvT hZ (wd hw 98 rfl))) (mvT hZ (wd hw 98 rfl)) (mvT hZ (wd hw 97 rfl)) (by decide) (backOf (W := 0) (rmSL l Z a0 hw [] s1 t1 kt _ _ 1 _ G1 h0 n0 Od O2 P5 E_s1 F_value_s1 F_coder_s1 V_t1 (Or.inr rfl) (o_shr (by omega))) hZ (wd hw 99 rfl) (wd hw 8 rfl) (by decide) (by decide)) q217a q217c (g := (mkF m 10 #[.val (.ref x1), .val (.ref s1), .unset] [(.ref s1)])) rfl (by rw [hml]; rfl) (Steps.refl _) (argsL := []) (rest := []) (lenOf pd_3 rfl) rfl (by show 2 * 0 + _ ≤ _; exact Nat.le_of_eq rfl) (dB hby D15 6 rfl) (fun _ _ => ⟨rfl, e0, (by decide : 0 + 0 ≤ _), (by decide : 0 + 0 ≤ _)⟩)
  dsimp only [Pt.U, Pt.locs, Pt.cells, Pt.slots] at X217 l217 y217 z217 st217 hQ217
  subst y217 z217
  obtain ⟨rfl, Nq217, e217⟩ := hQ217
  have N217 : Fr n0 L217 := by rw [l217]; exact Fr.app N0 Nq217
  clear l217
  refine Go.by (fun t => st217.trans) ?_
  refine Go.by (fun t => XS.istoreN X217.here hx rfl (dB hby D15 7 rfl) rfl (l' := #[.val (.ref x1), .val (.ref s1), .val (.int (Int32.ofNat ds.length))]) rfl) ?_
  refine Go.by (fun t => XS.aloadN X217.here hx rfl (dB hby D15 8 rfl) rfl rfl) ?_
  refine Go.by (fun t => XS.aloadN X217.here hx rfl (dB hby D15 9 rfl) rfl rfl) ?_
  show Go p e below _ (T217.setTop (mkF m 16 #[.val (.ref x1), .val (.ref s1), .val (.int (Int32.ofNat ds.length))] [(.ref x1), (.ref x1)]))
  obtain ⟨T218, X218, e218, st218⟩ := getF X217 hx hZ hown (host := "") (Or.inl (wd hw 105 rfl)) Via.refl e217 F_count_x1 (g := (mkF m 16 #[.val (.ref x1), .val (.ref s1), .val (.int (Int32.ofNat ds.length))] [(.ref x1), (.ref x1)])) rfl rfl (dB hby D15 10 rfl)
  refine Go.by (fun t => st218 t) ?_
  refine Go.by (fun t => XS.iloadN X218.here hx rfl (dB hby D15 11 rfl) rfl ) ?_
  refine Go.by (fun t => XS.iadd X218.here hx rfl (dB hby D15 12 rfl) rfl) ?_
  show Go p e below _ (T218.setTop (mkF m 21 #[.val (.ref x1), .val (.ref s1), .val (.int (Int32.ofNat ds.length))] [(.int ((Int32.ofNat cs.length) + (Int32.ofNat ds.length))), (.ref x1)]))
  rw [o_add cs.length ds.length]
  obtain ⟨cq219, q219, q219'⟩ := E_x1.cell
  obtain ⟨_, _, ⟨T219, L219, k219, n219⟩, -, X219, ⟨Lc219, hQ219, l219, y219, z219⟩, st219⟩ := X218.privateBack hx (y := (⟨"java/lang/AbstractStringBuilder", "ensureCapacityInternal", "(I)V"⟩ : MethodName)) hown (mvT hZ (wd hw 107 rfl)) (mvT hZ (wd hw 108 rfl)) (selSelf (mvT hZ (wd hw 110 rfl)) (Cond.privateMethod_at (mvP hZ (wd hw 109 rfl) (args := #[]))) (mvT hZ (wd hw 108 rfl)) (by decide)) (Cond.privateMethod_at (mvP hZ (wd hw 109 rfl) (args := #[]))) (mvT hZ (wd hw 111 rfl)) (by decide) (backOf (W := 0) (rmEC l Z a0 hw [] x1 vb kv _ (Int32.ofNat Mn) (Int32.ofNat (cs.length + ds.length)) 0 _ h0 n0 F_value_x1 F_coder_x1 V_vb (o_shr0 _) (sub_np (by omega) (by omega))) hZ (wd hw 111 rfl) (wd hw 70 rfl) (by decide) (by decide)) (g := (mkF m 21 #[.val (.ref x1), .val (.ref s1), .val (.int (Int32.ofNat ds.length))] [(.int (Int32.ofNat (cs.length + ds.length))), (.ref x1)])) rfl (by rw [hml]; rfl) (Steps.refl _) (a := x1) (by rw [e218]; exact q219) q219' (argsL := [(.int (Int32.ofNat (cs.length + ds.length)))]) (rest := []) (lenOf pd_13 rfl) rfl (by show 2 * 0 + _ ≤ _; exact Nat.le_of_eq rfl) (dB hby D15 13 rfl) (fun _ _ => ⟨rfl, e218, (by decide : 0 + 0 ≤ _), (by decide : 0 + 0 ≤ _)⟩)
  dsimp only [Pt.U, Pt.locs, Pt.cells, Pt.slots] at X219 l219 y219 z219 st219 hQ219
  subst y219 z219
  obtain ⟨rfl, Nq219, e219⟩ := hQ219
  have N219 : Fr n0 L219 := by rw [l219]; exact Fr.app N217 Nq219
  clear l219
  refine Go.by (fun t => st219.trans) ?_
  refine Go.by (fun t => XS.aloadN X219.here hx rfl (dB hby D15 14 rfl) rfl rfl) ?_
  refine Go.by (fun t => XS.aloadN X219.here hx rfl (dB hby D15 15 rfl) rfl rfl) ?_
  obtain ⟨T220, X220, e220, st220⟩ := getF X219 hx hZ hown (host := "") (Or.inl (wd hw 105 rfl)) Via.refl e219 F_count_x1 (g := (mkF m 26 #[.val (.ref x1), .val (.ref s1), .val (.int (Int32.ofNat ds.length))] [(.ref x1), (.ref x1)])) rfl rfl (dB hby D15 16 rfl)
  refine Go.by (fun t => st220 t) ?_
  refine Go.by (fun t => XS.aloadN X220.here hx rfl (dB hby D15 17 rfl) rfl rfl) ?_
  obtain ⟨cq221, q221, q221'⟩ := E_x1.cell
  obtain ⟨_, _, ⟨T221, L221, k221, n221⟩, -, X221, ⟨Lc221, hQ221, l221, y221, z221⟩, st221⟩ := X220.privateBack hx (y := (⟨"java/lang/AbstractStringBuilder", "putStringAt", "(ILjava/lang/String;)V"⟩ : MethodName)) hown (mvT hZ (wd hw 112 rfl)) (mvT hZ (wd hw 113 rfl)) (selSelf (mvT hZ (wd hw 115 rfl)) (Cond.privateMethod_at (mvP hZ (wd hw 114 rfl) (args := #[]))) (mvT hZ (wd hw 113 rfl)) (by decide)) (Cond.privateMethod_at (mvP hZ (wd hw 114 rfl) (args := #[]))) (mvT hZ (wd hw 116 rfl)) (by decide) (backOf (W := 0) (rmPS1 l Z a0 hw [] x1 s1 t1 vb kt kv cs ds rs r Mn G1 G3 h0 n0 Z0 Od A1 HS LS O4 rG3 O2 P5 E_x1 F_value_x1 F_coder_x1 F_count_x1 F_maybeLatin1_x1 g_x1 E_s1 F_value_s1 F_coder_s1 V_t1 V_vb hM hMn) hZ (wd hw 116 rfl) (wd hw 70 rfl) (by decide) (by decide)) (g := (mkF m 30 #[.val (.ref x1), .val (.ref s1), .val (.int (Int32.ofNat ds.length))] [(.ref s1), (.int (Int32.ofNat cs.length)), (.ref x1)])) rfl (by rw [hml]; rfl) (Steps.refl _) (a := x1) (by rw [e220]; exact q221) q221' (argsL := [(.int (Int32.ofNat cs.length)), (.ref s1)]) (rest := []) (lenOf pd_16 rfl) rfl (by show 2 * 0 + _ ≤ _; exact Nat.le_of_eq rfl) (dB hby D15 18 rfl) (fun _ _ => ⟨rfl, e220, (by decide : 0 + 1 ≤ _), (by decide : 0 + 32 ≤ _)⟩)
  dsimp only [Pt.U, Pt.locs, Pt.cells, Pt.slots] at X221 l221 y221 z221 st221 hQ221
  subst y221 z221
  obtain ⟨bf, kb, rfl, Nq221, K221, sz_bf, f1, f2, f3, f4, V_bf⟩ := hQ221
  have ne_x1_bf : x1 ≠ bf := Nat.ne_of_lt (Nat.lt_of_lt_of_le E_x1.lt sz_bf)
  have N221 : Fr n0 L221 := by rw [l221]; exact Fr.app N219 Nq221
  clear l221
  refine Go.by (fun t => st221.trans) ?_
  replace X221 := Stand.num (C := 1) (S := 32) X221 rfl rfl
  replace Od := Od.keep K221 (allS g_x1 all0)
  replace E_x1 := E_x1.keep K221
  replace Z0 := Nat.le_trans Z0 K221.1
  replace K0 := K0.trans K221 (allS (P := fun x => x ∈ _ ∨ _ ≤ x) (Or.inl (List.mem_of_getElem? (i := 0) rfl)) all0)
  show Go p e below _ (T221.setTop (mkF m 33 #[.val (.ref x1), .val (.ref s1), .val (.int (Int32.ofNat ds.length))] []))
  clear F_value_x1 F_coder_x1 F_count_x1 F_maybeLatin1_x1
  have F_value_x1 := f1
  have F_coder_x1 := f2
  have F_count_x1 := f3
  have F_maybeLatin1_x1 := f4
  clear f1 f2 f3 f4
  refine Go.by (fun t => XS.aloadN X221.here hx rfl (dB hby D15 19 rfl) rfl rfl) ?_
  refine Go.by (fun t => XS.dup X221.here hx rfl (dB hby D15 20 rfl) rfl rfl) ?_
  obtain ⟨T222, X222, e222, st222⟩ := getF X221 hx hZ hown (host := "") (Or.inl (wd hw 105 rfl)) Via.refl rfl F_count_x1 (g := (mkF m 35 #[.val (.ref x1), .val (.ref s1), .val (.int (Int32.ofNat ds.length))] [(.ref x1), (.ref x1)])) rfl rfl (dB hby D15 21 rfl)
  refine Go.by (fun t => st222 t) ?_
  refine Go.by (fun t => XS.iloadN X222.here hx rfl (dB hby D15 22 rfl) rfl ) ?_
  refine Go.by (fun t => XS.iadd X222.here hx rfl (dB hby D15 23 rfl) rfl) ?_
  show Go p e below _ (T222.setTop (mkF m 40 #[.val (.ref x1), .val (.ref s1), .val (.int (Int32.ofNat ds.length))] [(.int ((Int32.ofNat cs.length) + (Int32.ofNat ds.length))), (.ref x1)]))
  rw [o_add cs.length ds.length]
  obtain ⟨T223, h223, X223, e223, W223, st223⟩ := putF X222 hx hZ hown (host := "") (Or.inl (wd hw 105 rfl)) Via.refl e222 F_count_x1 E_x1 (Or.inl (wd hw 106 rfl)) (wd hw 61 rfl) (ty := .int) (by decide) rfl rfl (g := (mkF m 40 #[.val (.ref x1), .val (.ref s1), .val (.int (Int32.ofNat ds.length))] [(.int (Int32.ofNat (cs.length + ds.length))), (.ref x1)])) rfl rfl (dB hby D15 24 rfl)
  refine Go.by (fun t => st223 t) ?_
  replace F_count_x1 := F_count_x1.same W223
  replace Od := Od.wr W223 g_x1
  replace E_x1 := E_x1.wr W223
  replace F_value_x1 := F_value_x1.other W223 (Or.inr (slot_ne (Or.inl (wd hw 75 rfl)) (Or.inl (wd hw 106 rfl)) (by decide) (t := (.array .byte)) (t' := .int) (by decide) (by decide)))
  replace F_coder_x1 := F_coder_x1.other W223 (Or.inr (slot_ne (Or.inl (wd hw 77 rfl)) (Or.inl (wd hw 106 rfl)) (by decide) (t := .byte) (t' := .int) (by decide) (by decide)))
  replace F_maybeLatin1_x1 := F_maybeLatin1_x1.other W223 (Or.inr (slot_ne (Or.inl (wd hw 253 rfl)) (Or.inl (wd hw 106 rfl)) (by decide) (t := .boolean) (t' := .int) (by decide) (by decide)))
  replace V_bf := V_bf.other W223 (Ne.symm ne_x1_bf)
  replace Z0 := Nat.le_trans Z0 (Keep.of_wr W223).1
  replace K0 := K0.wr W223 (Or.inl (List.mem_of_getElem? (i := 0) rfl))
  have N223 := Fr.snoc X223 N221 g_x1
  refine Go.by (fun t => XS.aloadN X223.here hx rfl (dB hby D15 25 rfl) rfl rfl) ?_
  exact Go.ret1 X223 hx Bd.returns Bd.notSynchronized rfl (Or.inr (Or.inr (Or.inr (Or.inr ⟨rfl, rfl, rfl⟩)))) (dB hby D15 26 rfl) (by decide) (by decide) (by first | (rw [e223]; exact ⟨bf, kb, rfl, N223, K0, sz_bf, F_value_x1, F_coder_x1, F_count_x1, F_maybeLatin1_x1, V_bf⟩) | exact ⟨bf, kb, rfl, N223, K0, sz_bf, F_value_x1, F_coder_x1, F_count_x1, F_maybeLatin1_x1, V_bf⟩)
def Q_rmSA1 (Z : State) (x1 s1 t1 vb : Addr) (kt kv : ClassId) (cs ds : List Int32) (rs : List Value) (r Mn : Nat) (G1 : Int32) (G3 : Value) (h0 : Heap) (n0 : Nat) : Option Value → Heap → List Loc → Prop := fun v h L => ∃ (bf : Addr) (kb : ClassId), v = some (.ref x1) ∧ Fr n0 L ∧ Keep h0 h [x1] ∧ h0.size ≤ bf ∧ Fld Z h x1 "java/lang/AbstractStringBuilder" "value" "[B" (.ref bf) ∧ Fld Z h x1 "java/lang/AbstractStringBuilder" "coder" "B" (.int 1) ∧ Fld Z h x1 "java/lang/AbstractStringBuilder" "count" "I" (.int (Int32.ofNat (cs.length + ds.length))) ∧ Fld Z h x1 "java/lang/AbstractStringBuilder" "maybeLatin1" "Z" (.int 0) ∧ Arv Z h bf kb .byte (Int32.ofNat (2 * Mn)) ((utfL (cs.map ch8) ++ utfL ds) ++ List.replicate r (.int 0)) (.int 0)
set_option maxRecDepth 65536 in
set_option maxHeartbeats 40000000 in
theorem rmSA1 (l : Launch) (Z : State) (a0 : Array Value) (hw : ∀ d ∈ tables_1, d.before a0 Z = true) (ws : List Jvm.Cond) (x1 s1 t1 vb : Addr) (kt kv : ClassId) (cs ds : List Int32) (rs : List Value) (r Mn : Nat) (G1 : Int32) (G3 : Value) (h0 : Heap) (n0 : Nat) (Z0 : n0 ≤ h0.size) (Od : Old Z n0 h0) (A1 : Sta Z Z.heap "java/lang/StringUTF16" "$assertionsDisabled" "Z" (.int 1)) (HS : Sta Z Z.heap "java/lang/StringUTF16" "HI_BYTE_SHIFT" "I" (.int 0)) (LS : Sta Z Z.heap "java/lang/StringUTF16" "LO_BYTE_SHIFT" "I" (.int 8)) (O4 : Sta Z Z.heap "jdk/internal/util/Preconditions" "SIOOBE_FORMATTER" "Ljava/util/function/BiFunction;" G3) (rG3 : G3.isRef = true) (O2 : Sta Z Z.heap "java/lang/String" "COMPACT_STRINGS" "Z" (.int G1)) (P5 : ¬ (G1 = (0 : Int32))) (E_x1 : Exa Z h0 x1 "java/lang/StringBuilder") (F_value_x1 : Fld Z h0 x1 "java/lang/AbstractStringBuilder" "value" "[B" (.ref vb)) (F_coder_x1 : Fld Z h0 x1 "java/lang/AbstractStringBuilder" "coder" "B" (.int 0)) (F_count_x1 : Fld Z h0 x1 "java/lang/AbstractStringBuilder" "count" "I" (.int (Int32.ofNat cs.length))) (F_maybeLatin1_x1 : Fld Z h0 x1 "java/lang/AbstractStringBuilder" "maybeLatin1" "Z" (.int 0)) (g_x1 : n0 ≤ x1) (E_s1 : Exa Z h0 s1 "java/lang/String") (F_value_s1 : Fld Z h0 s1 "java/lang/String" "value" "[B" (.ref t1)) (F_coder_s1 : Fld Z h0 s1 "java/lang/String" "coder" "B" (.int 1)) (V_t1 : Arv Z h0 t1 kt .byte (Int32.ofNat (2 * ds.length)) (utfL ds) (.int 0)) (V_vb : Arv Z h0 vb kv .byte (Int32.ofNat Mn) (cs.map Value.int ++ rs) (.int 0)) (hM : cs.length + ds.length ≤ Mn) (hMn : 2 * Mn ≤ 32) :
    CT l (⟨"java/lang/StringBuilder", "append", "(Ljava/lang/String;)Ljava/lang/StringBuilder;"⟩ : MethodName) jdk_67_method_7_code 2 (some (.object "java/lang/StringBuilder")) ws ({ frames := 9, cells := 1, slots := 32, locals := 160 } : Room) #[(.ref x1), (.ref s1)] Z h0 (Q_rmSA1 Z x1 s1 t1 vb kt kv cs ds rs r Mn G1 G3 h0 n0) := by
  refine Go.start (plainFor_of_name pn_5) ?_
  intro p e s m below meth c s₁ Bd hx hby hml hZ hown X0 e0
  replace hown : s.vm.findClass "java/lang/StringBuilder" = some m.cls := hown
  have N0 := Fr.nil n0
  rw [show entryFrame m #[(.ref x1), (.ref s1)] 2 = (mkF m 0 #[.val (.ref x1), .val (.ref s1)] []) from by first | (simp [entryFrame, mkF, argsToLocals, Value.category, maxLocals]; done) | rfl]
  refine Go.by (fun t => XS.aloadN X0.here hx rfl (dB hby D14 0 rfl) rfl rfl) ?_
  refine Go.by (fun t => XS.aloadN X0.here hx rfl (dB hby D14 1 rfl) rfl rfl) ?_
  obtain ⟨_, _, ⟨T224, L224, k224, n224⟩, -, X224, ⟨Lc224, hQ224, l224, y224, z224⟩, st224⟩ := superBack X0 hx hZ (y := (⟨"java/lang/AbstractStringBuilder", "append", "(Ljava/lang/String;)Ljava/lang/AbstractStringBuilder;"⟩ : MethodName)) hown (wd hw 90 rfl) (sameSelf (wd hw 91 rfl) (wd hw 110 rfl) rfl (by decide)) (wd hw 91 rfl) (wd hw 92 rfl) (by decide) (backOf (W := 0) (rmAP1 l Z a0 hw [] x1 s1 t1 vb kt kv cs ds rs r Mn G1 G3 h0 n0 Z0 Od A1 HS LS O4 rG3 O2 P5 E_x1 F_value_x1 F_coder_x1 F_count_x1 F_maybeLatin1_x1 g_x1 E_s1 F_value_s1 F_coder_s1 V_t1 V_vb hM hMn) hZ (wd hw 94 rfl) (wd hw 70 rfl) (by decide) (by decide)) e0 (Ins.self E_x1) (g := (mkF m 2 #[.val (.ref x1), .val (.ref s1)] [(.ref s1), (.ref x1)])) rfl (by rw [hml]; rfl) (wd hw 94 rfl) (argsL := [(.ref s1)]) (rest := []) (lenOf pd_15 rfl) rfl (by show 2 * 0 + _ ≤ _; exact Nat.le_of_eq rfl) (dB hby D14 2 rfl) (fun _ _ => ⟨rfl, e0, (by decide : 0 + 1 ≤ _), (by decide : 0 + 32 ≤ _)⟩)
  dsimp only [Pt.U, Pt.locs, Pt.cells, Pt.slots] at X224 l224 y224 z224 st224 hQ224
  subst y224 z224
  obtain ⟨bf, kb, rfl, Nq224, K224, sz_bf, f1, f2, f3, f4, Vn⟩ := hQ224
  have N224 : Fr n0 L224 := by rw [l224]; exact Fr.app N0 Nq224
  clear l224
  refine Go.by (fun t => st224.trans) ?_
  replace X224 := Stand.num (C := 1) (S := 32) X224 rfl rfl
  refine Go.by (fun t => XS.pop X224.here hx rfl (dB hby D14 3 rfl) rfl rfl) ?_
  refine Go.by (fun t => XS.aloadN X224.here hx rfl (dB hby D14 4 rfl) rfl rfl) ?_
  exact Go.ret1 X224 hx Bd.returns Bd.notSynchronized rfl (Or.inr (Or.inr (Or.inr (Or.inr ⟨rfl, rfl, rfl⟩)))) (dB hby D14 5 rfl) (by decide) (by decide) ⟨bf, kb, rfl, N224, K224, sz_bf, f1, f2, f3, f4, Vn⟩
def Q_rm31 (Z : State) (i1 i2 : Int32) (h0 : Heap) (n0 : Nat) : Option Value → Heap → List Loc → Prop := fun v h L => v = none ∧ Fr n0 L ∧ h = h0
set_option maxRecDepth 65536 in
set_option maxHeartbeats 40000000 in
theorem rm31 (l : Launch) (Z : State) (a0 : Array Value) (hw : ∀ d ∈ tables_1, d.before a0 Z = true) (ws : List Jvm.Cond) (i1 i2 : Int32) (h0 : Heap) (n0 : Nat) (q : ¬ (i2 < i1)) :
    CT l (⟨"java/util/Arrays", "checkLength", "(II)V"⟩ : MethodName) jdk_65_method_131_code 2 none ws ({ frames := 0, cells := 0, slots := 0, locals := 0 } : Room) #[(.int i1), (.int i2)] Z h0 (Q_rm31 Z i1 i2 h0 n0) := by
  refine Go.start (plainFor_of_name pn_8) ?_
  intro p e s m below meth c s₁ Bd hx hby hml hZ hown X0 e0
  replace hown : s.vm.findClass "java/util/Arrays" = some m.cls := hown
  have N0 := Fr.nil n0
  rw [show entryFrame m #[(.int i1), (.int i2)] 2 = (mkF m 0 #[.val (.int i1), .val (.int i2)] []) from by first | (simp [entryFrame, mkF, argsToLocals, Value.category, maxLocals]; done) | rfl]
  refine Go.by (fun t => XS.iloadN X0.here hx rfl (dB hby D31 0 rfl) rfl ) ?_
  refine Go.by (fun t => XS.iloadN X0.here hx rfl (dB hby D31 1 rfl) rfl ) ?_
  refine Go.by (fun t => XS.icmpYes X0.here hx rfl (pc0 := 2) (pc' := 37) rfl (dB hby D31 2 rfl) rfl (flt (q : ¬ (i2 < i1))).2.1 (by decide) (by decide)) ?_
  exact Go.ret0 X0 hx Bd.returns Bd.notSynchronized (dB hby D31 17 rfl) (by decide) (by decide) (by first | (rw [e0]; exact ⟨rfl, N0, rfl⟩) | exact ⟨rfl, N0, rfl⟩)
def Q_rm32 (Z : State) (i1 i2 : Int32) (h0 : Heap) (n0 : Nat) : Option Value → Heap → List Loc → Prop := fun v h L => v = some (.int i2) ∧ Fr n0 L ∧ h = h0
set_option maxRecDepth 65536 in
set_option maxHeartbeats 40000000 in
theorem rm32 (l : Launch) (Z : State) (a0 : Array Value) (hw : ∀ d ∈ tables_1, d.before a0 Z = true) (ws : List Jvm.Cond) (i1 i2 : Int32) (h0 : Heap) (n0 : Nat) (q : i2 < i1) :
    CT l (⟨"java/lang/Math", "min", "(II)I"⟩ : MethodName) jdk_29_method_69_code 2 (some .int) ws ({ frames := 0, cells := 0, slots := 0, locals := 0 } : Room) #[(.int i1), (.int i2)] Z h0 (Q_rm32 Z i1 i2 h0 n0) := by
  refine Go.start (Jvm.Free.JP.mathPlain rfl (by decide +kernel)) ?_
  intro p e s m below meth c s₁ Bd hx hby hml hZ hown X0 e0
  replace hown : s.vm.findClass "java/lang/Math" = some m.cls := hown
  have N0 := Fr.nil n0
  rw [show entryFrame m #[(.int i1), (.int i2)] 2 = (mkF m 0 #[.val (.int i1), .val (.int i2)] []) from by first | (simp [entryFrame, mkF, argsToLocals, Value.category, maxLocals]; done) | rfl]
  refine Go.by (fun t => XS.iloadN X0.here hx rfl (dB hby D32 0 rfl) rfl ) ?_
  refine Go.by (fun t => XS.iloadN X0.here hx rfl (dB hby D32 1 rfl) rfl ) ?_
  refine Go.by (fun t => XS.icmpYes X0.here hx rfl (pc0 := 2) (pc' := 9) rfl (dB hby D32 2 rfl) rfl (tlt (q : i2 < i1)).2.2.1 (by decide) (by decide)) ?_
  refine Go.by (fun t => XS.iloadN X0.here hx rfl (dB hby D32 5 rfl) rfl ) ?_
  exact Go.ret1 X0 hx Bd.returns Bd.notSynchronized rfl (Or.inl ⟨rfl, by simp, _, rfl⟩) (dB hby D32 6 rfl) (by decide) (by decide) (by first | (rw [e0]; exact ⟨rfl, N0, rfl⟩) | exact ⟨rfl, N0, rfl⟩)
def Q_rmRB (Z : State) (a1 : Addr) (ka : ClassId) (us rs : List Value) (M mw : Int32) (h0 : Heap) (n0 : Nat) : Option Value → Heap → List Loc → Prop := fun v h L => ∃ (b : Addr) (kb : ClassId), v = some (.ref b) ∧ h0.size ≤ b ∧ Fr n0 L ∧ Keep h0 h [] ∧ Arv Z h b kb .byte mw us (.int 0)
set_option maxRecDepth 65536 in
set_option maxHeartbeats 40000000 in
theorem rmRB (l : Launch) (Z : State) (a0 : Array Value) (hw : ∀ d ∈ tables_1, d.before a0 Z = true) (ws : List Jvm.Cond) (a1 : Addr) (ka : ClassId) (us rs : List Value) (M mw : Int32) (h0 : Heap) (n0 : Nat) (Z0 : n0 ≤ h0.size) (Od : Old Z n0 h0) (V_a1 : Arv Z h0 a1 ka .byte M (us ++ rs) (.int 0)) (hm : mw.toNatClampNeg = us.length) (hm0 : ¬ mw < 0) (hlt : mw < M) (hM : us.length ≤ M.toNatClampNeg) (hcap : us.length ≤ 32) :
    CT l (⟨"java/util/Arrays", "copyOfRangeByte", "([BII)[B"⟩ : MethodName) jdk_65_method_133_code 5 (some (.array .byte)) ws ({ frames := 1, cells := 1, slots := 32, locals := 40 } : Room) #[(.ref a1), (.int (0 : Int32)), (.int mw)] Z h0 (Q_rmRB Z a1 ka us rs M mw h0 n0) := by
  refine Go.start (plainFor_of_name pn_8) ?_
  intro p e s m below meth c s₁ Bd hx hby hml hZ hown X0 e0
  replace hown : s.vm.findClass "java/util/Arrays" = some m.cls := hown
  have N0 := Fr.nil n0
  rw [show entryFrame m #[(.ref a1), (.int (0 : Int32)), (.int mw)] 5 = (mkF m 0 #[.val (.ref a1), .val (.int (0 : Int32)), .val (.int mw), .unset, .unset] []) from by first | (simp [entryFrame, mkF, argsToLocals, Value.category, maxLocals]; done) | rfl]
  have K0 : Keep h0 h0 [] := Keep.refl _ _
  refine Go.by (fun t => XS.iloadN X0.here hx rfl (dB hby D30 0 rfl) rfl ) ?_
  refine Go.by (fun t => XS.iloadN X0.here hx rfl (dB hby D30 1 rfl) rfl ) ?_
  obtain ⟨_, _, ⟨T225, L225, k225, n225⟩, -, X225, ⟨Lc225, hQ225, l225, y225, z225⟩, st225⟩ := Jvm.LawKit.callS X0 hx (y := (⟨"java/util/Arrays", "checkLength", "(II)V"⟩ : MethodName)) hown (mvT hZ (wd hw 169 rfl)) (mvT hZ (wd hw 170 rfl)) (mvT hZ (wd hw 164 rfl)) (mvT hZ (wd hw 171 rfl)) (by decide) (backOf (W := 0) (rm31 l Z a0 hw [] 0 mw h0 n0 hm0) hZ (wd hw 171 rfl) (wd hw 164 rfl) (by decide) (by decide)) (g := (mkF m 2 #[.val (.ref a1), .val (.int (0 : Int32)), .val (.int mw), .unset, .unset] [(.int mw), (.int (0 : Int32))])) rfl (by rw [hml]; rfl) (argsL := [(.int (0 : Int32)), (.int mw)]) (rest := []) (lenOf pd_26 rfl) rfl (by show 2 * 0 + _ ≤ _; exact Nat.le_of_eq rfl) (dB hby D30 2 rfl) (fun _ _ => ⟨rfl, e0, (by decide : 0 + 0 ≤ _), (by decide : 0 + 0 ≤ _)⟩)
  dsimp only [Pt.U, Pt.locs, Pt.cells, Pt.slots] at X225 l225 y225 z225 st225 hQ225
  subst y225 z225
  obtain ⟨rfl, Nq225, e225⟩ := hQ225
  have N225 : Fr n0 L225 := by rw [l225]; exact Fr.app N0 Nq225
  clear l225
  refine Go.by (fun t => st225 t) ?_
  refine Go.by (fun t => XS.iloadN X225.here hx rfl (dB hby D30 3 rfl) rfl ) ?_
  refine Go.by (fun t => XS.iloadN X225.here hx rfl (dB hby D30 4 rfl) rfl ) ?_
  refine Go.by (fun t => XS.isub X225.here hx rfl (dB hby D30 5 rfl) rfl) ?_
  show Go p e below _ (T225.setTop (mkF m 8 #[.val (.ref a1), .val (.int (0 : Int32)), .val (.int mw), .unset, .unset] [(.int (mw - (0 : Int32)))]))
  rw [Int32.sub_zero mw]
  refine Go.by (fun t => XS.istoreN X225.here hx rfl (dB hby D30 6 rfl) rfl (l' := #[.val (.ref a1), .val (.int (0 : Int32)), .val (.int mw), .val (.int mw), .unset]) rfl) ?_
  refine Go.by (fun t => XS.iloadN X225.here hx rfl (dB hby D30 7 rfl) rfl ) ?_
  obtain ⟨T226, h226, k226, X226, e226, E226, A226, st226⟩ := newP X225 hx hZ (wd hw 25 rfl) e225 (g := (mkF m 10 #[.val (.ref a1), .val (.int (0 : Int32)), .val (.int mw), .val (.int mw), .unset] [(.int mw)])) rfl (dB hby D30 8 rfl) rfl hm0 (cap := 32) (by rw [hm]; exact hcap) (by decide) (by decide) (by decide)
  obtain ⟨b, g226⟩ : ∃ z, z = h0.size := ⟨_, rfl⟩
  rw [← g226] at A226 st226
  refine Go.by (fun t => st226 t) ?_
  have g_b : n0 ≤ b := Nat.le_trans Z0 (Nat.le_of_eq g226.symm)
  have sz_b : h0.size ≤ b := Nat.le_trans K0.1 (Nat.le_of_eq g226.symm)
  have ne_a1_b : a1 ≠ b := Nat.ne_of_lt (Nat.lt_of_lt_of_le V_a1.lt (Nat.le_of_eq g226.symm))
  replace Od := Od.ext E226
  replace V_a1 := V_a1.ext E226
  replace Z0 := Nat.le_trans Z0 E226.1
  replace K0 := K0.ext E226
  have V_b := Arv.new A226 hm0
  replace X226 := Stand.num (C := 1) (S := 32) X226 rfl rfl
  replace V_b : Arv Z h226 b k226 .byte mw (List.replicate us.length (.int 0)) (.int 0) := V_b.pad (pad_rep [] _ us.length)
  refine Go.by (fun t => XS.astore X226.here hx rfl (dB hby D30 9 rfl) rfl rfl (l' := #[.val (.ref a1), .val (.int (0 : Int32)), .val (.int mw), .val (.int mw), .val (.ref b)]) rfl) ?_
  refine Go.by (fun t => XS.aloadN X226.here hx rfl (dB hby D30 10 rfl) rfl rfl) ?_
  refine Go.by (fun t => XS.iloadN X226.here hx rfl (dB hby D30 11 rfl) rfl ) ?_
  refine Go.by (fun t => XS.aload X226.here hx rfl (dB hby D30 12 rfl) rfl rfl) ?_
  refine Go.by (fun t => XS.iconst X226.here hx rfl (dB hby D30 13 rfl)) ?_
  refine Go.by (fun t => XS.aloadN X226.here hx rfl (dB hby D30 14 rfl) rfl rfl) ?_
  obtain ⟨cl_227, Ar_227, q_227, S_227, M_227, -, -⟩ := id V_a1
  refine Go.by (fun t => X226.arraylength hx (by first | exact Ar_227.1 | (rw [e226]; exact Ar_227.1)) (State.isArrayOf_alike hZ.alike Ar_227.2.1) (g := (mkF m 20 #[.val (.ref a1), .val (.int (0 : Int32)), .val (.int mw), .val (.int mw), .val (.ref b)] [(.ref a1), (.int (0 : Int32)), (.ref b), (.int (0 : Int32)), (.ref a1)])) rfl rfl (dB hby D30 15 rfl) t) ?_
  rw [len_of S_227 M_227]
  refine Go.by (fun t => XS.iloadN X226.here hx rfl (dB hby D30 16 rfl) rfl ) ?_
  refine Go.by (fun t => XS.isub X226.here hx rfl (dB hby D30 17 rfl) rfl) ?_
  refine Go.by (fun t => XS.iloadN X226.here hx rfl (dB hby D30 18 rfl) rfl ) ?_
  show Go p e below _ (T226.setTop (mkF m 24 #[.val (.ref a1), .val (.int (0 : Int32)), .val (.int mw), .val (.int mw), .val (.ref b)] [(.int mw), (.int (M - (0 : Int32))), (.int (0 : Int32)), (.ref b), (.int (0 : Int32)), (.ref a1)]))
  rw [Int32.sub_zero M]
  obtain ⟨_, _, ⟨T228, L228, k228, n228⟩, -, X228, ⟨Lc228, hQ228, l228, y228, z228⟩, st228⟩ := Jvm.LawKit.callS X226 hx (y := (⟨"java/lang/Math", "min", "(II)I"⟩ : MethodName)) hown (mvT hZ (wd hw 172 rfl)) (mvT hZ (wd hw 173 rfl)) (mvT hZ (wd hw 174 rfl)) (mvT hZ (wd hw 175 rfl)) (by decide) (backOf (W := 4) (rm32 l Z a0 hw [] M mw h226 n0 hlt) hZ (wd hw 175 rfl) (wd hw 174 rfl) (by decide) (by decide)) (g := (mkF m 24 #[.val (.ref a1), .val (.int (0 : Int32)), .val (.int mw), .val (.int mw), .val (.ref b)] [(.int mw), (.int M), (.int (0 : Int32)), (.ref b), (.int (0 : Int32)), (.ref a1)])) rfl (by rw [hml]; rfl) (argsL := [(.int M), (.int mw)]) (rest := [(.int (0 : Int32)), (.ref b), (.int (0 : Int32)), (.ref a1)]) (lenOf pd_27 rfl) rfl (by show 2 * 0 + _ ≤ _; exact Nat.le_of_eq rfl) (dB hby D30 19 rfl) (fun _ _ => ⟨rfl, e226, (by decide : 1 + 0 ≤ _), (by decide : 32 + 0 ≤ _)⟩)
  dsimp only [Pt.U, Pt.locs, Pt.cells, Pt.slots] at X228 l228 y228 z228 st228 hQ228
  subst y228 z228
  obtain ⟨rfl, Nq228, e228⟩ := hQ228
  have N228 : Fr n0 L228 := by rw [l228]; exact Fr.app N225 Nq228
  clear l228
  refine Go.by (fun t => st228 t) ?_
  obtain ⟨T229, h229, L229, X229, e229, N229, K229, Vn229, st229⟩ := cpA X228 hx hZ hown (wd hw 176 rfl) (wd hw 131 rfl) (wd hw 129 rfl) (wd hw 130 rfl) e228 V_a1 V_b (us := us) (Or.inl ⟨rfl, rfl⟩) (by decide) (by decide) hm0 (by rw [(show (0 : Int32).toNatClampNeg = 0 from rfl), Nat.zero_add, hm]; exact hM) (by rw [(show (0 : Int32).toNatClampNeg = 0 from rfl), Nat.zero_add]; exact Nat.le_refl _) (range_pre us rs _ hm rfl) (by rw [(show (0 : Int32).toNatClampNeg = 0 from rfl), Nat.zero_add, hm, List.length_replicate]; exact Nat.le_refl _) N228 g_b (g := (mkF m 27 #[.val (.ref a1), .val (.int (0 : Int32)), .val (.int mw), .val (.int mw), .val (.ref b)] [(.int mw), (.int (0 : Int32)), (.ref b), (.int (0 : Int32)), (.ref a1)])) rfl (by rw [hml]; rfl) rfl (dB hby D30 20 rfl) (by decide) (W := 0) (by show 2 * 0 + _ ≤ _; exact Nat.le_of_eq rfl) (by decide)
  refine Go.by (fun t => st229 t) ?_
  replace Od := Od.keep K229 (allS g_b all0)
  replace V_a1 := V_a1.keep K229 (ninS ne_a1_b nin0)
  replace Z0 := Nat.le_trans Z0 K229.1
  replace K0 := K0.trans K229 (allS (P := fun x => x ∈ _ ∨ _ ≤ x) (Or.inr sz_b) all0)
  clear V_b
  have V_b := Vn229
  replace V_b := arv_eq V_b (take0_copy us 0 _ rfl hm)
  refine Go.by (fun t => XS.aload X229.here hx rfl (dB hby D30 21 rfl) rfl rfl) ?_
  exact Go.ret1 X229 hx Bd.returns Bd.notSynchronized rfl (Or.inr (Or.inr (Or.inr (Or.inr ⟨rfl, rfl, rfl⟩)))) (dB hby D30 22 rfl) (by decide) (by decide) (by first | (rw [e229]; exact ⟨b, _, rfl, sz_b, N229, K0, V_b⟩) | exact ⟨b, _, rfl, sz_b, N229, K0, V_b⟩)
def Q_rmRG (Z : State) (a1 : Addr) (ka : ClassId) (us rs : List Value) (M mw : Int32) (h0 : Heap) (n0 : Nat) : Option Value → Heap → List Loc → Prop := fun v h L => ∃ (b : Addr) (kb : ClassId), v = some (.ref b) ∧ h0.size ≤ b ∧ Fr n0 L ∧ Keep h0 h [] ∧ Arv Z h b kb .byte mw us (.int 0)
set_option maxRecDepth 65536 in
set_option maxHeartbeats 40000000 in
theorem rmRG (l : Launch) (Z : State) (a0 : Array Value) (hw : ∀ d ∈ tables_1, d.before a0 Z = true) (ws : List Jvm.Cond) (a1 : Addr) (ka : ClassId) (us rs : List Value) (M mw : Int32) (h0 : Heap) (n0 : Nat) (Z0 : n0 ≤ h0.size) (Od : Old Z n0 h0) (V_a1 : Arv Z h0 a1 ka .byte M (us ++ rs) (.int 0)) (hm : mw.toNatClampNeg = us.length) (hm0 : ¬ mw < 0) (hlt : mw < M) (hM : us.length ≤ M.toNatClampNeg) (hcap : us.length ≤ 32) :
    CT l (⟨"java/util/Arrays", "copyOfRange", "([BII)[B"⟩ : MethodName) jdk_65_method_132_code 3 (some (.array .byte)) ws ({ frames := 2, cells := 1, slots := 32, locals := 58 } : Room) #[(.ref a1), (.int (0 : Int32)), (.int mw)] Z h0 (Q_rmRG Z a1 ka us rs M mw h0 n0) := by
  refine Go.start (plainFor_of_name pn_8) ?_
  intro p e s m below meth c s₁ Bd hx hby hml hZ hown X0 e0
  replace hown : s.vm.findClass "java/util/Arrays" = some m.cls := hown
  have N0 := Fr.nil n0
  rw [show entryFrame m #[(.ref a1), (.int (0 : Int32)), (.int mw)] 3 = (mkF m 0 #[.val (.ref a1), .val (.int (0 : Int32)), .val (.int mw)] []) from by first | (simp [entryFrame, mkF, argsToLocals, Value.category, maxLocals]; done) | rfl]
  refine Go.by (fun t => XS.iloadN X0.here hx rfl (dB hby D29 0 rfl) rfl ) ?_
  refine Go.by (fun t => XS.ifNo X0.here hx rfl (dB hby D29 1 rfl) rfl ((if0 _ _).trans (teq (rfl : (0 : Int32) = (0 : Int32))).2)) ?_
  refine Go.by (fun t => XS.iloadN X0.here hx rfl (dB hby D29 2 rfl) rfl ) ?_
  refine Go.by (fun t => XS.aloadN X0.here hx rfl (dB hby D29 3 rfl) rfl rfl) ?_
  obtain ⟨cl_230, Ar_230, q_230, S_230, M_230, -, -⟩ := id V_a1
  refine Go.by (fun t => X0.arraylength hx (by first | exact Ar_230.1 | (rw [e0]; exact Ar_230.1)) (State.isArrayOf_alike hZ.alike Ar_230.2.1) (g := (mkF m 6 #[.val (.ref a1), .val (.int (0 : Int32)), .val (.int mw)] [(.ref a1), (.int mw)])) rfl rfl (dB hby D29 4 rfl) t) ?_
  rw [len_of S_230 M_230]
  refine Go.by (fun t => XS.icmpNo X0.here hx rfl (dB hby D29 5 rfl) rfl (feq (fun q => Int32.lt_irrefl (by have z := hlt; rw [q] at z; exact z) : ¬ (mw = M))).1) ?_
  show Go p e below _ (s₁.setTop (mkF m 10 #[.val (.ref a1), .val (.int (0 : Int32)), .val (.int mw)] []))
  refine Go.by (fun t => XS.aloadN X0.here hx rfl (dB hby D29 6 rfl) rfl rfl) ?_
  refine Go.by (fun t => XS.iloadN X0.here hx rfl (dB hby D29 7 rfl) rfl ) ?_
  refine Go.by (fun t => XS.iloadN X0.here hx rfl (dB hby D29 8 rfl) rfl ) ?_
  obtain ⟨_, _, ⟨T231, L231, k231, n231⟩, -, X231, ⟨Lc231, hQ231, l231, y231, z231⟩, st231⟩ := Jvm.LawKit.callS X0 hx (y := (⟨"java/util/Arrays", "copyOfRangeByte", "([BII)[B"⟩ : MethodName)) hown (mvT hZ (wd hw 166 rfl)) (mvT hZ (wd hw 167 rfl)) (mvT hZ (wd hw 164 rfl)) (mvT hZ (wd hw 168 rfl)) (by decide) (backOf (W := 0) (rmRB l Z a0 hw [] a1 ka us rs M mw h0 n0 Z0 Od V_a1 hm hm0 hlt hM hcap) hZ (wd hw 168 rfl) (wd hw 164 rfl) (by decide) (by decide)) (g := (mkF m 13 #[.val (.ref a1), .val (.int (0 : Int32)), .val (.int mw)] [(.int mw), (.int (0 : Int32)), (.ref a1)])) rfl (by rw [hml]; rfl) (argsL := [(.ref a1), (.int (0 : Int32)), (.int mw)]) (rest := []) (lenOf pd_25 rfl) rfl (by show 2 * 0 + _ ≤ _; exact Nat.le_of_eq rfl) (dB hby D29 9 rfl) (fun _ _ => ⟨rfl, e0, (by decide : 0 + 1 ≤ _), (by decide : 0 + 32 ≤ _)⟩)
  dsimp only [Pt.U, Pt.locs, Pt.cells, Pt.slots] at X231 l231 y231 z231 st231 hQ231
  subst y231 z231
  obtain ⟨b, k_b, rfl, sz_b, Nq231, K231, V_b⟩ := hQ231
  have N231 : Fr n0 L231 := by rw [l231]; exact Fr.app N0 Nq231
  clear l231
  refine Go.by (fun t => st231 t) ?_
  replace X231 := Stand.num (C := 1) (S := 32) X231 rfl rfl
  exact Go.ret1 X231 hx Bd.returns Bd.notSynchronized rfl (Or.inr (Or.inr (Or.inr (Or.inr ⟨rfl, rfl, rfl⟩)))) (dB hby D29 10 rfl) (by decide) (by decide) ⟨b, k_b, rfl, sz_b, N231, K231, V_b⟩
def Q_rm25 (Z : State) (a1 : Addr) (w2 : Addr) (h0 : Heap) (n0 : Nat) : Option Value → Heap → List Loc → Prop := fun v h L => v = some (.ref w2) ∧ Fr n0 L ∧ h = h0
set_option maxRecDepth 65536 in
set_option maxHeartbeats 40000000 in
theorem rm25 (l : Launch) (Z : State) (a0 : Array Value) (hw : ∀ d ∈ tables_1, d.before a0 Z = true) (ws : List Jvm.Cond) (a1 : Addr) (w2 : Addr) (h0 : Heap) (n0 : Nat) (F_f_a1 : Fld Z h0 a1 "java/lang/AbstractStringBuilder" "value" "[B" (.ref w2)) :
    CT l (⟨"java/lang/AbstractStringBuilder", "getValue", "()[B"⟩ : MethodName) jdk_68_method_64_code 1 (some (.array .byte)) ws ({ frames := 0, cells := 0, slots := 0, locals := 0 } : Room) #[(.ref a1)] Z h0 (Q_rm25 Z a1 w2 h0 n0) := by
  refine Go.start (plainFor_of_name pn_6) ?_
  intro p e s m below meth c s₁ Bd hx hby hml hZ hown X0 e0
  replace hown : s.vm.findClass "java/lang/AbstractStringBuilder" = some m.cls := hown
  have N0 := Fr.nil n0
  rw [show entryFrame m #[(.ref a1)] 1 = (mkF m 0 #[.val (.ref a1)] []) from by first | (simp [entryFrame, mkF, argsToLocals, Value.category, maxLocals]; done) | rfl]
  refine Go.by (fun t => XS.aloadN X0.here hx rfl (dB hby D25 0 rfl) rfl rfl) ?_
  obtain ⟨T232, X232, e232, st232⟩ := getF X0 hx hZ hown (host := "") (Or.inl (wd hw 74 rfl)) Via.refl e0 F_f_a1 (g := (mkF m 1 #[.val (.ref a1)] [(.ref a1)])) rfl rfl (dB hby D25 1 rfl)
  refine Go.by (fun t => st232 t) ?_
  exact Go.ret1 X232 hx Bd.returns Bd.notSynchronized rfl (Or.inr (Or.inr (Or.inr (Or.inr ⟨rfl, rfl, rfl⟩)))) (dB hby D25 2 rfl) (by decide) (by decide) (by first | (rw [e232]; exact ⟨rfl, N0, rfl⟩) | exact ⟨rfl, N0, rfl⟩)
def Q_rm27 (Z : State) (a1 : Addr) (w2 : Int32) (h0 : Heap) (n0 : Nat) : Option Value → Heap → List Loc → Prop := fun v h L => v = some (.int w2) ∧ Fr n0 L ∧ h = h0
set_option maxRecDepth 65536 in
set_option maxHeartbeats 40000000 in
theorem rm27 (l : Launch) (Z : State) (a0 : Array Value) (hw : ∀ d ∈ tables_1, d.before a0 Z = true) (ws : List Jvm.Cond) (a1 : Addr) (w2 : Int32) (h0 : Heap) (n0 : Nat) (F_f_a1 : Fld Z h0 a1 "java/lang/AbstractStringBuilder" "count" "I" (.int w2)) :
    CT l (⟨"java/lang/AbstractStringBuilder", "length", "()I"⟩ : MethodName) jdk_68_method_6_code 1 (some .int) ws ({ frames := 0, cells := 0, slots := 0, locals := 0 } : Room) #[(.ref a1)] Z h0 (Q_rm27 Z a1 w2 h0 n0) := by
  refine Go.start (plainFor_of_name pn_6) ?_
  intro p e s m below meth c s₁ Bd hx hby hml hZ hown X0 e0
  replace hown : s.vm.findClass "java/lang/AbstractStringBuilder" = some m.cls := hown
  have N0 := Fr.nil n0
  rw [show entryFrame m #[(.ref a1)] 1 = (mkF m 0 #[.val (.ref a1)] []) from by first | (simp [entryFrame, mkF, argsToLocals, Value.category, maxLocals]; done) | rfl]
  refine Go.by (fun t => XS.aloadN X0.here hx rfl (dB hby D27 0 rfl) rfl rfl) ?_
  obtain ⟨T233, X233, e233, st233⟩ := getF X0 hx hZ hown (host := "") (Or.inl (wd hw 105 rfl)) Via.refl e0 F_f_a1 (g := (mkF m 1 #[.val (.ref a1)] [(.ref a1)])) rfl rfl (dB hby D27 1 rfl)
  refine Go.by (fun t => st233 t) ?_
  exact Go.ret1 X233 hx Bd.returns Bd.notSynchronized rfl (Or.inl ⟨rfl, by simp, _, rfl⟩) (dB hby D27 2 rfl) (by decide) (by decide) (by first | (rw [e233]; exact ⟨rfl, N0, rfl⟩) | exact ⟨rfl, N0, rfl⟩)
def Q_rm26 (Z : State) (a1 : Addr) (w2 : Int32) (h0 : Heap) (n0 : Nat) : Option Value → Heap → List Loc → Prop := fun v h L => v = some (.int w2) ∧ Fr n0 L ∧ h = h0
set_option maxRecDepth 65536 in
set_option maxHeartbeats 40000000 in
theorem rm26 (l : Launch) (Z : State) (a0 : Array Value) (hw : ∀ d ∈ tables_1, d.before a0 Z = true) (ws : List Jvm.Cond) (a1 : Addr) (w2 : Int32) (h0 : Heap) (n0 : Nat) (E_x1 : Exa Z h0 a1 "java/lang/StringBuilder") (F_f_a1 : Fld Z h0 a1 "java/lang/AbstractStringBuilder" "count" "I" (.int w2)) :
    CT l (⟨"java/lang/StringBuilder", "length", "()I"⟩ : MethodName) jdk_67_method_93_code 1 (some .int) ws ({ frames := 1, cells := 0, slots := 0, locals := 13 } : Room) #[(.ref a1)] Z h0 (Q_rm26 Z a1 w2 h0 n0) := by
  refine Go.start (plainFor_of_name pn_5) ?_
  intro p e s m below meth c s₁ Bd hx hby hml hZ hown X0 e0
  replace hown : s.vm.findClass "java/lang/StringBuilder" = some m.cls := hown
  have N0 := Fr.nil n0
  rw [show entryFrame m #[(.ref a1)] 1 = (mkF m 0 #[.val (.ref a1)] []) from by first | (simp [entryFrame, mkF, argsToLocals, Value.category, maxLocals]; done) | rfl]
  refine Go.by (fun t => XS.aloadN X0.here hx rfl (dB hby D26 0 rfl) rfl rfl) ?_
  obtain ⟨_, _, ⟨T234, L234, k234, n234⟩, -, X234, ⟨Lc234, hQ234, l234, y234, z234⟩, st234⟩ := superBack X0 hx hZ (y := (⟨"java/lang/AbstractStringBuilder", "length", "()I"⟩ : MethodName)) hown (wd hw 155 rfl) (sameSelf (wd hw 151 rfl) (wd hw 110 rfl) rfl (by decide)) (wd hw 151 rfl) (wd hw 92 rfl) (by decide) (backOf (W := 0) (rm27 l Z a0 hw [] a1 w2 h0 n0 F_f_a1) hZ (wd hw 156 rfl) (wd hw 70 rfl) (by decide) (by decide)) e0 (Ins.self E_x1) (g := (mkF m 1 #[.val (.ref a1)] [(.ref a1)])) rfl (by rw [hml]; rfl) (wd hw 156 rfl) (argsL := []) (rest := []) (lenOf pd_3 rfl) rfl (by show 2 * 0 + _ ≤ _; exact Nat.le_of_eq rfl) (dB hby D26 1 rfl) (fun _ _ => ⟨rfl, e0, (by decide : 0 + 0 ≤ _), (by decide : 0 + 0 ≤ _)⟩)
  dsimp only [Pt.U, Pt.locs, Pt.cells, Pt.slots] at X234 l234 y234 z234 st234 hQ234
  subst y234 z234
  obtain ⟨rfl, Nq234, e234⟩ := hQ234
  have N234 : Fr n0 L234 := by rw [l234]; exact Fr.app N0 Nq234
  clear l234
  refine Go.by (fun t => st234.trans) ?_
  exact Go.ret1 X234 hx Bd.returns Bd.notSynchronized rfl (Or.inl ⟨rfl, by simp, _, rfl⟩) (dB hby D26 2 rfl) (by decide) (by decide) (by first | (rw [e234]; exact ⟨rfl, N234, rfl⟩) | exact ⟨rfl, N234, rfl⟩)
def Q_rmT20 (Z : State) (s1 x1 : Addr) (vb : Addr) (kv : ClassId) (us rs : List Value) (tot Mb : Nat) (G1 : Int32) (h0 : Heap) (n0 : Nat) : Option Value → Heap → List Loc → Prop := fun v h L => ∃ (t : Addr) (kt : ClassId), v = none ∧ Fr n0 L ∧ Keep h0 h [s1] ∧ h0.size ≤ t ∧ Fld Z h s1 "java/lang/String" "value" "[B" (.ref t) ∧ Fld Z h s1 "java/lang/String" "coder" "B" (.int 0) ∧ Arv Z h t kt .byte (Int32.ofNat us.length) us (.int 0)
set_option maxRecDepth 65536 in
set_option maxHeartbeats 40000000 in
theorem rmT20 (l : Launch) (Z : State) (a0 : Array Value) (hw : ∀ d ∈ tables_1, d.before a0 Z = true) (ws : List Jvm.Cond) (s1 x1 : Addr) (vb : Addr) (kv : ClassId) (us rs : List Value) (tot Mb : Nat) (G1 : Int32) (h0 : Heap) (n0 : Nat) (Z0 : n0 ≤ h0.size) (Od : Old Z n0 h0) (O2 : Sta Z Z.heap "java/lang/String" "COMPACT_STRINGS" "Z" (.int G1)) (P5 : ¬ (G1 = (0 : Int32))) (E_s1 : Exa Z h0 s1 "java/lang/String") (F_value_s1 : Fld Z h0 s1 "java/lang/String" "value" "[B" .null) (F_coder_s1 : Fld Z h0 s1 "java/lang/String" "coder" "B" (.int 0)) (g_s1 : n0 ≤ s1) (E_x1 : Exa Z h0 x1 "java/lang/StringBuilder") (F_value_x1 : Fld Z h0 x1 "java/lang/AbstractStringBuilder" "value" "[B" (.ref vb)) (F_coder_x1 : Fld Z h0 x1 "java/lang/AbstractStringBuilder" "coder" "B" (.int 0)) (F_count_x1 : Fld Z h0 x1 "java/lang/AbstractStringBuilder" "count" "I" (.int (Int32.ofNat tot))) (F_maybeLatin1_x1 : Fld Z h0 x1 "java/lang/AbstractStringBuilder" "maybeLatin1" "Z" (.int 0)) (V_vb : Arv Z h0 vb kv .byte (Int32.ofNat Mb) (us ++ rs) (.int 0)) (hu : us.length = tot) (hlt : us.length < Mb) (hMb : Mb ≤ 100000) (hcap : us.length ≤ 32) :
    CT l (⟨"java/lang/String", "<init>", "(Ljava/lang/AbstractStringBuilder;Ljava/lang/Void;)V"⟩ : MethodName) jdk_42_method_150_code 5 none ws ({ frames := 3, cells := 1, slots := 32, locals := 78 } : Room) #[(.ref s1), (.ref x1), .null] Z h0 (Q_rmT20 Z s1 x1 vb kv us rs tot Mb G1 h0 n0) := by
  refine Go.start (plainFor_of_name pn_1) ?_
  intro p e s m below meth c s₁ Bd hx hby hml hZ hown X0 e0
  replace hown : s.vm.findClass "java/lang/String" = some m.cls := hown
  have hnm := (name_of_methodNamed Bd.named Bd.method).1
  have N0 := Fr.nil n0
  rw [show entryFrame m #[(.ref s1), (.ref x1), .null] 5 = (mkF m 0 #[.val (.ref s1), .val (.ref x1), .val .null, .unset, .unset] []) from by first | (simp [entryFrame, mkF, argsToLocals, Value.category, maxLocals]; done) | rfl]
  have K0 : Keep h0 h0 [s1] := Keep.refl _ _
  refine Go.by (fun t => XS.aloadN X0.here hx rfl (dB hby D24 0 rfl) rfl rfl) ?_
  obtain ⟨T235, X235, e235, st235⟩ := initO X0 hx hZ hown (wd hw 17 rfl) (wd hw 18 rfl) (wd hw 19 rfl) e0 (g := (mkF m 1 #[.val (.ref s1), .val (.ref x1), .val .null, .unset, .unset] [(.ref s1)])) rfl (by rw [hml]; rfl) rfl (dB hby D24 1 rfl) (by decide) (W := 0) (by show 2 * 0 + _ ≤ _; exact Nat.le_of_eq rfl) (by decide)
  refine Go.by (fun t => st235 t) ?_
  refine Go.by (fun t => XS.aloadN X235.here hx rfl (dB hby D24 2 rfl) rfl rfl) ?_
  obtain ⟨cq236, kq236, q236a, q236b, q236c⟩ := isOf hZ e235 E_x1
  obtain ⟨_, _, ⟨T236, L236, k236, n236⟩, -, X236, ⟨Lc236, hQ236, l236, y236, z236⟩, st236⟩ := X235.virtualBack hx (y := (⟨"java/lang/AbstractStringBuilder", "getValue", "()[B"⟩ : MethodName)) (z := (⟨"java/lang/AbstractStringBuilder", "getValue", "()[B"⟩ : MethodName)) hown (mvT hZ (wd hw 144 rfl)) (mvT hZ (wd hw 145 rfl)) (notFace_of_selects (args := #[]) (mvT hZ (wd hw 147 rfl))) (mvT hZ (wd hw 147 rfl)) (mvT hZ (wd hw 146 rfl)) (by decide) (backOf (W := 0) (rm25 l Z a0 hw [] x1 vb h0 n0 F_value_x1) hZ (wd hw 148 rfl) (wd hw 70 rfl) (by decide) (by decide)) q236a q236c (g := (mkF m 5 #[.val (.ref s1), .val (.ref x1), .val .null, .unset, .unset] [(.ref x1)])) rfl (by rw [hml]; rfl) (Steps.refl _) (argsL := []) (rest := []) (lenOf pd_23 rfl) rfl (by show 2 * 0 + _ ≤ _; exact Nat.le_of_eq rfl) (dB hby D24 3 rfl) (fun _ _ => ⟨rfl, e235, (by decide : 0 + 0 ≤ _), (by decide : 0 + 0 ≤ _)⟩)
  dsimp only [Pt.U, Pt.locs, Pt.cells, Pt.slots] at X236 l236 y236 z236 st236 hQ236
  subst y236 z236
  obtain ⟨rfl, Nq236, e236⟩ := hQ236
  have N236 : Fr n0 L236 := by rw [l236]; exact Fr.app N0 Nq236
  clear l236
  refine Go.by (fun t => st236.trans) ?_
  refine Go.by (fun t => XS.astoreN X236.here hx rfl (dB hby D24 4 rfl) rfl rfl (l' := #[.val (.ref s1), .val (.ref x1), .val .null, .val (.ref vb), .unset]) rfl) ?_
  refine Go.by (fun t => XS.aloadN X236.here hx rfl (dB hby D24 5 rfl) rfl rfl) ?_
  show Go p e below _ (T236.setTop (mkF m 10 #[.val (.ref s1), .val (.ref x1), .val .null, .val (.ref vb), .unset] [(.ref x1)]))
  obtain ⟨cq237, kq237, q237a, q237b, q237c⟩ := isOf hZ e236 E_x1
  obtain ⟨_, _, ⟨T237, L237, k237, n237⟩, -, X237, ⟨Lc237, hQ237, l237, y237, z237⟩, st237⟩ := X236.virtualBack hx (y := (⟨"java/lang/AbstractStringBuilder", "length", "()I"⟩ : MethodName)) (z := (⟨"java/lang/StringBuilder", "length", "()I"⟩ : MethodName)) hown (mvT hZ (wd hw 149 rfl)) (mvT hZ (wd hw 150 rfl)) (faceOf (a1 := #[]) (mvT hZ (wd hw 110 rfl)) rfl) (mvT hZ (wd hw 152 rfl)) (mvT hZ (wd hw 153 rfl)) (by decide) (backOf (W := 0) (rm26 l Z a0 hw [] x1 (Int32.ofNat tot) h0 n0 E_x1 F_count_x1) hZ (wd hw 154 rfl) (wd hw 62 rfl) (by decide) (by decide)) q237a q237c (g := (mkF m 10 #[.val (.ref s1), .val (.ref x1), .val .null, .val (.ref vb), .unset] [(.ref x1)])) rfl (by rw [hml]; rfl) (Steps.refl _) (argsL := []) (rest := []) (lenOf pd_3 rfl) rfl (by show 2 * 0 + _ ≤ _; exact Nat.le_of_eq rfl) (dB hby D24 6 rfl) (fun _ _ => ⟨rfl, e236, (by decide : 0 + 0 ≤ _), (by decide : 0 + 0 ≤ _)⟩)
  dsimp only [Pt.U, Pt.locs, Pt.cells, Pt.slots] at X237 l237 y237 z237 st237 hQ237
  subst y237 z237
  obtain ⟨rfl, Nq237, e237⟩ := hQ237
  have N237 : Fr n0 L237 := by rw [l237]; exact Fr.app N236 Nq237
  clear l237
  refine Go.by (fun t => st237.trans) ?_
  refine Go.by (fun t => XS.istore X237.here hx rfl (dB hby D24 7 rfl) rfl (l' := #[.val (.ref s1), .val (.ref x1), .val .null, .val (.ref vb), .val (.int (Int32.ofNat tot))]) rfl) ?_
  refine Go.by (fun t => XS.aloadN X237.here hx rfl (dB hby D24 8 rfl) rfl rfl) ?_
  obtain ⟨cq238, kq238, q238a, q238b, q238c⟩ := isOf hZ e237 E_x1
  obtain ⟨_, _, ⟨T238, L238, k238, n238⟩, -, X238, ⟨Lc238, hQ238, l238, y238, z238⟩, st238⟩ := X237.virtualBack hx (y := (⟨"java/lang/AbstractStringBuilder", "isLatin1", "()Z"⟩ : MethodName)) (z := (⟨"java/lang/AbstractStringBuilder", "isLatin1", "()Z"⟩ : MethodName)) hown (mvT hZ (wd hw 157 rfl)) (mvT hZ (wd hw 158 rfl)) (notFace_of_selects (args := #[]) (mvT hZ (wd hw 160 rfl))) (mvT hZ (wd hw 160 rfl)) (mvT hZ (wd hw 159 rfl)) (by decide) (backOf (W := 0) (rmAL0 l Z a0 hw [] x1 G1 h0 n0 Od O2 P5 F_coder_x1) hZ (wd hw 161 rfl) (wd hw 70 rfl) (by decide) (by decide)) q238a q238c (g := (mkF m 16 #[.val (.ref s1), .val (.ref x1), .val .null, .val (.ref vb), .val (.int (Int32.ofNat tot))] [(.ref x1)])) rfl (by rw [hml]; rfl) (Steps.refl _) (argsL := []) (rest := []) (lenOf pd_24 rfl) rfl (by show 2 * 0 + _ ≤ _; exact Nat.le_of_eq rfl) (dB hby D24 9 rfl) (fun _ _ => ⟨rfl, e237, (by decide : 0 + 0 ≤ _), (by decide : 0 + 0 ≤ _)⟩)
  dsimp only [Pt.U, Pt.locs, Pt.cells, Pt.slots] at X238 l238 y238 z238 st238 hQ238
  subst y238 z238
  obtain ⟨rfl, Nq238, e238⟩ := hQ238
  have N238 : Fr n0 L238 := by rw [l238]; exact Fr.app N237 Nq238
  clear l238
  refine Go.by (fun t => st238.trans) ?_
  refine Go.by (fun t => XS.ifNo X238.here hx rfl (dB hby D24 10 rfl) rfl ((if0 _ _).trans (feq (by decide : ¬ ((1 : Int32) = (0 : Int32)))).1)) ?_
  refine Go.by (fun t => XS.aloadN X238.here hx rfl (dB hby D24 11 rfl) rfl rfl) ?_
  refine Go.by (fun t => XS.iconst X238.here hx rfl (dB hby D24 12 rfl)) ?_
  obtain ⟨T239, h239, X239, e239, W239, st239⟩ := putFN X238 hx hZ hown (wd hw 32 rfl) Via.refl e238 F_coder_s1 E_s1 (Or.inr ⟨(wd hw 33 rfl), rfl, hnm⟩) (wd hw 7 rfl) (ty := .byte) (v' := (.int (0 : Int32))) (by decide) (by first | rfl | decide) (by first | rfl | decide | exact fits_nar_byte _) (g := (mkF m 24 #[.val (.ref s1), .val (.ref x1), .val .null, .val (.ref vb), .val (.int (Int32.ofNat tot))] [(.int (0 : Int32)), (.ref s1)])) rfl rfl (dB hby D24 13 rfl)
  refine Go.by (fun t => st239 t) ?_
  have ne_x1_s1 : x1 ≠ s1 := Exa.ne E_x1 E_s1 (by decide)
  have ne_vb_s1 : vb ≠ s1 := Ne.symm (Exa.neArv E_s1 V_vb (wd hw 7 rfl))
  replace F_coder_s1 := F_coder_s1.same W239
  replace E_s1 := E_s1.wr W239
  replace F_value_s1 := F_value_s1.other W239 (Or.inr (slot_ne (Or.inr (wd hw 35 rfl)) (Or.inr (wd hw 33 rfl)) (by decide) (t := (.array .byte)) (t' := .byte) (by decide) (by decide)))
  replace Od := Od.wr W239 g_s1
  replace E_x1 := E_x1.wr W239
  replace F_value_x1 := F_value_x1.other W239 (Or.inl ne_x1_s1)
  replace F_coder_x1 := F_coder_x1.other W239 (Or.inl ne_x1_s1)
  replace F_count_x1 := F_count_x1.other W239 (Or.inl ne_x1_s1)
  replace F_maybeLatin1_x1 := F_maybeLatin1_x1.other W239 (Or.inl ne_x1_s1)
  replace V_vb := V_vb.other W239 ne_vb_s1
  replace Z0 := Nat.le_trans Z0 (Keep.of_wr W239).1
  replace K0 := K0.wr W239 (Or.inl (List.mem_of_getElem? (i := 0) rfl))
  have N239 := Fr.snoc X239 N238 g_s1
  show Go p e below _ (T239.setTop (mkF m 27 #[.val (.ref s1), .val (.ref x1), .val .null, .val (.ref vb), .val (.int (Int32.ofNat tot))] []))
  refine Go.by (fun t => XS.aloadN X239.here hx rfl (dB hby D24 14 rfl) rfl rfl) ?_
  refine Go.by (fun t => XS.aloadN X239.here hx rfl (dB hby D24 15 rfl) rfl rfl) ?_
  refine Go.by (fun t => XS.iconst X239.here hx rfl (dB hby D24 16 rfl)) ?_
  refine Go.by (fun t => XS.iload X239.here hx rfl (dB hby D24 17 rfl) rfl ) ?_
  show Go p e below _ (T239.setTop (mkF m 32 #[.val (.ref s1), .val (.ref x1), .val .null, .val (.ref vb), .val (.int (Int32.ofNat tot))] [(.int (Int32.ofNat tot)), (.int (0 : Int32)), (.ref vb), (.ref s1)]))
  rw [show Int32.ofNat tot = Int32.ofNat us.length from by rw [hu]]
  obtain ⟨_, _, ⟨T240, L240, k240, n240⟩, -, X240, ⟨Lc240, hQ240, l240, y240, z240⟩, st240⟩ := Jvm.LawKit.callS X239 hx (y := (⟨"java/util/Arrays", "copyOfRange", "([BII)[B"⟩ : MethodName)) hown (mvT hZ (wd hw 162 rfl)) (mvT hZ (wd hw 163 rfl)) (mvT hZ (wd hw 164 rfl)) (mvT hZ (wd hw 165 rfl)) (by decide) (backOf (W := 1) (rmRG l Z a0 hw [] vb kv us rs _ (Int32.ofNat us.length) h239 n0 Z0 Od V_vb (o_nat (by omega)) (o_nn (by omega)) ((o_lt (by omega) (by omega)).2 hlt) (by rw [o_nat (by omega)]; omega) hcap) hZ (wd hw 165 rfl) (wd hw 164 rfl) (by decide) (by decide)) (g := (mkF m 32 #[.val (.ref s1), .val (.ref x1), .val .null, .val (.ref vb), .val (.int (Int32.ofNat us.length))] [(.int (Int32.ofNat us.length)), (.int (0 : Int32)), (.ref vb), (.ref s1)])) rfl (by rw [hml]; rfl) (argsL := [(.ref vb), (.int (0 : Int32)), (.int (Int32.ofNat us.length))]) (rest := [(.ref s1)]) (lenOf pd_25 rfl) rfl (by show 2 * 0 + _ ≤ _; exact Nat.le_of_eq rfl) (dB hby D24 18 rfl) (fun _ _ => ⟨rfl, e239, (by decide : 0 + 1 ≤ _), (by decide : 0 + 32 ≤ _)⟩)
  dsimp only [Pt.U, Pt.locs, Pt.cells, Pt.slots] at X240 l240 y240 z240 st240 hQ240
  subst y240 z240
  obtain ⟨b, k_b, rfl, sz_b, Nq240, K240, V_b⟩ := hQ240
  have g_b : n0 ≤ b := Nat.le_trans Z0 sz_b
  have ne_s1_b : s1 ≠ b := Nat.ne_of_lt (Nat.lt_of_lt_of_le E_s1.lt sz_b)
  have ne_vb_b : vb ≠ b := Nat.ne_of_lt (Nat.lt_of_lt_of_le V_vb.lt sz_b)
  have ne_x1_b : x1 ≠ b := Nat.ne_of_lt (Nat.lt_of_lt_of_le E_x1.lt sz_b)
  replace sz_b : h0.size ≤ b := Nat.le_trans K0.1 sz_b
  have N240 : Fr n0 L240 := by rw [l240]; exact Fr.app N239 Nq240
  clear l240
  refine Go.by (fun t => st240 t) ?_
  replace X240 := Stand.num (C := 1) (S := 32) X240 rfl rfl
  replace E_s1 := E_s1.keep K240
  replace F_value_s1 := F_value_s1.keep K240 nin0
  replace F_coder_s1 := F_coder_s1.keep K240 nin0
  replace Od := Od.keep K240 all0
  replace E_x1 := E_x1.keep K240
  replace F_value_x1 := F_value_x1.keep K240 nin0
  replace F_coder_x1 := F_coder_x1.keep K240 nin0
  replace F_count_x1 := F_count_x1.keep K240 nin0
  replace F_maybeLatin1_x1 := F_maybeLatin1_x1.keep K240 nin0
  replace V_vb := V_vb.keep K240 nin0
  replace Z0 := Nat.le_trans Z0 K240.1
  replace K0 := K0.trans K240 all0
  obtain ⟨T241, h241, X241, e241, W241, st241⟩ := putF X240 hx hZ hown (host := "") (Or.inl (wd hw 34 rfl)) Via.refl rfl F_value_s1 E_s1 (Or.inr ⟨(wd hw 35 rfl), rfl, hnm⟩) (wd hw 7 rfl) (ty := (.array .byte)) (by decide) rfl rfl (g := (mkF m 35 #[.val (.ref s1), .val (.ref x1), .val .null, .val (.ref vb), .val (.int (Int32.ofNat us.length))] [(.ref b), (.ref s1)])) rfl rfl (dB hby D24 19 rfl)
  refine Go.by (fun t => st241 t) ?_
  replace F_value_s1 := F_value_s1.same W241
  replace E_s1 := E_s1.wr W241
  replace F_coder_s1 := F_coder_s1.other W241 (Or.inr (slot_ne (Or.inr (wd hw 33 rfl)) (Or.inr (wd hw 35 rfl)) (by decide) (t := .byte) (t' := (.array .byte)) (by decide) (by decide)))
  replace Od := Od.wr W241 g_s1
  replace E_x1 := E_x1.wr W241
  replace F_value_x1 := F_value_x1.other W241 (Or.inl ne_x1_s1)
  replace F_coder_x1 := F_coder_x1.other W241 (Or.inl ne_x1_s1)
  replace F_count_x1 := F_count_x1.other W241 (Or.inl ne_x1_s1)
  replace F_maybeLatin1_x1 := F_maybeLatin1_x1.other W241 (Or.inl ne_x1_s1)
  replace V_vb := V_vb.other W241 ne_vb_s1
  replace V_b := V_b.other W241 (Ne.symm ne_s1_b)
  replace Z0 := Nat.le_trans Z0 (Keep.of_wr W241).1
  replace K0 := K0.wr W241 (Or.inl (List.mem_of_getElem? (i := 0) rfl))
  have N241 := Fr.snoc X241 N240 g_s1
  refine Go.by (fun t => XS.goto X241.here hx rfl (pc0 := 38) (pc' := 97) rfl (dB hby D24 20 rfl) (by decide) (by decide)) ?_
  exact Go.ret0 X241 hx Bd.returns Bd.notSynchronized (dB hby D24 50 rfl) (by decide) (by decide) (by first | (rw [e241]; exact ⟨b, k_b, rfl, N241, K0, sz_b, F_value_s1, F_coder_s1, V_b⟩) | exact ⟨b, k_b, rfl, N241, K0, sz_b, F_value_s1, F_coder_s1, V_b⟩)
def Q_rmT21 (Z : State) (s1 x1 : Addr) (vb : Addr) (kv : ClassId) (us rs : List Value) (tot Mb : Nat) (G1 : Int32) (h0 : Heap) (n0 : Nat) : Option Value → Heap → List Loc → Prop := fun v h L => ∃ (t : Addr) (kt : ClassId), v = none ∧ Fr n0 L ∧ Keep h0 h [s1] ∧ h0.size ≤ t ∧ Fld Z h s1 "java/lang/String" "value" "[B" (.ref t) ∧ Fld Z h s1 "java/lang/String" "coder" "B" (.int 1) ∧ Arv Z h t kt .byte (Int32.ofNat us.length) us (.int 0)
set_option maxRecDepth 65536 in
set_option maxHeartbeats 40000000 in
theorem rmT21 (l : Launch) (Z : State) (a0 : Array Value) (hw : ∀ d ∈ tables_1, d.before a0 Z = true) (ws : List Jvm.Cond) (s1 x1 : Addr) (vb : Addr) (kv : ClassId) (us rs : List Value) (tot Mb : Nat) (G1 : Int32) (h0 : Heap) (n0 : Nat) (Z0 : n0 ≤ h0.size) (Od : Old Z n0 h0) (O2 : Sta Z Z.heap "java/lang/String" "COMPACT_STRINGS" "Z" (.int G1)) (P5 : ¬ (G1 = (0 : Int32))) (E_s1 : Exa Z h0 s1 "java/lang/String") (F_value_s1 : Fld Z h0 s1 "java/lang/String" "value" "[B" .null) (F_coder_s1 : Fld Z h0 s1 "java/lang/String" "coder" "B" (.int 0)) (g_s1 : n0 ≤ s1) (E_x1 : Exa Z h0 x1 "java/lang/StringBuilder") (F_value_x1 : Fld Z h0 x1 "java/lang/AbstractStringBuilder" "value" "[B" (.ref vb)) (F_coder_x1 : Fld Z h0 x1 "java/lang/AbstractStringBuilder" "coder" "B" (.int 1)) (F_count_x1 : Fld Z h0 x1 "java/lang/AbstractStringBuilder" "count" "I" (.int (Int32.ofNat tot))) (F_maybeLatin1_x1 : Fld Z h0 x1 "java/lang/AbstractStringBuilder" "maybeLatin1" "Z" (.int 0)) (V_vb : Arv Z h0 vb kv .byte (Int32.ofNat Mb) (us ++ rs) (.int 0)) (hu : us.length = 2 * tot) (hlt : us.length < Mb) (hMb : Mb ≤ 100000) (hcap : us.length ≤ 32) :
    CT l (⟨"java/lang/String", "<init>", "(Ljava/lang/AbstractStringBuilder;Ljava/lang/Void;)V"⟩ : MethodName) jdk_42_method_150_code 5 none ws ({ frames := 3, cells := 1, slots := 32, locals := 78 } : Room) #[(.ref s1), (.ref x1), .null] Z h0 (Q_rmT21 Z s1 x1 vb kv us rs tot Mb G1 h0 n0) := by
  refine Go.start (plainFor_of_name pn_1) ?_
  intro p e s m below meth c s₁ Bd hx hby hml hZ hown X0 e0
  replace hown : s.vm.findClass "java/lang/String" = some m.cls := hown
  have hnm := (name_of_methodNamed Bd.named Bd.method).1
  have N0 := Fr.nil n0
  rw [show entryFrame m #[(.ref s1), (.ref x1), .null] 5 = (mkF m 0 #[.val (.ref s1), .val (.ref x1), .val .null, .unset, .unset] []) from by first | (simp [entryFrame, mkF, argsToLocals, Value.category, maxLocals]; done) | rfl]
  have K0 : Keep h0 h0 [s1] := Keep.refl _ _
  refine Go.by (fun t => XS.aloadN X0.here hx rfl (dB hby D24 0 rfl) rfl rfl) ?_
  obtain ⟨T242, X242, e242, st242⟩ := initO X0 hx hZ hown (wd hw 17 rfl) (wd hw 18 rfl) (wd hw 19 rfl) e0 (g := (mkF m 1 #[.val (.ref s1), .val (.ref x1), .val .null, .unset, .unset] [(.ref s1)])) rfl (by rw [hml]; rfl) rfl (dB hby D24 1 rfl) (by decide) (W := 0) (by show 2 * 0 + _ ≤ _; exact Nat.le_of_eq rfl) (by decide)
  refine Go.by (fun t => st242 t) ?_
  refine Go.by (fun t => XS.aloadN X242.here hx rfl (dB hby D24 2 rfl) rfl rfl) ?_
  obtain ⟨cq243, kq243, q243a, q243b, q243c⟩ := isOf hZ e242 E_x1
  obtain ⟨_, _, ⟨T243, L243, k243, n243⟩, -, X243, ⟨Lc243, hQ243, l243, y243, z243⟩, st243⟩ := X242.virtualBack hx (y := (⟨"java/lang/AbstractStringBuilder", "getValue", "()[B"⟩ : MethodName)) (z := (⟨"java/lang/AbstractStringBuilder", "getValue", "()[B"⟩ : MethodName)) hown (mvT hZ (wd hw 144 rfl)) (mvT hZ (wd hw 145 rfl)) (notFace_of_selects (args := #[]) (mvT hZ (wd hw 147 rfl))) (mvT hZ (wd hw 147 rfl)) (mvT hZ (wd hw 146 rfl)) (by decide) (backOf (W := 0) (rm25 l Z a0 hw [] x1 vb h0 n0 F_value_x1) hZ (wd hw 148 rfl) (wd hw 70 rfl) (by decide) (by decide)) q243a q243c (g := (mkF m 5 #[.val (.ref s1), .val (.ref x1), .val .null, .unset, .unset] [(.ref x1)])) rfl (by rw [hml]; rfl) (Steps.refl _) (argsL := []) (rest := []) (lenOf pd_23 rfl) rfl (by show 2 * 0 + _ ≤ _; exact Nat.le_of_eq rfl) (dB hby D24 3 rfl) (fun _ _ => ⟨rfl, e242, (by decide : 0 + 0 ≤ _), (by decide : 0 + 0 ≤ _)⟩)
  dsimp only [Pt.U, Pt.locs, Pt.cells, Pt.slots] at X243 l243 y243 z243 st243 hQ243
  subst y243 z243
  obtain ⟨rfl, Nq243, e243⟩ := hQ243
  have N243 : Fr n0 L243 := by rw [l243]; exact Fr.app N0 Nq243
  clear l243
  refine Go.by (fun t => st243.trans) ?_
  refine Go.by (fun t => XS.astoreN X243.here hx rfl (dB hby D24 4 rfl) rfl rfl (l' := #[.val (.ref s1), .val (.ref x1), .val .null, .val (.ref vb), .unset]) rfl) ?_
  refine Go.by (fun t => XS.aloadN X243.here hx rfl (dB hby D24 5 rfl) rfl rfl) ?_
  show Go p e below _ (T243.setTop (mkF m 10 #[.val (.ref s1), .val (.ref x1), .val .null, .val (.ref vb), .unset] [(.ref x1)]))
  obtain ⟨cq244, kq244, q244a, q244b, q244c⟩ := isOf hZ e243 E_x1
  obtain ⟨_, _, ⟨T244, L244, k244, n244⟩, -, X244, ⟨Lc244, hQ244, l244, y244, z244⟩, st244⟩ := X243.virtualBack hx (y := (⟨"java/lang/AbstractStringBuilder", "length", "()I"⟩ : MethodName)) (z := (⟨"java/lang/StringBuilder", "length", "()I"⟩ : MethodName)) hown (mvT hZ (wd hw 149 rfl)) (mvT hZ (wd hw 150 rfl)) (faceOf (a1 := #[]) (mvT hZ (wd hw 110 rfl)) rfl) (mvT hZ (wd hw 152 rfl)) (mvT hZ (wd hw 153 rfl)) (by decide) (backOf (W := 0) (rm26 l Z a0 hw [] x1 (Int32.ofNat tot) h0 n0 E_x1 F_count_x1) hZ (wd hw 154 rfl) (wd hw 62 rfl) (by decide) (by decide)) q244a q244c (g := (mkF m 10 #[.val (.ref s1), .val (.ref x1), .val .null, .val (.ref vb), .unset] [(.ref x1)])) rfl (by rw [hml]; rfl) (Steps.refl _) (argsL := []) (rest := []) (lenOf pd_3 rfl) rfl (by show 2 * 0 + _ ≤ _; exact Nat.le_of_eq rfl) (dB hby D24 6 rfl) (fun _ _ => ⟨rfl, e243, (by decide : 0 + 0 ≤ _), (by decide : 0 + 0 ≤ _)⟩)
  dsimp only [Pt.U, Pt.locs, Pt.cells, Pt.slots] at X244 l244 y244 z244 st244 hQ244
  subst y244 z244
  obtain ⟨rfl, Nq244, e244⟩ := hQ244
  have N244 : Fr n0 L244 := by rw [l244]; exact Fr.app N243 Nq244
  clear l244
  refine Go.by (fun t => st244.trans) ?_
  refine Go.by (fun t => XS.istore X244.here hx rfl (dB hby D24 7 rfl) rfl (l' := #[.val (.ref s1), .val (.ref x1), .val .null, .val (.ref vb), .val (.int (Int32.ofNat tot))]) rfl) ?_
  refine Go.by (fun t => XS.aloadN X244.here hx rfl (dB hby D24 8 rfl) rfl rfl) ?_
  obtain ⟨cq245, kq245, q245a, q245b, q245c⟩ := isOf hZ e244 E_x1
  obtain ⟨_, _, ⟨T245, L245, k245, n245⟩, -, X245, ⟨Lc245, hQ245, l245, y245, z245⟩, st245⟩ := X244.virtualBack hx (y := (⟨"java/lang/AbstractStringBuilder", "isLatin1", "()Z"⟩ : MethodName)) (z := (⟨"java/lang/AbstractStringBuilder", "isLatin1", "()Z"⟩ : MethodName)) hown (mvT hZ (wd hw 157 rfl)) (mvT hZ (wd hw 158 rfl)) (notFace_of_selects (args := #[]) (mvT hZ (wd hw 160 rfl))) (mvT hZ (wd hw 160 rfl)) (mvT hZ (wd hw 159 rfl)) (by decide) (backOf (W := 0) (rmAL1 l Z a0 hw [] x1 G1 h0 n0 Od O2 P5 F_coder_x1) hZ (wd hw 161 rfl) (wd hw 70 rfl) (by decide) (by decide)) q245a q245c (g := (mkF m 16 #[.val (.ref s1), .val (.ref x1), .val .null, .val (.ref vb), .val (.int (Int32.ofNat tot))] [(.ref x1)])) rfl (by rw [hml]; rfl) (Steps.refl _) (argsL := []) (rest := []) (lenOf pd_24 rfl) rfl (by show 2 * 0 + _ ≤ _; exact Nat.le_of_eq rfl) (dB hby D24 9 rfl) (fun _ _ => ⟨rfl, e244, (by decide : 0 + 0 ≤ _), (by decide : 0 + 0 ≤ _)⟩)
  dsimp only [Pt.U, Pt.locs, Pt.cells, Pt.slots] at X245 l245 y245 z245 st245 hQ245
  subst y245 z245
  obtain ⟨rfl, Nq245, e245⟩ := hQ245
  have N245 : Fr n0 L245 := by rw [l245]; exact Fr.app N244 Nq245
  clear l245
  refine Go.by (fun t => st245.trans) ?_
  refine Go.by (fun t => XS.ifYes X245.here hx rfl (pc0 := 19) (pc' := 41) rfl (dB hby D24 10 rfl) rfl ((if0 _ _).trans (teq (rfl : (0 : Int32) = (0 : Int32))).1) (by decide) (by decide)) ?_
  obtain ⟨T246, X246, e246, st246⟩ := getS2 X245 hx hZ hown (host := "") (Or.inl (wd hw 20 rfl)) Via.refl e245 (O2.ext Od.2) (g := (mkF m 41 #[.val (.ref s1), .val (.ref x1), .val .null, .val (.ref vb), .val (.int (Int32.ofNat tot))] [])) rfl (dB hby D24 21 rfl)
  refine Go.by (fun t => st246 t) ?_
  show Go p e below _ (T246.setTop (mkF m 44 #[.val (.ref s1), .val (.ref x1), .val .null, .val (.ref vb), .val (.int (Int32.ofNat tot))] [(.int G1)]))
  refine Go.by (fun t => XS.ifNo X246.here hx rfl (dB hby D24 22 rfl) rfl ((if0 _ _).trans (feq (P5 : ¬ (G1 = (0 : Int32)))).1)) ?_
  refine Go.by (fun t => XS.aloadN X246.here hx rfl (dB hby D24 23 rfl) rfl rfl) ?_
  obtain ⟨T247, X247, e247, st247⟩ := getF X246 hx hZ hown (host := "") (Or.inl (wd hw 252 rfl)) Via.refl e246 F_maybeLatin1_x1 (g := (mkF m 48 #[.val (.ref s1), .val (.ref x1), .val .null, .val (.ref vb), .val (.int (Int32.ofNat tot))] [(.ref x1)])) rfl rfl (dB hby D24 24 rfl)
  refine Go.by (fun t => st247 t) ?_
  refine Go.by (fun t => XS.ifYes X247.here hx rfl (pc0 := 51) (pc' := 79) rfl (dB hby D24 25 rfl) rfl ((if0 _ _).trans (teq (rfl : (0 : Int32) = (0 : Int32))).1) (by decide) (by decide)) ?_
  refine Go.by (fun t => XS.aloadN X247.here hx rfl (dB hby D24 39 rfl) rfl rfl) ?_
  refine Go.by (fun t => XS.iconst X247.here hx rfl (dB hby D24 40 rfl)) ?_
  obtain ⟨T248, h248, X248, e248, W248, st248⟩ := putFN X247 hx hZ hown (wd hw 32 rfl) Via.refl e247 F_coder_s1 E_s1 (Or.inr ⟨(wd hw 33 rfl), rfl, hnm⟩) (wd hw 7 rfl) (ty := .byte) (v' := (.int (1 : Int32))) (by decide) (by first | rfl | decide) (by first | rfl | decide | exact fits_nar_byte _) (g := (mkF m 81 #[.val (.ref s1), .val (.ref x1), .val .null, .val (.ref vb), .val (.int (Int32.ofNat tot))] [(.int (1 : Int32)), (.ref s1)])) rfl rfl (dB hby D24 41 rfl)
  refine Go.by (fun t => st248 t) ?_
  have ne_x1_s1 : x1 ≠ s1 := Exa.ne E_x1 E_s1 (by decide)
  have ne_vb_s1 : vb ≠ s1 := Ne.symm (Exa.neArv E_s1 V_vb (wd hw 7 rfl))
  replace F_coder_s1 := F_coder_s1.same W248
  replace E_s1 := E_s1.wr W248
  replace F_value_s1 := F_value_s1.other W248 (Or.inr (slot_ne (Or.inr (wd hw 35 rfl)) (Or.inr (wd hw 33 rfl)) (by decide) (t := (.array .byte)) (t' := .byte) (by decide) (by decide)))
  replace Od := Od.wr W248 g_s1
  replace E_x1 := E_x1.wr W248
  replace F_value_x1 := F_value_x1.other W248 (Or.inl ne_x1_s1)
  replace F_coder_x1 := F_coder_x1.other W248 (Or.inl ne_x1_s1)
  replace F_count_x1 := F_count_x1.other W248 (Or.inl ne_x1_s1)
  replace F_maybeLatin1_x1 := F_maybeLatin1_x1.other W248 (Or.inl ne_x1_s1)
  replace V_vb := V_vb.other W248 ne_vb_s1
  replace Z0 := Nat.le_trans Z0 (Keep.of_wr W248).1
  replace K0 := K0.wr W248 (Or.inl (List.mem_of_getElem? (i := 0) rfl))
  have N248 := Fr.snoc X248 N245 g_s1
  show Go p e below _ (T248.setTop (mkF m 84 #[.val (.ref s1), .val (.ref x1), .val .null, .val (.ref vb), .val (.int (Int32.ofNat tot))] []))
  refine Go.by (fun t => XS.aloadN X248.here hx rfl (dB hby D24 42 rfl) rfl rfl) ?_
  refine Go.by (fun t => XS.aloadN X248.here hx rfl (dB hby D24 43 rfl) rfl rfl) ?_
  refine Go.by (fun t => XS.iconst X248.here hx rfl (dB hby D24 44 rfl)) ?_
  refine Go.by (fun t => XS.iload X248.here hx rfl (dB hby D24 45 rfl) rfl ) ?_
  refine Go.by (fun t => XS.iconst X248.here hx rfl (dB hby D24 46 rfl)) ?_
  refine Go.by (fun t => XS.ishl X248.here hx rfl (dB hby D24 47 rfl) rfl) ?_
  show Go p e below _ (T248.setTop (mkF m 91 #[.val (.ref s1), .val (.ref x1), .val .null, .val (.ref vb), .val (.int (Int32.ofNat tot))] [(.int ((Int32.ofNat tot) <<< ((1 : Int32) &&& 31))), (.int (0 : Int32)), (.ref vb), (.ref s1)]))
  rw [show (Int32.ofNat tot <<< ((1 : Int32) &&& 31)) = Int32.ofNat us.length from by rw [hu]; exact o_shl _]
  obtain ⟨_, _, ⟨T249, L249, k249, n249⟩, -, X249, ⟨Lc249, hQ249, l249, y249, z249⟩, st249⟩ := Jvm.LawKit.callS X248 hx (y := (⟨"java/util/Arrays", "copyOfRange", "([BII)[B"⟩ : MethodName)) hown (mvT hZ (wd hw 162 rfl)) (mvT hZ (wd hw 163 rfl)) (mvT hZ (wd hw 164 rfl)) (mvT hZ (wd hw 165 rfl)) (by decide) (backOf (W := 1) (rmRG l Z a0 hw [] vb kv us rs _ (Int32.ofNat us.length) h248 n0 Z0 Od V_vb (o_nat (by omega)) (o_nn (by omega)) ((o_lt (by omega) (by omega)).2 hlt) (by rw [o_nat (by omega)]; omega) hcap) hZ (wd hw 165 rfl) (wd hw 164 rfl) (by decide) (by decide)) (g := (mkF m 91 #[.val (.ref s1), .val (.ref x1), .val .null, .val (.ref vb), .val (.int (Int32.ofNat tot))] [(.int (Int32.ofNat us.length)), (.int (0 : Int32)), (.ref vb), (.ref s1)])) rfl (by rw [hml]; rfl) (argsL := [(.ref vb), (.int (0 : Int32)), (.int (Int32.ofNat us.length))]) (rest := [(.ref s1)]) (lenOf pd_25 rfl) rfl (by show 2 * 0 + _ ≤ _; exact Nat.le_of_eq rfl) (dB hby D24 48 rfl) (fun _ _ => ⟨rfl, e248, (by decide : 0 + 1 ≤ _), (by decide : 0 + 32 ≤ _)⟩)
  dsimp only [Pt.U, Pt.locs, Pt.cells, Pt.slots] at X249 l249 y249 z249 st249 hQ249
  subst y249 z249
  obtain ⟨b, k_b, rfl, sz_b, Nq249, K249, V_b⟩ := hQ249
  have g_b : n0 ≤ b := Nat.le_trans Z0 sz_b
  have ne_s1_b : s1 ≠ b := Nat.ne_of_lt (Nat.lt_of_lt_of_le E_s1.lt sz_b)
  have ne_vb_b : vb ≠ b := Nat.ne_of_lt (Nat.lt_of_lt_of_le V_vb.lt sz_b)
  have ne_x1_b : x1 ≠ b := Nat.ne_of_lt (Nat.lt_of_lt_of_le E_x1.lt sz_b)
  replace sz_b : h0.size ≤ b := Nat.le_trans K0.1 sz_b
  have N249 : Fr n0 L249 := by rw [l249]; exact Fr.app N248 Nq249
  clear l249
  refine Go.by (fun t => st249 t) ?_
  replace X249 := Stand.num (C := 1) (S := 32) X249 rfl rfl
  replace E_s1 := E_s1.keep K249
  replace F_value_s1 := F_value_s1.keep K249 nin0
  replace F_coder_s1 := F_coder_s1.keep K249 nin0
  replace Od := Od.keep K249 all0
  replace E_x1 := E_x1.keep K249
  replace F_value_x1 := F_value_x1.keep K249 nin0
  replace F_coder_x1 := F_coder_x1.keep K249 nin0
  replace F_count_x1 := F_count_x1.keep K249 nin0
  replace F_maybeLatin1_x1 := F_maybeLatin1_x1.keep K249 nin0
  replace V_vb := V_vb.keep K249 nin0
  replace Z0 := Nat.le_trans Z0 K249.1
  replace K0 := K0.trans K249 all0
  obtain ⟨T250, h250, X250, e250, W250, st250⟩ := putF X249 hx hZ hown (host := "") (Or.inl (wd hw 34 rfl)) Via.refl rfl F_value_s1 E_s1 (Or.inr ⟨(wd hw 35 rfl), rfl, hnm⟩) (wd hw 7 rfl) (ty := (.array .byte)) (by decide) rfl rfl (g := (mkF m 94 #[.val (.ref s1), .val (.ref x1), .val .null, .val (.ref vb), .val (.int (Int32.ofNat tot))] [(.ref b), (.ref s1)])) rfl rfl (dB hby D24 49 rfl)
  refine Go.by (fun t => st250 t) ?_
  replace F_value_s1 := F_value_s1.same W250
  replace E_s1 := E_s1.wr W250
  replace F_coder_s1 := F_coder_s1.other W250 (Or.inr (slot_ne (Or.inr (wd hw 33 rfl)) (Or.inr (wd hw 35 rfl)) (by decide) (t := .byte) (t' := (.array .byte)) (by decide) (by decide)))
  replace Od := Od.wr W250 g_s1
  replace E_x1 := E_x1.wr W250
  replace F_value_x1 := F_value_x1.other W250 (Or.inl ne_x1_s1)
  replace F_coder_x1 := F_coder_x1.other W250 (Or.inl ne_x1_s1)
  replace F_count_x1 := F_count_x1.other W250 (Or.inl ne_x1_s1)
  replace F_maybeLatin1_x1 := F_maybeLatin1_x1.other W250 (Or.inl ne_x1_s1)
  replace V_vb := V_vb.other W250 ne_vb_s1
  replace V_b := V_b.other W250 (Ne.symm ne_s1_b)
  replace Z0 := Nat.le_trans Z0 (Keep.of_wr W250).1
  replace K0 := K0.wr W250 (Or.inl (List.mem_of_getElem? (i := 0) rfl))
  have N250 := Fr.snoc X250 N249 g_s1
  exact Go.ret0 X250 hx Bd.returns Bd.notSynchronized (dB hby D24 50 rfl) (by decide) (by decide) (by first | (rw [e250]; exact ⟨b, k_b, rfl, N250, K0, sz_b, F_value_s1, F_coder_s1, V_b⟩) | exact ⟨b, k_b, rfl, N250, K0, sz_b, F_value_s1, F_coder_s1, V_b⟩)
def Q_rmT2 (Z : State) (s1 x1 : Addr) (vb : Addr) (kv : ClassId) (us rs : List Value) (tot Mb : Nat) (G1 : Int32) (cd : Int32) (h0 : Heap) (n0 : Nat) : Option Value → Heap → List Loc → Prop := fun v h L => ∃ (t : Addr) (kt : ClassId), v = none ∧ Fr n0 L ∧ Keep h0 h [s1] ∧ h0.size ≤ t ∧ Fld Z h s1 "java/lang/String" "value" "[B" (.ref t) ∧ Fld Z h s1 "java/lang/String" "coder" "B" (.int cd) ∧ Arv Z h t kt .byte (Int32.ofNat us.length) us (.int 0)
set_option maxRecDepth 65536 in
set_option maxHeartbeats 40000000 in
theorem rmT2 (l : Launch) (Z : State) (a0 : Array Value) (hw : ∀ d ∈ tables_1, d.before a0 Z = true) (ws : List Jvm.Cond) (s1 x1 : Addr) (vb : Addr) (kv : ClassId) (us rs : List Value) (tot Mb : Nat) (G1 : Int32) (cd : Int32) (h0 : Heap) (n0 : Nat) (Z0 : n0 ≤ h0.size) (Od : Old Z n0 h0) (O2 : Sta Z Z.heap "java/lang/String" "COMPACT_STRINGS" "Z" (.int G1)) (P5 : ¬ (G1 = (0 : Int32))) (E_s1 : Exa Z h0 s1 "java/lang/String") (F_value_s1 : Fld Z h0 s1 "java/lang/String" "value" "[B" .null) (F_coder_s1 : Fld Z h0 s1 "java/lang/String" "coder" "B" (.int 0)) (g_s1 : n0 ≤ s1) (E_x1 : Exa Z h0 x1 "java/lang/StringBuilder") (F_value_x1 : Fld Z h0 x1 "java/lang/AbstractStringBuilder" "value" "[B" (.ref vb)) (F_coder_x1 : Fld Z h0 x1 "java/lang/AbstractStringBuilder" "coder" "B" (.int cd)) (F_count_x1 : Fld Z h0 x1 "java/lang/AbstractStringBuilder" "count" "I" (.int (Int32.ofNat tot))) (F_maybeLatin1_x1 : Fld Z h0 x1 "java/lang/AbstractStringBuilder" "maybeLatin1" "Z" (.int 0)) (V_vb : Arv Z h0 vb kv .byte (Int32.ofNat Mb) (us ++ rs) (.int 0)) (hc : (cd = 0 ∧ us.length = tot) ∨ (cd = 1 ∧ us.length = 2 * tot)) (hlt : us.length < Mb) (hMb : Mb ≤ 100000) (hcap : us.length ≤ 32) :
    CT l (⟨"java/lang/String", "<init>", "(Ljava/lang/AbstractStringBuilder;Ljava/lang/Void;)V"⟩ : MethodName) jdk_42_method_150_code 5 none ws ({ frames := 3, cells := 1, slots := 32, locals := 78 } : Room) #[(.ref s1), (.ref x1), .null] Z h0 (Q_rmT2 Z s1 x1 vb kv us rs tot Mb G1 cd h0 n0) := by
  rcases hc with ⟨rfl, hu⟩ | ⟨rfl, hu⟩
  · exact rmT20 l Z a0 hw ws s1 x1 vb kv us rs tot Mb G1 h0 n0 Z0 Od O2 P5 E_s1 F_value_s1 F_coder_s1 g_s1 E_x1 F_value_x1 F_coder_x1 F_count_x1 F_maybeLatin1_x1 V_vb hu hlt hMb hcap
  · exact rmT21 l Z a0 hw ws s1 x1 vb kv us rs tot Mb G1 h0 n0 Z0 Od O2 P5 E_s1 F_value_s1 F_coder_s1 g_s1 E_x1 F_value_x1 F_coder_x1 F_count_x1 F_maybeLatin1_x1 V_vb hu hlt hMb hcap
def Q_rmT1 (Z : State) (s1 x1 : Addr) (vb : Addr) (kv : ClassId) (us rs : List Value) (tot Mb : Nat) (G1 : Int32) (cd : Int32) (h0 : Heap) (n0 : Nat) : Option Value → Heap → List Loc → Prop := fun v h L => ∃ (t : Addr) (kt : ClassId), v = none ∧ Fr n0 L ∧ Keep h0 h [s1] ∧ h0.size ≤ t ∧ Fld Z h s1 "java/lang/String" "value" "[B" (.ref t) ∧ Fld Z h s1 "java/lang/String" "coder" "B" (.int cd) ∧ Arv Z h t kt .byte (Int32.ofNat us.length) us (.int 0)
set_option maxRecDepth 65536 in
set_option maxHeartbeats 40000000 in
theorem rmT1 (l : Launch) (Z : State) (a0 : Array Value) (hw : ∀ d ∈ tables_1, d.before a0 Z = true) (ws : List Jvm.Cond) (s1 x1 : Addr) (vb : Addr) (kv : ClassId) (us rs : List Value) (tot Mb : Nat) (G1 : Int32) (cd : Int32) (h0 : Heap) (n0 : Nat) (Z0 : n0 ≤ h0.size) (Od : Old Z n0 h0) (O2 : Sta Z Z.heap "java/lang/String" "COMPACT_STRINGS" "Z" (.int G1)) (P5 : ¬ (G1 = (0 : Int32))) (E_s1 : Exa Z h0 s1 "java/lang/String") (F_value_s1 : Fld Z h0 s1 "java/lang/String" "value" "[B" .null) (F_coder_s1 : Fld Z h0 s1 "java/lang/String" "coder" "B" (.int 0)) (g_s1 : n0 ≤ s1) (E_x1 : Exa Z h0 x1 "java/lang/StringBuilder") (F_value_x1 : Fld Z h0 x1 "java/lang/AbstractStringBuilder" "value" "[B" (.ref vb)) (F_coder_x1 : Fld Z h0 x1 "java/lang/AbstractStringBuilder" "coder" "B" (.int cd)) (F_count_x1 : Fld Z h0 x1 "java/lang/AbstractStringBuilder" "count" "I" (.int (Int32.ofNat tot))) (F_maybeLatin1_x1 : Fld Z h0 x1 "java/lang/AbstractStringBuilder" "maybeLatin1" "Z" (.int 0)) (V_vb : Arv Z h0 vb kv .byte (Int32.ofNat Mb) (us ++ rs) (.int 0)) (hc : (cd = 0 ∧ us.length = tot) ∨ (cd = 1 ∧ us.length = 2 * tot)) (hlt : us.length < Mb) (hMb : Mb ≤ 100000) (hcap : us.length ≤ 32) :
    CT l (⟨"java/lang/String", "<init>", "(Ljava/lang/StringBuilder;)V"⟩ : MethodName) jdk_42_method_53_code 2 none ws ({ frames := 4, cells := 1, slots := 32, locals := 98 } : Room) #[(.ref s1), (.ref x1)] Z h0 (Q_rmT1 Z s1 x1 vb kv us rs tot Mb G1 cd h0 n0) := by
  refine Go.start (plainFor_of_name pn_1) ?_
  intro p e s m below meth c s₁ Bd hx hby hml hZ hown X0 e0
  replace hown : s.vm.findClass "java/lang/String" = some m.cls := hown
  have N0 := Fr.nil n0
  rw [show entryFrame m #[(.ref s1), (.ref x1)] 2 = (mkF m 0 #[.val (.ref s1), .val (.ref x1)] []) from by first | (simp [entryFrame, mkF, argsToLocals, Value.category, maxLocals]; done) | rfl]
  refine Go.by (fun t => XS.aloadN X0.here hx rfl (dB hby D23 0 rfl) rfl rfl) ?_
  refine Go.by (fun t => XS.aloadN X0.here hx rfl (dB hby D23 1 rfl) rfl rfl) ?_
  refine Go.by (fun t => XS.aconstNull X0.here hx rfl (dB hby D23 2 rfl)) ?_
  obtain ⟨_, _, ⟨T251, L251, k251, n251⟩, -, X251, ⟨Lc251, hQ251, l251, y251, z251⟩, st251⟩ := X0.specialBack hx (y := (⟨"java/lang/String", "<init>", "(Ljava/lang/AbstractStringBuilder;Ljava/lang/Void;)V"⟩ : MethodName)) rfl hown (mvT hZ (wd hw 141 rfl)) (mvT hZ (wd hw 142 rfl)) (mvT hZ (wd hw 143 rfl)) (by decide) (backOf (W := 0) (rmT2 l Z a0 hw [] s1 x1 vb kv us rs tot Mb G1 cd h0 n0 Z0 Od O2 P5 E_s1 F_value_s1 F_coder_s1 g_s1 E_x1 F_value_x1 F_coder_x1 F_count_x1 F_maybeLatin1_x1 V_vb hc hlt hMb hcap) hZ (wd hw 143 rfl) (wd hw 8 rfl) (by decide) (by decide)) (g := (mkF m 3 #[.val (.ref s1), .val (.ref x1)] [.null, (.ref x1), (.ref s1)])) rfl (by rw [hml]; rfl) (Steps.refl _) (a := s1) (argsL := [(.ref x1), .null]) (rest := []) (lenOf pd_22 rfl) rfl (by show 2 * 0 + _ ≤ _; exact Nat.le_of_eq rfl) (dB hby D23 3 rfl) (fun _ _ => ⟨rfl, e0, (by decide : 0 + 1 ≤ _), (by decide : 0 + 32 ≤ _)⟩)
  dsimp only [Pt.U, Pt.locs, Pt.cells, Pt.slots] at X251 l251 y251 z251 st251 hQ251
  subst y251 z251
  obtain ⟨t, kt, rfl, Nq251, K251, sz_t, Fv, Fc, V_t⟩ := hQ251
  have N251 : Fr n0 L251 := by rw [l251]; exact Fr.app N0 Nq251
  clear l251
  refine Go.by (fun t => st251.trans) ?_
  replace X251 := Stand.num (C := 1) (S := 32) X251 rfl rfl
  exact Go.ret0 X251 hx Bd.returns Bd.notSynchronized (dB hby D23 4 rfl) (by decide) (by decide) ⟨t, kt, rfl, N251, K251, sz_t, Fv, Fc, V_t⟩
def Q_rmTS (Z : State) (x1 : Addr) (vb : Addr) (kv : ClassId) (us rs : List Value) (tot Mb : Nat) (G1 : Int32) (cd : Int32) (h0 : Heap) (n0 : Nat) : Option Value → Heap → List Loc → Prop := fun v h L => ∃ (r t : Addr) (kt : ClassId), v = some (.ref r) ∧ Fr n0 L ∧ Keep h0 h [] ∧ h0.size ≤ r ∧ Exa Z h r "java/lang/String" ∧ Fld Z h r "java/lang/String" "value" "[B" (.ref t) ∧ Fld Z h r "java/lang/String" "coder" "B" (.int cd) ∧ Arv Z h t kt .byte (Int32.ofNat us.length) us (.int 0)
set_option maxRecDepth 65536 in
set_option maxHeartbeats 40000000 in
theorem rmTS (l : Launch) (Z : State) (a0 : Array Value) (hw : ∀ d ∈ tables_1, d.before a0 Z = true) (ws : List Jvm.Cond) (x1 : Addr) (vb : Addr) (kv : ClassId) (us rs : List Value) (tot Mb : Nat) (G1 : Int32) (cd : Int32) (h0 : Heap) (n0 : Nat) (Z0 : n0 ≤ h0.size) (Od : Old Z n0 h0) (O2 : Sta Z Z.heap "java/lang/String" "COMPACT_STRINGS" "Z" (.int G1)) (P5 : ¬ (G1 = (0 : Int32))) (E_x1 : Exa Z h0 x1 "java/lang/StringBuilder") (F_value_x1 : Fld Z h0 x1 "java/lang/AbstractStringBuilder" "value" "[B" (.ref vb)) (F_coder_x1 : Fld Z h0 x1 "java/lang/AbstractStringBuilder" "coder" "B" (.int cd)) (F_count_x1 : Fld Z h0 x1 "java/lang/AbstractStringBuilder" "count" "I" (.int (Int32.ofNat tot))) (F_maybeLatin1_x1 : Fld Z h0 x1 "java/lang/AbstractStringBuilder" "maybeLatin1" "Z" (.int 0)) (V_vb : Arv Z h0 vb kv .byte (Int32.ofNat Mb) (us ++ rs) (.int 0)) (hc : (cd = 0 ∧ us.length = tot) ∨ (cd = 1 ∧ us.length = 2 * tot)) (hlt : us.length < Mb) (hMb : Mb ≤ 100000) (hcap : us.length ≤ 32) :
    CT l (⟨"java/lang/StringBuilder", "toString", "()Ljava/lang/String;"⟩ : MethodName) jdk_67_method_42_code 1 (some (.object "java/lang/String")) ws ({ frames := 5, cells := 2, slots := 36, locals := 114 } : Room) #[(.ref x1)] Z h0 (Q_rmTS Z x1 vb kv us rs tot Mb G1 cd h0 n0) := by
  refine Go.start (plainFor_of_name pn_5) ?_
  intro p e s m below meth c s₁ Bd hx hby hml hZ hown X0 e0
  replace hown : s.vm.findClass "java/lang/StringBuilder" = some m.cls := hown
  have N0 := Fr.nil n0
  rw [show entryFrame m #[(.ref x1)] 1 = (mkF m 0 #[.val (.ref x1)] []) from by first | (simp [entryFrame, mkF, argsToLocals, Value.category, maxLocals]; done) | rfl]
  have K0 : Keep h0 h0 [] := Keep.refl _ _
  obtain ⟨T252, h252, X252, e252, E252, A252, D252, -, st252⟩ := newO X0 hx hZ hown (wd hw 137 rfl) (wd hw 7 rfl) (wd hw 8 rfl) e0 (g := (mkF m 0 #[.val (.ref x1)] [])) rfl (dB hby D22 0 rfl) (by decide) (by decide)
  obtain ⟨s1, g252⟩ : ∃ z, z = h0.size := ⟨_, rfl⟩
  rw [← g252] at A252 D252 st252
  refine Go.by (fun t => st252 t) ?_
  have g_s1 : n0 ≤ s1 := Nat.le_trans Z0 (Nat.le_of_eq g252.symm)
  have sz_s1 : h0.size ≤ s1 := Nat.le_trans K0.1 (Nat.le_of_eq g252.symm)
  have ne_vb_s1 : vb ≠ s1 := Nat.ne_of_lt (Nat.lt_of_lt_of_le V_vb.lt (Nat.le_of_eq g252.symm))
  have ne_x1_s1 : x1 ≠ s1 := Nat.ne_of_lt (Nat.lt_of_lt_of_le E_x1.lt (Nat.le_of_eq g252.symm))
  replace Od := Od.ext E252
  replace E_x1 := E_x1.ext E252
  replace F_value_x1 := F_value_x1.ext E252
  replace F_coder_x1 := F_coder_x1.ext E252
  replace F_count_x1 := F_count_x1.ext E252
  replace F_maybeLatin1_x1 := F_maybeLatin1_x1.ext E252
  replace V_vb := V_vb.ext E252
  replace Z0 := Nat.le_trans Z0 E252.1
  replace K0 := K0.ext E252
  have E_s1 := A252
  have F_coder_s1 : Fld Z h252 s1 "java/lang/String" "coder" "B" (.int (0 : Int32)) := D252 (Or.inr (wd hw 33 rfl)) (ty := .byte) (by decide)
  have F_value_s1 : Fld Z h252 s1 "java/lang/String" "value" "[B" .null := D252 (Or.inr (wd hw 35 rfl)) (ty := (.array .byte)) (by decide)
  replace X252 := Stand.num (C := 1) (S := 4) X252 rfl rfl
  refine Go.by (fun t => XS.dup X252.here hx rfl (dB hby D22 1 rfl) rfl rfl) ?_
  refine Go.by (fun t => XS.aloadN X252.here hx rfl (dB hby D22 2 rfl) rfl rfl) ?_
  obtain ⟨_, _, ⟨T253, L253, k253, n253⟩, -, X253, ⟨Lc253, hQ253, l253, y253, z253⟩, st253⟩ := X252.specialBack hx (y := (⟨"java/lang/String", "<init>", "(Ljava/lang/StringBuilder;)V"⟩ : MethodName)) rfl hown (mvT hZ (wd hw 138 rfl)) (mvT hZ (wd hw 139 rfl)) (mvT hZ (wd hw 140 rfl)) (by decide) (backOf (W := 1) (rmT1 l Z a0 hw [] s1 x1 vb kv us rs tot Mb G1 cd h252 n0 Z0 Od O2 P5 E_s1 F_value_s1 F_coder_s1 g_s1 E_x1 F_value_x1 F_coder_x1 F_count_x1 F_maybeLatin1_x1 V_vb hc hlt hMb hcap) hZ (wd hw 140 rfl) (wd hw 8 rfl) (by decide) (by decide)) (g := (mkF m 5 #[.val (.ref x1)] [(.ref x1), (.ref s1), (.ref s1)])) rfl (by rw [hml]; rfl) (Steps.refl _) (a := s1) (argsL := [(.ref x1)]) (rest := [(.ref s1)]) (lenOf pd_21 rfl) rfl (by show 2 * 0 + _ ≤ _; exact Nat.le_of_eq rfl) (dB hby D22 3 rfl) (fun _ _ => ⟨rfl, e252, (by decide : 1 + 1 ≤ _), (by decide : 4 + 32 ≤ _)⟩)
  dsimp only [Pt.U, Pt.locs, Pt.cells, Pt.slots] at X253 l253 y253 z253 st253 hQ253
  subst y253 z253
  obtain ⟨t, kt, rfl, Nq253, K253, sz_t, Fv, Fc, V_t⟩ := hQ253
  have N253 : Fr n0 L253 := by rw [l253]; exact Fr.app N0 Nq253
  clear l253
  refine Go.by (fun t => st253.trans) ?_
  replace X253 := Stand.num (C := 2) (S := 36) X253 rfl rfl
  replace E_s1 := E_s1.keep K253
  replace Z0 := Nat.le_trans Z0 K253.1
  replace K0 := K0.trans K253 (allS (P := fun x => x ∈ _ ∨ _ ≤ x) (Or.inr sz_s1) all0)
  show Go p e below _ (T253.setTop (mkF m 8 #[.val (.ref x1)] [(.ref s1)]))
  exact Go.ret1 X253 hx Bd.returns Bd.notSynchronized rfl (Or.inr (Or.inr (Or.inr (Or.inr ⟨rfl, rfl, rfl⟩)))) (dB hby D22 4 rfl) (by decide) (by decide) ⟨s1, t, kt, rfl, N253, K0, sz_s1, E_s1, Fv, Fc, V_t⟩
def Q_rm36 (Z : State) (t1 : Addr) (kt : ClassId) (N : Int32) (vs : List Value) (i1 x1 c1 : Int32) (G3 : Value) (h0 : Heap) (n0 : Nat) : Option Value → Heap → List Loc → Prop := fun v h L => v = some (.int c1) ∧ Fr n0 L ∧ h = h0
set_option maxRecDepth 65536 in
set_option maxHeartbeats 40000000 in
theorem rm36 (l : Launch) (Z : State) (a0 : Array Value) (hw : ∀ d ∈ tables_1, d.before a0 Z = true) (ws : List Jvm.Cond) (t1 : Addr) (kt : ClassId) (N : Int32) (vs : List Value) (i1 x1 c1 : Int32) (G3 : Value) (h0 : Heap) (n0 : Nat) (Od : Old Z n0 h0) (O4 : Sta Z Z.heap "jdk/internal/util/Preconditions" "SIOOBE_FORMATTER" "Ljava/util/function/BiFunction;" G3) (rG3 : G3.isRef = true) (V_t1 : Arv Z h0 t1 kt .byte N vs (.int 0)) (q1 : ¬ (i1 < (0 : Int32))) (q2 : i1 < N) (at1 : vs.getD i1.toNatClampNeg (.int 0) = .int x1) (hch : (x1 &&& (255 : Int32)).toUInt32.toUInt16.toUInt32.toInt32 = c1) :
    CT l (⟨"java/lang/StringLatin1", "charAt", "([BI)C"⟩ : MethodName) jdk_43_method_2_code 2 (some .char) ws ({ frames := 2, cells := 0, slots := 0, locals := 32 } : Room) #[(.ref t1), (.int i1)] Z h0 (Q_rm36 Z t1 kt N vs i1 x1 c1 G3 h0 n0) := by
  refine Go.start (plainFor_of_name pn_9) ?_
  intro p e s m below meth c s₁ Bd hx hby hml hZ hown X0 e0
  replace hown : s.vm.findClass "java/lang/StringLatin1" = some m.cls := hown
  have N0 := Fr.nil n0
  rw [show entryFrame m #[(.ref t1), (.int i1)] 2 = (mkF m 0 #[.val (.ref t1), .val (.int i1)] []) from by first | (simp [entryFrame, mkF, argsToLocals, Value.category, maxLocals]; done) | rfl]
  refine Go.by (fun t => XS.iloadN X0.here hx rfl (dB hby D36 0 rfl) rfl ) ?_
  refine Go.by (fun t => XS.aloadN X0.here hx rfl (dB hby D36 1 rfl) rfl rfl) ?_
  obtain ⟨cl_254, Ar_254, q_254, S_254, M_254, -, -⟩ := id V_t1
  refine Go.by (fun t => X0.arraylength hx (by first | exact Ar_254.1 | (rw [e0]; exact Ar_254.1)) (State.isArrayOf_alike hZ.alike Ar_254.2.1) (g := (mkF m 2 #[.val (.ref t1), .val (.int i1)] [(.ref t1), (.int i1)])) rfl rfl (dB hby D36 2 rfl) t) ?_
  rw [len_of S_254 M_254]
  obtain ⟨_, _, ⟨T255, L255, k255, n255⟩, -, X255, ⟨Lc255, hQ255, l255, y255, z255⟩, st255⟩ := Jvm.LawKit.callS X0 hx (y := (⟨"java/lang/String", "checkIndex", "(II)V"⟩ : MethodName)) hown (mvT hZ (wd hw 195 rfl)) (mvT hZ (wd hw 196 rfl)) (mvT hZ (wd hw 8 rfl)) (mvT hZ (wd hw 197 rfl)) (by decide) (backOf (W := 0) (rm37 l Z a0 hw [] i1 N G3 h0 n0 Od O4 rG3 q1 q2) hZ (wd hw 197 rfl) (wd hw 8 rfl) (by decide) (by decide)) (g := (mkF m 3 #[.val (.ref t1), .val (.int i1)] [(.int N), (.int i1)])) rfl (by rw [hml]; rfl) (argsL := [(.int i1), (.int N)]) (rest := []) (lenOf pd_26 rfl) rfl (by show 2 * 0 + _ ≤ _; exact Nat.le_of_eq rfl) (dB hby D36 3 rfl) (fun _ _ => ⟨rfl, e0, (by decide : 0 + 0 ≤ _), (by decide : 0 + 0 ≤ _)⟩)
  dsimp only [Pt.U, Pt.locs, Pt.cells, Pt.slots] at X255 l255 y255 z255 st255 hQ255
  subst y255 z255
  obtain ⟨rfl, Nq255, e255⟩ := hQ255
  have N255 : Fr n0 L255 := by rw [l255]; exact Fr.app N0 Nq255
  clear l255
  refine Go.by (fun t => st255 t) ?_
  refine Go.by (fun t => XS.aloadN X255.here hx rfl (dB hby D36 4 rfl) rfl rfl) ?_
  refine Go.by (fun t => XS.iloadN X255.here hx rfl (dB hby D36 5 rfl) rfl ) ?_
  obtain ⟨cl_256, Ar_256, q_256, S_256, M_256, H_256, G_256⟩ := id V_t1
  have in_256 := inb_of S_256 (j := i1) ⟨q1, q2⟩
  refine Go.by (fun t => X255.baloadBytes hx (j := i1) (v := (.int x1)) (by first | exact Ar_256.1 | (rw [e255]; exact Ar_256.1)) (State.isArrayOf_alike hZ.alike Ar_256.2.1) Ar_256.2.2 in_256 (H_256.at in_256 at1) (g := (mkF m 8 #[.val (.ref t1), .val (.int i1)] [(.int i1), (.ref t1)])) rfl rfl (dB hby D36 6 rfl) t) ?_
  show Go p e below _ (T255.setTop (mkF m 9 #[.val (.ref t1), .val (.int i1)] [(.int x1)]))
  refine Go.by (fun t => XS.sipush X255.here hx rfl (dB hby D36 7 rfl)) ?_
  refine Go.by (fun t => XS.iand X255.here hx rfl (dB hby D36 8 rfl) rfl) ?_
  refine Go.by (fun t => XS.i2c X255.here hx rfl (dB hby D36 9 rfl) rfl) ?_
  have hch' : ((x1 &&& (255 : Int32)).toUInt32.toUInt16.toUInt32.toInt32) = c1 := hch
  show Go p e below _ (T255.setTop (mkF m 14 #[.val (.ref t1), .val (.int i1)] [(.int ((x1 &&& (255 : Int32)).toUInt32.toUInt16.toUInt32.toInt32))]))
  rw [hch']
  exact Go.ret1 X255 hx Bd.returns Bd.notSynchronized (by rw [← hch]; exact nar_i2c _) (Or.inl ⟨rfl, by simp, _, rfl⟩) (dB hby D36 10 rfl) (by decide) (by decide) (by first | (rw [e255]; exact ⟨rfl, N255, rfl⟩) | exact ⟨rfl, N255, rfl⟩)
def Q_rmCA0 (Z : State) (s1 t1 : Addr) (kt : ClassId) (N : Int32) (vs : List Value) (i1 x1 c1 : Int32) (G1 : Int32) (G3 : Value) (h0 : Heap) (n0 : Nat) : Option Value → Heap → List Loc → Prop := fun v h L => v = some (.int c1) ∧ Fr n0 L ∧ h = h0
set_option maxRecDepth 65536 in
set_option maxHeartbeats 40000000 in
theorem rmCA0 (l : Launch) (Z : State) (a0 : Array Value) (hw : ∀ d ∈ tables_1, d.before a0 Z = true) (ws : List Jvm.Cond) (s1 t1 : Addr) (kt : ClassId) (N : Int32) (vs : List Value) (i1 x1 c1 : Int32) (G1 : Int32) (G3 : Value) (h0 : Heap) (n0 : Nat) (Od : Old Z n0 h0) (A1 : Sta Z Z.heap "java/lang/StringUTF16" "$assertionsDisabled" "Z" (.int 1)) (HS : Sta Z Z.heap "java/lang/StringUTF16" "HI_BYTE_SHIFT" "I" (.int 0)) (LS : Sta Z Z.heap "java/lang/StringUTF16" "LO_BYTE_SHIFT" "I" (.int 8)) (O4 : Sta Z Z.heap "jdk/internal/util/Preconditions" "SIOOBE_FORMATTER" "Ljava/util/function/BiFunction;" G3) (rG3 : G3.isRef = true) (O2 : Sta Z Z.heap "java/lang/String" "COMPACT_STRINGS" "Z" (.int G1)) (P5 : ¬ (G1 = (0 : Int32))) (E_s1 : Exa Z h0 s1 "java/lang/String") (F_value_s1 : Fld Z h0 s1 "java/lang/String" "value" "[B" (.ref t1)) (F_coder_s1 : Fld Z h0 s1 "java/lang/String" "coder" "B" (.int 0)) (V_t1 : Arv Z h0 t1 kt .byte N vs (.int 0)) (q1 : ¬ (i1 < (0 : Int32))) (q2 : i1 < N) (at1 : vs.getD i1.toNatClampNeg (.int 0) = .int x1) (hch : (x1 &&& (255 : Int32)).toUInt32.toUInt16.toUInt32.toInt32 = c1) :
    CT l (⟨"java/lang/String", "charAt", "(I)C"⟩ : MethodName) jdk_42_method_56_code 2 (some .char) ws ({ frames := 4, cells := 0, slots := 0, locals := 62 } : Room) #[(.ref s1), (.int i1)] Z h0 (Q_rmCA0 Z s1 t1 kt N vs i1 x1 c1 G1 G3 h0 n0) := by
  refine Go.start (plainFor_of_name pn_1) ?_
  intro p e s m below meth c s₁ Bd hx hby hml hZ hown X0 e0
  replace hown : s.vm.findClass "java/lang/String" = some m.cls := hown
  have N0 := Fr.nil n0
  rw [show entryFrame m #[(.ref s1), (.int i1)] 2 = (mkF m 0 #[.val (.ref s1), .val (.int i1)] []) from by first | (simp [entryFrame, mkF, argsToLocals, Value.category, maxLocals]; done) | rfl]
  refine Go.by (fun t => XS.aloadN X0.here hx rfl (dB hby D34 0 rfl) rfl rfl) ?_
  obtain ⟨cq257, kq257, q257a, q257b, q257c⟩ := isOf hZ e0 E_s1
  obtain ⟨_, _, ⟨T257, L257, k257, n257⟩, -, X257, ⟨Lc257, hQ257, l257, y257, z257⟩, st257⟩ := X0.virtualBack hx (y := (⟨"java/lang/String", "isLatin1", "()Z"⟩ : MethodName)) (z := (⟨"java/lang/String", "isLatin1", "()Z"⟩ : MethodName)) hown (mvT hZ (wd hw 186 rfl)) (mvT hZ (wd hw 187 rfl)) (notFace_of_selects (args := #[]) (mvT hZ (wd hw 189 rfl))) (mvT hZ (wd hw 189 rfl)) (mvT hZ (wd hw 188 rfl)) (by decide) (backOf (W := 0) (rmIL0 l Z a0 hw [] s1 G1 h0 n0 Od O2 P5 F_coder_s1) hZ (wd hw 190 rfl) (wd hw 8 rfl) (by decide) (by decide)) q257a q257c (g := (mkF m 1 #[.val (.ref s1), .val (.int i1)] [(.ref s1)])) rfl (by rw [hml]; rfl) (Steps.refl _) (argsL := []) (rest := []) (lenOf pd_24 rfl) rfl (by show 2 * 0 + _ ≤ _; exact Nat.le_of_eq rfl) (dB hby D34 1 rfl) (fun _ _ => ⟨rfl, e0, (by decide : 0 + 0 ≤ _), (by decide : 0 + 0 ≤ _)⟩)
  dsimp only [Pt.U, Pt.locs, Pt.cells, Pt.slots] at X257 l257 y257 z257 st257 hQ257
  subst y257 z257
  obtain ⟨rfl, Nq257, e257⟩ := hQ257
  have N257 : Fr n0 L257 := by rw [l257]; exact Fr.app N0 Nq257
  clear l257
  refine Go.by (fun t => st257.trans) ?_
  refine Go.by (fun t => XS.ifNo X257.here hx rfl (dB hby D34 2 rfl) rfl ((if0 _ _).trans (feq (by decide : ¬ ((1 : Int32) = (0 : Int32)))).1)) ?_
  refine Go.by (fun t => XS.aloadN X257.here hx rfl (dB hby D34 3 rfl) rfl rfl) ?_
  obtain ⟨T258, X258, e258, st258⟩ := getF X257 hx hZ hown (host := "") (Or.inl (wd hw 34 rfl)) Via.refl e257 F_value_s1 (g := (mkF m 8 #[.val (.ref s1), .val (.int i1)] [(.ref s1)])) rfl rfl (dB hby D34 4 rfl)
  refine Go.by (fun t => st258 t) ?_
  show Go p e below _ (T258.setTop (mkF m 11 #[.val (.ref s1), .val (.int i1)] [(.ref t1)]))
  refine Go.by (fun t => XS.iloadN X258.here hx rfl (dB hby D34 5 rfl) rfl ) ?_
  obtain ⟨_, _, ⟨T259, L259, k259, n259⟩, -, X259, ⟨Lc259, hQ259, l259, y259, z259⟩, st259⟩ := Jvm.LawKit.callS X258 hx (y := (⟨"java/lang/StringLatin1", "charAt", "([BI)C"⟩ : MethodName)) hown (mvT hZ (wd hw 191 rfl)) (mvT hZ (wd hw 192 rfl)) (mvT hZ (wd hw 193 rfl)) (mvT hZ (wd hw 194 rfl)) (by decide) (backOf (W := 0) (rm36 l Z a0 hw [] t1 kt N vs i1 x1 c1 G3 h0 n0 Od O4 rG3 V_t1 q1 q2 at1 hch) hZ (wd hw 194 rfl) (wd hw 193 rfl) (by decide) (by decide)) (g := (mkF m 12 #[.val (.ref s1), .val (.int i1)] [(.int i1), (.ref t1)])) rfl (by rw [hml]; rfl) (argsL := [(.ref t1), (.int i1)]) (rest := []) (lenOf pd_11 rfl) rfl (by show 2 * 0 + _ ≤ _; exact Nat.le_of_eq rfl) (dB hby D34 6 rfl) (fun _ _ => ⟨rfl, e258, (by decide : 0 + 0 ≤ _), (by decide : 0 + 0 ≤ _)⟩)
  dsimp only [Pt.U, Pt.locs, Pt.cells, Pt.slots] at X259 l259 y259 z259 st259 hQ259
  subst y259 z259
  obtain ⟨rfl, Nq259, e259⟩ := hQ259
  have N259 : Fr n0 L259 := by rw [l259]; exact Fr.app N257 Nq259
  clear l259
  refine Go.by (fun t => st259 t) ?_
  exact Go.ret1 X259 hx Bd.returns Bd.notSynchronized (by rw [← hch]; exact nar_i2c _) (Or.inl ⟨rfl, by simp, _, rfl⟩) (dB hby D34 7 rfl) (by decide) (by decide) (by first | (rw [e259]; exact ⟨rfl, N259, rfl⟩) | exact ⟨rfl, N259, rfl⟩)
def Q_rmCA1 (Z : State) (s1 t1 : Addr) (kt : ClassId) (N : Int32) (vs : List Value) (i1 j1 x1 y1 c1 z2 : Int32) (G1 : Int32) (G3 : Value) (h0 : Heap) (n0 : Nat) : Option Value → Heap → List Loc → Prop := fun v h L => v = some (.int c1) ∧ Fr n0 L ∧ h = h0
set_option maxRecDepth 65536 in
set_option maxHeartbeats 40000000 in
theorem rmCA1 (l : Launch) (Z : State) (a0 : Array Value) (hw : ∀ d ∈ tables_1, d.before a0 Z = true) (ws : List Jvm.Cond) (s1 t1 : Addr) (kt : ClassId) (N : Int32) (vs : List Value) (i1 j1 x1 y1 c1 z2 : Int32) (G1 : Int32) (G3 : Value) (h0 : Heap) (n0 : Nat) (Od : Old Z n0 h0) (A1 : Sta Z Z.heap "java/lang/StringUTF16" "$assertionsDisabled" "Z" (.int 1)) (HS : Sta Z Z.heap "java/lang/StringUTF16" "HI_BYTE_SHIFT" "I" (.int 0)) (LS : Sta Z Z.heap "java/lang/StringUTF16" "LO_BYTE_SHIFT" "I" (.int 8)) (O4 : Sta Z Z.heap "jdk/internal/util/Preconditions" "SIOOBE_FORMATTER" "Ljava/util/function/BiFunction;" G3) (rG3 : G3.isRef = true) (O2 : Sta Z Z.heap "java/lang/String" "COMPACT_STRINGS" "Z" (.int G1)) (P5 : ¬ (G1 = (0 : Int32))) (E_s1 : Exa Z h0 s1 "java/lang/String") (F_value_s1 : Fld Z h0 s1 "java/lang/String" "value" "[B" (.ref t1)) (F_coder_s1 : Fld Z h0 s1 "java/lang/String" "coder" "B" (.int 1)) (V_t1 : Arv Z h0 t1 kt .byte N vs (.int 0)) (hr : (N >>> ((1 : Int32) &&& 31)) = z2) (q1 : ¬ (i1 < (0 : Int32))) (q2 : i1 < z2) (hj1 : (i1 <<< ((1 : Int32) &&& 31)) = j1) (in1 : ¬ j1 < 0 ∧ j1 < N) (in2 : ¬ (j1 + (1 : Int32)) < 0 ∧ (j1 + (1 : Int32)) < N) (at1 : vs.getD j1.toNatClampNeg (.int 0) = .int x1) (at2 : vs.getD (j1 + (1 : Int32)).toNatClampNeg (.int 0) = .int y1) (hch : ch16 x1 y1 = c1) :
    CT l (⟨"java/lang/String", "charAt", "(I)C"⟩ : MethodName) jdk_42_method_56_code 2 (some .char) ws ({ frames := 4, cells := 0, slots := 0, locals := 62 } : Room) #[(.ref s1), (.int i1)] Z h0 (Q_rmCA1 Z s1 t1 kt N vs i1 j1 x1 y1 c1 z2 G1 G3 h0 n0) := by
  refine Go.start (plainFor_of_name pn_1) ?_
  intro p e s m below meth c s₁ Bd hx hby hml hZ hown X0 e0
  replace hown : s.vm.findClass "java/lang/String" = some m.cls := hown
  have N0 := Fr.nil n0
  rw [show entryFrame m #[(.ref s1), (.int i1)] 2 = (mkF m 0 #[.val (.ref s1), .val (.int i1)] []) from by first | (simp [entryFrame, mkF, argsToLocals, Value.category, maxLocals]; done) | rfl]
  refine Go.by (fun t => XS.aloadN X0.here hx rfl (dB hby D34 0 rfl) rfl rfl) ?_
  obtain ⟨cq260, kq260, q260a, q260b, q260c⟩ := isOf hZ e0 E_s1
  obtain ⟨_, _, ⟨T260, L260, k260, n260⟩, -, X260, ⟨Lc260, hQ260, l260, y260, z260⟩, st260⟩ := X0.virtualBack hx (y := (⟨"java/lang/String", "isLatin1", "()Z"⟩ : MethodName)) (z := (⟨"java/lang/String", "isLatin1", "()Z"⟩ : MethodName)) hown (mvT hZ (wd hw 186 rfl)) (mvT hZ (wd hw 187 rfl)) (notFace_of_selects (args := #[]) (mvT hZ (wd hw 189 rfl))) (mvT hZ (wd hw 189 rfl)) (mvT hZ (wd hw 188 rfl)) (by decide) (backOf (W := 0) (rmIL1 l Z a0 hw [] s1 G1 h0 n0 Od O2 P5 F_coder_s1) hZ (wd hw 190 rfl) (wd hw 8 rfl) (by decide) (by decide)) q260a q260c (g := (mkF m 1 #[.val (.ref s1), .val (.int i1)] [(.ref s1)])) rfl (by rw [hml]; rfl) (Steps.refl _) (argsL := []) (rest := []) (lenOf pd_24 rfl) rfl (by show 2 * 0 + _ ≤ _; exact Nat.le_of_eq rfl) (dB hby D34 1 rfl) (fun _ _ => ⟨rfl, e0, (by decide : 0 + 0 ≤ _), (by decide : 0 + 0 ≤ _)⟩)
  dsimp only [Pt.U, Pt.locs, Pt.cells, Pt.slots] at X260 l260 y260 z260 st260 hQ260
  subst y260 z260
  obtain ⟨rfl, Nq260, e260⟩ := hQ260
  have N260 : Fr n0 L260 := by rw [l260]; exact Fr.app N0 Nq260
  clear l260
  refine Go.by (fun t => st260.trans) ?_
  refine Go.by (fun t => XS.ifYes X260.here hx rfl (pc0 := 4) (pc' := 16) rfl (dB hby D34 2 rfl) rfl ((if0 _ _).trans (teq (rfl : (0 : Int32) = (0 : Int32))).1) (by decide) (by decide)) ?_
  refine Go.by (fun t => XS.aloadN X260.here hx rfl (dB hby D34 8 rfl) rfl rfl) ?_
  obtain ⟨T261, X261, e261, st261⟩ := getF X260 hx hZ hown (host := "") (Or.inl (wd hw 34 rfl)) Via.refl e260 F_value_s1 (g := (mkF m 17 #[.val (.ref s1), .val (.int i1)] [(.ref s1)])) rfl rfl (dB hby D34 9 rfl)
  refine Go.by (fun t => st261 t) ?_
  show Go p e below _ (T261.setTop (mkF m 20 #[.val (.ref s1), .val (.int i1)] [(.ref t1)]))
  refine Go.by (fun t => XS.iloadN X261.here hx rfl (dB hby D34 10 rfl) rfl ) ?_
  obtain ⟨_, _, ⟨T262, L262, k262, n262⟩, -, X262, ⟨Lc262, hQ262, l262, y262, z262⟩, st262⟩ := Jvm.LawKit.callS X261 hx (y := (⟨"java/lang/StringUTF16", "charAt", "([BI)C"⟩ : MethodName)) hown (mvT hZ (wd hw 254 rfl)) (mvT hZ (wd hw 255 rfl)) (mvT hZ (wd hw 23 rfl)) (mvT hZ (wd hw 256 rfl)) (by decide) (backOf (W := 0) (rm51 l Z a0 hw [] t1 kt N vs i1 j1 x1 y1 c1 z2 G3 h0 n0 Od A1 HS LS O4 rG3 V_t1 hr q1 q2 hj1 in1 in2 at1 at2 hch) hZ (wd hw 256 rfl) (wd hw 23 rfl) (by decide) (by decide)) (g := (mkF m 21 #[.val (.ref s1), .val (.int i1)] [(.int i1), (.ref t1)])) rfl (by rw [hml]; rfl) (argsL := [(.ref t1), (.int i1)]) (rest := []) (lenOf pd_11 rfl) rfl (by show 2 * 0 + _ ≤ _; exact Nat.le_of_eq rfl) (dB hby D34 11 rfl) (fun _ _ => ⟨rfl, e261, (by decide : 0 + 0 ≤ _), (by decide : 0 + 0 ≤ _)⟩)
  dsimp only [Pt.U, Pt.locs, Pt.cells, Pt.slots] at X262 l262 y262 z262 st262 hQ262
  subst y262 z262
  obtain ⟨rfl, Nq262, e262⟩ := hQ262
  have N262 : Fr n0 L262 := by rw [l262]; exact Fr.app N260 Nq262
  clear l262
  refine Go.by (fun t => st262 t) ?_
  exact Go.ret1 X262 hx Bd.returns Bd.notSynchronized (by rw [← hch]; exact nar_ch16 _ _) (Or.inl ⟨rfl, by simp, _, rfl⟩) (dB hby D34 12 rfl) (by decide) (by decide) (by first | (rw [e262]; exact ⟨rfl, N262, rfl⟩) | exact ⟨rfl, N262, rfl⟩)
def Q_rmCA (Z : State) (s1 : Addr) (cs us : List Int32) (cx : Int32) (vs : List Int32) (i1 G1 : Int32) (G3 : Value) (h0 : Heap) (n0 : Nat) : Option Value → Heap → List Loc → Prop := fun v h L => v = some (.int cx) ∧ Fr n0 L ∧ h = h0
set_option maxRecDepth 65536 in
set_option maxHeartbeats 40000000 in
theorem rmCA (l : Launch) (Z : State) (a0 : Array Value) (hw : ∀ d ∈ tables_1, d.before a0 Z = true) (ws : List Jvm.Cond) (s1 : Addr) (cs us : List Int32) (cx : Int32) (vs : List Int32) (i1 G1 : Int32) (G3 : Value) (h0 : Heap) (n0 : Nat) (Od : Old Z n0 h0) (A1 : Sta Z Z.heap "java/lang/StringUTF16" "$assertionsDisabled" "Z" (.int 1)) (HS : Sta Z Z.heap "java/lang/StringUTF16" "HI_BYTE_SHIFT" "I" (.int 0)) (LS : Sta Z Z.heap "java/lang/StringUTF16" "LO_BYTE_SHIFT" "I" (.int 8)) (O4 : Sta Z Z.heap "jdk/internal/util/Preconditions" "SIOOBE_FORMATTER" "Ljava/util/function/BiFunction;" G3) (rG3 : G3.isRef = true) (O2 : Sta Z Z.heap "java/lang/String" "COMPACT_STRINGS" "Z" (.int G1)) (P5 : ¬ (G1 = (0 : Int32))) (S1 : StrU Z h0 s1 cs) (hk : cs.length < 1000000) (hcs : cs = us ++ cx :: vs) (hi : i1 = Int32.ofNat us.length) (bd : ¬ cx < 0 ∧ ¬ (65535 : Int32) < cx) :
    CT l (⟨"java/lang/String", "charAt", "(I)C"⟩ : MethodName) jdk_42_method_56_code 2 (some .char) ws ({ frames := 4, cells := 0, slots := 0, locals := 62 } : Room) #[(.ref s1), (.int i1)] Z h0 (Q_rmCA Z s1 cs us cx vs i1 G1 G3 h0 n0) := by
  subst hi
  obtain ⟨t, kt, E, F, ⟨C, la, A⟩ | ⟨C, -, A⟩⟩ := S1
  · exact rmCA0 l Z a0 hw ws s1 t kt _ _ _ (cx.toInt8.toInt32) cx G1 G3 h0 n0 Od A1 HS LS O4 rG3 O2 P5 E F C A (in_mid hcs (by omega)).1 (in_mid hcs (by omega)).2 (lat_at hcs (by omega)) (lat_and (la cx (by rw [hcs]; exact List.mem_append_right _ (List.mem_cons_self ..))))
  · have hn : cs.length = us.length + (vs.length + 1) := by rw [hcs, List.length_append, List.length_cons]
    exact rmCA1 l Z a0 hw ws s1 t kt _ _ _ (Int32.ofNat (2 * us.length)) (lo16 cx) (hi16 cx) cx (Int32.ofNat cs.length) G1 G3 h0 n0 Od A1 HS LS O4 rG3 O2 P5 E F C A (o_shr (by omega)) (in_mid hcs (by omega)).1 (in_mid hcs (by omega)).2 (o_shl _) (o_in (by omega) (by omega)) (by rw [o_one]; exact o_in (by omega) (by omega)) (utf_at hcs (by omega)).1 (utf_at hcs (by omega)).2 (cc16 bd)
def Q_rm9 (Z : State) (a1 : Addr) (h0 : Heap) (n0 : Nat) : Option Value → Heap → List Loc → Prop := fun v h L => v = none ∧ Fr n0 L ∧ h = h0
set_option maxRecDepth 65536 in
set_option maxHeartbeats 40000000 in
theorem rm9 (l : Launch) (Z : State) (a0 : Array Value) (hw : ∀ d ∈ tables_1, d.before a0 Z = true) (ws : List Jvm.Cond) (a1 : Addr) (h0 : Heap) (n0 : Nat)  :
    CT l (⟨"java/lang/Record", "<init>", "()V"⟩ : MethodName) jdk_30_method_1_code 1 none ws ({ frames := 1, cells := 0, slots := 0, locals := 12 } : Room) #[(.ref a1)] Z h0 (Q_rm9 Z a1 h0 n0) := by
  refine Go.start (plainFor_of_name pn_4) ?_
  intro p e s m below meth c s₁ Bd hx hby hml hZ hown X0 e0
  replace hown : s.vm.findClass "java/lang/Record" = some m.cls := hown
  have N0 := Fr.nil n0
  rw [show entryFrame m #[(.ref a1)] 1 = (mkF m 0 #[.val (.ref a1)] []) from by first | (simp [entryFrame, mkF, argsToLocals, Value.category, maxLocals]; done) | rfl]
  refine Go.by (fun t => XS.aloadN X0.here hx rfl (dB hby D9 0 rfl) rfl rfl) ?_
  obtain ⟨T263, X263, e263, st263⟩ := initO X0 hx hZ hown (wd hw 50 rfl) (wd hw 18 rfl) (wd hw 19 rfl) e0 (g := (mkF m 1 #[.val (.ref a1)] [(.ref a1)])) rfl (by rw [hml]; rfl) rfl (dB hby D9 1 rfl) (by decide) (W := 0) (by show 2 * 0 + _ ≤ _; exact Nat.le_of_eq rfl) (by decide)
  refine Go.by (fun t => st263 t) ?_
  exact Go.ret0 X263 hx Bd.returns Bd.notSynchronized (dB hby D9 2 rfl) (by decide) (by decide) (by first | (rw [e263]; exact ⟨rfl, N0, rfl⟩) | exact ⟨rfl, N0, rfl⟩)
def Q_rm8 (Z : State) (r1 kd s1 : Addr) (h0 : Heap) (n0 : Nat) : Option Value → Heap → List Loc → Prop := fun v h L => v = none ∧ Fr n0 L ∧ Keep h0 h [r1] ∧ Fld Z h r1 "com/example/harvest_rules/harvestrules/registry/SecretReference" "kind" "Lcom/example/harvest_rules/harvestrules/registry/SecretReference$Kind;" (.ref kd) ∧ Fld Z h r1 "com/example/harvest_rules/harvestrules/registry/SecretReference" "target" "Ljava/lang/String;" (.ref s1)
set_option maxRecDepth 65536 in
set_option maxHeartbeats 40000000 in
theorem rm8 (l : Launch) (Z : State) (a0 : Array Value) (hw : ∀ d ∈ tables_1, d.before a0 Z = true) (ws : List Jvm.Cond) (r1 kd s1 : Addr) (h0 : Heap) (n0 : Nat) (E_r1 : Exa Z h0 r1 "com/example/harvest_rules/harvestrules/registry/SecretReference") (F_kind_r1 : Fld Z h0 r1 "com/example/harvest_rules/harvestrules/registry/SecretReference" "kind" "Lcom/example/harvest_rules/harvestrules/registry/SecretReference$Kind;" .null) (F_target_r1 : Fld Z h0 r1 "com/example/harvest_rules/harvestrules/registry/SecretReference" "target" "Ljava/lang/String;" .null) (g_r1 : n0 ≤ r1) :
    CT l (⟨"com/example/harvest_rules/harvestrules/registry/SecretReference", "<init>", "(Lcom/example/harvest_rules/harvestrules/registry/SecretReference$Kind;Ljava/lang/String;)V"⟩ : MethodName) prog_52_method_1_code 3 none ws ({ frames := 2, cells := 0, slots := 0, locals := 28 } : Room) #[(.ref r1), (.ref kd), (.ref s1)] Z h0 (Q_rm8 Z r1 kd s1 h0 n0) := by
  refine Go.start (plainFor_of_name pn_3) ?_
  intro p e s m below meth c s₁ Bd hx hby hml hZ hown X0 e0
  replace hown : s.vm.findClass "com/example/harvest_rules/harvestrules/registry/SecretReference" = some m.cls := hown
  have hnm := (name_of_methodNamed Bd.named Bd.method).1
  have N0 := Fr.nil n0
  rw [show entryFrame m #[(.ref r1), (.ref kd), (.ref s1)] 3 = (mkF m 0 #[.val (.ref r1), .val (.ref kd), .val (.ref s1)] []) from by first | (simp [entryFrame, mkF, argsToLocals, Value.category, maxLocals]; done) | rfl]
  have K0 : Keep h0 h0 [r1] := Keep.refl _ _
  refine Go.by (fun t => XS.aloadN X0.here hx rfl (dB hby D8 0 rfl) rfl rfl) ?_
  obtain ⟨_, _, ⟨T264, L264, k264, n264⟩, -, X264, ⟨Lc264, hQ264, l264, y264, z264⟩, st264⟩ := X0.specialBack hx (y := (⟨"java/lang/Record", "<init>", "()V"⟩ : MethodName)) rfl hown (mvT hZ (wd hw 45 rfl)) (mvT hZ (wd hw 46 rfl)) (mvT hZ (wd hw 49 rfl)) (by decide) (backOf (W := 0) (rm9 l Z a0 hw [] r1 h0 n0) hZ (wd hw 49 rfl) (wd hw 48 rfl) (by decide) (by decide)) (g := (mkF m 1 #[.val (.ref r1), .val (.ref kd), .val (.ref s1)] [(.ref r1)])) rfl (by rw [hml]; rfl) (Steps.refl _) (a := r1) (argsL := []) (rest := []) (lenOf pd_7 rfl) rfl (by show 2 * 0 + _ ≤ _; exact Nat.le_of_eq rfl) (dB hby D8 1 rfl) (fun _ _ => ⟨rfl, e0, (by decide : 0 + 0 ≤ _), (by decide : 0 + 0 ≤ _)⟩)
  dsimp only [Pt.U, Pt.locs, Pt.cells, Pt.slots] at X264 l264 y264 z264 st264 hQ264
  subst y264 z264
  obtain ⟨rfl, Nq264, e264⟩ := hQ264
  have N264 : Fr n0 L264 := by rw [l264]; exact Fr.app N0 Nq264
  clear l264
  refine Go.by (fun t => st264.trans) ?_
  refine Go.by (fun t => XS.aloadN X264.here hx rfl (dB hby D8 2 rfl) rfl rfl) ?_
  refine Go.by (fun t => XS.aloadN X264.here hx rfl (dB hby D8 3 rfl) rfl rfl) ?_
  obtain ⟨T265, h265, X265, e265, W265, st265⟩ := putF X264 hx hZ hown (host := "") (Or.inl (wd hw 51 rfl)) Via.refl e264 F_kind_r1 E_r1 (Or.inr ⟨(wd hw 52 rfl), rfl, hnm⟩) (wd hw 40 rfl) (ty := (.object "com/example/harvest_rules/harvestrules/registry/SecretReference$Kind")) (by decide) rfl rfl (g := (mkF m 6 #[.val (.ref r1), .val (.ref kd), .val (.ref s1)] [(.ref kd), (.ref r1)])) rfl rfl (dB hby D8 4 rfl)
  refine Go.by (fun t => st265 t) ?_
  replace F_kind_r1 := F_kind_r1.same W265
  replace E_r1 := E_r1.wr W265
  replace F_target_r1 := F_target_r1.other W265 (Or.inr (slot_ne (Or.inr (wd hw 54 rfl)) (Or.inr (wd hw 52 rfl)) (by decide) (t := (.object "java/lang/String")) (t' := (.object "com/example/harvest_rules/harvestrules/registry/SecretReference$Kind")) (by decide) (by decide)))
  replace K0 := K0.wr W265 (Or.inl (List.mem_of_getElem? (i := 0) rfl))
  have N265 := Fr.snoc X265 N264 g_r1
  refine Go.by (fun t => XS.aloadN X265.here hx rfl (dB hby D8 5 rfl) rfl rfl) ?_
  refine Go.by (fun t => XS.aloadN X265.here hx rfl (dB hby D8 6 rfl) rfl rfl) ?_
  show Go p e below _ (T265.setTop (mkF m 11 #[.val (.ref r1), .val (.ref kd), .val (.ref s1)] [(.ref s1), (.ref r1)]))
  obtain ⟨T266, h266, X266, e266, W266, st266⟩ := putF X265 hx hZ hown (host := "") (Or.inl (wd hw 53 rfl)) Via.refl e265 F_target_r1 E_r1 (Or.inr ⟨(wd hw 54 rfl), rfl, hnm⟩) (wd hw 40 rfl) (ty := (.object "java/lang/String")) (by decide) rfl rfl (g := (mkF m 11 #[.val (.ref r1), .val (.ref kd), .val (.ref s1)] [(.ref s1), (.ref r1)])) rfl rfl (dB hby D8 7 rfl)
  refine Go.by (fun t => st266 t) ?_
  replace F_target_r1 := F_target_r1.same W266
  replace E_r1 := E_r1.wr W266
  replace F_kind_r1 := F_kind_r1.other W266 (Or.inr (slot_ne (Or.inr (wd hw 52 rfl)) (Or.inr (wd hw 54 rfl)) (by decide) (t := (.object "com/example/harvest_rules/harvestrules/registry/SecretReference$Kind")) (t' := (.object "java/lang/String")) (by decide) (by decide)))
  replace K0 := K0.wr W266 (Or.inl (List.mem_of_getElem? (i := 0) rfl))
  have N266 := Fr.snoc X266 N265 g_r1
  exact Go.ret0 X266 hx Bd.returns Bd.notSynchronized (dB hby D8 8 rfl) (by decide) (by decide) (by first | (rw [e266]; exact ⟨rfl, N266, K0, F_kind_r1, F_target_r1⟩) | exact ⟨rfl, N266, K0, F_kind_r1, F_target_r1⟩)
def Q_rm13 (Z : State) (a1 : Addr) (w2 : Addr) (h0 : Heap) (n0 : Nat) : Option Value → Heap → List Loc → Prop := fun v h L => v = some (.ref w2) ∧ Fr n0 L ∧ h = h0
set_option maxRecDepth 65536 in
set_option maxHeartbeats 40000000 in
theorem rm13 (l : Launch) (Z : State) (a0 : Array Value) (hw : ∀ d ∈ tables_1, d.before a0 Z = true) (ws : List Jvm.Cond) (a1 : Addr) (w2 : Addr) (h0 : Heap) (n0 : Nat) (F_f_a1 : Fld Z h0 a1 "com/example/harvest_rules/harvestrules/registry/SecretReference$Kind" "prefix" "Ljava/lang/String;" (.ref w2)) :
    CT l (⟨"com/example/harvest_rules/harvestrules/registry/SecretReference$Kind", "prefix", "()Ljava/lang/String;"⟩ : MethodName) prog_53_method_4_code 1 (some (.object "java/lang/String")) ws ({ frames := 0, cells := 0, slots := 0, locals := 0 } : Room) #[(.ref a1)] Z h0 (Q_rm13 Z a1 w2 h0 n0) := by
  refine Go.start (plainFor_of_name pn_7) ?_
  intro p e s m below meth c s₁ Bd hx hby hml hZ hown X0 e0
  replace hown : s.vm.findClass "com/example/harvest_rules/harvestrules/registry/SecretReference$Kind" = some m.cls := hown
  have N0 := Fr.nil n0
  rw [show entryFrame m #[(.ref a1)] 1 = (mkF m 0 #[.val (.ref a1)] []) from by first | (simp [entryFrame, mkF, argsToLocals, Value.category, maxLocals]; done) | rfl]
  refine Go.by (fun t => XS.aloadN X0.here hx rfl (dB hby D13 0 rfl) rfl rfl) ?_
  obtain ⟨T267, X267, e267, st267⟩ := getF X0 hx hZ hown (host := "") (Or.inl (wd hw 83 rfl)) Via.refl e0 F_f_a1 (g := (mkF m 1 #[.val (.ref a1)] [(.ref a1)])) rfl rfl (dB hby D13 1 rfl)
  refine Go.by (fun t => st267 t) ?_
  exact Go.ret1 X267 hx Bd.returns Bd.notSynchronized rfl (Or.inr (Or.inr (Or.inr (Or.inr ⟨rfl, rfl, rfl⟩)))) (dB hby D13 2 rfl) (by decide) (by decide) (by first | (rw [e267]; exact ⟨rfl, N0, rfl⟩) | exact ⟨rfl, N0, rfl⟩)
def Q_rmTO (Z : State) (r1 kd p1 pt s1 : Addr) (kp : ClassId) (ps cs : List Int32) (G1 : Int32) (G3 : Value) (h0 : Heap) (n0 : Nat) : Option Value → Heap → List Loc → Prop := fun v h L => ∃ r : Addr, v = some (.ref r) ∧ Fr n0 L ∧ Keep h0 h [] ∧ StrU Z h r (ps ++ cs)
set_option maxRecDepth 65536 in
set_option maxHeartbeats 40000000 in
theorem rmTO (l : Launch) (Z : State) (a0 : Array Value) (hw : ∀ d ∈ tables_1, d.before a0 Z = true) (ws : List Jvm.Cond) (r1 kd p1 pt s1 : Addr) (kp : ClassId) (ps cs : List Int32) (G1 : Int32) (G3 : Value) (h0 : Heap) (n0 : Nat) (Z0 : n0 ≤ h0.size) (Od : Old Z n0 h0) (A1 : Sta Z Z.heap "java/lang/StringUTF16" "$assertionsDisabled" "Z" (.int 1)) (HS : Sta Z Z.heap "java/lang/StringUTF16" "HI_BYTE_SHIFT" "I" (.int 0)) (LS : Sta Z Z.heap "java/lang/StringUTF16" "LO_BYTE_SHIFT" "I" (.int 8)) (O4 : Sta Z Z.heap "jdk/internal/util/Preconditions" "SIOOBE_FORMATTER" "Ljava/util/function/BiFunction;" G3) (rG3 : G3.isRef = true) (O2 : Sta Z Z.heap "java/lang/String" "COMPACT_STRINGS" "Z" (.int G1)) (P5 : ¬ (G1 = (0 : Int32))) (E_r1 : Exa Z h0 r1 "com/example/harvest_rules/harvestrules/registry/SecretReference") (F_kind_r1 : Fld Z h0 r1 "com/example/harvest_rules/harvestrules/registry/SecretReference" "kind" "Lcom/example/harvest_rules/harvestrules/registry/SecretReference$Kind;" (.ref kd)) (F_target_r1 : Fld Z h0 r1 "com/example/harvest_rules/harvestrules/registry/SecretReference" "target" "Ljava/lang/String;" (.ref s1)) (E_kd : Exa Z h0 kd "com/example/harvest_rules/harvestrules/registry/SecretReference$Kind") (F_prefix_kd : Fld Z h0 kd "com/example/harvest_rules/harvestrules/registry/SecretReference$Kind" "prefix" "Ljava/lang/String;" (.ref p1)) (E_p1 : Exa Z h0 p1 "java/lang/String") (F_value_p1 : Fld Z h0 p1 "java/lang/String" "value" "[B" (.ref pt)) (F_coder_p1 : Fld Z h0 p1 "java/lang/String" "coder" "B" (.int 0)) (V_pt : Arv Z h0 pt kp .byte (Int32.ofNat ps.length) (latL ps) (.int 0)) (lp : LatP ps) (hp5 : ps.length ≤ 5) (S1 : StrU Z h0 s1 cs) (hk : cs.length ≤ 3) :
    CT l (⟨"com/example/harvest_rules/harvestrules/registry/SecretReference", "toString", "()Ljava/lang/String;"⟩ : MethodName) prog_52_method_4_code 1 (some (.object "java/lang/String")) ws ({ frames := 10, cells := 6, slots := 140, locals := 178 } : Room) #[(.ref r1)] Z h0 (Q_rmTO Z r1 kd p1 pt s1 kp ps cs G1 G3 h0 n0) := by
  refine Go.start (plainFor_of_name pn_3) ?_
  intro p e s m below meth c s₁ Bd hx hby hml hZ hown X0 e0
  replace hown : s.vm.findClass "com/example/harvest_rules/harvestrules/registry/SecretReference" = some m.cls := hown
  have N0 := Fr.nil n0
  obtain ⟨t1, kt, E_s1, F_value_s1, S1⟩ := S1
  rw [show entryFrame m #[(.ref r1)] 1 = (mkF m 0 #[.val (.ref r1)] []) from by first | (simp [entryFrame, mkF, argsToLocals, Value.category, maxLocals]; done) | rfl]
  have K0 : Keep h0 h0 [] := Keep.refl _ _
  rcases S1 with ⟨F_coder_s1, la, V_t1⟩ | ⟨F_coder_s1, hg, V_t1⟩
  ·
    obtain ⟨T268, h268, X268, e268, E268, A268, D268, -, st268⟩ := newO X0 hx hZ hown (wd hw 60 rfl) (wd hw 61 rfl) (wd hw 62 rfl) e0 (g := (mkF m 0 #[.val (.ref r1)] [])) rfl (dB hby D10 0 rfl) (by decide) (by decide)
    obtain ⟨x1, g268⟩ : ∃ z, z = h0.size := ⟨_, rfl⟩
    rw [← g268] at A268 D268 st268
    refine Go.by (fun t => st268 t) ?_
    have g_x1 : n0 ≤ x1 := Nat.le_trans Z0 (Nat.le_of_eq g268.symm)
    have sz_x1 : h0.size ≤ x1 := Nat.le_trans K0.1 (Nat.le_of_eq g268.symm)
    have ne_kd_x1 : kd ≠ x1 := Nat.ne_of_lt (Nat.lt_of_lt_of_le E_kd.lt (Nat.le_of_eq g268.symm))
    have ne_p1_x1 : p1 ≠ x1 := Nat.ne_of_lt (Nat.lt_of_lt_of_le E_p1.lt (Nat.le_of_eq g268.symm))
    have ne_pt_x1 : pt ≠ x1 := Nat.ne_of_lt (Nat.lt_of_lt_of_le V_pt.lt (Nat.le_of_eq g268.symm))
    have ne_r1_x1 : r1 ≠ x1 := Nat.ne_of_lt (Nat.lt_of_lt_of_le E_r1.lt (Nat.le_of_eq g268.symm))
    have ne_s1_x1 : s1 ≠ x1 := Nat.ne_of_lt (Nat.lt_of_lt_of_le E_s1.lt (Nat.le_of_eq g268.symm))
    have ne_t1_x1 : t1 ≠ x1 := Nat.ne_of_lt (Nat.lt_of_lt_of_le V_t1.lt (Nat.le_of_eq g268.symm))
    replace Od := Od.ext E268
    replace E_r1 := E_r1.ext E268
    replace F_kind_r1 := F_kind_r1.ext E268
    replace F_target_r1 := F_target_r1.ext E268
    replace E_kd := E_kd.ext E268
    replace F_prefix_kd := F_prefix_kd.ext E268
    replace E_p1 := E_p1.ext E268
    replace F_value_p1 := F_value_p1.ext E268
    replace F_coder_p1 := F_coder_p1.ext E268
    replace V_pt := V_pt.ext E268
    replace E_s1 := E_s1.ext E268
    replace F_value_s1 := F_value_s1.ext E268
    replace F_coder_s1 := F_coder_s1.ext E268
    replace V_t1 := V_t1.ext E268
    replace Z0 := Nat.le_trans Z0 E268.1
    replace K0 := K0.ext E268
    have E_x1 := A268
    have F_value_x1 : Fld Z h268 x1 "java/lang/AbstractStringBuilder" "value" "[B" .null := D268 (Or.inl (wd hw 75 rfl)) (ty := (.array .byte)) (by decide)
    have F_coder_x1 : Fld Z h268 x1 "java/lang/AbstractStringBuilder" "coder" "B" (.int (0 : Int32)) := D268 (Or.inl (wd hw 77 rfl)) (ty := .byte) (by decide)
    have F_count_x1 : Fld Z h268 x1 "java/lang/AbstractStringBuilder" "count" "I" (.int (0 : Int32)) := D268 (Or.inl (wd hw 106 rfl)) (ty := .int) (by decide)
    have F_maybeLatin1_x1 : Fld Z h268 x1 "java/lang/AbstractStringBuilder" "maybeLatin1" "Z" (.int (0 : Int32)) := D268 (Or.inl (wd hw 253 rfl)) (ty := .boolean) (by decide)
    replace X268 := Stand.num (C := 1) (S := 4) X268 rfl rfl
    refine Go.by (fun t => XS.dup X268.here hx rfl (dB hby D10 1 rfl) rfl rfl) ?_
    obtain ⟨_, _, ⟨T269, L269, k269, n269⟩, -, X269, ⟨Lc269, hQ269, l269, y269, z269⟩, st269⟩ := X268.specialBack hx (y := (⟨"java/lang/StringBuilder", "<init>", "()V"⟩ : MethodName)) rfl hown (mvT hZ (wd hw 63 rfl)) (mvT hZ (wd hw 64 rfl)) (mvT hZ (wd hw 65 rfl)) (by decide) (backOf (W := 1) (rm11 l Z a0 hw [] x1 G1 h268 n0 Z0 Od O2 P5 E_x1 F_value_x1 F_coder_x1 F_count_x1 F_maybeLatin1_x1 g_x1) hZ (wd hw 65 rfl) (wd hw 62 rfl) (by decide) (by decide)) (g := (mkF m 4 #[.val (.ref r1)] [(.ref x1), (.ref x1)])) rfl (by rw [hml]; rfl) (Steps.refl _) (a := x1) (argsL := []) (rest := [(.ref x1)]) (lenOf pd_7 rfl) rfl (by show 2 * 0 + _ ≤ _; exact Nat.le_of_eq rfl) (dB hby D10 2 rfl) (fun _ _ => ⟨rfl, e268, (by decide : 1 + 1 ≤ _), (by decide : 4 + 16 ≤ _)⟩)
    dsimp only [Pt.U, Pt.locs, Pt.cells, Pt.slots] at X269 l269 y269 z269 st269 hQ269
    subst y269 z269
    obtain ⟨vb, kv, rfl, Nq269, K269, sz_vb, f1, f2, f3, f4, V_vb⟩ := hQ269
    have g_vb : n0 ≤ vb := Nat.le_trans Z0 sz_vb
    have ne_kd_vb : kd ≠ vb := Nat.ne_of_lt (Nat.lt_of_lt_of_le E_kd.lt sz_vb)
    have ne_p1_vb : p1 ≠ vb := Nat.ne_of_lt (Nat.lt_of_lt_of_le E_p1.lt sz_vb)
    have ne_pt_vb : pt ≠ vb := Nat.ne_of_lt (Nat.lt_of_lt_of_le V_pt.lt sz_vb)
    have ne_r1_vb : r1 ≠ vb := Nat.ne_of_lt (Nat.lt_of_lt_of_le E_r1.lt sz_vb)
    have ne_s1_vb : s1 ≠ vb := Nat.ne_of_lt (Nat.lt_of_lt_of_le E_s1.lt sz_vb)
    have ne_t1_vb : t1 ≠ vb := Nat.ne_of_lt (Nat.lt_of_lt_of_le V_t1.lt sz_vb)
    have ne_x1_vb : x1 ≠ vb := Nat.ne_of_lt (Nat.lt_of_lt_of_le E_x1.lt sz_vb)
    replace sz_vb : h0.size ≤ vb := Nat.le_trans K0.1 sz_vb
    have N269 : Fr n0 L269 := by rw [l269]; exact Fr.app N0 Nq269
    clear l269
    refine Go.by (fun t => st269.trans) ?_
    replace X269 := Stand.num (C := 2) (S := 20) X269 rfl rfl
    replace Od := Od.keep K269 (allS g_x1 all0)
    replace E_r1 := E_r1.keep K269
    replace F_kind_r1 := F_kind_r1.keep K269 (ninS ne_r1_x1 nin0)
    replace F_target_r1 := F_target_r1.keep K269 (ninS ne_r1_x1 nin0)
    replace E_kd := E_kd.keep K269
    replace F_prefix_kd := F_prefix_kd.keep K269 (ninS ne_kd_x1 nin0)
    replace E_p1 := E_p1.keep K269
    replace F_value_p1 := F_value_p1.keep K269 (ninS ne_p1_x1 nin0)
    replace F_coder_p1 := F_coder_p1.keep K269 (ninS ne_p1_x1 nin0)
    replace V_pt := V_pt.keep K269 (ninS ne_pt_x1 nin0)
    replace E_s1 := E_s1.keep K269
    replace F_value_s1 := F_value_s1.keep K269 (ninS ne_s1_x1 nin0)
    replace F_coder_s1 := F_coder_s1.keep K269 (ninS ne_s1_x1 nin0)
    replace V_t1 := V_t1.keep K269 (ninS ne_t1_x1 nin0)
    replace E_x1 := E_x1.keep K269
    replace Z0 := Nat.le_trans Z0 K269.1
    replace K0 := K0.trans K269 (allS (P := fun x => x ∈ _ ∨ _ ≤ x) (Or.inr sz_x1) all0)
    clear F_value_x1 F_coder_x1 F_count_x1 F_maybeLatin1_x1
    have F_value_x1 := f1
    have F_coder_x1 := f2
    have F_count_x1 := f3
    have F_maybeLatin1_x1 := f4
    clear f1 f2 f3 f4
    replace V_vb : Arv Z T269.heap vb kv .byte (Int32.ofNat 16) ([] ++ List.replicate ((latL ps).length + 20) (.int 0)) (.int 0) := V_vb.pad (pad_rep [] _ _)
    have V_pt' : Arv Z T269.heap pt kp .byte (Int32.ofNat (latL ps).length) (latL ps) (.int 0) := by rw [lat_len]; exact V_pt
    refine Go.by (fun t => XS.aloadN X269.here hx rfl (dB hby D10 3 rfl) rfl rfl) ?_
    show Go p e below _ (T269.setTop (mkF m 8 #[.val (.ref r1)] [(.ref r1), (.ref x1)]))
    obtain ⟨T270, X270, e270, st270⟩ := getF X269 hx hZ hown (host := "") (Or.inl (wd hw 51 rfl)) Via.refl rfl F_kind_r1 (g := (mkF m 8 #[.val (.ref r1)] [(.ref r1), (.ref x1)])) rfl rfl (dB hby D10 4 rfl)
    refine Go.by (fun t => st270 t) ?_
    obtain ⟨cq271, kq271, q271a, q271b, q271c⟩ := isOf hZ e270 E_kd
    obtain ⟨_, _, ⟨T271, L271, k271, n271⟩, -, X271, ⟨Lc271, hQ271, l271, y271, z271⟩, st271⟩ := X270.virtualBack hx (y := (⟨"com/example/harvest_rules/harvestrules/registry/SecretReference$Kind", "prefix", "()Ljava/lang/String;"⟩ : MethodName)) (z := (⟨"com/example/harvest_rules/harvestrules/registry/SecretReference$Kind", "prefix", "()Ljava/lang/String;"⟩ : MethodName)) hown (mvT hZ (wd hw 78 rfl)) (mvT hZ (wd hw 79 rfl)) (notFace_of_selects (args := #[]) (mvT hZ (wd hw 81 rfl))) (mvT hZ (wd hw 81 rfl)) (mvT hZ (wd hw 80 rfl)) (by decide) (backOf (W := 1) (rm13 l Z a0 hw [] kd p1 T269.heap n0 F_prefix_kd) hZ (wd hw 82 rfl) (wd hw 37 rfl) (by decide) (by decide)) q271a q271c (g := (mkF m 11 #[.val (.ref r1)] [(.ref kd), (.ref x1)])) rfl (by rw [hml]; rfl) (Steps.refl _) (argsL := []) (rest := [(.ref x1)]) (lenOf pd_2 rfl) rfl (by show 2 * 0 + _ ≤ _; exact Nat.le_of_eq rfl) (dB hby D10 5 rfl) (fun _ _ => ⟨rfl, e270, (by decide : 2 + 0 ≤ _), (by decide : 20 + 0 ≤ _)⟩)
    dsimp only [Pt.U, Pt.locs, Pt.cells, Pt.slots] at X271 l271 y271 z271 st271 hQ271
    subst y271 z271
    obtain ⟨rfl, Nq271, e271⟩ := hQ271
    have N271 : Fr n0 L271 := by rw [l271]; exact Fr.app N269 Nq271
    clear l271
    refine Go.by (fun t => st271.trans) ?_
    obtain ⟨cq272, kq272, q272a, q272b, q272c⟩ := isOf hZ e271 E_x1
    obtain ⟨_, _, ⟨T272, L272, k272, n272⟩, -, X272, ⟨Lc272, hQ272, l272, y272, z272⟩, st272⟩ := X271.virtualBack hx (y := (⟨"java/lang/StringBuilder", "append", "(Ljava/lang/String;)Ljava/lang/StringBuilder;"⟩ : MethodName)) (z := (⟨"java/lang/StringBuilder", "append", "(Ljava/lang/String;)Ljava/lang/StringBuilder;"⟩ : MethodName)) hown (mvT hZ (wd hw 85 rfl)) (mvT hZ (wd hw 86 rfl)) (notFace_of_selects (args := #[]) (mvT hZ (wd hw 88 rfl))) (mvT hZ (wd hw 88 rfl)) (mvT hZ (wd hw 87 rfl)) (by decide) (backOf (W := 0) (rmSA0 l Z a0 hw [] x1 p1 pt vb kp kv 0 [] (latL ps) 0 ps.length 20 16 G1 T269.heap n0 Od O2 P5 E_x1 F_value_x1 F_coder_x1 F_count_x1 F_maybeLatin1_x1 g_x1 E_p1 F_value_p1 F_coder_p1 V_pt' V_vb g_vb ne_pt_vb (Or.inl ⟨rfl, rfl, lat_len ps⟩) (by rw [lat_len]; show 0 + _ ≤ _; omega) (by decide)) hZ (wd hw 89 rfl) (wd hw 62 rfl) (by decide) (by decide)) q272a q272c (g := (mkF m 14 #[.val (.ref r1)] [(.ref p1), (.ref x1)])) rfl (by rw [hml]; rfl) (Steps.refl _) (argsL := [(.ref p1)]) (rest := []) (lenOf pd_12 rfl) rfl (by show 2 * 0 + _ ≤ _; exact Nat.le_of_eq rfl) (dB hby D10 6 rfl) (fun _ _ => ⟨rfl, e271, (by decide : 2 + 0 ≤ _), (by decide : 20 + 0 ≤ _)⟩)
    dsimp only [Pt.U, Pt.locs, Pt.cells, Pt.slots] at X272 l272 y272 z272 st272 hQ272
    subst y272 z272
    obtain ⟨rfl, Nq272, K272, f1, f2, f3, f4, Vn⟩ := hQ272
    clear V_pt'
    have N272 : Fr n0 L272 := by rw [l272]; exact Fr.app N271 Nq272
    clear l272
    refine Go.by (fun t => st272.trans) ?_
    replace Od := Od.keep K272 (allS g_x1 (allS g_vb all0))
    replace E_r1 := E_r1.keep K272
    replace F_kind_r1 := F_kind_r1.keep K272 (ninS ne_r1_x1 (ninS ne_r1_vb nin0))
    replace F_target_r1 := F_target_r1.keep K272 (ninS ne_r1_x1 (ninS ne_r1_vb nin0))
    replace E_kd := E_kd.keep K272
    replace F_prefix_kd := F_prefix_kd.keep K272 (ninS ne_kd_x1 (ninS ne_kd_vb nin0))
    replace E_p1 := E_p1.keep K272
    replace F_value_p1 := F_value_p1.keep K272 (ninS ne_p1_x1 (ninS ne_p1_vb nin0))
    replace F_coder_p1 := F_coder_p1.keep K272 (ninS ne_p1_x1 (ninS ne_p1_vb nin0))
    replace V_pt := V_pt.keep K272 (ninS ne_pt_x1 (ninS ne_pt_vb nin0))
    replace E_s1 := E_s1.keep K272
    replace F_value_s1 := F_value_s1.keep K272 (ninS ne_s1_x1 (ninS ne_s1_vb nin0))
    replace F_coder_s1 := F_coder_s1.keep K272 (ninS ne_s1_x1 (ninS ne_s1_vb nin0))
    replace V_t1 := V_t1.keep K272 (ninS ne_t1_x1 (ninS ne_t1_vb nin0))
    replace E_x1 := E_x1.keep K272
    replace Z0 := Nat.le_trans Z0 K272.1
    replace K0 := K0.trans K272 (allS (P := fun x => x ∈ _ ∨ _ ≤ x) (Or.inr sz_x1) (allS (P := fun x => x ∈ _ ∨ _ ≤ x) (Or.inr sz_vb) all0))
    clear F_value_x1 F_coder_x1 F_count_x1 F_maybeLatin1_x1
    have F_value_x1 := f1
    have F_coder_x1 := f2
    have F_count_x1 := f3
    have F_maybeLatin1_x1 := f4
    clear f1 f2 f3 f4
    clear V_vb
    rw [Nat.zero_add] at F_count_x1
    have V_vb : Arv Z T272.heap vb kv .byte (Int32.ofNat 16) (latL ps ++ List.replicate ((latL cs).length + 17) (.int 0)) (.int 0) := (arv_eq (vs' := latL ps ++ List.replicate 20 (.int 0)) Vn rfl).pad (fun i => (pad_rep (latL ps) _ _ i).trans (pad_rep (latL ps) _ 20 i).symm)
    clear Vn
    have V_t1' : Arv Z T272.heap t1 kt .byte (Int32.ofNat (latL cs).length) (latL cs) (.int 0) := by rw [lat_len]; exact V_t1
    refine Go.by (fun t => XS.aloadN X272.here hx rfl (dB hby D10 7 rfl) rfl rfl) ?_
    obtain ⟨T273, X273, e273, st273⟩ := getF X272 hx hZ hown (host := "") (Or.inl (wd hw 53 rfl)) Via.refl rfl F_target_r1 (g := (mkF m 18 #[.val (.ref r1)] [(.ref r1), (.ref x1)])) rfl rfl (dB hby D10 8 rfl)
    refine Go.by (fun t => st273 t) ?_
    obtain ⟨cq274, kq274, q274a, q274b, q274c⟩ := isOf hZ e273 E_x1
    obtain ⟨_, _, ⟨T274, L274, k274, n274⟩, -, X274, ⟨Lc274, hQ274, l274, y274, z274⟩, st274⟩ := X273.virtualBack hx (y := (⟨"java/lang/StringBuilder", "append", "(Ljava/lang/String;)Ljava/lang/StringBuilder;"⟩ : MethodName)) (z := (⟨"java/lang/StringBuilder", "append", "(Ljava/lang/String;)Ljava/lang/StringBuilder;"⟩ : MethodName)) hown (mvT hZ (wd hw 85 rfl)) (mvT hZ (wd hw 86 rfl)) (notFace_of_selects (args := #[]) (mvT hZ (wd hw 88 rfl))) (mvT hZ (wd hw 88 rfl)) (mvT hZ (wd hw 87 rfl)) (by decide) (backOf (W := 0) (rmSA0 l Z a0 hw [] x1 s1 t1 vb kt kv 0 (latL ps) (latL cs) ps.length cs.length 17 16 G1 T272.heap n0 Od O2 P5 E_x1 F_value_x1 F_coder_x1 F_count_x1 F_maybeLatin1_x1 g_x1 E_s1 F_value_s1 F_coder_s1 V_t1' V_vb g_vb ne_t1_vb (Or.inl ⟨rfl, lat_len ps, lat_len cs⟩) (by rw [lat_len, lat_len]; omega) (by decide)) hZ (wd hw 89 rfl) (wd hw 62 rfl) (by decide) (by decide)) q274a q274c (g := (mkF m 21 #[.val (.ref r1)] [(.ref s1), (.ref x1)])) rfl (by rw [hml]; rfl) (Steps.refl _) (argsL := [(.ref s1)]) (rest := []) (lenOf pd_12 rfl) rfl (by show 2 * 0 + _ ≤ _; exact Nat.le_of_eq rfl) (dB hby D10 9 rfl) (fun _ _ => ⟨rfl, e273, (by decide : 2 + 0 ≤ _), (by decide : 20 + 0 ≤ _)⟩)
    dsimp only [Pt.U, Pt.locs, Pt.cells, Pt.slots] at X274 l274 y274 z274 st274 hQ274
    subst y274 z274
    obtain ⟨rfl, Nq274, K274, f1, f2, f3, f4, Vn⟩ := hQ274
    have N274 : Fr n0 L274 := by rw [l274]; exact Fr.app N272 Nq274
    clear l274
    refine Go.by (fun t => st274.trans) ?_
    replace Od := Od.keep K274 (allS g_x1 (allS g_vb all0))
    replace E_x1 := E_x1.keep K274
    replace Z0 := Nat.le_trans Z0 K274.1
    replace K0 := K0.trans K274 (allS (P := fun x => x ∈ _ ∨ _ ≤ x) (Or.inr sz_x1) (allS (P := fun x => x ∈ _ ∨ _ ≤ x) (Or.inr sz_vb) all0))
    show Go p e below _ (T274.setTop (mkF m 24 #[.val (.ref r1)] [(.ref x1)]))
    clear F_value_x1 F_coder_x1 F_count_x1 F_maybeLatin1_x1
    have F_value_x1 := f1
    have F_coder_x1 := f2
    have F_count_x1 := f3
    have F_maybeLatin1_x1 := f4
    clear f1 f2 f3 f4
    clear V_vb
    have V_vb := Vn
    rw [← lat_app] at V_vb
    have hul : (latL (ps ++ cs)).length = ps.length + cs.length := by rw [lat_len, List.length_append]
    obtain ⟨cq275, kq275, q275a, q275b, q275c⟩ := isOf hZ rfl E_x1
    obtain ⟨_, _, ⟨T275, L275, k275, n275⟩, -, X275, ⟨Lc275, hQ275, l275, y275, z275⟩, st275⟩ := X274.virtualBack hx (y := (⟨"java/lang/StringBuilder", "toString", "()Ljava/lang/String;"⟩ : MethodName)) (z := (⟨"java/lang/StringBuilder", "toString", "()Ljava/lang/String;"⟩ : MethodName)) hown (mvT hZ (wd hw 132 rfl)) (mvT hZ (wd hw 133 rfl)) (notFace_of_selects (args := #[]) (mvT hZ (wd hw 135 rfl))) (mvT hZ (wd hw 135 rfl)) (mvT hZ (wd hw 134 rfl)) (by decide) (backOf (W := 0) (rmTS l Z a0 hw [] x1 vb kv (latL (ps ++ cs)) _ (ps.length + cs.length) 16 G1 0 T274.heap n0 Z0 Od O2 P5 E_x1 F_value_x1 F_coder_x1 F_count_x1 F_maybeLatin1_x1 V_vb (Or.inl ⟨rfl, hul⟩) (by omega) (by decide) (by omega)) hZ (wd hw 136 rfl) (wd hw 62 rfl) (by decide) (by decide)) q275a q275c (g := (mkF m 24 #[.val (.ref r1)] [(.ref x1)])) rfl (by rw [hml]; rfl) (Steps.refl _) (argsL := []) (rest := []) (lenOf pd_2 rfl) rfl (by show 2 * 0 + _ ≤ _; exact Nat.le_of_eq rfl) (dB hby D10 10 rfl) (fun _ _ => ⟨rfl, rfl, (by decide : 2 + 2 ≤ _), (by decide : 20 + 36 ≤ _)⟩)
    dsimp only [Pt.U, Pt.locs, Pt.cells, Pt.slots] at X275 l275 y275 z275 st275 hQ275
    subst y275 z275
    obtain ⟨r, t, kt', rfl, Nq275, K275, sz_r, E_r, Fv, Fc, V_t⟩ := hQ275
    have N275 : Fr n0 L275 := by rw [l275]; exact Fr.app N274 Nq275
    clear l275
    refine Go.by (fun t => st275.trans) ?_
    replace X275 := Stand.num (C := 4) (S := 56) X275 rfl rfl
    replace Z0 := Nat.le_trans Z0 K275.1
    replace K0 := K0.trans K275 all0
    rw [lat_len] at V_t
    exact Go.ret1 X275 hx Bd.returns Bd.notSynchronized rfl (Or.inr (Or.inr (Or.inr (Or.inr ⟨rfl, rfl, rfl⟩)))) (dB hby D10 11 rfl) (by decide) (by decide) ⟨r, rfl, N275, K0, t, kt', E_r, Fv, Or.inl ⟨Fc, all_app lp la, V_t⟩⟩
  ·
    obtain ⟨T276, h276, X276, e276, E276, A276, D276, -, st276⟩ := newO X0 hx hZ hown (wd hw 60 rfl) (wd hw 61 rfl) (wd hw 62 rfl) e0 (g := (mkF m 0 #[.val (.ref r1)] [])) rfl (dB hby D10 0 rfl) (by decide) (by decide)
    obtain ⟨x1, g276⟩ : ∃ z, z = h0.size := ⟨_, rfl⟩
    rw [← g276] at A276 D276 st276
    refine Go.by (fun t => st276 t) ?_
    have g_x1 : n0 ≤ x1 := Nat.le_trans Z0 (Nat.le_of_eq g276.symm)
    have sz_x1 : h0.size ≤ x1 := Nat.le_trans K0.1 (Nat.le_of_eq g276.symm)
    have ne_kd_x1 : kd ≠ x1 := Nat.ne_of_lt (Nat.lt_of_lt_of_le E_kd.lt (Nat.le_of_eq g276.symm))
    have ne_p1_x1 : p1 ≠ x1 := Nat.ne_of_lt (Nat.lt_of_lt_of_le E_p1.lt (Nat.le_of_eq g276.symm))
    have ne_pt_x1 : pt ≠ x1 := Nat.ne_of_lt (Nat.lt_of_lt_of_le V_pt.lt (Nat.le_of_eq g276.symm))
    have ne_r1_x1 : r1 ≠ x1 := Nat.ne_of_lt (Nat.lt_of_lt_of_le E_r1.lt (Nat.le_of_eq g276.symm))
    have ne_s1_x1 : s1 ≠ x1 := Nat.ne_of_lt (Nat.lt_of_lt_of_le E_s1.lt (Nat.le_of_eq g276.symm))
    have ne_t1_x1 : t1 ≠ x1 := Nat.ne_of_lt (Nat.lt_of_lt_of_le V_t1.lt (Nat.le_of_eq g276.symm))
    replace Od := Od.ext E276
    replace E_r1 := E_r1.ext E276
    replace F_kind_r1 := F_kind_r1.ext E276
    replace F_target_r1 := F_target_r1.ext E276
    replace E_kd := E_kd.ext E276
    replace F_prefix_kd := F_prefix_kd.ext E276
    replace E_p1 := E_p1.ext E276
    replace F_value_p1 := F_value_p1.ext E276
    replace F_coder_p1 := F_coder_p1.ext E276
    replace V_pt := V_pt.ext E276
    replace E_s1 := E_s1.ext E276
    replace F_value_s1 := F_value_s1.ext E276
    replace F_coder_s1 := F_coder_s1.ext E276
    replace V_t1 := V_t1.ext E276
    replace Z0 := Nat.le_trans Z0 E276.1
    replace K0 := K0.ext E276
    have E_x1 := A276
    have F_value_x1 : Fld Z h276 x1 "java/lang/AbstractStringBuilder" "value" "[B" .null := D276 (Or.inl (wd hw 75 rfl)) (ty := (.array .byte)) (by decide)
    have F_coder_x1 : Fld Z h276 x1 "java/lang/AbstractStringBuilder" "coder" "B" (.int (0 : Int32)) := D276 (Or.inl (wd hw 77 rfl)) (ty := .byte) (by decide)
    have F_count_x1 : Fld Z h276 x1 "java/lang/AbstractStringBuilder" "count" "I" (.int (0 : Int32)) := D276 (Or.inl (wd hw 106 rfl)) (ty := .int) (by decide)
    have F_maybeLatin1_x1 : Fld Z h276 x1 "java/lang/AbstractStringBuilder" "maybeLatin1" "Z" (.int (0 : Int32)) := D276 (Or.inl (wd hw 253 rfl)) (ty := .boolean) (by decide)
    replace X276 := Stand.num (C := 1) (S := 4) X276 rfl rfl
    refine Go.by (fun t => XS.dup X276.here hx rfl (dB hby D10 1 rfl) rfl rfl) ?_
    obtain ⟨_, _, ⟨T277, L277, k277, n277⟩, -, X277, ⟨Lc277, hQ277, l277, y277, z277⟩, st277⟩ := X276.specialBack hx (y := (⟨"java/lang/StringBuilder", "<init>", "()V"⟩ : MethodName)) rfl hown (mvT hZ (wd hw 63 rfl)) (mvT hZ (wd hw 64 rfl)) (mvT hZ (wd hw 65 rfl)) (by decide) (backOf (W := 1) (rm11 l Z a0 hw [] x1 G1 h276 n0 Z0 Od O2 P5 E_x1 F_value_x1 F_coder_x1 F_count_x1 F_maybeLatin1_x1 g_x1) hZ (wd hw 65 rfl) (wd hw 62 rfl) (by decide) (by decide)) (g := (mkF m 4 #[.val (.ref r1)] [(.ref x1), (.ref x1)])) rfl (by rw [hml]; rfl) (Steps.refl _) (a := x1) (argsL := []) (rest := [(.ref x1)]) (lenOf pd_7 rfl) rfl (by show 2 * 0 + _ ≤ _; exact Nat.le_of_eq rfl) (dB hby D10 2 rfl) (fun _ _ => ⟨rfl, e276, (by decide : 1 + 1 ≤ _), (by decide : 4 + 16 ≤ _)⟩)
    dsimp only [Pt.U, Pt.locs, Pt.cells, Pt.slots] at X277 l277 y277 z277 st277 hQ277
    subst y277 z277
    obtain ⟨vb, kv, rfl, Nq277, K277, sz_vb, f1, f2, f3, f4, V_vb⟩ := hQ277
    have g_vb : n0 ≤ vb := Nat.le_trans Z0 sz_vb
    have ne_kd_vb : kd ≠ vb := Nat.ne_of_lt (Nat.lt_of_lt_of_le E_kd.lt sz_vb)
    have ne_p1_vb : p1 ≠ vb := Nat.ne_of_lt (Nat.lt_of_lt_of_le E_p1.lt sz_vb)
    have ne_pt_vb : pt ≠ vb := Nat.ne_of_lt (Nat.lt_of_lt_of_le V_pt.lt sz_vb)
    have ne_r1_vb : r1 ≠ vb := Nat.ne_of_lt (Nat.lt_of_lt_of_le E_r1.lt sz_vb)
    have ne_s1_vb : s1 ≠ vb := Nat.ne_of_lt (Nat.lt_of_lt_of_le E_s1.lt sz_vb)
    have ne_t1_vb : t1 ≠ vb := Nat.ne_of_lt (Nat.lt_of_lt_of_le V_t1.lt sz_vb)
    have ne_x1_vb : x1 ≠ vb := Nat.ne_of_lt (Nat.lt_of_lt_of_le E_x1.lt sz_vb)
    replace sz_vb : h0.size ≤ vb := Nat.le_trans K0.1 sz_vb
    have N277 : Fr n0 L277 := by rw [l277]; exact Fr.app N0 Nq277
    clear l277
    refine Go.by (fun t => st277.trans) ?_
    replace X277 := Stand.num (C := 2) (S := 20) X277 rfl rfl
    replace Od := Od.keep K277 (allS g_x1 all0)
    replace E_r1 := E_r1.keep K277
    replace F_kind_r1 := F_kind_r1.keep K277 (ninS ne_r1_x1 nin0)
    replace F_target_r1 := F_target_r1.keep K277 (ninS ne_r1_x1 nin0)
    replace E_kd := E_kd.keep K277
    replace F_prefix_kd := F_prefix_kd.keep K277 (ninS ne_kd_x1 nin0)
    replace E_p1 := E_p1.keep K277
    replace F_value_p1 := F_value_p1.keep K277 (ninS ne_p1_x1 nin0)
    replace F_coder_p1 := F_coder_p1.keep K277 (ninS ne_p1_x1 nin0)
    replace V_pt := V_pt.keep K277 (ninS ne_pt_x1 nin0)
    replace E_s1 := E_s1.keep K277
    replace F_value_s1 := F_value_s1.keep K277 (ninS ne_s1_x1 nin0)
    replace F_coder_s1 := F_coder_s1.keep K277 (ninS ne_s1_x1 nin0)
    replace V_t1 := V_t1.keep K277 (ninS ne_t1_x1 nin0)
    replace E_x1 := E_x1.keep K277
    replace Z0 := Nat.le_trans Z0 K277.1
    replace K0 := K0.trans K277 (allS (P := fun x => x ∈ _ ∨ _ ≤ x) (Or.inr sz_x1) all0)
    clear F_value_x1 F_coder_x1 F_count_x1 F_maybeLatin1_x1
    have F_value_x1 := f1
    have F_coder_x1 := f2
    have F_count_x1 := f3
    have F_maybeLatin1_x1 := f4
    clear f1 f2 f3 f4
    replace V_vb : Arv Z T277.heap vb kv .byte (Int32.ofNat 16) ([] ++ List.replicate ((latL ps).length + 20) (.int 0)) (.int 0) := V_vb.pad (pad_rep [] _ _)
    have V_pt' : Arv Z T277.heap pt kp .byte (Int32.ofNat (latL ps).length) (latL ps) (.int 0) := by rw [lat_len]; exact V_pt
    refine Go.by (fun t => XS.aloadN X277.here hx rfl (dB hby D10 3 rfl) rfl rfl) ?_
    show Go p e below _ (T277.setTop (mkF m 8 #[.val (.ref r1)] [(.ref r1), (.ref x1)]))
    obtain ⟨T278, X278, e278, st278⟩ := getF X277 hx hZ hown (host := "") (Or.inl (wd hw 51 rfl)) Via.refl rfl F_kind_r1 (g := (mkF m 8 #[.val (.ref r1)] [(.ref r1), (.ref x1)])) rfl rfl (dB hby D10 4 rfl)
    refine Go.by (fun t => st278 t) ?_
    obtain ⟨cq279, kq279, q279a, q279b, q279c⟩ := isOf hZ e278 E_kd
    obtain ⟨_, _, ⟨T279, L279, k279, n279⟩, -, X279, ⟨Lc279, hQ279, l279, y279, z279⟩, st279⟩ := X278.virtualBack hx (y := (⟨"com/example/harvest_rules/harvestrules/registry/SecretReference$Kind", "prefix", "()Ljava/lang/String;"⟩ : MethodName)) (z := (⟨"com/example/harvest_rules/harvestrules/registry/SecretReference$Kind", "prefix", "()Ljava/lang/String;"⟩ : MethodName)) hown (mvT hZ (wd hw 78 rfl)) (mvT hZ (wd hw 79 rfl)) (notFace_of_selects (args := #[]) (mvT hZ (wd hw 81 rfl))) (mvT hZ (wd hw 81 rfl)) (mvT hZ (wd hw 80 rfl)) (by decide) (backOf (W := 1) (rm13 l Z a0 hw [] kd p1 T277.heap n0 F_prefix_kd) hZ (wd hw 82 rfl) (wd hw 37 rfl) (by decide) (by decide)) q279a q279c (g := (mkF m 11 #[.val (.ref r1)] [(.ref kd), (.ref x1)])) rfl (by rw [hml]; rfl) (Steps.refl _) (argsL := []) (rest := [(.ref x1)]) (lenOf pd_2 rfl) rfl (by show 2 * 0 + _ ≤ _; exact Nat.le_of_eq rfl) (dB hby D10 5 rfl) (fun _ _ => ⟨rfl, e278, (by decide : 2 + 0 ≤ _), (by decide : 20 + 0 ≤ _)⟩)
    dsimp only [Pt.U, Pt.locs, Pt.cells, Pt.slots] at X279 l279 y279 z279 st279 hQ279
    subst y279 z279
    obtain ⟨rfl, Nq279, e279⟩ := hQ279
    have N279 : Fr n0 L279 := by rw [l279]; exact Fr.app N277 Nq279
    clear l279
    refine Go.by (fun t => st279.trans) ?_
    obtain ⟨cq280, kq280, q280a, q280b, q280c⟩ := isOf hZ e279 E_x1
    obtain ⟨_, _, ⟨T280, L280, k280, n280⟩, -, X280, ⟨Lc280, hQ280, l280, y280, z280⟩, st280⟩ := X279.virtualBack hx (y := (⟨"java/lang/StringBuilder", "append", "(Ljava/lang/String;)Ljava/lang/StringBuilder;"⟩ : MethodName)) (z := (⟨"java/lang/StringBuilder", "append", "(Ljava/lang/String;)Ljava/lang/StringBuilder;"⟩ : MethodName)) hown (mvT hZ (wd hw 85 rfl)) (mvT hZ (wd hw 86 rfl)) (notFace_of_selects (args := #[]) (mvT hZ (wd hw 88 rfl))) (mvT hZ (wd hw 88 rfl)) (mvT hZ (wd hw 87 rfl)) (by decide) (backOf (W := 0) (rmSA0 l Z a0 hw [] x1 p1 pt vb kp kv 0 [] (latL ps) 0 ps.length 20 16 G1 T277.heap n0 Od O2 P5 E_x1 F_value_x1 F_coder_x1 F_count_x1 F_maybeLatin1_x1 g_x1 E_p1 F_value_p1 F_coder_p1 V_pt' V_vb g_vb ne_pt_vb (Or.inl ⟨rfl, rfl, lat_len ps⟩) (by rw [lat_len]; show 0 + _ ≤ _; omega) (by decide)) hZ (wd hw 89 rfl) (wd hw 62 rfl) (by decide) (by decide)) q280a q280c (g := (mkF m 14 #[.val (.ref r1)] [(.ref p1), (.ref x1)])) rfl (by rw [hml]; rfl) (Steps.refl _) (argsL := [(.ref p1)]) (rest := []) (lenOf pd_12 rfl) rfl (by show 2 * 0 + _ ≤ _; exact Nat.le_of_eq rfl) (dB hby D10 6 rfl) (fun _ _ => ⟨rfl, e279, (by decide : 2 + 0 ≤ _), (by decide : 20 + 0 ≤ _)⟩)
    dsimp only [Pt.U, Pt.locs, Pt.cells, Pt.slots] at X280 l280 y280 z280 st280 hQ280
    subst y280 z280
    obtain ⟨rfl, Nq280, K280, f1, f2, f3, f4, Vn⟩ := hQ280
    clear V_pt'
    have N280 : Fr n0 L280 := by rw [l280]; exact Fr.app N279 Nq280
    clear l280
    refine Go.by (fun t => st280.trans) ?_
    replace Od := Od.keep K280 (allS g_x1 (allS g_vb all0))
    replace E_r1 := E_r1.keep K280
    replace F_kind_r1 := F_kind_r1.keep K280 (ninS ne_r1_x1 (ninS ne_r1_vb nin0))
    replace F_target_r1 := F_target_r1.keep K280 (ninS ne_r1_x1 (ninS ne_r1_vb nin0))
    replace E_kd := E_kd.keep K280
    replace F_prefix_kd := F_prefix_kd.keep K280 (ninS ne_kd_x1 (ninS ne_kd_vb nin0))
    replace E_p1 := E_p1.keep K280
    replace F_value_p1 := F_value_p1.keep K280 (ninS ne_p1_x1 (ninS ne_p1_vb nin0))
    replace F_coder_p1 := F_coder_p1.keep K280 (ninS ne_p1_x1 (ninS ne_p1_vb nin0))
    replace V_pt := V_pt.keep K280 (ninS ne_pt_x1 (ninS ne_pt_vb nin0))
    replace E_s1 := E_s1.keep K280
    replace F_value_s1 := F_value_s1.keep K280 (ninS ne_s1_x1 (ninS ne_s1_vb nin0))
    replace F_coder_s1 := F_coder_s1.keep K280 (ninS ne_s1_x1 (ninS ne_s1_vb nin0))
    replace V_t1 := V_t1.keep K280 (ninS ne_t1_x1 (ninS ne_t1_vb nin0))
    replace E_x1 := E_x1.keep K280
    replace Z0 := Nat.le_trans Z0 K280.1
    replace K0 := K0.trans K280 (allS (P := fun x => x ∈ _ ∨ _ ≤ x) (Or.inr sz_x1) (allS (P := fun x => x ∈ _ ∨ _ ≤ x) (Or.inr sz_vb) all0))
    clear F_value_x1 F_coder_x1 F_count_x1 F_maybeLatin1_x1
    have F_value_x1 := f1
    have F_coder_x1 := f2
    have F_count_x1 := f3
    have F_maybeLatin1_x1 := f4
    clear f1 f2 f3 f4
    clear V_vb
    rw [Nat.zero_add] at F_count_x1
    have V_vb : Arv Z T280.heap vb kv .byte (Int32.ofNat 16) ((ps.map fun c => c.toInt8.toInt32).map Value.int ++ List.replicate 20 (.int 0)) (.int 0) := Vn
    replace F_count_x1 : Fld Z T280.heap x1 "java/lang/AbstractStringBuilder" "count" "I" (.int (Int32.ofNat (ps.map fun c => c.toInt8.toInt32).length)) := by rw [List.length_map]; exact F_count_x1
    clear Vn
    refine Go.by (fun t => XS.aloadN X280.here hx rfl (dB hby D10 7 rfl) rfl rfl) ?_
    obtain ⟨T281, X281, e281, st281⟩ := getF X280 hx hZ hown (host := "") (Or.inl (wd hw 53 rfl)) Via.refl rfl F_target_r1 (g := (mkF m 18 #[.val (.ref r1)] [(.ref r1), (.ref x1)])) rfl rfl (dB hby D10 8 rfl)
    refine Go.by (fun t => st281 t) ?_
    obtain ⟨cq282, kq282, q282a, q282b, q282c⟩ := isOf hZ e281 E_x1
    obtain ⟨_, _, ⟨T282, L282, k282, n282⟩, -, X282, ⟨Lc282, hQ282, l282, y282, z282⟩, st282⟩ := X281.virtualBack hx (y := (⟨"java/lang/StringBuilder", "append", "(Ljava/lang/String;)Ljava/lang/StringBuilder;"⟩ : MethodName)) (z := (⟨"java/lang/StringBuilder", "append", "(Ljava/lang/String;)Ljava/lang/StringBuilder;"⟩ : MethodName)) hown (mvT hZ (wd hw 85 rfl)) (mvT hZ (wd hw 86 rfl)) (notFace_of_selects (args := #[]) (mvT hZ (wd hw 88 rfl))) (mvT hZ (wd hw 88 rfl)) (mvT hZ (wd hw 87 rfl)) (by decide) (backOf (W := 0) (rmSA1 l Z a0 hw [] x1 s1 t1 vb kt kv (ps.map fun c => c.toInt8.toInt32) cs _ 1 16 G1 G3 T280.heap n0 Z0 Od A1 HS LS O4 rG3 O2 P5 E_x1 F_value_x1 F_coder_x1 F_count_x1 F_maybeLatin1_x1 g_x1 E_s1 F_value_s1 F_coder_s1 V_t1 V_vb (by rw [List.length_map]; omega) (by decide)) hZ (wd hw 89 rfl) (wd hw 62 rfl) (by decide) (by decide)) q282a q282c (g := (mkF m 21 #[.val (.ref r1)] [(.ref s1), (.ref x1)])) rfl (by rw [hml]; rfl) (Steps.refl _) (argsL := [(.ref s1)]) (rest := []) (lenOf pd_12 rfl) rfl (by show 2 * 0 + _ ≤ _; exact Nat.le_of_eq rfl) (dB hby D10 9 rfl) (fun _ _ => ⟨rfl, e281, (by decide : 2 + 1 ≤ _), (by decide : 20 + 32 ≤ _)⟩)
    dsimp only [Pt.U, Pt.locs, Pt.cells, Pt.slots] at X282 l282 y282 z282 st282 hQ282
    subst y282 z282
    obtain ⟨bf, kb, rfl, Nq282, K282, sz_bf, f1, f2, f3, f4, V_bf⟩ := hQ282
    have N282 : Fr n0 L282 := by rw [l282]; exact Fr.app N280 Nq282
    clear l282
    refine Go.by (fun t => st282.trans) ?_
    replace X282 := Stand.num (C := 3) (S := 52) X282 rfl rfl
    replace Od := Od.keep K282 (allS g_x1 all0)
    replace E_x1 := E_x1.keep K282
    replace Z0 := Nat.le_trans Z0 K282.1
    replace K0 := K0.trans K282 (allS (P := fun x => x ∈ _ ∨ _ ≤ x) (Or.inr sz_x1) all0)
    show Go p e below _ (T282.setTop (mkF m 24 #[.val (.ref r1)] [(.ref x1)]))
    clear F_value_x1 F_coder_x1 F_count_x1 F_maybeLatin1_x1
    have F_value_x1 := f1
    have F_coder_x1 := f2
    have F_count_x1 := f3
    have F_maybeLatin1_x1 := f4
    clear f1 f2 f3 f4
    rw [map_ch8 lp, ← utf_app] at V_bf
    rw [List.length_map] at F_count_x1
    have hul : (utfL (ps ++ cs)).length = 2 * (ps.length + cs.length) := by rw [utf_len, List.length_append]
    obtain ⟨cq283, kq283, q283a, q283b, q283c⟩ := isOf hZ rfl E_x1
    obtain ⟨_, _, ⟨T283, L283, k283, n283⟩, -, X283, ⟨Lc283, hQ283, l283, y283, z283⟩, st283⟩ := X282.virtualBack hx (y := (⟨"java/lang/StringBuilder", "toString", "()Ljava/lang/String;"⟩ : MethodName)) (z := (⟨"java/lang/StringBuilder", "toString", "()Ljava/lang/String;"⟩ : MethodName)) hown (mvT hZ (wd hw 132 rfl)) (mvT hZ (wd hw 133 rfl)) (notFace_of_selects (args := #[]) (mvT hZ (wd hw 135 rfl))) (mvT hZ (wd hw 135 rfl)) (mvT hZ (wd hw 134 rfl)) (by decide) (backOf (W := 0) (rmTS l Z a0 hw [] x1 bf kb (utfL (ps ++ cs)) _ (ps.length + cs.length) 32 G1 1 T282.heap n0 Z0 Od O2 P5 E_x1 F_value_x1 F_coder_x1 F_count_x1 F_maybeLatin1_x1 V_bf (Or.inr ⟨rfl, hul⟩) (by omega) (by decide) (by omega)) hZ (wd hw 136 rfl) (wd hw 62 rfl) (by decide) (by decide)) q283a q283c (g := (mkF m 24 #[.val (.ref r1)] [(.ref x1)])) rfl (by rw [hml]; rfl) (Steps.refl _) (argsL := []) (rest := []) (lenOf pd_2 rfl) rfl (by show 2 * 0 + _ ≤ _; exact Nat.le_of_eq rfl) (dB hby D10 10 rfl) (fun _ _ => ⟨rfl, rfl, (by decide : 3 + 2 ≤ _), (by decide : 52 + 36 ≤ _)⟩)
    dsimp only [Pt.U, Pt.locs, Pt.cells, Pt.slots] at X283 l283 y283 z283 st283 hQ283
    subst y283 z283
    obtain ⟨r, t, kt', rfl, Nq283, K283, sz_r, E_r, Fv, Fc, V_t⟩ := hQ283
    have N283 : Fr n0 L283 := by rw [l283]; exact Fr.app N282 Nq283
    clear l283
    refine Go.by (fun t => st283.trans) ?_
    replace X283 := Stand.num (C := 5) (S := 88) X283 rfl rfl
    replace Z0 := Nat.le_trans Z0 K283.1
    replace K0 := K0.trans K283 all0
    rw [utf_len] at V_t
    exact Go.ret1 X283 hx Bd.returns Bd.notSynchronized rfl (Or.inr (Or.inr (Or.inr (Or.inr ⟨rfl, rfl, rfl⟩)))) (dB hby D10 11 rfl) (by decide) (by decide) ⟨r, rfl, N283, K0, t, kt', E_r, Fv, Or.inr ⟨Fc, ex_app hg, V_t⟩⟩
def Q_rmTG (Z : State) (ca cb cc : Int32) (nn : Nat) (G1 : Int32) (h0 : Heap) (n0 : Nat) : Option Value → Heap → List Loc → Prop := fun v h L => ∃ r : Addr, v = some (.ref r) ∧ Fr n0 L ∧ Keep h0 h [] ∧ StrU Z h r ([ca, cb, cc].take nn)
set_option maxRecDepth 65536 in
set_option maxHeartbeats 40000000 in
theorem rmTG (l : Launch) (Z : State) (a0 : Array Value) (hw : ∀ d ∈ tables_1, d.before a0 Z = true) (ws : List Jvm.Cond) (ca cb cc : Int32) (nn : Nat) (G1 : Int32) (h0 : Heap) (n0 : Nat) (Z0 : n0 ≤ h0.size) (Od : Old Z n0 h0) (A1 : Sta Z Z.heap "java/lang/StringUTF16" "$assertionsDisabled" "Z" (.int 1)) (HS : Sta Z Z.heap "java/lang/StringUTF16" "HI_BYTE_SHIFT" "I" (.int 0)) (LS : Sta Z Z.heap "java/lang/StringUTF16" "LO_BYTE_SHIFT" "I" (.int 8)) (O2 : Sta Z Z.heap "java/lang/String" "COMPACT_STRINGS" "Z" (.int G1)) (P5 : ¬ (G1 = (0 : Int32))) (bca : ¬ ca < 0 ∧ ¬ (65535 : Int32) < ca) (bcb : ¬ cb < 0 ∧ ¬ (65535 : Int32) < cb) (bcc : ¬ cc < 0 ∧ ¬ (65535 : Int32) < cc) (hnn : nn ≤ 3) :
    CTW EL l (⟨"com/example/harvest_rules/harvestrules/registry/SecretReferenceToStringPinLaw", "target", "(ICCC)Ljava/lang/String;"⟩ : MethodName) method_2_code 4 (some (.object "java/lang/String")) ws ({ frames := 6, cells := 6, slots := 55, locals := 104 } : Room) #[(.int (Int32.ofNat nn)), (.int ca), (.int cb), (.int cc)] Z h0 (Q_rmTG Z ca cb cc nn G1 h0 n0) := by
  refine Go.startW (plainFor_of_name pn_0) ?_
  intro p e s m below meth c s₁ Bd hx hby hml hZ hown X0 e0 hS CR
  replace hown : s.vm.findClass "com/example/harvest_rules/harvestrules/registry/SecretReferenceToStringPinLaw" = some m.cls := hown
  have hk : 0 ≤ h0.size := Nat.zero_le _
  have hEL := ew_of hw
  have hwS := ws_of hw
  have N0 := Fr.nil n0
  rw [show entryFrame m #[(.int (Int32.ofNat nn)), (.int ca), (.int cb), (.int cc)] 4 = (mkF m 0 #[.val (.int (Int32.ofNat nn)), .val (.int ca), .val (.int cb), .val (.int cc)] []) from by first | (simp [entryFrame, mkF, argsToLocals, Value.category, maxLocals]; done) | rfl]
  have K0 : Keep h0 h0 [] := Keep.refl _ _
  have h4 : nn = 0 ∨ nn = 1 ∨ nn = 2 ∨ nn = 3 := by omega
  rcases h4 with rfl | rfl | rfl | rfl
  ·
    refine Go.by (fun t => XS.iloadN X0.here hx rfl (dB hby D1 0 rfl) rfl ) ?_
    refine Go.by (fun t => XS.ifNo X0.here hx rfl (dB hby D1 1 rfl) rfl ((if0 _ _).trans (teq (rfl : (0 : Int32) = (0 : Int32))).2)) ?_
    obtain ⟨T284, h284, X284, e284, E284, A284, D284, -, st284⟩ := newO X0 hx hZ hown (wd hw 6 rfl) (wd hw 7 rfl) (wd hw 8 rfl) e0 (g := (mkF m 4 #[.val (.int (0 : Int32)), .val (.int ca), .val (.int cb), .val (.int cc)] [])) rfl (dB hby D1 2 rfl) (by decide) (by decide)
    obtain ⟨r, g284⟩ : ∃ z, z = h0.size := ⟨_, rfl⟩
    rw [← g284] at A284 D284 st284
    refine Go.by (fun t => st284 t) ?_
    have g_r : n0 ≤ r := Nat.le_trans Z0 (Nat.le_of_eq g284.symm)
    have sz_r : h0.size ≤ r := Nat.le_trans K0.1 (Nat.le_of_eq g284.symm)
    have Sf_r : Safe Z EL s.vm h0 r := Safe.new (Nat.le_of_eq g284.symm)
    replace Sf_r := Sf_r.ext E284 CR.1
    replace CR := CR.trans (CHr.ext E284 CR.1)
    replace hk := Nat.le_trans hk E284.1
    replace Od := Od.ext E284
    replace Z0 := Nat.le_trans Z0 E284.1
    replace K0 := K0.ext E284
    have E_r := A284
    have F_coder_r : Fld Z h284 r "java/lang/String" "coder" "B" (.int (0 : Int32)) := D284 (Or.inr (wd hw 33 rfl)) (ty := .byte) (by decide)
    have F_value_r : Fld Z h284 r "java/lang/String" "value" "[B" .null := D284 (Or.inr (wd hw 35 rfl)) (ty := (.array .byte)) (by decide)
    replace X284 := Stand.num (C := 1) (S := 4) X284 rfl rfl
    refine Go.by (fun t => XS.dup X284.here hx rfl (dB hby D1 3 rfl) rfl rfl) ?_
    refine Go.by (fun t => XS.iconst X284.here hx rfl (dB hby D1 4 rfl)) ?_
    show Go p e below _ (T284.setTop (mkF m 9 #[.val (.int (0 : Int32)), .val (.int ca), .val (.int cb), .val (.int cc)] [(.int (0 : Int32)), (.ref r), (.ref r)]))
    obtain ⟨T285, h285, k285, X285, e285, E285, A285, st285⟩ := newP X284 hx hZ (wd hw 9 rfl) e284 (g := (mkF m 9 #[.val (.int (0 : Int32)), .val (.int ca), .val (.int cb), .val (.int cc)] [(.int (0 : Int32)), (.ref r), (.ref r)])) rfl (dB hby D1 5 rfl) rfl (by decide) (cap := 0) (by decide) (by decide) (by decide) (by decide)
    obtain ⟨b, g285⟩ : ∃ z, z = h284.size := ⟨_, rfl⟩
    rw [← g285] at A285 st285
    refine Go.by (fun t => st285 t) ?_
    have g_b : n0 ≤ b := Nat.le_trans Z0 (Nat.le_of_eq g285.symm)
    have sz_b : h0.size ≤ b := Nat.le_trans K0.1 (Nat.le_of_eq g285.symm)
    have ne_r_b : r ≠ b := Nat.ne_of_lt (Nat.lt_of_lt_of_le E_r.lt (Nat.le_of_eq g285.symm))
    replace Sf_r := Sf_r.ext E285 CR.1
    replace CR := CR.trans (CHr.ext E285 CR.1)
    replace hk := Nat.le_trans hk E285.1
    replace Od := Od.ext E285
    replace E_r := E_r.ext E285
    replace F_coder_r := F_coder_r.ext E285
    replace F_value_r := F_value_r.ext E285
    replace Z0 := Nat.le_trans Z0 E285.1
    replace K0 := K0.ext E285
    have V_b : Arv Z h285 b k285 .char (0 : Int32) [] (.int (0 : Int32)) := (Arv.new A285 (by decide)).pad (pad_rep [] (.int (0 : Int32)) 0)
    replace X285 := Stand.num (C := 2) (S := 4) X285 rfl rfl
    obtain ⟨_, _, ⟨T286, L286, k286, n286⟩, -, X286, hSn, hgn, ⟨Lc286, hQ286, l286, y286, z286, CRn⟩, st286⟩ := X285.specialBackS hx (y := (⟨"java/lang/String", "<init>", "([C)V"⟩ : MethodName)) rfl hown (mvT (s := s.setVm s.vm) hZ (wd hw 10 rfl)) (mvT (s := s.setVm s.vm) hZ (wd hw 11 rfl)) (mvT (s := s.setVm s.vm) hZ (wd hw 12 rfl)) (by decide) (backOfSH (W := 1) (rmE1 l Z a0 hw [] r b _ _ _ h285 n0 E_r F_value_r F_coder_r g_r V_b) hZ (wd hw 12 rfl) (wd hw 8 rfl) (by decide) (by decide) hEL CR.1) (g := (mkF m 11 #[.val (.int (0 : Int32)), .val (.int ca), .val (.int cb), .val (.int cc)] [(.ref b), (.ref r), (.ref r)])) rfl (by rw [hml]; rfl) (Steps.refl _) (a := r) (argsL := [(.ref b)]) (rest := [(.ref r)]) (lenOf pd_5 rfl) rfl (by show 2 * 0 + _ ≤ _; exact Nat.le_of_eq rfl) (dB hby D1 6 rfl) (fun _ _ => ⟨rfl, e285, (by decide : 2 + 4 ≤ _), (by decide : 4 + 8 ≤ _)⟩)
    dsimp only [Pt.U, Pt.locs, Pt.cells, Pt.slots] at X286 l286 y286 z286 st286 hQ286 hSn hgn CRn
    subst y286 z286
    rw [e285] at hgn
    obtain ⟨X286', hS286, hZ286, hown286⟩ := rebS hS hk X286 hSn hgn hZ hown
    obtain ⟨rfl, Nq286, K286, S1⟩ := hQ286
    have N286 : Fr n0 L286 := by rw [l286]; exact Fr.app N0 Nq286
    clear l286
    refine Go.by (fun t => st286.trans) ?_
    replace X286' := Stand.num (C := 6) (S := 12) X286' rfl rfl
    replace Sf_r := CRn.safe E_r.lt Sf_r
    replace CR := CR.trans CRn
    replace Od := Od.keep K286 (allS g_r all0)
    replace E_r := E_r.keep K286
    replace Z0 := Nat.le_trans Z0 K286.1
    replace K0 := K0.trans K286 (allS (P := fun x => x ∈ _ ∨ _ ≤ x) (Or.inr sz_r) all0)
    clear CRn hS hk hSn
    have hS := hS286
    have hk : T286.heap.size ≤ T286.heap.size := Nat.le_refl _
    replace hZ := hZ286
    replace hown := hown286
    exact Go.ret1W X286' hS hk CR hZ hEL hx Bd.returns Bd.notSynchronized rfl (Or.inr (Or.inr (Or.inr (Or.inr ⟨rfl, rfl, rfl⟩)))) (dB hby D1 7 rfl) (by decide) (by decide) ⟨r, rfl, N286, K0, S1⟩
  ·
    refine Go.by (fun t => XS.iloadN X0.here hx rfl (dB hby D1 0 rfl) rfl ) ?_
    refine Go.by (fun t => XS.ifYes X0.here hx rfl (pc0 := 1) (pc' := 15) rfl (dB hby D1 1 rfl) rfl ((if0 _ _).trans (feq (by decide : ¬ ((1 : Int32) = (0 : Int32)))).2) (by decide) (by decide)) ?_
    refine Go.by (fun t => XS.iloadN X0.here hx rfl (dB hby D1 8 rfl) rfl ) ?_
    refine Go.by (fun t => XS.iconst X0.here hx rfl (dB hby D1 9 rfl)) ?_
    refine Go.by (fun t => XS.icmpNo X0.here hx rfl (dB hby D1 10 rfl) rfl (teq (rfl : (1 : Int32) = (1 : Int32))).2) ?_
    show Go p e below _ (s₁.setTop (mkF m 20 #[.val (.int (1 : Int32)), .val (.int ca), .val (.int cb), .val (.int cc)] []))
    obtain ⟨T287, h287, X287, e287, E287, A287, D287, -, st287⟩ := newO X0 hx hZ hown (wd hw 6 rfl) (wd hw 7 rfl) (wd hw 8 rfl) e0 (g := (mkF m 20 #[.val (.int (1 : Int32)), .val (.int ca), .val (.int cb), .val (.int cc)] [])) rfl (dB hby D1 11 rfl) (by decide) (by decide)
    obtain ⟨r, g287⟩ : ∃ z, z = h0.size := ⟨_, rfl⟩
    rw [← g287] at A287 D287 st287
    refine Go.by (fun t => st287 t) ?_
    have g_r : n0 ≤ r := Nat.le_trans Z0 (Nat.le_of_eq g287.symm)
    have sz_r : h0.size ≤ r := Nat.le_trans K0.1 (Nat.le_of_eq g287.symm)
    have Sf_r : Safe Z EL s.vm h0 r := Safe.new (Nat.le_of_eq g287.symm)
    replace Sf_r := Sf_r.ext E287 CR.1
    replace CR := CR.trans (CHr.ext E287 CR.1)
    replace hk := Nat.le_trans hk E287.1
    replace Od := Od.ext E287
    replace Z0 := Nat.le_trans Z0 E287.1
    replace K0 := K0.ext E287
    have E_r := A287
    have F_coder_r : Fld Z h287 r "java/lang/String" "coder" "B" (.int (0 : Int32)) := D287 (Or.inr (wd hw 33 rfl)) (ty := .byte) (by decide)
    have F_value_r : Fld Z h287 r "java/lang/String" "value" "[B" .null := D287 (Or.inr (wd hw 35 rfl)) (ty := (.array .byte)) (by decide)
    replace X287 := Stand.num (C := 1) (S := 4) X287 rfl rfl
    refine Go.by (fun t => XS.dup X287.here hx rfl (dB hby D1 12 rfl) rfl rfl) ?_
    refine Go.by (fun t => XS.iconst X287.here hx rfl (dB hby D1 13 rfl)) ?_
    obtain ⟨T288, h288, k288, X288, e288, E288, A288, st288⟩ := newP X287 hx hZ (wd hw 9 rfl) e287 (g := (mkF m 25 #[.val (.int (1 : Int32)), .val (.int ca), .val (.int cb), .val (.int cc)] [(.int (1 : Int32)), (.ref r), (.ref r)])) rfl (dB hby D1 14 rfl) rfl (by decide) (cap := 1) (by decide) (by decide) (by decide) (by decide)
    obtain ⟨b, g288⟩ : ∃ z, z = h287.size := ⟨_, rfl⟩
    rw [← g288] at A288 st288
    refine Go.by (fun t => st288 t) ?_
    have g_b : n0 ≤ b := Nat.le_trans Z0 (Nat.le_of_eq g288.symm)
    have sz_b : h0.size ≤ b := Nat.le_trans K0.1 (Nat.le_of_eq g288.symm)
    have ne_r_b : r ≠ b := Nat.ne_of_lt (Nat.lt_of_lt_of_le E_r.lt (Nat.le_of_eq g288.symm))
    replace Sf_r := Sf_r.ext E288 CR.1
    replace CR := CR.trans (CHr.ext E288 CR.1)
    replace hk := Nat.le_trans hk E288.1
    replace Od := Od.ext E288
    replace E_r := E_r.ext E288
    replace F_coder_r := F_coder_r.ext E288
    replace F_value_r := F_value_r.ext E288
    replace Z0 := Nat.le_trans Z0 E288.1
    replace K0 := K0.ext E288
    have V_b : Arv Z h288 b k288 .char (1 : Int32) [(.int (0 : Int32))] (.int (0 : Int32)) := (Arv.new A288 (by decide)).pad (pad_rep [] (.int (0 : Int32)) 1)
    replace X288 := Stand.num (C := 2) (S := 5) X288 rfl rfl
    refine Go.by (fun t => XS.dup X288.here hx rfl (dB hby D1 15 rfl) rfl rfl) ?_
    refine Go.by (fun t => XS.iconst X288.here hx rfl (dB hby D1 16 rfl)) ?_
    refine Go.by (fun t => XS.iloadN X288.here hx rfl (dB hby D1 17 rfl) rfl ) ?_
    obtain ⟨cl_289, Ar_289, q_289, S_289, M_289, H_289, G_289⟩ := id V_b
    obtain ⟨T289, h289, X289, e289, W289, st289⟩ := stC X288 hx hZ e288 Ar_289 (j := (0 : Int32)) (inb_of S_289 ⟨by decide, by decide⟩) (g := (mkF m 30 #[.val (.int (1 : Int32)), .val (.int ca), .val (.int cb), .val (.int cc)] [(.int ca), (.int (0 : Int32)), (.ref b), (.ref b), (.ref r), (.ref r)])) rfl rfl (dB hby D1 18 rfl)
    refine Go.by (fun t => st289 t) ?_
    have Sfw : Safe Z EL s.vm h288 b := (Safe.arv hZ.alike V_b (by decide))
    replace Sf_r := Safe.wr W289 Sfw CR.1 Sf_r
    replace CR := CR.trans (CHr.wr W289 Sfw CR.1)
    clear Sfw
    replace hk := Nat.le_trans hk (Keep.of_wr W289).1
    replace V_b := Arv.set Ar_289 q_289 S_289 M_289 H_289 G_289 (fits_nar_char _) W289 0 rfl (Nat.le_of_ble_eq_true rfl)
    rw [nar_c bca] at V_b
    replace V_b : Arv Z h289 b k288 .char (1 : Int32) [(.int ca)] (.int (0 : Int32)) := V_b
    replace Od := Od.wr W289 g_b
    replace E_r := E_r.wr W289
    replace F_coder_r := F_coder_r.other W289 (Or.inl ne_r_b)
    replace F_value_r := F_value_r.other W289 (Or.inl ne_r_b)
    replace Z0 := Nat.le_trans Z0 (Keep.of_wr W289).1
    replace K0 := K0.wr W289 (Or.inr sz_b)
    have N289 := Fr.snoc X289 N0 g_b
    show Go p e below _ (T289.setTop (mkF m 31 #[.val (.int (1 : Int32)), .val (.int ca), .val (.int cb), .val (.int cc)] [(.ref b), (.ref r), (.ref r)]))
    obtain ⟨_, _, ⟨T290, L290, k290, n290⟩, -, X290, ⟨Lc290, hQ290, l290, y290, z290⟩, st290⟩ := X289.specialBack hx (y := (⟨"java/lang/String", "<init>", "([C)V"⟩ : MethodName)) rfl hown (mvT hZ (wd hw 10 rfl)) (mvT hZ (wd hw 11 rfl)) (mvT hZ (wd hw 12 rfl)) (by decide) (backOf (W := 1) (rmI1 l Z a0 hw [] r b k288 [ca] G1 h289 n0 Z0 Od A1 HS LS O2 P5 E_r F_value_r F_coder_r g_r V_b (Nat.le_of_ble_eq_true rfl) (Nat.le_of_ble_eq_true rfl) (allC' bca (fun _ h => nomatch h))) hZ (wd hw 12 rfl) (wd hw 8 rfl) (by decide) (by decide)) (g := (mkF m 31 #[.val (.int (1 : Int32)), .val (.int ca), .val (.int cb), .val (.int cc)] [(.ref b), (.ref r), (.ref r)])) rfl (by rw [hml]; rfl) (Steps.refl _) (a := r) (argsL := [(.ref b)]) (rest := [(.ref r)]) (lenOf pd_5 rfl) rfl (by show 2 * 0 + _ ≤ _; exact Nat.le_of_eq rfl) (dB hby D1 19 rfl) (fun _ _ => ⟨rfl, e289, (by decide : 2 + 2 ≤ _), (by decide : 5 + 35 ≤ _)⟩)
    dsimp only [Pt.U, Pt.locs, Pt.cells, Pt.slots] at X290 l290 y290 z290 st290 hQ290
    subst y290 z290
    obtain ⟨rfl, Nq290, K290, S1⟩ := hQ290
    have N290 : Fr n0 L290 := by rw [l290]; exact Fr.app N289 Nq290
    clear l290
    refine Go.by (fun t => st290.trans) ?_
    replace X290 := Stand.num (C := 4) (S := 40) X290 rfl rfl
    have Sfw := ((sfS Sf_r sf0) : ∀ x ∈ [r], Safe Z EL s.vm h289 x)
    replace Sf_r := Safe.keep K290 Sfw CR.1 Sf_r
    replace CR := CR.trans (CHr.keep K290 Sfw CR.1)
    clear Sfw
    replace hk := Nat.le_trans hk K290.1
    replace Od := Od.keep K290 (allS g_r all0)
    replace E_r := E_r.keep K290
    replace Z0 := Nat.le_trans Z0 K290.1
    replace K0 := K0.trans K290 (allS (P := fun x => x ∈ _ ∨ _ ≤ x) (Or.inr sz_r) all0)
    exact Go.ret1W X290 hS hk CR hZ hEL hx Bd.returns Bd.notSynchronized rfl (Or.inr (Or.inr (Or.inr (Or.inr ⟨rfl, rfl, rfl⟩)))) (dB hby D1 20 rfl) (by decide) (by decide) ⟨r, rfl, N290, K0, S1⟩
  ·
    refine Go.by (fun t => XS.iloadN X0.here hx rfl (dB hby D1 0 rfl) rfl ) ?_
    refine Go.by (fun t => XS.ifYes X0.here hx rfl (pc0 := 1) (pc' := 15) rfl (dB hby D1 1 rfl) rfl ((if0 _ _).trans (feq (by decide : ¬ ((2 : Int32) = (0 : Int32)))).2) (by decide) (by decide)) ?_
    refine Go.by (fun t => XS.iloadN X0.here hx rfl (dB hby D1 8 rfl) rfl ) ?_
    refine Go.by (fun t => XS.iconst X0.here hx rfl (dB hby D1 9 rfl)) ?_
    refine Go.by (fun t => XS.icmpYes X0.here hx rfl (pc0 := 17) (pc' := 35) rfl (dB hby D1 10 rfl) rfl (feq (by decide : ¬ ((2 : Int32) = (1 : Int32)))).2 (by decide) (by decide)) ?_
    refine Go.by (fun t => XS.iloadN X0.here hx rfl (dB hby D1 21 rfl) rfl ) ?_
    refine Go.by (fun t => XS.iconst X0.here hx rfl (dB hby D1 22 rfl)) ?_
    show Go p e below _ (s₁.setTop (mkF m 37 #[.val (.int (2 : Int32)), .val (.int ca), .val (.int cb), .val (.int cc)] [(.int (2 : Int32)), (.int (2 : Int32))]))
    refine Go.by (fun t => XS.icmpNo X0.here hx rfl (dB hby D1 23 rfl) rfl (teq (rfl : (2 : Int32) = (2 : Int32))).2) ?_
    obtain ⟨T291, h291, X291, e291, E291, A291, D291, -, st291⟩ := newO X0 hx hZ hown (wd hw 6 rfl) (wd hw 7 rfl) (wd hw 8 rfl) e0 (g := (mkF m 40 #[.val (.int (2 : Int32)), .val (.int ca), .val (.int cb), .val (.int cc)] [])) rfl (dB hby D1 24 rfl) (by decide) (by decide)
    obtain ⟨r, g291⟩ : ∃ z, z = h0.size := ⟨_, rfl⟩
    rw [← g291] at A291 D291 st291
    refine Go.by (fun t => st291 t) ?_
    have g_r : n0 ≤ r := Nat.le_trans Z0 (Nat.le_of_eq g291.symm)
    have sz_r : h0.size ≤ r := Nat.le_trans K0.1 (Nat.le_of_eq g291.symm)
    have Sf_r : Safe Z EL s.vm h0 r := Safe.new (Nat.le_of_eq g291.symm)
    replace Sf_r := Sf_r.ext E291 CR.1
    replace CR := CR.trans (CHr.ext E291 CR.1)
    replace hk := Nat.le_trans hk E291.1
    replace Od := Od.ext E291
    replace Z0 := Nat.le_trans Z0 E291.1
    replace K0 := K0.ext E291
    have E_r := A291
    have F_coder_r : Fld Z h291 r "java/lang/String" "coder" "B" (.int (0 : Int32)) := D291 (Or.inr (wd hw 33 rfl)) (ty := .byte) (by decide)
    have F_value_r : Fld Z h291 r "java/lang/String" "value" "[B" .null := D291 (Or.inr (wd hw 35 rfl)) (ty := (.array .byte)) (by decide)
    replace X291 := Stand.num (C := 1) (S := 4) X291 rfl rfl
    refine Go.by (fun t => XS.dup X291.here hx rfl (dB hby D1 25 rfl) rfl rfl) ?_
    refine Go.by (fun t => XS.iconst X291.here hx rfl (dB hby D1 26 rfl)) ?_
    obtain ⟨T292, h292, k292, X292, e292, E292, A292, st292⟩ := newP X291 hx hZ (wd hw 9 rfl) e291 (g := (mkF m 45 #[.val (.int (2 : Int32)), .val (.int ca), .val (.int cb), .val (.int cc)] [(.int (2 : Int32)), (.ref r), (.ref r)])) rfl (dB hby D1 27 rfl) rfl (by decide) (cap := 2) (by decide) (by decide) (by decide) (by decide)
    obtain ⟨b, g292⟩ : ∃ z, z = h291.size := ⟨_, rfl⟩
    rw [← g292] at A292 st292
    refine Go.by (fun t => st292 t) ?_
    have g_b : n0 ≤ b := Nat.le_trans Z0 (Nat.le_of_eq g292.symm)
    have sz_b : h0.size ≤ b := Nat.le_trans K0.1 (Nat.le_of_eq g292.symm)
    have ne_r_b : r ≠ b := Nat.ne_of_lt (Nat.lt_of_lt_of_le E_r.lt (Nat.le_of_eq g292.symm))
    replace Sf_r := Sf_r.ext E292 CR.1
    replace CR := CR.trans (CHr.ext E292 CR.1)
    replace hk := Nat.le_trans hk E292.1
    replace Od := Od.ext E292
    replace E_r := E_r.ext E292
    replace F_coder_r := F_coder_r.ext E292
    replace F_value_r := F_value_r.ext E292
    replace Z0 := Nat.le_trans Z0 E292.1
    replace K0 := K0.ext E292
    have V_b : Arv Z h292 b k292 .char (2 : Int32) [(.int (0 : Int32)), (.int (0 : Int32))] (.int (0 : Int32)) := (Arv.new A292 (by decide)).pad (pad_rep [] (.int (0 : Int32)) 2)
    replace X292 := Stand.num (C := 2) (S := 6) X292 rfl rfl
    refine Go.by (fun t => XS.dup X292.here hx rfl (dB hby D1 28 rfl) rfl rfl) ?_
    refine Go.by (fun t => XS.iconst X292.here hx rfl (dB hby D1 29 rfl)) ?_
    refine Go.by (fun t => XS.iloadN X292.here hx rfl (dB hby D1 30 rfl) rfl ) ?_
    show Go p e below _ (T292.setTop (mkF m 50 #[.val (.int (2 : Int32)), .val (.int ca), .val (.int cb), .val (.int cc)] [(.int ca), (.int (0 : Int32)), (.ref b), (.ref b), (.ref r), (.ref r)]))
    obtain ⟨cl_293, Ar_293, q_293, S_293, M_293, H_293, G_293⟩ := id V_b
    obtain ⟨T293, h293, X293, e293, W293, st293⟩ := stC X292 hx hZ e292 Ar_293 (j := (0 : Int32)) (inb_of S_293 ⟨by decide, by decide⟩) (g := (mkF m 50 #[.val (.int (2 : Int32)), .val (.int ca), .val (.int cb), .val (.int cc)] [(.int ca), (.int (0 : Int32)), (.ref b), (.ref b), (.ref r), (.ref r)])) rfl rfl (dB hby D1 31 rfl)
    refine Go.by (fun t => st293 t) ?_
    have Sfw : Safe Z EL s.vm h292 b := (Safe.arv hZ.alike V_b (by decide))
    replace Sf_r := Safe.wr W293 Sfw CR.1 Sf_r
    replace CR := CR.trans (CHr.wr W293 Sfw CR.1)
    clear Sfw
    replace hk := Nat.le_trans hk (Keep.of_wr W293).1
    replace V_b := Arv.set Ar_293 q_293 S_293 M_293 H_293 G_293 (fits_nar_char _) W293 0 rfl (Nat.le_of_ble_eq_true rfl)
    rw [nar_c bca] at V_b
    replace V_b : Arv Z h293 b k292 .char (2 : Int32) [(.int ca), (.int (0 : Int32))] (.int (0 : Int32)) := V_b
    replace Od := Od.wr W293 g_b
    replace E_r := E_r.wr W293
    replace F_coder_r := F_coder_r.other W293 (Or.inl ne_r_b)
    replace F_value_r := F_value_r.other W293 (Or.inl ne_r_b)
    replace Z0 := Nat.le_trans Z0 (Keep.of_wr W293).1
    replace K0 := K0.wr W293 (Or.inr sz_b)
    have N293 := Fr.snoc X293 N0 g_b
    refine Go.by (fun t => XS.dup X293.here hx rfl (dB hby D1 32 rfl) rfl rfl) ?_
    refine Go.by (fun t => XS.iconst X293.here hx rfl (dB hby D1 33 rfl)) ?_
    refine Go.by (fun t => XS.iloadN X293.here hx rfl (dB hby D1 34 rfl) rfl ) ?_
    obtain ⟨cl_294, Ar_294, q_294, S_294, M_294, H_294, G_294⟩ := id V_b
    obtain ⟨T294, h294, X294, e294, W294, st294⟩ := stC X293 hx hZ e293 Ar_294 (j := (1 : Int32)) (inb_of S_294 ⟨by decide, by decide⟩) (g := (mkF m 54 #[.val (.int (2 : Int32)), .val (.int ca), .val (.int cb), .val (.int cc)] [(.int cb), (.int (1 : Int32)), (.ref b), (.ref b), (.ref r), (.ref r)])) rfl rfl (dB hby D1 35 rfl)
    refine Go.by (fun t => st294 t) ?_
    have Sfw : Safe Z EL s.vm h293 b := (Safe.arv hZ.alike V_b (by decide))
    replace Sf_r := Safe.wr W294 Sfw CR.1 Sf_r
    replace CR := CR.trans (CHr.wr W294 Sfw CR.1)
    clear Sfw
    replace hk := Nat.le_trans hk (Keep.of_wr W294).1
    replace V_b := Arv.set Ar_294 q_294 S_294 M_294 H_294 G_294 (fits_nar_char _) W294 1 rfl (Nat.le_of_ble_eq_true rfl)
    rw [nar_c bcb] at V_b
    replace V_b : Arv Z h294 b k292 .char (2 : Int32) [(.int ca), (.int cb)] (.int (0 : Int32)) := V_b
    replace Od := Od.wr W294 g_b
    replace E_r := E_r.wr W294
    replace F_coder_r := F_coder_r.other W294 (Or.inl ne_r_b)
    replace F_value_r := F_value_r.other W294 (Or.inl ne_r_b)
    replace Z0 := Nat.le_trans Z0 (Keep.of_wr W294).1
    replace K0 := K0.wr W294 (Or.inr sz_b)
    have N294 := Fr.snoc X294 N293 g_b
    obtain ⟨_, _, ⟨T295, L295, k295, n295⟩, -, X295, ⟨Lc295, hQ295, l295, y295, z295⟩, st295⟩ := X294.specialBack hx (y := (⟨"java/lang/String", "<init>", "([C)V"⟩ : MethodName)) rfl hown (mvT hZ (wd hw 10 rfl)) (mvT hZ (wd hw 11 rfl)) (mvT hZ (wd hw 12 rfl)) (by decide) (backOf (W := 1) (rmI1 l Z a0 hw [] r b k292 [ca, cb] G1 h294 n0 Z0 Od A1 HS LS O2 P5 E_r F_value_r F_coder_r g_r V_b (Nat.le_of_ble_eq_true rfl) (Nat.le_of_ble_eq_true rfl) (allC' bca (allC' bcb (fun _ h => nomatch h)))) hZ (wd hw 12 rfl) (wd hw 8 rfl) (by decide) (by decide)) (g := (mkF m 55 #[.val (.int (2 : Int32)), .val (.int ca), .val (.int cb), .val (.int cc)] [(.ref b), (.ref r), (.ref r)])) rfl (by rw [hml]; rfl) (Steps.refl _) (a := r) (argsL := [(.ref b)]) (rest := [(.ref r)]) (lenOf pd_5 rfl) rfl (by show 2 * 0 + _ ≤ _; exact Nat.le_of_eq rfl) (dB hby D1 36 rfl) (fun _ _ => ⟨rfl, e294, (by decide : 2 + 2 ≤ _), (by decide : 6 + 35 ≤ _)⟩)
    dsimp only [Pt.U, Pt.locs, Pt.cells, Pt.slots] at X295 l295 y295 z295 st295 hQ295
    subst y295 z295
    obtain ⟨rfl, Nq295, K295, S1⟩ := hQ295
    have N295 : Fr n0 L295 := by rw [l295]; exact Fr.app N294 Nq295
    clear l295
    refine Go.by (fun t => st295.trans) ?_
    replace X295 := Stand.num (C := 4) (S := 41) X295 rfl rfl
    have Sfw := ((sfS Sf_r sf0) : ∀ x ∈ [r], Safe Z EL s.vm h294 x)
    replace Sf_r := Safe.keep K295 Sfw CR.1 Sf_r
    replace CR := CR.trans (CHr.keep K295 Sfw CR.1)
    clear Sfw
    replace hk := Nat.le_trans hk K295.1
    replace Od := Od.keep K295 (allS g_r all0)
    replace E_r := E_r.keep K295
    replace Z0 := Nat.le_trans Z0 K295.1
    replace K0 := K0.trans K295 (allS (P := fun x => x ∈ _ ∨ _ ≤ x) (Or.inr sz_r) all0)
    show Go p e below _ (T295.setTop (mkF m 58 #[.val (.int (2 : Int32)), .val (.int ca), .val (.int cb), .val (.int cc)] [(.ref r)]))
    exact Go.ret1W X295 hS hk CR hZ hEL hx Bd.returns Bd.notSynchronized rfl (Or.inr (Or.inr (Or.inr (Or.inr ⟨rfl, rfl, rfl⟩)))) (dB hby D1 37 rfl) (by decide) (by decide) ⟨r, rfl, N295, K0, S1⟩
  ·
    refine Go.by (fun t => XS.iloadN X0.here hx rfl (dB hby D1 0 rfl) rfl ) ?_
    refine Go.by (fun t => XS.ifYes X0.here hx rfl (pc0 := 1) (pc' := 15) rfl (dB hby D1 1 rfl) rfl ((if0 _ _).trans (feq (by decide : ¬ ((3 : Int32) = (0 : Int32)))).2) (by decide) (by decide)) ?_
    refine Go.by (fun t => XS.iloadN X0.here hx rfl (dB hby D1 8 rfl) rfl ) ?_
    refine Go.by (fun t => XS.iconst X0.here hx rfl (dB hby D1 9 rfl)) ?_
    refine Go.by (fun t => XS.icmpYes X0.here hx rfl (pc0 := 17) (pc' := 35) rfl (dB hby D1 10 rfl) rfl (feq (by decide : ¬ ((3 : Int32) = (1 : Int32)))).2 (by decide) (by decide)) ?_
    refine Go.by (fun t => XS.iloadN X0.here hx rfl (dB hby D1 21 rfl) rfl ) ?_
    refine Go.by (fun t => XS.iconst X0.here hx rfl (dB hby D1 22 rfl)) ?_
    show Go p e below _ (s₁.setTop (mkF m 37 #[.val (.int (3 : Int32)), .val (.int ca), .val (.int cb), .val (.int cc)] [(.int (2 : Int32)), (.int (3 : Int32))]))
    refine Go.by (fun t => XS.icmpYes X0.here hx rfl (pc0 := 37) (pc' := 59) rfl (dB hby D1 23 rfl) rfl (feq (by decide : ¬ ((3 : Int32) = (2 : Int32)))).2 (by decide) (by decide)) ?_
    obtain ⟨T296, h296, X296, e296, E296, A296, D296, -, st296⟩ := newO X0 hx hZ hown (wd hw 6 rfl) (wd hw 7 rfl) (wd hw 8 rfl) e0 (g := (mkF m 59 #[.val (.int (3 : Int32)), .val (.int ca), .val (.int cb), .val (.int cc)] [])) rfl (dB hby D1 38 rfl) (by decide) (by decide)
    obtain ⟨r, g296⟩ : ∃ z, z = h0.size := ⟨_, rfl⟩
    rw [← g296] at A296 D296 st296
    refine Go.by (fun t => st296 t) ?_
    have g_r : n0 ≤ r := Nat.le_trans Z0 (Nat.le_of_eq g296.symm)
    have sz_r : h0.size ≤ r := Nat.le_trans K0.1 (Nat.le_of_eq g296.symm)
    have Sf_r : Safe Z EL s.vm h0 r := Safe.new (Nat.le_of_eq g296.symm)
    replace Sf_r := Sf_r.ext E296 CR.1
    replace CR := CR.trans (CHr.ext E296 CR.1)
    replace hk := Nat.le_trans hk E296.1
    replace Od := Od.ext E296
    replace Z0 := Nat.le_trans Z0 E296.1
    replace K0 := K0.ext E296
    have E_r := A296
    have F_coder_r : Fld Z h296 r "java/lang/String" "coder" "B" (.int (0 : Int32)) := D296 (Or.inr (wd hw 33 rfl)) (ty := .byte) (by decide)
    have F_value_r : Fld Z h296 r "java/lang/String" "value" "[B" .null := D296 (Or.inr (wd hw 35 rfl)) (ty := (.array .byte)) (by decide)
    replace X296 := Stand.num (C := 1) (S := 4) X296 rfl rfl
    refine Go.by (fun t => XS.dup X296.here hx rfl (dB hby D1 39 rfl) rfl rfl) ?_
    refine Go.by (fun t => XS.iconst X296.here hx rfl (dB hby D1 40 rfl)) ?_
    obtain ⟨T297, h297, k297, X297, e297, E297, A297, st297⟩ := newP X296 hx hZ (wd hw 9 rfl) e296 (g := (mkF m 64 #[.val (.int (3 : Int32)), .val (.int ca), .val (.int cb), .val (.int cc)] [(.int (3 : Int32)), (.ref r), (.ref r)])) rfl (dB hby D1 41 rfl) rfl (by decide) (cap := 3) (by decide) (by decide) (by decide) (by decide)
    obtain ⟨b, g297⟩ : ∃ z, z = h296.size := ⟨_, rfl⟩
    rw [← g297] at A297 st297
    refine Go.by (fun t => st297 t) ?_
    have g_b : n0 ≤ b := Nat.le_trans Z0 (Nat.le_of_eq g297.symm)
    have sz_b : h0.size ≤ b := Nat.le_trans K0.1 (Nat.le_of_eq g297.symm)
    have ne_r_b : r ≠ b := Nat.ne_of_lt (Nat.lt_of_lt_of_le E_r.lt (Nat.le_of_eq g297.symm))
    replace Sf_r := Sf_r.ext E297 CR.1
    replace CR := CR.trans (CHr.ext E297 CR.1)
    replace hk := Nat.le_trans hk E297.1
    replace Od := Od.ext E297
    replace E_r := E_r.ext E297
    replace F_coder_r := F_coder_r.ext E297
    replace F_value_r := F_value_r.ext E297
    replace Z0 := Nat.le_trans Z0 E297.1
    replace K0 := K0.ext E297
    have V_b : Arv Z h297 b k297 .char (3 : Int32) [(.int (0 : Int32)), (.int (0 : Int32)), (.int (0 : Int32))] (.int (0 : Int32)) := (Arv.new A297 (by decide)).pad (pad_rep [] (.int (0 : Int32)) 3)
    replace X297 := Stand.num (C := 2) (S := 7) X297 rfl rfl
    refine Go.by (fun t => XS.dup X297.here hx rfl (dB hby D1 42 rfl) rfl rfl) ?_
    refine Go.by (fun t => XS.iconst X297.here hx rfl (dB hby D1 43 rfl)) ?_
    refine Go.by (fun t => XS.iloadN X297.here hx rfl (dB hby D1 44 rfl) rfl ) ?_
    show Go p e below _ (T297.setTop (mkF m 69 #[.val (.int (3 : Int32)), .val (.int ca), .val (.int cb), .val (.int cc)] [(.int ca), (.int (0 : Int32)), (.ref b), (.ref b), (.ref r), (.ref r)]))
    obtain ⟨cl_298, Ar_298, q_298, S_298, M_298, H_298, G_298⟩ := id V_b
    obtain ⟨T298, h298, X298, e298, W298, st298⟩ := stC X297 hx hZ e297 Ar_298 (j := (0 : Int32)) (inb_of S_298 ⟨by decide, by decide⟩) (g := (mkF m 69 #[.val (.int (3 : Int32)), .val (.int ca), .val (.int cb), .val (.int cc)] [(.int ca), (.int (0 : Int32)), (.ref b), (.ref b), (.ref r), (.ref r)])) rfl rfl (dB hby D1 45 rfl)
    refine Go.by (fun t => st298 t) ?_
    have Sfw : Safe Z EL s.vm h297 b := (Safe.arv hZ.alike V_b (by decide))
    replace Sf_r := Safe.wr W298 Sfw CR.1 Sf_r
    replace CR := CR.trans (CHr.wr W298 Sfw CR.1)
    clear Sfw
    replace hk := Nat.le_trans hk (Keep.of_wr W298).1
    replace V_b := Arv.set Ar_298 q_298 S_298 M_298 H_298 G_298 (fits_nar_char _) W298 0 rfl (Nat.le_of_ble_eq_true rfl)
    rw [nar_c bca] at V_b
    replace V_b : Arv Z h298 b k297 .char (3 : Int32) [(.int ca), (.int (0 : Int32)), (.int (0 : Int32))] (.int (0 : Int32)) := V_b
    replace Od := Od.wr W298 g_b
    replace E_r := E_r.wr W298
    replace F_coder_r := F_coder_r.other W298 (Or.inl ne_r_b)
    replace F_value_r := F_value_r.other W298 (Or.inl ne_r_b)
    replace Z0 := Nat.le_trans Z0 (Keep.of_wr W298).1
    replace K0 := K0.wr W298 (Or.inr sz_b)
    have N298 := Fr.snoc X298 N0 g_b
    refine Go.by (fun t => XS.dup X298.here hx rfl (dB hby D1 46 rfl) rfl rfl) ?_
    refine Go.by (fun t => XS.iconst X298.here hx rfl (dB hby D1 47 rfl)) ?_
    refine Go.by (fun t => XS.iloadN X298.here hx rfl (dB hby D1 48 rfl) rfl ) ?_
    obtain ⟨cl_299, Ar_299, q_299, S_299, M_299, H_299, G_299⟩ := id V_b
    obtain ⟨T299, h299, X299, e299, W299, st299⟩ := stC X298 hx hZ e298 Ar_299 (j := (1 : Int32)) (inb_of S_299 ⟨by decide, by decide⟩) (g := (mkF m 73 #[.val (.int (3 : Int32)), .val (.int ca), .val (.int cb), .val (.int cc)] [(.int cb), (.int (1 : Int32)), (.ref b), (.ref b), (.ref r), (.ref r)])) rfl rfl (dB hby D1 49 rfl)
    refine Go.by (fun t => st299 t) ?_
    have Sfw : Safe Z EL s.vm h298 b := (Safe.arv hZ.alike V_b (by decide))
    replace Sf_r := Safe.wr W299 Sfw CR.1 Sf_r
    replace CR := CR.trans (CHr.wr W299 Sfw CR.1)
    clear Sfw
    replace hk := Nat.le_trans hk (Keep.of_wr W299).1
    replace V_b := Arv.set Ar_299 q_299 S_299 M_299 H_299 G_299 (fits_nar_char _) W299 1 rfl (Nat.le_of_ble_eq_true rfl)
    rw [nar_c bcb] at V_b
    replace V_b : Arv Z h299 b k297 .char (3 : Int32) [(.int ca), (.int cb), (.int (0 : Int32))] (.int (0 : Int32)) := V_b
    replace Od := Od.wr W299 g_b
    replace E_r := E_r.wr W299
    replace F_coder_r := F_coder_r.other W299 (Or.inl ne_r_b)
    replace F_value_r := F_value_r.other W299 (Or.inl ne_r_b)
    replace Z0 := Nat.le_trans Z0 (Keep.of_wr W299).1
    replace K0 := K0.wr W299 (Or.inr sz_b)
    have N299 := Fr.snoc X299 N298 g_b
    refine Go.by (fun t => XS.dup X299.here hx rfl (dB hby D1 50 rfl) rfl rfl) ?_
    refine Go.by (fun t => XS.iconst X299.here hx rfl (dB hby D1 51 rfl)) ?_
    refine Go.by (fun t => XS.iloadN X299.here hx rfl (dB hby D1 52 rfl) rfl ) ?_
    obtain ⟨cl_300, Ar_300, q_300, S_300, M_300, H_300, G_300⟩ := id V_b
    obtain ⟨T300, h300, X300, e300, W300, st300⟩ := stC X299 hx hZ e299 Ar_300 (j := (2 : Int32)) (inb_of S_300 ⟨by decide, by decide⟩) (g := (mkF m 77 #[.val (.int (3 : Int32)), .val (.int ca), .val (.int cb), .val (.int cc)] [(.int cc), (.int (2 : Int32)), (.ref b), (.ref b), (.ref r), (.ref r)])) rfl rfl (dB hby D1 53 rfl)
    refine Go.by (fun t => st300 t) ?_
    have Sfw : Safe Z EL s.vm h299 b := (Safe.arv hZ.alike V_b (by decide))
    replace Sf_r := Safe.wr W300 Sfw CR.1 Sf_r
    replace CR := CR.trans (CHr.wr W300 Sfw CR.1)
    clear Sfw
    replace hk := Nat.le_trans hk (Keep.of_wr W300).1
    replace V_b := Arv.set Ar_300 q_300 S_300 M_300 H_300 G_300 (fits_nar_char _) W300 2 rfl (Nat.le_of_ble_eq_true rfl)
    rw [nar_c bcc] at V_b
    replace V_b : Arv Z h300 b k297 .char (3 : Int32) [(.int ca), (.int cb), (.int cc)] (.int (0 : Int32)) := V_b
    replace Od := Od.wr W300 g_b
    replace E_r := E_r.wr W300
    replace F_coder_r := F_coder_r.other W300 (Or.inl ne_r_b)
    replace F_value_r := F_value_r.other W300 (Or.inl ne_r_b)
    replace Z0 := Nat.le_trans Z0 (Keep.of_wr W300).1
    replace K0 := K0.wr W300 (Or.inr sz_b)
    have N300 := Fr.snoc X300 N299 g_b
    show Go p e below _ (T300.setTop (mkF m 78 #[.val (.int (3 : Int32)), .val (.int ca), .val (.int cb), .val (.int cc)] [(.ref b), (.ref r), (.ref r)]))
    obtain ⟨_, _, ⟨T301, L301, k301, n301⟩, -, X301, ⟨Lc301, hQ301, l301, y301, z301⟩, st301⟩ := X300.specialBack hx (y := (⟨"java/lang/String", "<init>", "([C)V"⟩ : MethodName)) rfl hown (mvT hZ (wd hw 10 rfl)) (mvT hZ (wd hw 11 rfl)) (mvT hZ (wd hw 12 rfl)) (by decide) (backOf (W := 1) (rmI1 l Z a0 hw [] r b k297 [ca, cb, cc] G1 h300 n0 Z0 Od A1 HS LS O2 P5 E_r F_value_r F_coder_r g_r V_b (Nat.le_of_ble_eq_true rfl) (Nat.le_of_ble_eq_true rfl) (allC' bca (allC' bcb (allC' bcc (fun _ h => nomatch h))))) hZ (wd hw 12 rfl) (wd hw 8 rfl) (by decide) (by decide)) (g := (mkF m 78 #[.val (.int (3 : Int32)), .val (.int ca), .val (.int cb), .val (.int cc)] [(.ref b), (.ref r), (.ref r)])) rfl (by rw [hml]; rfl) (Steps.refl _) (a := r) (argsL := [(.ref b)]) (rest := [(.ref r)]) (lenOf pd_5 rfl) rfl (by show 2 * 0 + _ ≤ _; exact Nat.le_of_eq rfl) (dB hby D1 54 rfl) (fun _ _ => ⟨rfl, e300, (by decide : 2 + 2 ≤ _), (by decide : 7 + 35 ≤ _)⟩)
    dsimp only [Pt.U, Pt.locs, Pt.cells, Pt.slots] at X301 l301 y301 z301 st301 hQ301
    subst y301 z301
    obtain ⟨rfl, Nq301, K301, S1⟩ := hQ301
    have N301 : Fr n0 L301 := by rw [l301]; exact Fr.app N300 Nq301
    clear l301
    refine Go.by (fun t => st301.trans) ?_
    replace X301 := Stand.num (C := 4) (S := 42) X301 rfl rfl
    have Sfw := ((sfS Sf_r sf0) : ∀ x ∈ [r], Safe Z EL s.vm h300 x)
    replace Sf_r := Safe.keep K301 Sfw CR.1 Sf_r
    replace CR := CR.trans (CHr.keep K301 Sfw CR.1)
    clear Sfw
    replace hk := Nat.le_trans hk K301.1
    replace Od := Od.keep K301 (allS g_r all0)
    replace E_r := E_r.keep K301
    replace Z0 := Nat.le_trans Z0 K301.1
    replace K0 := K0.trans K301 (allS (P := fun x => x ∈ _ ∨ _ ≤ x) (Or.inr sz_r) all0)
    exact Go.ret1W X301 hS hk CR hZ hEL hx Bd.returns Bd.notSynchronized rfl (Or.inr (Or.inr (Or.inr (Or.inr ⟨rfl, rfl, rfl⟩)))) (dB hby D1 55 rfl) (by decide) (by decide) ⟨r, rfl, N301, K0, S1⟩
def Q_rmEQ (Z : State) (s1 b1 : Addr) (cs : List Int32) (kc : ClassId) (M i1 ln : Int32) (ds : List Value) (G1 : Int32) (G3 : Value) (h0 : Heap) (n0 : Nat) : Option Value → Heap → List Loc → Prop := fun v h L => v = some (.int 1) ∧ Fr n0 L ∧ h = h0
set_option maxRecDepth 65536 in
set_option maxHeartbeats 40000000 in
theorem rmEQ (l : Launch) (Z : State) (a0 : Array Value) (hw : ∀ d ∈ tables_1, d.before a0 Z = true) (ws : List Jvm.Cond) (s1 b1 : Addr) (cs : List Int32) (kc : ClassId) (M i1 ln : Int32) (ds : List Value) (G1 : Int32) (G3 : Value) (h0 : Heap) (n0 : Nat) (Od : Old Z n0 h0) (A1 : Sta Z Z.heap "java/lang/StringUTF16" "$assertionsDisabled" "Z" (.int 1)) (HS : Sta Z Z.heap "java/lang/StringUTF16" "HI_BYTE_SHIFT" "I" (.int 0)) (LS : Sta Z Z.heap "java/lang/StringUTF16" "LO_BYTE_SHIFT" "I" (.int 8)) (O4 : Sta Z Z.heap "jdk/internal/util/Preconditions" "SIOOBE_FORMATTER" "Ljava/util/function/BiFunction;" G3) (rG3 : G3.isRef = true) (O2 : Sta Z Z.heap "java/lang/String" "COMPACT_STRINGS" "Z" (.int G1)) (P5 : ¬ (G1 = (0 : Int32))) (S1 : StrU Z h0 s1 cs) (V_b1 : Arv Z h0 b1 kc .char M ds (.int 0)) (hk : cs.length < 1000000) (hj : i1 < ln → ∃ us cx vs, cs = us ++ cx :: vs ∧ i1 = Int32.ofNat us.length ∧ (¬ cx < 0 ∧ ¬ (65535 : Int32) < cx) ∧ (¬ i1 < 0 ∧ i1 < M) ∧ ds.getD i1.toNatClampNeg (.int 0) = .int cx) :
    CT l (⟨"com/example/harvest_rules/harvestrules/registry/SecretReferenceToStringPinLaw", "eqAt", "(Ljava/lang/String;[CII)Z"⟩ : MethodName) method_3_code 4 (some .boolean) ws ({ frames := 5, cells := 0, slots := 0, locals := 78 } : Room) #[(.ref s1), (.ref b1), (.int i1), (.int ln)] Z h0 (Q_rmEQ Z s1 b1 cs kc M i1 ln ds G1 G3 h0 n0) := by
  refine Go.start (plainFor_of_name pn_0) ?_
  intro p e s m below meth c s₁ Bd hx hby hml hZ hown X0 e0
  replace hown : s.vm.findClass "com/example/harvest_rules/harvestrules/registry/SecretReferenceToStringPinLaw" = some m.cls := hown
  have N0 := Fr.nil n0
  rw [show entryFrame m #[(.ref s1), (.ref b1), (.int i1), (.int ln)] 4 = (mkF m 0 #[.val (.ref s1), .val (.ref b1), .val (.int i1), .val (.int ln)] []) from by first | (simp [entryFrame, mkF, argsToLocals, Value.category, maxLocals]; done) | rfl]
  refine Go.by (fun t => XS.iloadN X0.here hx rfl (dB hby D33 0 rfl) rfl ) ?_
  refine Go.by (fun t => XS.iloadN X0.here hx rfl (dB hby D33 1 rfl) rfl ) ?_
  by_cases hlt : i1 < ln
  ·
    obtain ⟨us, cx, vs, hcs, hi, bd, in3, at3⟩ := hj hlt
    refine Go.by (fun t => XS.icmpNo X0.here hx rfl (dB hby D33 2 rfl) rfl (tlt (hlt : i1 < ln)).2.1) ?_
    refine Go.by (fun t => XS.aloadN X0.here hx rfl (dB hby D33 3 rfl) rfl rfl) ?_
    refine Go.by (fun t => XS.iloadN X0.here hx rfl (dB hby D33 4 rfl) rfl ) ?_
    obtain ⟨cq302, kq302, q302a, q302b, q302c⟩ := isOf hZ e0 S1.exa
    obtain ⟨_, _, ⟨T302, L302, k302, n302⟩, -, X302, ⟨Lc302, hQ302, l302, y302, z302⟩, st302⟩ := X0.virtualBack hx (y := (⟨"java/lang/String", "charAt", "(I)C"⟩ : MethodName)) (z := (⟨"java/lang/String", "charAt", "(I)C"⟩ : MethodName)) hown (mvT hZ (wd hw 181 rfl)) (mvT hZ (wd hw 182 rfl)) (notFace_of_selects (args := #[]) (mvT hZ (wd hw 184 rfl))) (mvT hZ (wd hw 184 rfl)) (mvT hZ (wd hw 183 rfl)) (by decide) (backOf (W := 0) (rmCA l Z a0 hw [] s1 cs us cx vs i1 G1 G3 h0 n0 Od A1 HS LS O4 rG3 O2 P5 S1 hk hcs hi bd) hZ (wd hw 185 rfl) (wd hw 8 rfl) (by decide) (by decide)) q302a q302c (g := (mkF m 7 #[.val (.ref s1), .val (.ref b1), .val (.int i1), .val (.int ln)] [(.int i1), (.ref s1)])) rfl (by rw [hml]; rfl) (Steps.refl _) (argsL := [(.int i1)]) (rest := []) (lenOf pd_28 rfl) rfl (by show 2 * 0 + _ ≤ _; exact Nat.le_of_eq rfl) (dB hby D33 5 rfl) (fun _ _ => ⟨rfl, e0, (by decide : 0 + 0 ≤ _), (by decide : 0 + 0 ≤ _)⟩)
    dsimp only [Pt.U, Pt.locs, Pt.cells, Pt.slots] at X302 l302 y302 z302 st302 hQ302
    subst y302 z302
    obtain ⟨rfl, Nq302, e302⟩ := hQ302
    have N302 : Fr n0 L302 := by rw [l302]; exact Fr.app N0 Nq302
    clear l302
    refine Go.by (fun t => st302.trans) ?_
    refine Go.by (fun t => XS.aloadN X302.here hx rfl (dB hby D33 6 rfl) rfl rfl) ?_
    refine Go.by (fun t => XS.iloadN X302.here hx rfl (dB hby D33 7 rfl) rfl ) ?_
    show Go p e below _ (T302.setTop (mkF m 12 #[.val (.ref s1), .val (.ref b1), .val (.int i1), .val (.int ln)] [(.int i1), (.ref b1), (.int cx)]))
    obtain ⟨cl_303, Ar_303, q_303, S_303, M_303, H_303, G_303⟩ := id V_b1
    have in_303 := inb_of S_303 (j := i1) in3
    refine Go.by (fun t => X302.caload hx (j := i1) (v := (.int cx)) (by first | exact Ar_303.1 | (rw [e302]; exact Ar_303.1)) (State.isArrayOf_alike hZ.alike Ar_303.2.1) Ar_303.2.2 in_303 (H_303.at in_303 at3) (g := (mkF m 12 #[.val (.ref s1), .val (.ref b1), .val (.int i1), .val (.int ln)] [(.int i1), (.ref b1), (.int cx)])) rfl rfl (dB hby D33 8 rfl) t) ?_
    refine Go.by (fun t => XS.icmpNo X302.here hx rfl (dB hby D33 9 rfl) rfl (teq (rfl : cx = cx)).2) ?_
    refine Go.by (fun t => XS.iconst X302.here hx rfl (dB hby D33 10 rfl)) ?_
    refine Go.by (fun t => XS.goto X302.here hx rfl (pc0 := 17) (pc' := 21) rfl (dB hby D33 11 rfl) (by decide) (by decide)) ?_
    exact Go.ret1 X302 hx Bd.returns Bd.notSynchronized (by first | rfl | decide) (Or.inl ⟨rfl, by simp, _, rfl⟩) (dB hby D33 13 rfl) (by decide) (by decide) (by first | (rw [e302]; exact ⟨rfl, N302, rfl⟩) | exact ⟨rfl, N302, rfl⟩)
  ·
    refine Go.by (fun t => XS.icmpYes X0.here hx rfl (pc0 := 2) (pc' := 16) rfl (dB hby D33 2 rfl) rfl (flt (hlt : ¬ (i1 < ln))).2.1 (by decide) (by decide)) ?_
    refine Go.by (fun t => XS.iconst X0.here hx rfl (dB hby D33 10 rfl)) ?_
    refine Go.by (fun t => XS.goto X0.here hx rfl (pc0 := 17) (pc' := 21) rfl (dB hby D33 11 rfl) (by decide) (by decide)) ?_
    exact Go.ret1 X0 hx Bd.returns Bd.notSynchronized (by first | rfl | decide) (Or.inl ⟨rfl, by simp, _, rfl⟩) (dB hby D33 13 rfl) (by decide) (by decide) (by first | (rw [e0]; exact ⟨rfl, N0, rfl⟩) | exact ⟨rfl, N0, rfl⟩)
def Q_rm0_4 (Z : State) (i0 i1 i2 i3 i4 ca cb cc : Int32) (nn : Nat) (kd p1 pt : Addr) (kp : ClassId) (G1 : Int32) (G3 : Value) (h0 : Heap) (n0 : Nat) : Option Value → Heap → List Loc → Prop := fun v _ L => v = some (.int 1) ∧ Fr n0 L
set_option maxRecDepth 65536 in
set_option maxHeartbeats 40000000 in
theorem rm0_4 (l : Launch) (Z : State) (a0 : Array Value) (hw : ∀ d ∈ tables_1, d.before a0 Z = true) (ws : List Jvm.Cond) (i0 i1 i2 i3 i4 ca cb cc : Int32) (nn : Nat) (kd p1 pt : Addr) (kp : ClassId) (G1 : Int32) (G3 : Value) (h0 : Heap) (n0 : Nat) (Z0 : n0 ≤ h0.size) (Od : Old Z n0 h0) (A1 : Sta Z Z.heap "java/lang/StringUTF16" "$assertionsDisabled" "Z" (.int 1)) (HS : Sta Z Z.heap "java/lang/StringUTF16" "HI_BYTE_SHIFT" "I" (.int 0)) (LS : Sta Z Z.heap "java/lang/StringUTF16" "LO_BYTE_SHIFT" "I" (.int 8)) (O4 : Sta Z Z.heap "jdk/internal/util/Preconditions" "SIOOBE_FORMATTER" "Ljava/util/function/BiFunction;" G3) (rG3 : G3.isRef = true) (O2 : Sta Z Z.heap "java/lang/String" "COMPACT_STRINGS" "Z" (.int G1)) (P5 : ¬ (G1 = (0 : Int32))) (SK : Sta Z Z.heap "com/example/harvest_rules/harvestrules/registry/SecretReference$Kind" "ENV" "Lcom/example/harvest_rules/harvestrules/registry/SecretReference$Kind;" (.ref kd)) (E_kd : Exa Z h0 kd "com/example/harvest_rules/harvestrules/registry/SecretReference$Kind") (F_prefix_kd : Fld Z h0 kd "com/example/harvest_rules/harvestrules/registry/SecretReference$Kind" "prefix" "Ljava/lang/String;" (.ref p1)) (E_p1 : Exa Z h0 p1 "java/lang/String") (F_value_p1 : Fld Z h0 p1 "java/lang/String" "value" "[B" (.ref pt)) (F_coder_p1 : Fld Z h0 p1 "java/lang/String" "coder" "B" (.int 0)) (V_pt : Arv Z h0 pt kp .byte (Int32.ofNat 4) (latL [(101 : Int32), (110 : Int32), (118 : Int32), (58 : Int32)]) (.int 0)) (kq : (i0 &&& (1 : Int32)) = 0) (hn : ((i1 &&& (2147483647 : Int32)) % (4 : Int32)) = Int32.ofNat nn) (hnn : nn ≤ 3) (hca : (i2 &&& (65535 : Int32)).toUInt32.toUInt16.toUInt32.toInt32 = ca) (hcb : (i3 &&& (65535 : Int32)).toUInt32.toUInt16.toUInt32.toInt32 = cb) (hcc : (i4 &&& (65535 : Int32)).toUInt32.toUInt16.toUInt32.toInt32 = cc) (bca : ¬ ca < 0 ∧ ¬ (65535 : Int32) < ca) (bcb : ¬ cb < 0 ∧ ¬ (65535 : Int32) < cb) (bcc : ¬ cc < 0 ∧ ¬ (65535 : Int32) < cc) :
    CTW EL l x code maxLocals ret ws room_1 #[(.int i0), (.int i1), (.int i2), (.int i3), (.int i4)] Z h0 (Q_rm0_4 Z i0 i1 i2 i3 i4 ca cb cc nn kd p1 pt kp G1 G3 h0 n0) := by
  refine Go.startW (plainFor_of_name pn_0) ?_
  intro p e s m below meth c s₁ Bd hx hby hml hZ hown X0 e0 hS CR
  replace hown : s.vm.findClass "com/example/harvest_rules/harvestrules/registry/SecretReferenceToStringPinLaw" = some m.cls := hown
  have hk : 0 ≤ h0.size := Nat.zero_le _
  have hEL := ew_of hw
  have hwS := ws_of hw
  have N0 := Fr.nil n0
  rw [show entryFrame m #[(.int i0), (.int i1), (.int i2), (.int i3), (.int i4)] maxLocals = (mkF m 0 #[.val (.int i0), .val (.int i1), .val (.int i2), .val (.int i3), .val (.int i4), .unset, .unset, .unset, .unset, .unset, .unset, .unset, .unset, .unset, .unset, .unset, .unset] []) from by first | (simp [entryFrame, mkF, argsToLocals, Value.category, maxLocals]; done) | rfl]
  refine Go.by (fun t => XS.iloadN X0.here hx rfl (hb hby at_0) rfl ) ?_
  refine Go.by (fun t => XS.iconst X0.here hx rfl (hb hby at_1)) ?_
  refine Go.by (fun t => XS.iand X0.here hx rfl (hb hby at_2) rfl) ?_
  refine Go.by (fun t => XS.ifYes X0.here hx rfl (pc0 := 3) (pc' := 10) rfl (hb hby at_3) rfl ((if0 _ _).trans (teq (kq : (i0 &&& (1 : Int32)) = (0 : Int32))).1) (by decide) (by decide)) ?_
  refine Go.by (fun t => XS.iconst X0.here hx rfl (hb hby at_10)) ?_
  refine Go.by (fun t => XS.istore X0.here hx rfl (hb hby at_11) rfl (l' := #[.val (.int i0), .val (.int i1), .val (.int i2), .val (.int i3), .val (.int i4), .val (.int (0 : Int32)), .unset, .unset, .unset, .unset, .unset, .unset, .unset, .unset, .unset, .unset, .unset]) rfl) ?_
  refine Go.by (fun t => XS.iloadN X0.here hx rfl (hb hby at_13) rfl ) ?_
  refine Go.by (fun t => X0.ldcInt hx hown (mvT hZ (wd hw 0 rfl)) (g := (mkF m 14 #[.val (.int i0), .val (.int i1), .val (.int i2), .val (.int i3), .val (.int i4), .val (.int (0 : Int32)), .unset, .unset, .unset, .unset, .unset, .unset, .unset, .unset, .unset, .unset, .unset] [(.int i1)])) rfl (hb hby at_14) t) ?_
  refine Go.by (fun t => XS.iand X0.here hx rfl (hb hby at_16) rfl) ?_
  refine Go.by (fun t => XS.iconst X0.here hx rfl (hb hby at_17)) ?_
  refine Go.by (fun t => iremM X0 hx rfl (hb hby at_18) rfl (by first | assumption | decide)) ?_
  show Go p e below _ (s₁.setTop (mkF m 19 #[.val (.int i0), .val (.int i1), .val (.int i2), .val (.int i3), .val (.int i4), .val (.int (0 : Int32)), .unset, .unset, .unset, .unset, .unset, .unset, .unset, .unset, .unset, .unset, .unset] [(.int ((i1 &&& (2147483647 : Int32)) % (4 : Int32)))]))
  rw [hn]
  refine Go.by (fun t => XS.istore X0.here hx rfl (hb hby at_19) rfl (l' := #[.val (.int i0), .val (.int i1), .val (.int i2), .val (.int i3), .val (.int i4), .val (.int (0 : Int32)), .val (.int (Int32.ofNat nn)), .unset, .unset, .unset, .unset, .unset, .unset, .unset, .unset, .unset, .unset]) rfl) ?_
  refine Go.by (fun t => XS.iloadN X0.here hx rfl (hb hby at_21) rfl ) ?_
  refine Go.by (fun t => X0.ldcInt hx hown (mvT hZ (wd hw 1 rfl)) (g := (mkF m 22 #[.val (.int i0), .val (.int i1), .val (.int i2), .val (.int i3), .val (.int i4), .val (.int (0 : Int32)), .val (.int (Int32.ofNat nn)), .unset, .unset, .unset, .unset, .unset, .unset, .unset, .unset, .unset, .unset] [(.int i2)])) rfl (hb hby at_22) t) ?_
  refine Go.by (fun t => XS.iand X0.here hx rfl (hb hby at_24) rfl) ?_
  refine Go.by (fun t => XS.i2c X0.here hx rfl (hb hby at_25) rfl) ?_
  have hca' : ((i2 &&& (65535 : Int32)).toUInt32.toUInt16.toUInt32.toInt32) = ca := hca
  show Go p e below _ (s₁.setTop (mkF m 26 #[.val (.int i0), .val (.int i1), .val (.int i2), .val (.int i3), .val (.int i4), .val (.int (0 : Int32)), .val (.int (Int32.ofNat nn)), .unset, .unset, .unset, .unset, .unset, .unset, .unset, .unset, .unset, .unset] [(.int ((i2 &&& (65535 : Int32)).toUInt32.toUInt16.toUInt32.toInt32))]))
  rw [hca']
  refine Go.by (fun t => XS.istore X0.here hx rfl (hb hby at_26) rfl (l' := #[.val (.int i0), .val (.int i1), .val (.int i2), .val (.int i3), .val (.int i4), .val (.int (0 : Int32)), .val (.int (Int32.ofNat nn)), .val (.int ca), .unset, .unset, .unset, .unset, .unset, .unset, .unset, .unset, .unset]) rfl) ?_
  refine Go.by (fun t => XS.iloadN X0.here hx rfl (hb hby at_28) rfl ) ?_
  refine Go.by (fun t => X0.ldcInt hx hown (mvT hZ (wd hw 1 rfl)) (g := (mkF m 29 #[.val (.int i0), .val (.int i1), .val (.int i2), .val (.int i3), .val (.int i4), .val (.int (0 : Int32)), .val (.int (Int32.ofNat nn)), .val (.int ca), .unset, .unset, .unset, .unset, .unset, .unset, .unset, .unset, .unset] [(.int i3)])) rfl (hb hby at_29) t) ?_
  refine Go.by (fun t => XS.iand X0.here hx rfl (hb hby at_31) rfl) ?_
  refine Go.by (fun t => XS.i2c X0.here hx rfl (hb hby at_32) rfl) ?_
  have hcb' : ((i3 &&& (65535 : Int32)).toUInt32.toUInt16.toUInt32.toInt32) = cb := hcb
  show Go p e below _ (s₁.setTop (mkF m 33 #[.val (.int i0), .val (.int i1), .val (.int i2), .val (.int i3), .val (.int i4), .val (.int (0 : Int32)), .val (.int (Int32.ofNat nn)), .val (.int ca), .unset, .unset, .unset, .unset, .unset, .unset, .unset, .unset, .unset] [(.int ((i3 &&& (65535 : Int32)).toUInt32.toUInt16.toUInt32.toInt32))]))
  rw [hcb']
  refine Go.by (fun t => XS.istore X0.here hx rfl (hb hby at_33) rfl (l' := #[.val (.int i0), .val (.int i1), .val (.int i2), .val (.int i3), .val (.int i4), .val (.int (0 : Int32)), .val (.int (Int32.ofNat nn)), .val (.int ca), .val (.int cb), .unset, .unset, .unset, .unset, .unset, .unset, .unset, .unset]) rfl) ?_
  refine Go.by (fun t => XS.iload X0.here hx rfl (hb hby at_35) rfl ) ?_
  refine Go.by (fun t => X0.ldcInt hx hown (mvT hZ (wd hw 1 rfl)) (g := (mkF m 37 #[.val (.int i0), .val (.int i1), .val (.int i2), .val (.int i3), .val (.int i4), .val (.int (0 : Int32)), .val (.int (Int32.ofNat nn)), .val (.int ca), .val (.int cb), .unset, .unset, .unset, .unset, .unset, .unset, .unset, .unset] [(.int i4)])) rfl (hb hby at_37) t) ?_
  refine Go.by (fun t => XS.iand X0.here hx rfl (hb hby at_39) rfl) ?_
  refine Go.by (fun t => XS.i2c X0.here hx rfl (hb hby at_40) rfl) ?_
  have hcc' : ((i4 &&& (65535 : Int32)).toUInt32.toUInt16.toUInt32.toInt32) = cc := hcc
  show Go p e below _ (s₁.setTop (mkF m 41 #[.val (.int i0), .val (.int i1), .val (.int i2), .val (.int i3), .val (.int i4), .val (.int (0 : Int32)), .val (.int (Int32.ofNat nn)), .val (.int ca), .val (.int cb), .unset, .unset, .unset, .unset, .unset, .unset, .unset, .unset] [(.int ((i4 &&& (65535 : Int32)).toUInt32.toUInt16.toUInt32.toInt32))]))
  rw [hcc']
  refine Go.by (fun t => XS.istore X0.here hx rfl (hb hby at_41) rfl (l' := #[.val (.int i0), .val (.int i1), .val (.int i2), .val (.int i3), .val (.int i4), .val (.int (0 : Int32)), .val (.int (Int32.ofNat nn)), .val (.int ca), .val (.int cb), .val (.int cc), .unset, .unset, .unset, .unset, .unset, .unset, .unset]) rfl) ?_
  refine Go.by (fun t => XS.iload X0.here hx rfl (hb hby at_43) rfl ) ?_
  refine Go.by (fun t => XS.iload X0.here hx rfl (hb hby at_45) rfl ) ?_
  refine Go.by (fun t => XS.iload X0.here hx rfl (hb hby at_47) rfl ) ?_
  refine Go.by (fun t => XS.iload X0.here hx rfl (hb hby at_49) rfl ) ?_
  obtain ⟨_, _, ⟨T304, L304, k304, n304⟩, -, X304, hSn, hgn, ⟨Lc304, hQ304, l304, y304, z304, CRn⟩, st304⟩ := callSS X0 hx (y := (⟨"com/example/harvest_rules/harvestrules/registry/SecretReferenceToStringPinLaw", "target", "(ICCC)Ljava/lang/String;"⟩ : MethodName)) hown (mvT (s := s.setVm s.vm) hZ (wd hw 2 rfl)) (mvT (s := s.setVm s.vm) hZ (wd hw 3 rfl)) (mvT (s := s.setVm s.vm) hZ (wd hw 4 rfl)) (mvT (s := s.setVm s.vm) hZ (wd hw 5 rfl)) (by decide) (backOfSH (W := 0) (rmTG l Z a0 hw [] ca cb cc nn G1 h0 n0 Z0 Od A1 HS LS O2 P5 bca bcb bcc hnn) hZ (wd hw 5 rfl) (wd hw 4 rfl) (by decide) (by decide) hEL CR.1) (g := (mkF m 51 #[.val (.int i0), .val (.int i1), .val (.int i2), .val (.int i3), .val (.int i4), .val (.int (0 : Int32)), .val (.int (Int32.ofNat nn)), .val (.int ca), .val (.int cb), .val (.int cc), .unset, .unset, .unset, .unset, .unset, .unset, .unset] [(.int cc), (.int cb), (.int ca), (.int (Int32.ofNat nn))])) rfl (by rw [hml]; rfl) (argsL := [(.int (Int32.ofNat nn)), (.int ca), (.int cb), (.int cc)]) (rest := []) (lenOf pd_0 rfl) rfl (by show 2 * 0 + _ ≤ _; exact Nat.le_of_eq rfl) (hb hby at_51) (fun _ _ => ⟨rfl, e0, (by decide : 0 + 6 ≤ _), (by decide : 0 + 55 ≤ _)⟩)
  dsimp only [Pt.U, Pt.locs, Pt.cells, Pt.slots] at X304 l304 y304 z304 st304 hQ304 hSn hgn CRn
  subst y304 z304
  rw [e0] at hgn
  obtain ⟨X304', hS304, hZ304, hown304⟩ := rebS hS hk X304 hSn hgn hZ hown
  obtain ⟨s1, rfl, Nq304, K304, S1⟩ := hQ304
  have N304 : Fr n0 L304 := by rw [l304]; exact Fr.app N0 Nq304
  clear l304
  refine Go.by (fun t => st304.trans) ?_
  replace X304' := Stand.num (C := 6) (S := 55) X304' rfl rfl
  replace CR := CR.trans CRn
  replace Od := Od.keep K304 all0
  replace E_kd := E_kd.keep K304
  replace F_prefix_kd := F_prefix_kd.keep K304 nin0
  replace E_p1 := E_p1.keep K304
  replace F_value_p1 := F_value_p1.keep K304 nin0
  replace F_coder_p1 := F_coder_p1.keep K304 nin0
  replace V_pt := V_pt.keep K304 nin0
  replace Z0 := Nat.le_trans Z0 K304.1
  clear CRn hS hk hSn
  have hS := hS304
  have hk : T304.heap.size ≤ T304.heap.size := Nat.le_refl _
  replace hZ := hZ304
  replace hown := hown304
  refine Go.by (fun t => XS.astore X304'.here hx rfl (hb hby at_54) rfl rfl (l' := #[.val (.int i0), .val (.int i1), .val (.int i2), .val (.int i3), .val (.int i4), .val (.int (0 : Int32)), .val (.int (Int32.ofNat nn)), .val (.int ca), .val (.int cb), .val (.int cc), .val (.ref s1), .unset, .unset, .unset, .unset, .unset, .unset]) rfl) ?_
  refine Go.by (fun t => XS.iload X304'.here hx rfl (hb hby at_56) rfl ) ?_
  refine Go.by (fun t => XS.ifYes X304'.here hx rfl (pc0 := 58) (pc' := 67) rfl (hb hby at_58) rfl ((if0 _ _).trans (teq (rfl : (0 : Int32) = (0 : Int32))).1) (by decide) (by decide)) ?_
  obtain ⟨T305, X305, e305, st305⟩ := getS2 X304' hx hZ hown (host := "") (Or.inl (wd hw 36 rfl)) Via.refl rfl (SK.ext Od.2) (g := (mkF m 67 #[.val (.int i0), .val (.int i1), .val (.int i2), .val (.int i3), .val (.int i4), .val (.int (0 : Int32)), .val (.int (Int32.ofNat nn)), .val (.int ca), .val (.int cb), .val (.int cc), .val (.ref s1), .unset, .unset, .unset, .unset, .unset, .unset] [])) rfl (hb hby at_67)
  refine Go.by (fun t => st305 t) ?_
  show Go p e below _ (T305.setTop (mkF m 70 #[.val (.int i0), .val (.int i1), .val (.int i2), .val (.int i3), .val (.int i4), .val (.int (0 : Int32)), .val (.int (Int32.ofNat nn)), .val (.int ca), .val (.int cb), .val (.int cc), .val (.ref s1), .unset, .unset, .unset, .unset, .unset, .unset] [(.ref kd)]))
  refine Go.by (fun t => XS.astore X305.here hx rfl (hb hby at_70) rfl rfl (l' := #[.val (.int i0), .val (.int i1), .val (.int i2), .val (.int i3), .val (.int i4), .val (.int (0 : Int32)), .val (.int (Int32.ofNat nn)), .val (.int ca), .val (.int cb), .val (.int cc), .val (.ref s1), .val (.ref kd), .unset, .unset, .unset, .unset, .unset]) rfl) ?_
  obtain ⟨T306, h306, X306, e306, E306, A306, D306, -, st306⟩ := newO X305 hx hZ hown (wd hw 39 rfl) (wd hw 40 rfl) (wd hw 41 rfl) e305 (g := (mkF m 72 #[.val (.int i0), .val (.int i1), .val (.int i2), .val (.int i3), .val (.int i4), .val (.int (0 : Int32)), .val (.int (Int32.ofNat nn)), .val (.int ca), .val (.int cb), .val (.int cc), .val (.ref s1), .val (.ref kd), .unset, .unset, .unset, .unset, .unset] [])) rfl (hb hby at_72) (by decide) (by decide)
  obtain ⟨r1, g306⟩ : ∃ z, z = T304.heap.size := ⟨_, rfl⟩
  rw [← g306] at A306 D306 st306
  refine Go.by (fun t => st306 t) ?_
  have g_r1 : n0 ≤ r1 := Nat.le_trans Z0 (Nat.le_of_eq g306.symm)
  have ne_kd_r1 : kd ≠ r1 := Nat.ne_of_lt (Nat.lt_of_lt_of_le E_kd.lt (Nat.le_of_eq g306.symm))
  have ne_p1_r1 : p1 ≠ r1 := Nat.ne_of_lt (Nat.lt_of_lt_of_le E_p1.lt (Nat.le_of_eq g306.symm))
  have ne_pt_r1 : pt ≠ r1 := Nat.ne_of_lt (Nat.lt_of_lt_of_le V_pt.lt (Nat.le_of_eq g306.symm))
  have ne_s1_r1 : s1 ≠ r1 := Nat.ne_of_lt (Nat.lt_of_lt_of_le S1.lt (Nat.le_of_eq g306.symm))
  replace CR := CR.trans (CHr.ext E306 CR.1)
  replace hk := Nat.le_trans hk E306.1
  replace Od := Od.ext E306
  replace E_kd := E_kd.ext E306
  replace F_prefix_kd := F_prefix_kd.ext E306
  replace E_p1 := E_p1.ext E306
  replace F_value_p1 := F_value_p1.ext E306
  replace F_coder_p1 := F_coder_p1.ext E306
  replace V_pt := V_pt.ext E306
  replace S1 := S1.ext E306
  replace Z0 := Nat.le_trans Z0 E306.1
  have E_r1 := A306
  have F_kind_r1 : Fld Z h306 r1 "com/example/harvest_rules/harvestrules/registry/SecretReference" "kind" "Lcom/example/harvest_rules/harvestrules/registry/SecretReference$Kind;" .null := D306 (Or.inr (wd hw 52 rfl)) (ty := (.object "com/example/harvest_rules/harvestrules/registry/SecretReference$Kind")) (by decide)
  have F_target_r1 : Fld Z h306 r1 "com/example/harvest_rules/harvestrules/registry/SecretReference" "target" "Ljava/lang/String;" .null := D306 (Or.inr (wd hw 54 rfl)) (ty := (.object "java/lang/String")) (by decide)
  replace X306 := Stand.num (C := 7) (S := 57) X306 rfl rfl
  refine Go.by (fun t => XS.dup X306.here hx rfl (hb hby at_75) rfl rfl) ?_
  refine Go.by (fun t => XS.aload X306.here hx rfl (hb hby at_76) rfl rfl) ?_
  refine Go.by (fun t => XS.aload X306.here hx rfl (hb hby at_78) rfl rfl) ?_
  obtain ⟨_, _, ⟨T307, L307, k307, n307⟩, -, X307, ⟨Lc307, hQ307, l307, y307, z307⟩, st307⟩ := X306.specialBack hx (y := (⟨"com/example/harvest_rules/harvestrules/registry/SecretReference", "<init>", "(Lcom/example/harvest_rules/harvestrules/registry/SecretReference$Kind;Ljava/lang/String;)V"⟩ : MethodName)) rfl hown (mvT hZ (wd hw 42 rfl)) (mvT hZ (wd hw 43 rfl)) (mvT hZ (wd hw 44 rfl)) (by decide) (backOf (W := 1) (rm8 l Z a0 hw [] r1 kd s1 h306 n0 E_r1 F_kind_r1 F_target_r1 g_r1) hZ (wd hw 44 rfl) (wd hw 41 rfl) (by decide) (by decide)) (g := (mkF m 80 #[.val (.int i0), .val (.int i1), .val (.int i2), .val (.int i3), .val (.int i4), .val (.int (0 : Int32)), .val (.int (Int32.ofNat nn)), .val (.int ca), .val (.int cb), .val (.int cc), .val (.ref s1), .val (.ref kd), .unset, .unset, .unset, .unset, .unset] [(.ref s1), (.ref kd), (.ref r1), (.ref r1)])) rfl (by rw [hml]; rfl) (Steps.refl _) (a := r1) (argsL := [(.ref kd), (.ref s1)]) (rest := [(.ref r1)]) (lenOf pd_1 rfl) rfl (by show 2 * 0 + _ ≤ _; exact Nat.le_of_eq rfl) (hb hby at_80) (fun _ _ => ⟨rfl, e306, (by decide : 7 + 0 ≤ _), (by decide : 57 + 0 ≤ _)⟩)
  dsimp only [Pt.U, Pt.locs, Pt.cells, Pt.slots] at X307 l307 y307 z307 st307 hQ307
  subst y307 z307
  obtain ⟨rfl, Nq307, K307, f1, f2⟩ := hQ307
  have N307 : Fr n0 L307 := by rw [l307]; exact Fr.app N304 Nq307
  clear l307
  refine Go.by (fun t => st307.trans) ?_
  have Sfw := ((sfS (Safe.exa hZ.alike E_r1 (by decide) (by decide)) sf0) : ∀ x ∈ [r1], Safe Z EL T304.vm h306 x)
  replace CR := CR.trans (CHr.keep K307 Sfw CR.1)
  clear Sfw
  replace hk := Nat.le_trans hk K307.1
  replace S1 := S1.keep K307 (ninS ne_s1_r1 nin0) (fun _ _ _ _ A => (ninS (Ne.symm (Exa.neArv E_r1 A (wd hw 40 rfl))) nin0))
  replace Od := Od.keep K307 (allS g_r1 all0)
  replace E_kd := E_kd.keep K307
  replace F_prefix_kd := F_prefix_kd.keep K307 (ninS ne_kd_r1 nin0)
  replace E_p1 := E_p1.keep K307
  replace F_value_p1 := F_value_p1.keep K307 (ninS ne_p1_r1 nin0)
  replace F_coder_p1 := F_coder_p1.keep K307 (ninS ne_p1_r1 nin0)
  replace V_pt := V_pt.keep K307 (ninS ne_pt_r1 nin0)
  replace E_r1 := E_r1.keep K307
  replace Z0 := Nat.le_trans Z0 K307.1
  clear F_kind_r1 F_target_r1
  have F_kind_r1 := f1
  have F_target_r1 := f2
  clear f1 f2
  refine Go.by (fun t => XS.astore X307.here hx rfl (hb hby at_83) rfl rfl (l' := #[.val (.int i0), .val (.int i1), .val (.int i2), .val (.int i3), .val (.int i4), .val (.int (0 : Int32)), .val (.int (Int32.ofNat nn)), .val (.int ca), .val (.int cb), .val (.int cc), .val (.ref s1), .val (.ref kd), .val (.ref r1), .unset, .unset, .unset, .unset]) rfl) ?_
  refine Go.by (fun t => XS.aload X307.here hx rfl (hb hby at_85) rfl rfl) ?_
  have hlen : ([ca, cb, cc].take nn).length = nn := by rw [List.length_take]; show min nn 3 = nn; omega
  obtain ⟨cq308, kq308, q308a, q308b, q308c⟩ := isOf hZ rfl E_r1
  obtain ⟨_, _, ⟨T308, L308, k308, n308⟩, -, X308, ⟨Lc308, hQ308, l308, y308, z308⟩, st308⟩ := X307.virtualBack hx (y := (⟨"com/example/harvest_rules/harvestrules/registry/SecretReference", "toString", "()Ljava/lang/String;"⟩ : MethodName)) (z := (⟨"com/example/harvest_rules/harvestrules/registry/SecretReference", "toString", "()Ljava/lang/String;"⟩ : MethodName)) hown (mvT hZ (wd hw 55 rfl)) (mvT hZ (wd hw 56 rfl)) (notFace_of_selects (args := #[]) (mvT hZ (wd hw 58 rfl))) (mvT hZ (wd hw 58 rfl)) (mvT hZ (wd hw 57 rfl)) (by decide) (backOf (W := 0) (rmTO l Z a0 hw [] r1 kd p1 pt s1 kp [(101 : Int32), (110 : Int32), (118 : Int32), (58 : Int32)] ([ca, cb, cc].take nn) G1 G3 T307.heap n0 Z0 Od A1 HS LS O4 rG3 O2 P5 E_r1 F_kind_r1 F_target_r1 E_kd F_prefix_kd E_p1 F_value_p1 F_coder_p1 V_pt (by unfold LatP; decide) (by decide) S1 (by rw [hlen]; exact hnn)) hZ (wd hw 59 rfl) (wd hw 41 rfl) (by decide) (by decide)) q308a q308c (g := (mkF m 87 #[.val (.int i0), .val (.int i1), .val (.int i2), .val (.int i3), .val (.int i4), .val (.int (0 : Int32)), .val (.int (Int32.ofNat nn)), .val (.int ca), .val (.int cb), .val (.int cc), .val (.ref s1), .val (.ref kd), .val (.ref r1), .unset, .unset, .unset, .unset] [(.ref r1)])) rfl (by rw [hml]; rfl) (Steps.refl _) (argsL := []) (rest := []) (lenOf pd_2 rfl) rfl (by show 2 * 0 + _ ≤ _; exact Nat.le_of_eq rfl) (hb hby at_87) (fun _ _ => ⟨rfl, rfl, (by decide : 7 + 6 ≤ _), (by decide : 57 + 140 ≤ _)⟩)
  dsimp only [Pt.U, Pt.locs, Pt.cells, Pt.slots] at X308 l308 y308 z308 st308 hQ308
  subst y308 z308
  obtain ⟨u1, rfl, Nq308, K308, U1⟩ := hQ308
  have N308 : Fr n0 L308 := by rw [l308]; exact Fr.app N307 Nq308
  clear l308
  refine Go.by (fun t => st308.trans) ?_
  replace X308 := Stand.num (C := 13) (S := 197) X308 rfl rfl
  have Sfw := (sf0 : ∀ x ∈ [], Safe Z EL T304.vm T307.heap x)
  replace CR := CR.trans (CHr.keep K308 Sfw CR.1)
  clear Sfw
  replace hk := Nat.le_trans hk K308.1
  replace Od := Od.keep K308 all0
  replace Z0 := Nat.le_trans Z0 K308.1
  show Go p e below _ (T308.setTop (mkF m 90 #[.val (.int i0), .val (.int i1), .val (.int i2), .val (.int i3), .val (.int i4), .val (.int (0 : Int32)), .val (.int (Int32.ofNat nn)), .val (.int ca), .val (.int cb), .val (.int cc), .val (.ref s1), .val (.ref kd), .val (.ref r1), .unset, .unset, .unset, .unset] [(.ref u1)]))
  refine Go.by (fun t => XS.astore X308.here hx rfl (hb hby at_90) rfl rfl (l' := #[.val (.int i0), .val (.int i1), .val (.int i2), .val (.int i3), .val (.int i4), .val (.int (0 : Int32)), .val (.int (Int32.ofNat nn)), .val (.int ca), .val (.int cb), .val (.int cc), .val (.ref s1), .val (.ref kd), .val (.ref r1), .val (.ref u1), .unset, .unset, .unset]) rfl) ?_
  refine Go.by (fun t => XS.bipush X308.here hx rfl (hb hby at_92)) ?_
  obtain ⟨T309, h309, k309, X309, e309, E309, A309, st309⟩ := newP X308 hx hZ (wd hw 9 rfl) rfl (g := (mkF m 94 #[.val (.int i0), .val (.int i1), .val (.int i2), .val (.int i3), .val (.int i4), .val (.int (0 : Int32)), .val (.int (Int32.ofNat nn)), .val (.int ca), .val (.int cb), .val (.int cc), .val (.ref s1), .val (.ref kd), .val (.ref r1), .val (.ref u1), .unset, .unset, .unset] [(.int (8 : Int32))])) rfl (hb hby at_94) rfl (by decide) (cap := 8) (by decide) (by decide) (by decide) (by decide)
  obtain ⟨bf, g309⟩ : ∃ z, z = T308.heap.size := ⟨_, rfl⟩
  rw [← g309] at A309 st309
  refine Go.by (fun t => st309 t) ?_
  have g_bf : n0 ≤ bf := Nat.le_trans Z0 (Nat.le_of_eq g309.symm)
  have ne_u1_bf : u1 ≠ bf := Nat.ne_of_lt (Nat.lt_of_lt_of_le U1.lt (Nat.le_of_eq g309.symm))
  replace CR := CR.trans (CHr.ext E309 CR.1)
  replace hk := Nat.le_trans hk E309.1
  replace Od := Od.ext E309
  replace U1 := U1.ext E309
  replace Z0 := Nat.le_trans Z0 E309.1
  have V_bf : Arv Z h309 bf k309 .char (8 : Int32) [(.int (0 : Int32)), (.int (0 : Int32)), (.int (0 : Int32)), (.int (0 : Int32)), (.int (0 : Int32)), (.int (0 : Int32)), (.int (0 : Int32)), (.int (0 : Int32))] (.int (0 : Int32)) := (Arv.new A309 (by decide)).pad (pad_rep [] (.int (0 : Int32)) 8)
  replace X309 := Stand.num (C := 14) (S := 205) X309 rfl rfl
  refine Go.by (fun t => XS.astore X309.here hx rfl (hb hby at_96) rfl rfl (l' := #[.val (.int i0), .val (.int i1), .val (.int i2), .val (.int i3), .val (.int i4), .val (.int (0 : Int32)), .val (.int (Int32.ofNat nn)), .val (.int ca), .val (.int cb), .val (.int cc), .val (.ref s1), .val (.ref kd), .val (.ref r1), .val (.ref u1), .val (.ref bf), .unset, .unset]) rfl) ?_
  refine Go.by (fun t => XS.iload X309.here hx rfl (hb hby at_98) rfl ) ?_
  refine Go.by (fun t => XS.ifYes X309.here hx rfl (pc0 := 100) (pc' := 139) rfl (hb hby at_100) rfl ((if0 _ _).trans (teq (rfl : (0 : Int32) = (0 : Int32))).1) (by decide) (by decide)) ?_
  refine Go.by (fun t => XS.aload X309.here hx rfl (hb hby at_139) rfl rfl) ?_
  refine Go.by (fun t => XS.iconst X309.here hx rfl (hb hby at_141)) ?_
  refine Go.by (fun t => XS.bipush X309.here hx rfl (hb hby at_142)) ?_
  obtain ⟨cl_310, Ar_310, q_310, S_310, M_310, H_310, G_310⟩ := id V_bf
  obtain ⟨T310, h310, X310, e310, W310, st310⟩ := stC X309 hx hZ e309 Ar_310 (j := (0 : Int32)) (inb_of S_310 ⟨by decide, by decide⟩) (g := (mkF m 144 #[.val (.int i0), .val (.int i1), .val (.int i2), .val (.int i3), .val (.int i4), .val (.int (0 : Int32)), .val (.int (Int32.ofNat nn)), .val (.int ca), .val (.int cb), .val (.int cc), .val (.ref s1), .val (.ref kd), .val (.ref r1), .val (.ref u1), .val (.ref bf), .unset, .unset] [(.int (101 : Int32)), (.int (0 : Int32)), (.ref bf)])) rfl rfl (hb hby at_144)
  refine Go.by (fun t => st310 t) ?_
  have Sfw : Safe Z EL T304.vm h309 bf := (Safe.arv hZ.alike V_bf (by decide))
  replace CR := CR.trans (CHr.wr W310 Sfw CR.1)
  clear Sfw
  replace hk := Nat.le_trans hk (Keep.of_wr W310).1
  replace U1 := U1.wr W310 ne_u1_bf (fun _ _ _ _ A => arv_neT A V_bf (by decide))
  replace V_bf := Arv.set Ar_310 q_310 S_310 M_310 H_310 G_310 (fits_nar_char _) W310 0 rfl (Nat.le_of_ble_eq_true rfl)
  rw [show nar .char (101 : Int32) = (101 : Int32) from rfl] at V_bf
  replace V_bf : Arv Z h310 bf k309 .char (8 : Int32) [(.int (101 : Int32)), (.int (0 : Int32)), (.int (0 : Int32)), (.int (0 : Int32)), (.int (0 : Int32)), (.int (0 : Int32)), (.int (0 : Int32)), (.int (0 : Int32))] (.int (0 : Int32)) := V_bf
  replace Od := Od.wr W310 g_bf
  replace Z0 := Nat.le_trans Z0 (Keep.of_wr W310).1
  have N310 := Fr.snoc X310 N308 g_bf
  show Go p e below _ (T310.setTop (mkF m 145 #[.val (.int i0), .val (.int i1), .val (.int i2), .val (.int i3), .val (.int i4), .val (.int (0 : Int32)), .val (.int (Int32.ofNat nn)), .val (.int ca), .val (.int cb), .val (.int cc), .val (.ref s1), .val (.ref kd), .val (.ref r1), .val (.ref u1), .val (.ref bf), .unset, .unset] []))
  refine Go.by (fun t => XS.aload X310.here hx rfl (hb hby at_145) rfl rfl) ?_
  refine Go.by (fun t => XS.iconst X310.here hx rfl (hb hby at_147)) ?_
  refine Go.by (fun t => XS.bipush X310.here hx rfl (hb hby at_148)) ?_
  obtain ⟨cl_311, Ar_311, q_311, S_311, M_311, H_311, G_311⟩ := id V_bf
  obtain ⟨T311, h311, X311, e311, W311, st311⟩ := stC X310 hx hZ e310 Ar_311 (j := (1 : Int32)) (inb_of S_311 ⟨by decide, by decide⟩) (g := (mkF m 150 #[.val (.int i0), .val (.int i1), .val (.int i2), .val (.int i3), .val (.int i4), .val (.int (0 : Int32)), .val (.int (Int32.ofNat nn)), .val (.int ca), .val (.int cb), .val (.int cc), .val (.ref s1), .val (.ref kd), .val (.ref r1), .val (.ref u1), .val (.ref bf), .unset, .unset] [(.int (110 : Int32)), (.int (1 : Int32)), (.ref bf)])) rfl rfl (hb hby at_150)
  refine Go.by (fun t => st311 t) ?_
  have Sfw : Safe Z EL T304.vm h310 bf := (Safe.arv hZ.alike V_bf (by decide))
  replace CR := CR.trans (CHr.wr W311 Sfw CR.1)
  clear Sfw
  replace hk := Nat.le_trans hk (Keep.of_wr W311).1
  replace U1 := U1.wr W311 ne_u1_bf (fun _ _ _ _ A => arv_neT A V_bf (by decide))
  replace V_bf := Arv.set Ar_311 q_311 S_311 M_311 H_311 G_311 (fits_nar_char _) W311 1 rfl (Nat.le_of_ble_eq_true rfl)
  rw [show nar .char (110 : Int32) = (110 : Int32) from rfl] at V_bf
  replace V_bf : Arv Z h311 bf k309 .char (8 : Int32) [(.int (101 : Int32)), (.int (110 : Int32)), (.int (0 : Int32)), (.int (0 : Int32)), (.int (0 : Int32)), (.int (0 : Int32)), (.int (0 : Int32)), (.int (0 : Int32))] (.int (0 : Int32)) := V_bf
  replace Od := Od.wr W311 g_bf
  replace Z0 := Nat.le_trans Z0 (Keep.of_wr W311).1
  have N311 := Fr.snoc X311 N310 g_bf
  refine Go.by (fun t => XS.aload X311.here hx rfl (hb hby at_151) rfl rfl) ?_
  refine Go.by (fun t => XS.iconst X311.here hx rfl (hb hby at_153)) ?_
  refine Go.by (fun t => XS.bipush X311.here hx rfl (hb hby at_154)) ?_
  obtain ⟨cl_312, Ar_312, q_312, S_312, M_312, H_312, G_312⟩ := id V_bf
  obtain ⟨T312, h312, X312, e312, W312, st312⟩ := stC X311 hx hZ e311 Ar_312 (j := (2 : Int32)) (inb_of S_312 ⟨by decide, by decide⟩) (g := (mkF m 156 #[.val (.int i0), .val (.int i1), .val (.int i2), .val (.int i3), .val (.int i4), .val (.int (0 : Int32)), .val (.int (Int32.ofNat nn)), .val (.int ca), .val (.int cb), .val (.int cc), .val (.ref s1), .val (.ref kd), .val (.ref r1), .val (.ref u1), .val (.ref bf), .unset, .unset] [(.int (118 : Int32)), (.int (2 : Int32)), (.ref bf)])) rfl rfl (hb hby at_156)
  refine Go.by (fun t => st312 t) ?_
  have Sfw : Safe Z EL T304.vm h311 bf := (Safe.arv hZ.alike V_bf (by decide))
  replace CR := CR.trans (CHr.wr W312 Sfw CR.1)
  clear Sfw
  replace hk := Nat.le_trans hk (Keep.of_wr W312).1
  replace U1 := U1.wr W312 ne_u1_bf (fun _ _ _ _ A => arv_neT A V_bf (by decide))
  replace V_bf := Arv.set Ar_312 q_312 S_312 M_312 H_312 G_312 (fits_nar_char _) W312 2 rfl (Nat.le_of_ble_eq_true rfl)
  rw [show nar .char (118 : Int32) = (118 : Int32) from rfl] at V_bf
  replace V_bf : Arv Z h312 bf k309 .char (8 : Int32) [(.int (101 : Int32)), (.int (110 : Int32)), (.int (118 : Int32)), (.int (0 : Int32)), (.int (0 : Int32)), (.int (0 : Int32)), (.int (0 : Int32)), (.int (0 : Int32))] (.int (0 : Int32)) := V_bf
  replace Od := Od.wr W312 g_bf
  replace Z0 := Nat.le_trans Z0 (Keep.of_wr W312).1
  have N312 := Fr.snoc X312 N311 g_bf
  refine Go.by (fun t => XS.aload X312.here hx rfl (hb hby at_157) rfl rfl) ?_
  refine Go.by (fun t => XS.iconst X312.here hx rfl (hb hby at_159)) ?_
  refine Go.by (fun t => XS.bipush X312.here hx rfl (hb hby at_160)) ?_
  obtain ⟨cl_313, Ar_313, q_313, S_313, M_313, H_313, G_313⟩ := id V_bf
  obtain ⟨T313, h313, X313, e313, W313, st313⟩ := stC X312 hx hZ e312 Ar_313 (j := (3 : Int32)) (inb_of S_313 ⟨by decide, by decide⟩) (g := (mkF m 162 #[.val (.int i0), .val (.int i1), .val (.int i2), .val (.int i3), .val (.int i4), .val (.int (0 : Int32)), .val (.int (Int32.ofNat nn)), .val (.int ca), .val (.int cb), .val (.int cc), .val (.ref s1), .val (.ref kd), .val (.ref r1), .val (.ref u1), .val (.ref bf), .unset, .unset] [(.int (58 : Int32)), (.int (3 : Int32)), (.ref bf)])) rfl rfl (hb hby at_162)
  refine Go.by (fun t => st313 t) ?_
  have Sfw : Safe Z EL T304.vm h312 bf := (Safe.arv hZ.alike V_bf (by decide))
  replace CR := CR.trans (CHr.wr W313 Sfw CR.1)
  clear Sfw
  replace hk := Nat.le_trans hk (Keep.of_wr W313).1
  replace U1 := U1.wr W313 ne_u1_bf (fun _ _ _ _ A => arv_neT A V_bf (by decide))
  replace V_bf := Arv.set Ar_313 q_313 S_313 M_313 H_313 G_313 (fits_nar_char _) W313 3 rfl (Nat.le_of_ble_eq_true rfl)
  rw [show nar .char (58 : Int32) = (58 : Int32) from rfl] at V_bf
  replace V_bf : Arv Z h313 bf k309 .char (8 : Int32) [(.int (101 : Int32)), (.int (110 : Int32)), (.int (118 : Int32)), (.int (58 : Int32)), (.int (0 : Int32)), (.int (0 : Int32)), (.int (0 : Int32)), (.int (0 : Int32))] (.int (0 : Int32)) := V_bf
  replace Od := Od.wr W313 g_bf
  replace Z0 := Nat.le_trans Z0 (Keep.of_wr W313).1
  have N313 := Fr.snoc X313 N312 g_bf
  show Go p e below _ (T313.setTop (mkF m 163 #[.val (.int i0), .val (.int i1), .val (.int i2), .val (.int i3), .val (.int i4), .val (.int (0 : Int32)), .val (.int (Int32.ofNat nn)), .val (.int ca), .val (.int cb), .val (.int cc), .val (.ref s1), .val (.ref kd), .val (.ref r1), .val (.ref u1), .val (.ref bf), .unset, .unset] []))
  refine Go.by (fun t => XS.iconst X313.here hx rfl (hb hby at_163)) ?_
  refine Go.by (fun t => XS.istore X313.here hx rfl (hb hby at_164) rfl (l' := #[.val (.int i0), .val (.int i1), .val (.int i2), .val (.int i3), .val (.int i4), .val (.int (0 : Int32)), .val (.int (Int32.ofNat nn)), .val (.int ca), .val (.int cb), .val (.int cc), .val (.ref s1), .val (.ref kd), .val (.ref r1), .val (.ref u1), .val (.ref bf), .val (.int (4 : Int32)), .unset]) rfl) ?_
  refine Go.by (fun t => XS.aload X313.here hx rfl (hb hby at_166) rfl rfl) ?_
  refine Go.by (fun t => XS.iload X313.here hx rfl (hb hby at_168) rfl ) ?_
  refine Go.by (fun t => XS.iload X313.here hx rfl (hb hby at_170) rfl ) ?_
  obtain ⟨cl_314, Ar_314, q_314, S_314, M_314, H_314, G_314⟩ := id V_bf
  obtain ⟨T314, h314, X314, e314, W314, st314⟩ := stC X313 hx hZ e313 Ar_314 (j := (4 : Int32)) (inb_of S_314 ⟨by decide, by decide⟩) (g := (mkF m 172 #[.val (.int i0), .val (.int i1), .val (.int i2), .val (.int i3), .val (.int i4), .val (.int (0 : Int32)), .val (.int (Int32.ofNat nn)), .val (.int ca), .val (.int cb), .val (.int cc), .val (.ref s1), .val (.ref kd), .val (.ref r1), .val (.ref u1), .val (.ref bf), .val (.int (4 : Int32)), .unset] [(.int ca), (.int (4 : Int32)), (.ref bf)])) rfl rfl (hb hby at_172)
  refine Go.by (fun t => st314 t) ?_
  have Sfw : Safe Z EL T304.vm h313 bf := (Safe.arv hZ.alike V_bf (by decide))
  replace CR := CR.trans (CHr.wr W314 Sfw CR.1)
  clear Sfw
  replace hk := Nat.le_trans hk (Keep.of_wr W314).1
  replace U1 := U1.wr W314 ne_u1_bf (fun _ _ _ _ A => arv_neT A V_bf (by decide))
  replace V_bf := Arv.set Ar_314 q_314 S_314 M_314 H_314 G_314 (fits_nar_char _) W314 4 rfl (Nat.le_of_ble_eq_true rfl)
  rw [nar_c bca] at V_bf
  replace V_bf : Arv Z h314 bf k309 .char (8 : Int32) [(.int (101 : Int32)), (.int (110 : Int32)), (.int (118 : Int32)), (.int (58 : Int32)), (.int ca), (.int (0 : Int32)), (.int (0 : Int32)), (.int (0 : Int32))] (.int (0 : Int32)) := V_bf
  replace Od := Od.wr W314 g_bf
  replace Z0 := Nat.le_trans Z0 (Keep.of_wr W314).1
  have N314 := Fr.snoc X314 N313 g_bf
  refine Go.by (fun t => XS.aload X314.here hx rfl (hb hby at_173) rfl rfl) ?_
  refine Go.by (fun t => XS.iload X314.here hx rfl (hb hby at_175) rfl ) ?_
  refine Go.by (fun t => XS.iconst X314.here hx rfl (hb hby at_177)) ?_
  refine Go.by (fun t => XS.iadd X314.here hx rfl (hb hby at_178) rfl) ?_
  refine Go.by (fun t => XS.iload X314.here hx rfl (hb hby at_179) rfl ) ?_
  obtain ⟨cl_315, Ar_315, q_315, S_315, M_315, H_315, G_315⟩ := id V_bf
  obtain ⟨T315, h315, X315, e315, W315, st315⟩ := stC X314 hx hZ e314 Ar_315 (j := ((4 : Int32) + (1 : Int32))) (inb_of S_315 ⟨by decide, by decide⟩) (g := (mkF m 181 #[.val (.int i0), .val (.int i1), .val (.int i2), .val (.int i3), .val (.int i4), .val (.int (0 : Int32)), .val (.int (Int32.ofNat nn)), .val (.int ca), .val (.int cb), .val (.int cc), .val (.ref s1), .val (.ref kd), .val (.ref r1), .val (.ref u1), .val (.ref bf), .val (.int (4 : Int32)), .unset] [(.int cb), (.int ((4 : Int32) + (1 : Int32))), (.ref bf)])) rfl rfl (hb hby at_181)
  refine Go.by (fun t => st315 t) ?_
  have Sfw : Safe Z EL T304.vm h314 bf := (Safe.arv hZ.alike V_bf (by decide))
  replace CR := CR.trans (CHr.wr W315 Sfw CR.1)
  clear Sfw
  replace hk := Nat.le_trans hk (Keep.of_wr W315).1
  replace U1 := U1.wr W315 ne_u1_bf (fun _ _ _ _ A => arv_neT A V_bf (by decide))
  replace V_bf := Arv.set Ar_315 q_315 S_315 M_315 H_315 G_315 (fits_nar_char _) W315 5 rfl (Nat.le_of_ble_eq_true rfl)
  rw [nar_c bcb] at V_bf
  replace V_bf : Arv Z h315 bf k309 .char (8 : Int32) [(.int (101 : Int32)), (.int (110 : Int32)), (.int (118 : Int32)), (.int (58 : Int32)), (.int ca), (.int cb), (.int (0 : Int32)), (.int (0 : Int32))] (.int (0 : Int32)) := V_bf
  replace Od := Od.wr W315 g_bf
  replace Z0 := Nat.le_trans Z0 (Keep.of_wr W315).1
  have N315 := Fr.snoc X315 N314 g_bf
  refine Go.by (fun t => XS.aload X315.here hx rfl (hb hby at_182) rfl rfl) ?_
  refine Go.by (fun t => XS.iload X315.here hx rfl (hb hby at_184) rfl ) ?_
  refine Go.by (fun t => XS.iconst X315.here hx rfl (hb hby at_186)) ?_
  refine Go.by (fun t => XS.iadd X315.here hx rfl (hb hby at_187) rfl) ?_
  refine Go.by (fun t => XS.iload X315.here hx rfl (hb hby at_188) rfl ) ?_
  obtain ⟨cl_316, Ar_316, q_316, S_316, M_316, H_316, G_316⟩ := id V_bf
  obtain ⟨T316, h316, X316, e316, W316, st316⟩ := stC X315 hx hZ e315 Ar_316 (j := ((4 : Int32) + (2 : Int32))) (inb_of S_316 ⟨by decide, by decide⟩) (g := (mkF m 190 #[.val (.int i0), .val (.int i1), .val (.int i2), .val (.int i3), .val (.int i4), .val (.int (0 : Int32)), .val (.int (Int32.ofNat nn)), .val (.int ca), .val (.int cb), .val (.int cc), .val (.ref s1), .val (.ref kd), .val (.ref r1), .val (.ref u1), .val (.ref bf), .val (.int (4 : Int32)), .unset] [(.int cc), (.int ((4 : Int32) + (2 : Int32))), (.ref bf)])) rfl rfl (hb hby at_190)
  refine Go.by (fun t => st316 t) ?_
  have Sfw : Safe Z EL T304.vm h315 bf := (Safe.arv hZ.alike V_bf (by decide))
  replace CR := CR.trans (CHr.wr W316 Sfw CR.1)
  clear Sfw
  replace hk := Nat.le_trans hk (Keep.of_wr W316).1
  replace U1 := U1.wr W316 ne_u1_bf (fun _ _ _ _ A => arv_neT A V_bf (by decide))
  replace V_bf := Arv.set Ar_316 q_316 S_316 M_316 H_316 G_316 (fits_nar_char _) W316 6 rfl (Nat.le_of_ble_eq_true rfl)
  rw [nar_c bcc] at V_bf
  replace V_bf : Arv Z h316 bf k309 .char (8 : Int32) [(.int (101 : Int32)), (.int (110 : Int32)), (.int (118 : Int32)), (.int (58 : Int32)), (.int ca), (.int cb), (.int cc), (.int (0 : Int32))] (.int (0 : Int32)) := V_bf
  replace Od := Od.wr W316 g_bf
  replace Z0 := Nat.le_trans Z0 (Keep.of_wr W316).1
  have N316 := Fr.snoc X316 N315 g_bf
  show Go p e below _ (T316.setTop (mkF m 191 #[.val (.int i0), .val (.int i1), .val (.int i2), .val (.int i3), .val (.int i4), .val (.int (0 : Int32)), .val (.int (Int32.ofNat nn)), .val (.int ca), .val (.int cb), .val (.int cc), .val (.ref s1), .val (.ref kd), .val (.ref r1), .val (.ref u1), .val (.ref bf), .val (.int (4 : Int32)), .unset] []))
  refine Go.by (fun t => XS.iload X316.here hx rfl (hb hby at_191) rfl ) ?_
  refine Go.by (fun t => XS.iload X316.here hx rfl (hb hby at_193) rfl ) ?_
  refine Go.by (fun t => XS.iadd X316.here hx rfl (hb hby at_195) rfl) ?_
  show Go p e below _ (T316.setTop (mkF m 196 #[.val (.int i0), .val (.int i1), .val (.int i2), .val (.int i3), .val (.int i4), .val (.int (0 : Int32)), .val (.int (Int32.ofNat nn)), .val (.int ca), .val (.int cb), .val (.int cc), .val (.ref s1), .val (.ref kd), .val (.ref r1), .val (.ref u1), .val (.ref bf), .val (.int (4 : Int32)), .unset] [(.int ((4 : Int32) + (Int32.ofNat nn)))]))
  rw [show ((4 : Int32) + (Int32.ofNat nn)) = (Int32.ofNat (4 + nn)) from o_add 4 nn]
  refine Go.by (fun t => XS.istore X316.here hx rfl (hb hby at_196) rfl (l' := #[.val (.int i0), .val (.int i1), .val (.int i2), .val (.int i3), .val (.int i4), .val (.int (0 : Int32)), .val (.int (Int32.ofNat nn)), .val (.int ca), .val (.int cb), .val (.int cc), .val (.ref s1), .val (.ref kd), .val (.ref r1), .val (.ref u1), .val (.ref bf), .val (.int (4 : Int32)), .val (.int (Int32.ofNat (4 + nn)))]) rfl) ?_
  refine Go.by (fun t => XS.aload X316.here hx rfl (hb hby at_198) rfl rfl) ?_
  refine Go.by (fun t => XS.ifnullNo X316.here hx rfl (hb hby at_200) rfl) ?_
  refine Go.by (fun t => XS.aload X316.here hx rfl (hb hby at_203) rfl rfl) ?_
  have hul : ([(101 : Int32), (110 : Int32), (118 : Int32), (58 : Int32)] ++ [ca, cb, cc].take nn).length = 4 + nn := by rw [List.length_append, hlen]; rfl
  obtain ⟨cq317, kq317, q317a, q317b, q317c⟩ := isOf hZ e316 U1.exa
  obtain ⟨_, _, ⟨T317, L317, k317, n317⟩, -, X317, ⟨Lc317, hQ317, l317, y317, z317⟩, st317⟩ := X316.virtualBack hx (y := (⟨"java/lang/String", "length", "()I"⟩ : MethodName)) (z := (⟨"java/lang/String", "length", "()I"⟩ : MethodName)) hown (mvT hZ (wd hw 177 rfl)) (mvT hZ (wd hw 96 rfl)) (notFace_of_selects (args := #[]) (mvT hZ (wd hw 98 rfl))) (mvT hZ (wd hw 98 rfl)) (mvT hZ (wd hw 97 rfl)) (by decide) (backOf (W := 0) (rmLEN l Z a0 hw [] u1 ([(101 : Int32), (110 : Int32), (118 : Int32), (58 : Int32)] ++ [ca, cb, cc].take nn) G1 h316 n0 Od O2 P5 U1 (by rw [hul]; omega)) hZ (wd hw 99 rfl) (wd hw 8 rfl) (by decide) (by decide)) q317a q317c (g := (mkF m 205 #[.val (.int i0), .val (.int i1), .val (.int i2), .val (.int i3), .val (.int i4), .val (.int (0 : Int32)), .val (.int (Int32.ofNat nn)), .val (.int ca), .val (.int cb), .val (.int cc), .val (.ref s1), .val (.ref kd), .val (.ref r1), .val (.ref u1), .val (.ref bf), .val (.int (4 : Int32)), .val (.int (Int32.ofNat (4 + nn)))] [(.ref u1)])) rfl (by rw [hml]; rfl) (Steps.refl _) (argsL := []) (rest := []) (lenOf pd_3 rfl) rfl (by show 2 * 0 + _ ≤ _; exact Nat.le_of_eq rfl) (hb hby at_205) (fun _ _ => ⟨rfl, e316, (by decide : 14 + 0 ≤ _), (by decide : 205 + 0 ≤ _)⟩)
  dsimp only [Pt.U, Pt.locs, Pt.cells, Pt.slots] at X317 l317 y317 z317 st317 hQ317
  subst y317 z317
  obtain ⟨rfl, Nq317, e317⟩ := hQ317
  have N317 : Fr n0 L317 := by rw [l317]; exact Fr.app N316 Nq317
  clear l317
  refine Go.by (fun t => st317.trans) ?_
  show Go p e below _ (T317.setTop (mkF m 208 #[.val (.int i0), .val (.int i1), .val (.int i2), .val (.int i3), .val (.int i4), .val (.int (0 : Int32)), .val (.int (Int32.ofNat nn)), .val (.int ca), .val (.int cb), .val (.int cc), .val (.ref s1), .val (.ref kd), .val (.ref r1), .val (.ref u1), .val (.ref bf), .val (.int (4 : Int32)), .val (.int (Int32.ofNat (4 + nn)))] [(.int (Int32.ofNat ([(101 : Int32), (110 : Int32), (118 : Int32), (58 : Int32)] ++ [ca, cb, cc].take nn).length))]))
  rw [hul]
  refine Go.by (fun t => XS.iload X317.here hx rfl (hb hby at_208) rfl ) ?_
  refine Go.by (fun t => XS.icmpYes X317.here hx rfl (pc0 := 210) (pc' := 215) rfl (hb hby at_210) rfl (teq (rfl : (Int32.ofNat (4 + nn)) = (Int32.ofNat (4 + nn)))).1 (by decide) (by decide)) ?_
  refine Go.by (fun t => XS.aload X317.here hx rfl (hb hby at_215) rfl rfl) ?_
  refine Go.by (fun t => XS.aload X317.here hx rfl (hb hby at_217) rfl rfl) ?_
  refine Go.by (fun t => XS.iconst X317.here hx rfl (hb hby at_219)) ?_
  refine Go.by (fun t => XS.iload X317.here hx rfl (hb hby at_220) rfl ) ?_
  obtain ⟨_, _, ⟨T318, L318, k318, n318⟩, -, X318, ⟨Lc318, hQ318, l318, y318, z318⟩, st318⟩ := Jvm.LawKit.callS X317 hx (y := (⟨"com/example/harvest_rules/harvestrules/registry/SecretReferenceToStringPinLaw", "eqAt", "(Ljava/lang/String;[CII)Z"⟩ : MethodName)) hown (mvT hZ (wd hw 178 rfl)) (mvT hZ (wd hw 179 rfl)) (mvT hZ (wd hw 4 rfl)) (mvT hZ (wd hw 180 rfl)) (by decide) (backOf (W := 0) (rmEQ l Z a0 hw [] u1 bf ([(101 : Int32), (110 : Int32), (118 : Int32), (58 : Int32)] ++ [ca, cb, cc].take nn) k309 8 0 (Int32.ofNat (4 + nn)) _ G1 G3 h316 n0 Od A1 HS LS O4 rG3 O2 P5 U1 V_bf (by rw [hul]; omega) (fun _ => ⟨[], 101, [(110 : Int32), (118 : Int32), (58 : Int32)] ++ [ca, cb, cc].take nn, rfl, rfl, (by decide), (by decide), rfl⟩)) hZ (wd hw 180 rfl) (wd hw 4 rfl) (by decide) (by decide)) (g := (mkF m 222 #[.val (.int i0), .val (.int i1), .val (.int i2), .val (.int i3), .val (.int i4), .val (.int (0 : Int32)), .val (.int (Int32.ofNat nn)), .val (.int ca), .val (.int cb), .val (.int cc), .val (.ref s1), .val (.ref kd), .val (.ref r1), .val (.ref u1), .val (.ref bf), .val (.int (4 : Int32)), .val (.int (Int32.ofNat (4 + nn)))] [(.int (Int32.ofNat (4 + nn))), (.int (0 : Int32)), (.ref bf), (.ref u1)])) rfl (by rw [hml]; rfl) (argsL := [(.ref u1), (.ref bf), (.int (0 : Int32)), (.int (Int32.ofNat (4 + nn)))]) (rest := []) (lenOf pd_4 rfl) rfl (by show 2 * 0 + _ ≤ _; exact Nat.le_of_eq rfl) (hb hby at_222) (fun _ _ => ⟨rfl, e317, (by decide : 14 + 0 ≤ _), (by decide : 205 + 0 ≤ _)⟩)
  dsimp only [Pt.U, Pt.locs, Pt.cells, Pt.slots] at X318 l318 y318 z318 st318 hQ318
  subst y318 z318
  obtain ⟨rfl, Nq318, e318⟩ := hQ318
  have N318 : Fr n0 L318 := by rw [l318]; exact Fr.app N317 Nq318
  clear l318
  refine Go.by (fun t => st318 t) ?_
  refine Go.by (fun t => XS.ifNo X318.here hx rfl (hb hby at_225) rfl ((if0 _ _).trans (feq (by decide : ¬ ((1 : Int32) = (0 : Int32)))).1)) ?_
  show Go p e below _ (T318.setTop (mkF m 228 #[.val (.int i0), .val (.int i1), .val (.int i2), .val (.int i3), .val (.int i4), .val (.int (0 : Int32)), .val (.int (Int32.ofNat nn)), .val (.int ca), .val (.int cb), .val (.int cc), .val (.ref s1), .val (.ref kd), .val (.ref r1), .val (.ref u1), .val (.ref bf), .val (.int (4 : Int32)), .val (.int (Int32.ofNat (4 + nn)))] []))
  refine Go.by (fun t => XS.aload X318.here hx rfl (hb hby at_228) rfl rfl) ?_
  refine Go.by (fun t => XS.aload X318.here hx rfl (hb hby at_230) rfl rfl) ?_
  refine Go.by (fun t => XS.iconst X318.here hx rfl (hb hby at_232)) ?_
  refine Go.by (fun t => XS.iload X318.here hx rfl (hb hby at_233) rfl ) ?_
  obtain ⟨_, _, ⟨T319, L319, k319, n319⟩, -, X319, ⟨Lc319, hQ319, l319, y319, z319⟩, st319⟩ := Jvm.LawKit.callS X318 hx (y := (⟨"com/example/harvest_rules/harvestrules/registry/SecretReferenceToStringPinLaw", "eqAt", "(Ljava/lang/String;[CII)Z"⟩ : MethodName)) hown (mvT hZ (wd hw 178 rfl)) (mvT hZ (wd hw 179 rfl)) (mvT hZ (wd hw 4 rfl)) (mvT hZ (wd hw 180 rfl)) (by decide) (backOf (W := 0) (rmEQ l Z a0 hw [] u1 bf ([(101 : Int32), (110 : Int32), (118 : Int32), (58 : Int32)] ++ [ca, cb, cc].take nn) k309 8 1 (Int32.ofNat (4 + nn)) _ G1 G3 h316 n0 Od A1 HS LS O4 rG3 O2 P5 U1 V_bf (by rw [hul]; omega) (fun _ => ⟨[(101 : Int32)], 110, [(118 : Int32), (58 : Int32)] ++ [ca, cb, cc].take nn, rfl, rfl, (by decide), (by decide), rfl⟩)) hZ (wd hw 180 rfl) (wd hw 4 rfl) (by decide) (by decide)) (g := (mkF m 235 #[.val (.int i0), .val (.int i1), .val (.int i2), .val (.int i3), .val (.int i4), .val (.int (0 : Int32)), .val (.int (Int32.ofNat nn)), .val (.int ca), .val (.int cb), .val (.int cc), .val (.ref s1), .val (.ref kd), .val (.ref r1), .val (.ref u1), .val (.ref bf), .val (.int (4 : Int32)), .val (.int (Int32.ofNat (4 + nn)))] [(.int (Int32.ofNat (4 + nn))), (.int (1 : Int32)), (.ref bf), (.ref u1)])) rfl (by rw [hml]; rfl) (argsL := [(.ref u1), (.ref bf), (.int (1 : Int32)), (.int (Int32.ofNat (4 + nn)))]) (rest := []) (lenOf pd_4 rfl) rfl (by show 2 * 0 + _ ≤ _; exact Nat.le_of_eq rfl) (hb hby at_235) (fun _ _ => ⟨rfl, e318, (by decide : 14 + 0 ≤ _), (by decide : 205 + 0 ≤ _)⟩)
  dsimp only [Pt.U, Pt.locs, Pt.cells, Pt.slots] at X319 l319 y319 z319 st319 hQ319
  subst y319 z319
  obtain ⟨rfl, Nq319, e319⟩ := hQ319
  have N319 : Fr n0 L319 := by rw [l319]; exact Fr.app N318 Nq319
  clear l319
  refine Go.by (fun t => st319 t) ?_
  refine Go.by (fun t => XS.ifNo X319.here hx rfl (hb hby at_238) rfl ((if0 _ _).trans (feq (by decide : ¬ ((1 : Int32) = (0 : Int32)))).1)) ?_
  refine Go.by (fun t => XS.aload X319.here hx rfl (hb hby at_241) rfl rfl) ?_
  refine Go.by (fun t => XS.aload X319.here hx rfl (hb hby at_243) rfl rfl) ?_
  refine Go.by (fun t => XS.iconst X319.here hx rfl (hb hby at_245)) ?_
  refine Go.by (fun t => XS.iload X319.here hx rfl (hb hby at_246) rfl ) ?_
  obtain ⟨_, _, ⟨T320, L320, k320, n320⟩, -, X320, ⟨Lc320, hQ320, l320, y320, z320⟩, st320⟩ := Jvm.LawKit.callS X319 hx (y := (⟨"com/example/harvest_rules/harvestrules/registry/SecretReferenceToStringPinLaw", "eqAt", "(Ljava/lang/String;[CII)Z"⟩ : MethodName)) hown (mvT hZ (wd hw 178 rfl)) (mvT hZ (wd hw 179 rfl)) (mvT hZ (wd hw 4 rfl)) (mvT hZ (wd hw 180 rfl)) (by decide) (backOf (W := 0) (rmEQ l Z a0 hw [] u1 bf ([(101 : Int32), (110 : Int32), (118 : Int32), (58 : Int32)] ++ [ca, cb, cc].take nn) k309 8 2 (Int32.ofNat (4 + nn)) _ G1 G3 h316 n0 Od A1 HS LS O4 rG3 O2 P5 U1 V_bf (by rw [hul]; omega) (fun _ => ⟨[(101 : Int32), (110 : Int32)], 118, [(58 : Int32)] ++ [ca, cb, cc].take nn, rfl, rfl, (by decide), (by decide), rfl⟩)) hZ (wd hw 180 rfl) (wd hw 4 rfl) (by decide) (by decide)) (g := (mkF m 248 #[.val (.int i0), .val (.int i1), .val (.int i2), .val (.int i3), .val (.int i4), .val (.int (0 : Int32)), .val (.int (Int32.ofNat nn)), .val (.int ca), .val (.int cb), .val (.int cc), .val (.ref s1), .val (.ref kd), .val (.ref r1), .val (.ref u1), .val (.ref bf), .val (.int (4 : Int32)), .val (.int (Int32.ofNat (4 + nn)))] [(.int (Int32.ofNat (4 + nn))), (.int (2 : Int32)), (.ref bf), (.ref u1)])) rfl (by rw [hml]; rfl) (argsL := [(.ref u1), (.ref bf), (.int (2 : Int32)), (.int (Int32.ofNat (4 + nn)))]) (rest := []) (lenOf pd_4 rfl) rfl (by show 2 * 0 + _ ≤ _; exact Nat.le_of_eq rfl) (hb hby at_248) (fun _ _ => ⟨rfl, e319, (by decide : 14 + 0 ≤ _), (by decide : 205 + 0 ≤ _)⟩)
  dsimp only [Pt.U, Pt.locs, Pt.cells, Pt.slots] at X320 l320 y320 z320 st320 hQ320
  subst y320 z320
  obtain ⟨rfl, Nq320, e320⟩ := hQ320
  have N320 : Fr n0 L320 := by rw [l320]; exact Fr.app N319 Nq320
  clear l320
  refine Go.by (fun t => st320 t) ?_
  refine Go.by (fun t => XS.ifNo X320.here hx rfl (hb hby at_251) rfl ((if0 _ _).trans (feq (by decide : ¬ ((1 : Int32) = (0 : Int32)))).1)) ?_
  show Go p e below _ (T320.setTop (mkF m 254 #[.val (.int i0), .val (.int i1), .val (.int i2), .val (.int i3), .val (.int i4), .val (.int (0 : Int32)), .val (.int (Int32.ofNat nn)), .val (.int ca), .val (.int cb), .val (.int cc), .val (.ref s1), .val (.ref kd), .val (.ref r1), .val (.ref u1), .val (.ref bf), .val (.int (4 : Int32)), .val (.int (Int32.ofNat (4 + nn)))] []))
  refine Go.by (fun t => XS.aload X320.here hx rfl (hb hby at_254) rfl rfl) ?_
  refine Go.by (fun t => XS.aload X320.here hx rfl (hb hby at_256) rfl rfl) ?_
  refine Go.by (fun t => XS.iconst X320.here hx rfl (hb hby at_258)) ?_
  refine Go.by (fun t => XS.iload X320.here hx rfl (hb hby at_259) rfl ) ?_
  obtain ⟨_, _, ⟨T321, L321, k321, n321⟩, -, X321, ⟨Lc321, hQ321, l321, y321, z321⟩, st321⟩ := Jvm.LawKit.callS X320 hx (y := (⟨"com/example/harvest_rules/harvestrules/registry/SecretReferenceToStringPinLaw", "eqAt", "(Ljava/lang/String;[CII)Z"⟩ : MethodName)) hown (mvT hZ (wd hw 178 rfl)) (mvT hZ (wd hw 179 rfl)) (mvT hZ (wd hw 4 rfl)) (mvT hZ (wd hw 180 rfl)) (by decide) (backOf (W := 0) (rmEQ l Z a0 hw [] u1 bf ([(101 : Int32), (110 : Int32), (118 : Int32), (58 : Int32)] ++ [ca, cb, cc].take nn) k309 8 3 (Int32.ofNat (4 + nn)) _ G1 G3 h316 n0 Od A1 HS LS O4 rG3 O2 P5 U1 V_bf (by rw [hul]; omega) (fun _ => ⟨[(101 : Int32), (110 : Int32), (118 : Int32)], 58, [] ++ [ca, cb, cc].take nn, rfl, rfl, (by decide), (by decide), rfl⟩)) hZ (wd hw 180 rfl) (wd hw 4 rfl) (by decide) (by decide)) (g := (mkF m 261 #[.val (.int i0), .val (.int i1), .val (.int i2), .val (.int i3), .val (.int i4), .val (.int (0 : Int32)), .val (.int (Int32.ofNat nn)), .val (.int ca), .val (.int cb), .val (.int cc), .val (.ref s1), .val (.ref kd), .val (.ref r1), .val (.ref u1), .val (.ref bf), .val (.int (4 : Int32)), .val (.int (Int32.ofNat (4 + nn)))] [(.int (Int32.ofNat (4 + nn))), (.int (3 : Int32)), (.ref bf), (.ref u1)])) rfl (by rw [hml]; rfl) (argsL := [(.ref u1), (.ref bf), (.int (3 : Int32)), (.int (Int32.ofNat (4 + nn)))]) (rest := []) (lenOf pd_4 rfl) rfl (by show 2 * 0 + _ ≤ _; exact Nat.le_of_eq rfl) (hb hby at_261) (fun _ _ => ⟨rfl, e320, (by decide : 14 + 0 ≤ _), (by decide : 205 + 0 ≤ _)⟩)
  dsimp only [Pt.U, Pt.locs, Pt.cells, Pt.slots] at X321 l321 y321 z321 st321 hQ321
  subst y321 z321
  obtain ⟨rfl, Nq321, e321⟩ := hQ321
  have N321 : Fr n0 L321 := by rw [l321]; exact Fr.app N320 Nq321
  clear l321
  refine Go.by (fun t => st321 t) ?_
  refine Go.by (fun t => XS.ifNo X321.here hx rfl (hb hby at_264) rfl ((if0 _ _).trans (feq (by decide : ¬ ((1 : Int32) = (0 : Int32)))).1)) ?_
  refine Go.by (fun t => XS.aload X321.here hx rfl (hb hby at_267) rfl rfl) ?_
  refine Go.by (fun t => XS.aload X321.here hx rfl (hb hby at_269) rfl rfl) ?_
  refine Go.by (fun t => XS.iconst X321.here hx rfl (hb hby at_271)) ?_
  refine Go.by (fun t => XS.iload X321.here hx rfl (hb hby at_272) rfl ) ?_
  obtain ⟨_, _, ⟨T322, L322, k322, n322⟩, -, X322, ⟨Lc322, hQ322, l322, y322, z322⟩, st322⟩ := Jvm.LawKit.callS X321 hx (y := (⟨"com/example/harvest_rules/harvestrules/registry/SecretReferenceToStringPinLaw", "eqAt", "(Ljava/lang/String;[CII)Z"⟩ : MethodName)) hown (mvT hZ (wd hw 178 rfl)) (mvT hZ (wd hw 179 rfl)) (mvT hZ (wd hw 4 rfl)) (mvT hZ (wd hw 180 rfl)) (by decide) (backOf (W := 0) (rmEQ l Z a0 hw [] u1 bf ([(101 : Int32), (110 : Int32), (118 : Int32), (58 : Int32)] ++ [ca, cb, cc].take nn) k309 8 4 (Int32.ofNat (4 + nn)) _ G1 G3 h316 n0 Od A1 HS LS O4 rG3 O2 P5 U1 V_bf (by rw [hul]; omega) (by intro q; have q' : 4 < 4 + nn := (o_lt (a := 4) (by decide) (by omega)).1 q; have h4 : nn = 0 ∨ nn = 1 ∨ nn = 2 ∨ nn = 3 := (by omega); clear q; rcases h4 with rfl | rfl | rfl | rfl; exact absurd q' (by decide); exact ⟨[(101 : Int32), (110 : Int32), (118 : Int32), (58 : Int32)], ca, [], rfl, rfl, bca, (by decide), rfl⟩; exact ⟨[(101 : Int32), (110 : Int32), (118 : Int32), (58 : Int32)], ca, [cb], rfl, rfl, bca, (by decide), rfl⟩; exact ⟨[(101 : Int32), (110 : Int32), (118 : Int32), (58 : Int32)], ca, [cb, cc], rfl, rfl, bca, (by decide), rfl⟩)) hZ (wd hw 180 rfl) (wd hw 4 rfl) (by decide) (by decide)) (g := (mkF m 274 #[.val (.int i0), .val (.int i1), .val (.int i2), .val (.int i3), .val (.int i4), .val (.int (0 : Int32)), .val (.int (Int32.ofNat nn)), .val (.int ca), .val (.int cb), .val (.int cc), .val (.ref s1), .val (.ref kd), .val (.ref r1), .val (.ref u1), .val (.ref bf), .val (.int (4 : Int32)), .val (.int (Int32.ofNat (4 + nn)))] [(.int (Int32.ofNat (4 + nn))), (.int (4 : Int32)), (.ref bf), (.ref u1)])) rfl (by rw [hml]; rfl) (argsL := [(.ref u1), (.ref bf), (.int (4 : Int32)), (.int (Int32.ofNat (4 + nn)))]) (rest := []) (lenOf pd_4 rfl) rfl (by show 2 * 0 + _ ≤ _; exact Nat.le_of_eq rfl) (hb hby at_274) (fun _ _ => ⟨rfl, e321, (by decide : 14 + 0 ≤ _), (by decide : 205 + 0 ≤ _)⟩)
  dsimp only [Pt.U, Pt.locs, Pt.cells, Pt.slots] at X322 l322 y322 z322 st322 hQ322
  subst y322 z322
  obtain ⟨rfl, Nq322, e322⟩ := hQ322
  have N322 : Fr n0 L322 := by rw [l322]; exact Fr.app N321 Nq322
  clear l322
  refine Go.by (fun t => st322 t) ?_
  refine Go.by (fun t => XS.ifNo X322.here hx rfl (hb hby at_277) rfl ((if0 _ _).trans (feq (by decide : ¬ ((1 : Int32) = (0 : Int32)))).1)) ?_
  show Go p e below _ (T322.setTop (mkF m 280 #[.val (.int i0), .val (.int i1), .val (.int i2), .val (.int i3), .val (.int i4), .val (.int (0 : Int32)), .val (.int (Int32.ofNat nn)), .val (.int ca), .val (.int cb), .val (.int cc), .val (.ref s1), .val (.ref kd), .val (.ref r1), .val (.ref u1), .val (.ref bf), .val (.int (4 : Int32)), .val (.int (Int32.ofNat (4 + nn)))] []))
  refine Go.by (fun t => XS.aload X322.here hx rfl (hb hby at_280) rfl rfl) ?_
  refine Go.by (fun t => XS.aload X322.here hx rfl (hb hby at_282) rfl rfl) ?_
  refine Go.by (fun t => XS.iconst X322.here hx rfl (hb hby at_284)) ?_
  refine Go.by (fun t => XS.iload X322.here hx rfl (hb hby at_285) rfl ) ?_
  obtain ⟨_, _, ⟨T323, L323, k323, n323⟩, -, X323, ⟨Lc323, hQ323, l323, y323, z323⟩, st323⟩ := Jvm.LawKit.callS X322 hx (y := (⟨"com/example/harvest_rules/harvestrules/registry/SecretReferenceToStringPinLaw", "eqAt", "(Ljava/lang/String;[CII)Z"⟩ : MethodName)) hown (mvT hZ (wd hw 178 rfl)) (mvT hZ (wd hw 179 rfl)) (mvT hZ (wd hw 4 rfl)) (mvT hZ (wd hw 180 rfl)) (by decide) (backOf (W := 0) (rmEQ l Z a0 hw [] u1 bf ([(101 : Int32), (110 : Int32), (118 : Int32), (58 : Int32)] ++ [ca, cb, cc].take nn) k309 8 5 (Int32.ofNat (4 + nn)) _ G1 G3 h316 n0 Od A1 HS LS O4 rG3 O2 P5 U1 V_bf (by rw [hul]; omega) (by intro q; have q' : 5 < 4 + nn := (o_lt (a := 5) (by decide) (by omega)).1 q; have h4 : nn = 0 ∨ nn = 1 ∨ nn = 2 ∨ nn = 3 := (by omega); clear q; rcases h4 with rfl | rfl | rfl | rfl; exact absurd q' (by decide); exact absurd q' (by decide); exact ⟨[(101 : Int32), (110 : Int32), (118 : Int32), (58 : Int32), ca], cb, [], rfl, rfl, bcb, (by decide), rfl⟩; exact ⟨[(101 : Int32), (110 : Int32), (118 : Int32), (58 : Int32), ca], cb, [cc], rfl, rfl, bcb, (by decide), rfl⟩)) hZ (wd hw 180 rfl) (wd hw 4 rfl) (by decide) (by decide)) (g := (mkF m 287 #[.val (.int i0), .val (.int i1), .val (.int i2), .val (.int i3), .val (.int i4), .val (.int (0 : Int32)), .val (.int (Int32.ofNat nn)), .val (.int ca), .val (.int cb), .val (.int cc), .val (.ref s1), .val (.ref kd), .val (.ref r1), .val (.ref u1), .val (.ref bf), .val (.int (4 : Int32)), .val (.int (Int32.ofNat (4 + nn)))] [(.int (Int32.ofNat (4 + nn))), (.int (5 : Int32)), (.ref bf), (.ref u1)])) rfl (by rw [hml]; rfl) (argsL := [(.ref u1), (.ref bf), (.int (5 : Int32)), (.int (Int32.ofNat (4 + nn)))]) (rest := []) (lenOf pd_4 rfl) rfl (by show 2 * 0 + _ ≤ _; exact Nat.le_of_eq rfl) (hb hby at_287) (fun _ _ => ⟨rfl, e322, (by decide : 14 + 0 ≤ _), (by decide : 205 + 0 ≤ _)⟩)
  dsimp only [Pt.U, Pt.locs, Pt.cells, Pt.slots] at X323 l323 y323 z323 st323 hQ323
  subst y323 z323
  obtain ⟨rfl, Nq323, e323⟩ := hQ323
  have N323 : Fr n0 L323 := by rw [l323]; exact Fr.app N322 Nq323
  clear l323
  refine Go.by (fun t => st323 t) ?_
  refine Go.by (fun t => XS.ifNo X323.here hx rfl (hb hby at_290) rfl ((if0 _ _).trans (feq (by decide : ¬ ((1 : Int32) = (0 : Int32)))).1)) ?_
  refine Go.by (fun t => XS.aload X323.here hx rfl (hb hby at_293) rfl rfl) ?_
  refine Go.by (fun t => XS.aload X323.here hx rfl (hb hby at_295) rfl rfl) ?_
  refine Go.by (fun t => XS.bipush X323.here hx rfl (hb hby at_297)) ?_
  refine Go.by (fun t => XS.iload X323.here hx rfl (hb hby at_299) rfl ) ?_
  obtain ⟨_, _, ⟨T324, L324, k324, n324⟩, -, X324, ⟨Lc324, hQ324, l324, y324, z324⟩, st324⟩ := Jvm.LawKit.callS X323 hx (y := (⟨"com/example/harvest_rules/harvestrules/registry/SecretReferenceToStringPinLaw", "eqAt", "(Ljava/lang/String;[CII)Z"⟩ : MethodName)) hown (mvT hZ (wd hw 178 rfl)) (mvT hZ (wd hw 179 rfl)) (mvT hZ (wd hw 4 rfl)) (mvT hZ (wd hw 180 rfl)) (by decide) (backOf (W := 0) (rmEQ l Z a0 hw [] u1 bf ([(101 : Int32), (110 : Int32), (118 : Int32), (58 : Int32)] ++ [ca, cb, cc].take nn) k309 8 6 (Int32.ofNat (4 + nn)) _ G1 G3 h316 n0 Od A1 HS LS O4 rG3 O2 P5 U1 V_bf (by rw [hul]; omega) (by intro q; have q' : 6 < 4 + nn := (o_lt (a := 6) (by decide) (by omega)).1 q; have h4 : nn = 0 ∨ nn = 1 ∨ nn = 2 ∨ nn = 3 := (by omega); clear q; rcases h4 with rfl | rfl | rfl | rfl; exact absurd q' (by decide); exact absurd q' (by decide); exact absurd q' (by decide); exact ⟨[(101 : Int32), (110 : Int32), (118 : Int32), (58 : Int32), ca, cb], cc, [], rfl, rfl, bcc, (by decide), rfl⟩)) hZ (wd hw 180 rfl) (wd hw 4 rfl) (by decide) (by decide)) (g := (mkF m 301 #[.val (.int i0), .val (.int i1), .val (.int i2), .val (.int i3), .val (.int i4), .val (.int (0 : Int32)), .val (.int (Int32.ofNat nn)), .val (.int ca), .val (.int cb), .val (.int cc), .val (.ref s1), .val (.ref kd), .val (.ref r1), .val (.ref u1), .val (.ref bf), .val (.int (4 : Int32)), .val (.int (Int32.ofNat (4 + nn)))] [(.int (Int32.ofNat (4 + nn))), (.int (6 : Int32)), (.ref bf), (.ref u1)])) rfl (by rw [hml]; rfl) (argsL := [(.ref u1), (.ref bf), (.int (6 : Int32)), (.int (Int32.ofNat (4 + nn)))]) (rest := []) (lenOf pd_4 rfl) rfl (by show 2 * 0 + _ ≤ _; exact Nat.le_of_eq rfl) (hb hby at_301) (fun _ _ => ⟨rfl, e323, (by decide : 14 + 0 ≤ _), (by decide : 205 + 0 ≤ _)⟩)
  dsimp only [Pt.U, Pt.locs, Pt.cells, Pt.slots] at X324 l324 y324 z324 st324 hQ324
  subst y324 z324
  obtain ⟨rfl, Nq324, e324⟩ := hQ324
  have N324 : Fr n0 L324 := by rw [l324]; exact Fr.app N323 Nq324
  clear l324
  refine Go.by (fun t => st324 t) ?_
  refine Go.by (fun t => XS.ifNo X324.here hx rfl (hb hby at_304) rfl ((if0 _ _).trans (feq (by decide : ¬ ((1 : Int32) = (0 : Int32)))).1)) ?_
  show Go p e below _ (T324.setTop (mkF m 307 #[.val (.int i0), .val (.int i1), .val (.int i2), .val (.int i3), .val (.int i4), .val (.int (0 : Int32)), .val (.int (Int32.ofNat nn)), .val (.int ca), .val (.int cb), .val (.int cc), .val (.ref s1), .val (.ref kd), .val (.ref r1), .val (.ref u1), .val (.ref bf), .val (.int (4 : Int32)), .val (.int (Int32.ofNat (4 + nn)))] []))
  refine Go.by (fun t => XS.aload X324.here hx rfl (hb hby at_307) rfl rfl) ?_
  refine Go.by (fun t => XS.aload X324.here hx rfl (hb hby at_309) rfl rfl) ?_
  refine Go.by (fun t => XS.bipush X324.here hx rfl (hb hby at_311)) ?_
  refine Go.by (fun t => XS.iload X324.here hx rfl (hb hby at_313) rfl ) ?_
  obtain ⟨_, _, ⟨T325, L325, k325, n325⟩, -, X325, ⟨Lc325, hQ325, l325, y325, z325⟩, st325⟩ := Jvm.LawKit.callS X324 hx (y := (⟨"com/example/harvest_rules/harvestrules/registry/SecretReferenceToStringPinLaw", "eqAt", "(Ljava/lang/String;[CII)Z"⟩ : MethodName)) hown (mvT hZ (wd hw 178 rfl)) (mvT hZ (wd hw 179 rfl)) (mvT hZ (wd hw 4 rfl)) (mvT hZ (wd hw 180 rfl)) (by decide) (backOf (W := 0) (rmEQ l Z a0 hw [] u1 bf ([(101 : Int32), (110 : Int32), (118 : Int32), (58 : Int32)] ++ [ca, cb, cc].take nn) k309 8 7 (Int32.ofNat (4 + nn)) _ G1 G3 h316 n0 Od A1 HS LS O4 rG3 O2 P5 U1 V_bf (by rw [hul]; omega) (fun q => absurd ((o_lt (a := 7) (by decide) (by omega)).1 q) (by omega))) hZ (wd hw 180 rfl) (wd hw 4 rfl) (by decide) (by decide)) (g := (mkF m 315 #[.val (.int i0), .val (.int i1), .val (.int i2), .val (.int i3), .val (.int i4), .val (.int (0 : Int32)), .val (.int (Int32.ofNat nn)), .val (.int ca), .val (.int cb), .val (.int cc), .val (.ref s1), .val (.ref kd), .val (.ref r1), .val (.ref u1), .val (.ref bf), .val (.int (4 : Int32)), .val (.int (Int32.ofNat (4 + nn)))] [(.int (Int32.ofNat (4 + nn))), (.int (7 : Int32)), (.ref bf), (.ref u1)])) rfl (by rw [hml]; rfl) (argsL := [(.ref u1), (.ref bf), (.int (7 : Int32)), (.int (Int32.ofNat (4 + nn)))]) (rest := []) (lenOf pd_4 rfl) rfl (by show 2 * 0 + _ ≤ _; exact Nat.le_of_eq rfl) (hb hby at_315) (fun _ _ => ⟨rfl, e324, (by decide : 14 + 0 ≤ _), (by decide : 205 + 0 ≤ _)⟩)
  dsimp only [Pt.U, Pt.locs, Pt.cells, Pt.slots] at X325 l325 y325 z325 st325 hQ325
  subst y325 z325
  obtain ⟨rfl, Nq325, e325⟩ := hQ325
  have N325 : Fr n0 L325 := by rw [l325]; exact Fr.app N324 Nq325
  clear l325
  refine Go.by (fun t => st325 t) ?_
  refine Go.by (fun t => XS.ifNo X325.here hx rfl (hb hby at_318) rfl ((if0 _ _).trans (feq (by decide : ¬ ((1 : Int32) = (0 : Int32)))).1)) ?_
  refine Go.by (fun t => XS.iconst X325.here hx rfl (hb hby at_321)) ?_
  refine Go.by (fun t => XS.goto X325.here hx rfl (pc0 := 322) (pc' := 326) rfl (hb hby at_322) (by decide) (by decide)) ?_
  exact Go.ret1W X325 hS (by rw [e325]; exact hk) (by rw [e325]; exact CR) hZ hEL hx Bd.returns Bd.notSynchronized (by first | rfl | decide) (Or.inl ⟨rfl, by simp, _, rfl⟩) (hb hby at_326) (by decide) (by decide) (by first | (rw [e325]; exact ⟨rfl, N325⟩) | exact ⟨rfl, N325⟩)
def Q_rm0_5 (Z : State) (i0 i1 i2 i3 i4 ca cb cc : Int32) (nn : Nat) (kd p1 pt : Addr) (kp : ClassId) (G1 : Int32) (G3 : Value) (h0 : Heap) (n0 : Nat) : Option Value → Heap → List Loc → Prop := fun v _ L => v = some (.int 1) ∧ Fr n0 L
set_option maxRecDepth 65536 in
set_option maxHeartbeats 40000000 in
theorem rm0_5 (l : Launch) (Z : State) (a0 : Array Value) (hw : ∀ d ∈ tables_1, d.before a0 Z = true) (ws : List Jvm.Cond) (i0 i1 i2 i3 i4 ca cb cc : Int32) (nn : Nat) (kd p1 pt : Addr) (kp : ClassId) (G1 : Int32) (G3 : Value) (h0 : Heap) (n0 : Nat) (Z0 : n0 ≤ h0.size) (Od : Old Z n0 h0) (A1 : Sta Z Z.heap "java/lang/StringUTF16" "$assertionsDisabled" "Z" (.int 1)) (HS : Sta Z Z.heap "java/lang/StringUTF16" "HI_BYTE_SHIFT" "I" (.int 0)) (LS : Sta Z Z.heap "java/lang/StringUTF16" "LO_BYTE_SHIFT" "I" (.int 8)) (O4 : Sta Z Z.heap "jdk/internal/util/Preconditions" "SIOOBE_FORMATTER" "Ljava/util/function/BiFunction;" G3) (rG3 : G3.isRef = true) (O2 : Sta Z Z.heap "java/lang/String" "COMPACT_STRINGS" "Z" (.int G1)) (P5 : ¬ (G1 = (0 : Int32))) (SK : Sta Z Z.heap "com/example/harvest_rules/harvestrules/registry/SecretReference$Kind" "FILE" "Lcom/example/harvest_rules/harvestrules/registry/SecretReference$Kind;" (.ref kd)) (E_kd : Exa Z h0 kd "com/example/harvest_rules/harvestrules/registry/SecretReference$Kind") (F_prefix_kd : Fld Z h0 kd "com/example/harvest_rules/harvestrules/registry/SecretReference$Kind" "prefix" "Ljava/lang/String;" (.ref p1)) (E_p1 : Exa Z h0 p1 "java/lang/String") (F_value_p1 : Fld Z h0 p1 "java/lang/String" "value" "[B" (.ref pt)) (F_coder_p1 : Fld Z h0 p1 "java/lang/String" "coder" "B" (.int 0)) (V_pt : Arv Z h0 pt kp .byte (Int32.ofNat 5) (latL [(102 : Int32), (105 : Int32), (108 : Int32), (101 : Int32), (58 : Int32)]) (.int 0)) (kq : (i0 &&& (1 : Int32)) = 1) (hn : ((i1 &&& (2147483647 : Int32)) % (4 : Int32)) = Int32.ofNat nn) (hnn : nn ≤ 3) (hca : (i2 &&& (65535 : Int32)).toUInt32.toUInt16.toUInt32.toInt32 = ca) (hcb : (i3 &&& (65535 : Int32)).toUInt32.toUInt16.toUInt32.toInt32 = cb) (hcc : (i4 &&& (65535 : Int32)).toUInt32.toUInt16.toUInt32.toInt32 = cc) (bca : ¬ ca < 0 ∧ ¬ (65535 : Int32) < ca) (bcb : ¬ cb < 0 ∧ ¬ (65535 : Int32) < cb) (bcc : ¬ cc < 0 ∧ ¬ (65535 : Int32) < cc) :
    CTW EL l x code maxLocals ret ws room_1 #[(.int i0), (.int i1), (.int i2), (.int i3), (.int i4)] Z h0 (Q_rm0_5 Z i0 i1 i2 i3 i4 ca cb cc nn kd p1 pt kp G1 G3 h0 n0) := by
  refine Go.startW (plainFor_of_name pn_0) ?_
  intro p e s m below meth c s₁ Bd hx hby hml hZ hown X0 e0 hS CR
  replace hown : s.vm.findClass "com/example/harvest_rules/harvestrules/registry/SecretReferenceToStringPinLaw" = some m.cls := hown
  have hk : 0 ≤ h0.size := Nat.zero_le _
  have hEL := ew_of hw
  have hwS := ws_of hw
  have N0 := Fr.nil n0
  rw [show entryFrame m #[(.int i0), (.int i1), (.int i2), (.int i3), (.int i4)] maxLocals = (mkF m 0 #[.val (.int i0), .val (.int i1), .val (.int i2), .val (.int i3), .val (.int i4), .unset, .unset, .unset, .unset, .unset, .unset, .unset, .unset, .unset, .unset, .unset, .unset] []) from by first | (simp [entryFrame, mkF, argsToLocals, Value.category, maxLocals]; done) | rfl]
  refine Go.by (fun t => XS.iloadN X0.here hx rfl (hb hby at_0) rfl ) ?_
  refine Go.by (fun t => XS.iconst X0.here hx rfl (hb hby at_1)) ?_
  refine Go.by (fun t => XS.iand X0.here hx rfl (hb hby at_2) rfl) ?_
  refine Go.by (fun t => XS.ifNo X0.here hx rfl (hb hby at_3) rfl ((if0 _ _).trans (feq (by rw [kq]; decide : ¬ ((i0 &&& (1 : Int32)) = (0 : Int32)))).1)) ?_
  refine Go.by (fun t => XS.iconst X0.here hx rfl (hb hby at_6)) ?_
  refine Go.by (fun t => XS.goto X0.here hx rfl (pc0 := 7) (pc' := 11) rfl (hb hby at_7) (by decide) (by decide)) ?_
  refine Go.by (fun t => XS.istore X0.here hx rfl (hb hby at_11) rfl (l' := #[.val (.int i0), .val (.int i1), .val (.int i2), .val (.int i3), .val (.int i4), .val (.int (1 : Int32)), .unset, .unset, .unset, .unset, .unset, .unset, .unset, .unset, .unset, .unset, .unset]) rfl) ?_
  refine Go.by (fun t => XS.iloadN X0.here hx rfl (hb hby at_13) rfl ) ?_
  refine Go.by (fun t => X0.ldcInt hx hown (mvT hZ (wd hw 0 rfl)) (g := (mkF m 14 #[.val (.int i0), .val (.int i1), .val (.int i2), .val (.int i3), .val (.int i4), .val (.int (1 : Int32)), .unset, .unset, .unset, .unset, .unset, .unset, .unset, .unset, .unset, .unset, .unset] [(.int i1)])) rfl (hb hby at_14) t) ?_
  refine Go.by (fun t => XS.iand X0.here hx rfl (hb hby at_16) rfl) ?_
  refine Go.by (fun t => XS.iconst X0.here hx rfl (hb hby at_17)) ?_
  refine Go.by (fun t => iremM X0 hx rfl (hb hby at_18) rfl (by first | assumption | decide)) ?_
  show Go p e below _ (s₁.setTop (mkF m 19 #[.val (.int i0), .val (.int i1), .val (.int i2), .val (.int i3), .val (.int i4), .val (.int (1 : Int32)), .unset, .unset, .unset, .unset, .unset, .unset, .unset, .unset, .unset, .unset, .unset] [(.int ((i1 &&& (2147483647 : Int32)) % (4 : Int32)))]))
  rw [hn]
  refine Go.by (fun t => XS.istore X0.here hx rfl (hb hby at_19) rfl (l' := #[.val (.int i0), .val (.int i1), .val (.int i2), .val (.int i3), .val (.int i4), .val (.int (1 : Int32)), .val (.int (Int32.ofNat nn)), .unset, .unset, .unset, .unset, .unset, .unset, .unset, .unset, .unset, .unset]) rfl) ?_
  refine Go.by (fun t => XS.iloadN X0.here hx rfl (hb hby at_21) rfl ) ?_
  refine Go.by (fun t => X0.ldcInt hx hown (mvT hZ (wd hw 1 rfl)) (g := (mkF m 22 #[.val (.int i0), .val (.int i1), .val (.int i2), .val (.int i3), .val (.int i4), .val (.int (1 : Int32)), .val (.int (Int32.ofNat nn)), .unset, .unset, .unset, .unset, .unset, .unset, .unset, .unset, .unset, .unset] [(.int i2)])) rfl (hb hby at_22) t) ?_
  refine Go.by (fun t => XS.iand X0.here hx rfl (hb hby at_24) rfl) ?_
  refine Go.by (fun t => XS.i2c X0.here hx rfl (hb hby at_25) rfl) ?_
  have hca' : ((i2 &&& (65535 : Int32)).toUInt32.toUInt16.toUInt32.toInt32) = ca := hca
  show Go p e below _ (s₁.setTop (mkF m 26 #[.val (.int i0), .val (.int i1), .val (.int i2), .val (.int i3), .val (.int i4), .val (.int (1 : Int32)), .val (.int (Int32.ofNat nn)), .unset, .unset, .unset, .unset, .unset, .unset, .unset, .unset, .unset, .unset] [(.int ((i2 &&& (65535 : Int32)).toUInt32.toUInt16.toUInt32.toInt32))]))
  rw [hca']
  refine Go.by (fun t => XS.istore X0.here hx rfl (hb hby at_26) rfl (l' := #[.val (.int i0), .val (.int i1), .val (.int i2), .val (.int i3), .val (.int i4), .val (.int (1 : Int32)), .val (.int (Int32.ofNat nn)), .val (.int ca), .unset, .unset, .unset, .unset, .unset, .unset, .unset, .unset, .unset]) rfl) ?_
  refine Go.by (fun t => XS.iloadN X0.here hx rfl (hb hby at_28) rfl ) ?_
  refine Go.by (fun t => X0.ldcInt hx hown (mvT hZ (wd hw 1 rfl)) (g := (mkF m 29 #[.val (.int i0), .val (.int i1), .val (.int i2), .val (.int i3), .val (.int i4), .val (.int (1 : Int32)), .val (.int (Int32.ofNat nn)), .val (.int ca), .unset, .unset, .unset, .unset, .unset, .unset, .unset, .unset, .unset] [(.int i3)])) rfl (hb hby at_29) t) ?_
  refine Go.by (fun t => XS.iand X0.here hx rfl (hb hby at_31) rfl) ?_
  refine Go.by (fun t => XS.i2c X0.here hx rfl (hb hby at_32) rfl) ?_
  have hcb' : ((i3 &&& (65535 : Int32)).toUInt32.toUInt16.toUInt32.toInt32) = cb := hcb
  show Go p e below _ (s₁.setTop (mkF m 33 #[.val (.int i0), .val (.int i1), .val (.int i2), .val (.int i3), .val (.int i4), .val (.int (1 : Int32)), .val (.int (Int32.ofNat nn)), .val (.int ca), .unset, .unset, .unset, .unset, .unset, .unset, .unset, .unset, .unset] [(.int ((i3 &&& (65535 : Int32)).toUInt32.toUInt16.toUInt32.toInt32))]))
  rw [hcb']
  refine Go.by (fun t => XS.istore X0.here hx rfl (hb hby at_33) rfl (l' := #[.val (.int i0), .val (.int i1), .val (.int i2), .val (.int i3), .val (.int i4), .val (.int (1 : Int32)), .val (.int (Int32.ofNat nn)), .val (.int ca), .val (.int cb), .unset, .unset, .unset, .unset, .unset, .unset, .unset, .unset]) rfl) ?_
  refine Go.by (fun t => XS.iload X0.here hx rfl (hb hby at_35) rfl ) ?_
  refine Go.by (fun t => X0.ldcInt hx hown (mvT hZ (wd hw 1 rfl)) (g := (mkF m 37 #[.val (.int i0), .val (.int i1), .val (.int i2), .val (.int i3), .val (.int i4), .val (.int (1 : Int32)), .val (.int (Int32.ofNat nn)), .val (.int ca), .val (.int cb), .unset, .unset, .unset, .unset, .unset, .unset, .unset, .unset] [(.int i4)])) rfl (hb hby at_37) t) ?_
  refine Go.by (fun t => XS.iand X0.here hx rfl (hb hby at_39) rfl) ?_
  refine Go.by (fun t => XS.i2c X0.here hx rfl (hb hby at_40) rfl) ?_
  have hcc' : ((i4 &&& (65535 : Int32)).toUInt32.toUInt16.toUInt32.toInt32) = cc := hcc
  show Go p e below _ (s₁.setTop (mkF m 41 #[.val (.int i0), .val (.int i1), .val (.int i2), .val (.int i3), .val (.int i4), .val (.int (1 : Int32)), .val (.int (Int32.ofNat nn)), .val (.int ca), .val (.int cb), .unset, .unset, .unset, .unset, .unset, .unset, .unset, .unset] [(.int ((i4 &&& (65535 : Int32)).toUInt32.toUInt16.toUInt32.toInt32))]))
  rw [hcc']
  refine Go.by (fun t => XS.istore X0.here hx rfl (hb hby at_41) rfl (l' := #[.val (.int i0), .val (.int i1), .val (.int i2), .val (.int i3), .val (.int i4), .val (.int (1 : Int32)), .val (.int (Int32.ofNat nn)), .val (.int ca), .val (.int cb), .val (.int cc), .unset, .unset, .unset, .unset, .unset, .unset, .unset]) rfl) ?_
  refine Go.by (fun t => XS.iload X0.here hx rfl (hb hby at_43) rfl ) ?_
  refine Go.by (fun t => XS.iload X0.here hx rfl (hb hby at_45) rfl ) ?_
  refine Go.by (fun t => XS.iload X0.here hx rfl (hb hby at_47) rfl ) ?_
  refine Go.by (fun t => XS.iload X0.here hx rfl (hb hby at_49) rfl ) ?_
  obtain ⟨_, _, ⟨T326, L326, k326, n326⟩, -, X326, hSn, hgn, ⟨Lc326, hQ326, l326, y326, z326, CRn⟩, st326⟩ := callSS X0 hx (y := (⟨"com/example/harvest_rules/harvestrules/registry/SecretReferenceToStringPinLaw", "target", "(ICCC)Ljava/lang/String;"⟩ : MethodName)) hown (mvT (s := s.setVm s.vm) hZ (wd hw 2 rfl)) (mvT (s := s.setVm s.vm) hZ (wd hw 3 rfl)) (mvT (s := s.setVm s.vm) hZ (wd hw 4 rfl)) (mvT (s := s.setVm s.vm) hZ (wd hw 5 rfl)) (by decide) (backOfSH (W := 0) (rmTG l Z a0 hw [] ca cb cc nn G1 h0 n0 Z0 Od A1 HS LS O2 P5 bca bcb bcc hnn) hZ (wd hw 5 rfl) (wd hw 4 rfl) (by decide) (by decide) hEL CR.1) (g := (mkF m 51 #[.val (.int i0), .val (.int i1), .val (.int i2), .val (.int i3), .val (.int i4), .val (.int (1 : Int32)), .val (.int (Int32.ofNat nn)), .val (.int ca), .val (.int cb), .val (.int cc), .unset, .unset, .unset, .unset, .unset, .unset, .unset] [(.int cc), (.int cb), (.int ca), (.int (Int32.ofNat nn))])) rfl (by rw [hml]; rfl) (argsL := [(.int (Int32.ofNat nn)), (.int ca), (.int cb), (.int cc)]) (rest := []) (lenOf pd_0 rfl) rfl (by show 2 * 0 + _ ≤ _; exact Nat.le_of_eq rfl) (hb hby at_51) (fun _ _ => ⟨rfl, e0, (by decide : 0 + 6 ≤ _), (by decide : 0 + 55 ≤ _)⟩)
  dsimp only [Pt.U, Pt.locs, Pt.cells, Pt.slots] at X326 l326 y326 z326 st326 hQ326 hSn hgn CRn
  subst y326 z326
  rw [e0] at hgn
  obtain ⟨X326', hS326, hZ326, hown326⟩ := rebS hS hk X326 hSn hgn hZ hown
  obtain ⟨s1, rfl, Nq326, K326, S1⟩ := hQ326
  have N326 : Fr n0 L326 := by rw [l326]; exact Fr.app N0 Nq326
  clear l326
  refine Go.by (fun t => st326.trans) ?_
  replace X326' := Stand.num (C := 6) (S := 55) X326' rfl rfl
  replace CR := CR.trans CRn
  replace Od := Od.keep K326 all0
  replace E_kd := E_kd.keep K326
  replace F_prefix_kd := F_prefix_kd.keep K326 nin0
  replace E_p1 := E_p1.keep K326
  replace F_value_p1 := F_value_p1.keep K326 nin0
  replace F_coder_p1 := F_coder_p1.keep K326 nin0
  replace V_pt := V_pt.keep K326 nin0
  replace Z0 := Nat.le_trans Z0 K326.1
  clear CRn hS hk hSn
  have hS := hS326
  have hk : T326.heap.size ≤ T326.heap.size := Nat.le_refl _
  replace hZ := hZ326
  replace hown := hown326
  refine Go.by (fun t => XS.astore X326'.here hx rfl (hb hby at_54) rfl rfl (l' := #[.val (.int i0), .val (.int i1), .val (.int i2), .val (.int i3), .val (.int i4), .val (.int (1 : Int32)), .val (.int (Int32.ofNat nn)), .val (.int ca), .val (.int cb), .val (.int cc), .val (.ref s1), .unset, .unset, .unset, .unset, .unset, .unset]) rfl) ?_
  refine Go.by (fun t => XS.iload X326'.here hx rfl (hb hby at_56) rfl ) ?_
  refine Go.by (fun t => XS.ifNo X326'.here hx rfl (hb hby at_58) rfl ((if0 _ _).trans (feq (by decide : ¬ ((1 : Int32) = (0 : Int32)))).1)) ?_
  obtain ⟨T327, X327, e327, st327⟩ := getS2 X326' hx hZ hown (host := "") (Or.inl (wd hw 206 rfl)) Via.refl rfl (SK.ext Od.2) (g := (mkF m 61 #[.val (.int i0), .val (.int i1), .val (.int i2), .val (.int i3), .val (.int i4), .val (.int (1 : Int32)), .val (.int (Int32.ofNat nn)), .val (.int ca), .val (.int cb), .val (.int cc), .val (.ref s1), .unset, .unset, .unset, .unset, .unset, .unset] [])) rfl (hb hby at_61)
  refine Go.by (fun t => st327 t) ?_
  show Go p e below _ (T327.setTop (mkF m 64 #[.val (.int i0), .val (.int i1), .val (.int i2), .val (.int i3), .val (.int i4), .val (.int (1 : Int32)), .val (.int (Int32.ofNat nn)), .val (.int ca), .val (.int cb), .val (.int cc), .val (.ref s1), .unset, .unset, .unset, .unset, .unset, .unset] [(.ref kd)]))
  refine Go.by (fun t => XS.goto X327.here hx rfl (pc0 := 64) (pc' := 70) rfl (hb hby at_64) (by decide) (by decide)) ?_
  refine Go.by (fun t => XS.astore X327.here hx rfl (hb hby at_70) rfl rfl (l' := #[.val (.int i0), .val (.int i1), .val (.int i2), .val (.int i3), .val (.int i4), .val (.int (1 : Int32)), .val (.int (Int32.ofNat nn)), .val (.int ca), .val (.int cb), .val (.int cc), .val (.ref s1), .val (.ref kd), .unset, .unset, .unset, .unset, .unset]) rfl) ?_
  obtain ⟨T328, h328, X328, e328, E328, A328, D328, -, st328⟩ := newO X327 hx hZ hown (wd hw 39 rfl) (wd hw 40 rfl) (wd hw 41 rfl) e327 (g := (mkF m 72 #[.val (.int i0), .val (.int i1), .val (.int i2), .val (.int i3), .val (.int i4), .val (.int (1 : Int32)), .val (.int (Int32.ofNat nn)), .val (.int ca), .val (.int cb), .val (.int cc), .val (.ref s1), .val (.ref kd), .unset, .unset, .unset, .unset, .unset] [])) rfl (hb hby at_72) (by decide) (by decide)
  obtain ⟨r1, g328⟩ : ∃ z, z = T326.heap.size := ⟨_, rfl⟩
  rw [← g328] at A328 D328 st328
  refine Go.by (fun t => st328 t) ?_
  have g_r1 : n0 ≤ r1 := Nat.le_trans Z0 (Nat.le_of_eq g328.symm)
  have ne_kd_r1 : kd ≠ r1 := Nat.ne_of_lt (Nat.lt_of_lt_of_le E_kd.lt (Nat.le_of_eq g328.symm))
  have ne_p1_r1 : p1 ≠ r1 := Nat.ne_of_lt (Nat.lt_of_lt_of_le E_p1.lt (Nat.le_of_eq g328.symm))
  have ne_pt_r1 : pt ≠ r1 := Nat.ne_of_lt (Nat.lt_of_lt_of_le V_pt.lt (Nat.le_of_eq g328.symm))
  have ne_s1_r1 : s1 ≠ r1 := Nat.ne_of_lt (Nat.lt_of_lt_of_le S1.lt (Nat.le_of_eq g328.symm))
  replace CR := CR.trans (CHr.ext E328 CR.1)
  replace hk := Nat.le_trans hk E328.1
  replace Od := Od.ext E328
  replace E_kd := E_kd.ext E328
  replace F_prefix_kd := F_prefix_kd.ext E328
  replace E_p1 := E_p1.ext E328
  replace F_value_p1 := F_value_p1.ext E328
  replace F_coder_p1 := F_coder_p1.ext E328
  replace V_pt := V_pt.ext E328
  replace S1 := S1.ext E328
  replace Z0 := Nat.le_trans Z0 E328.1
  have E_r1 := A328
  have F_kind_r1 : Fld Z h328 r1 "com/example/harvest_rules/harvestrules/registry/SecretReference" "kind" "Lcom/example/harvest_rules/harvestrules/registry/SecretReference$Kind;" .null := D328 (Or.inr (wd hw 52 rfl)) (ty := (.object "com/example/harvest_rules/harvestrules/registry/SecretReference$Kind")) (by decide)
  have F_target_r1 : Fld Z h328 r1 "com/example/harvest_rules/harvestrules/registry/SecretReference" "target" "Ljava/lang/String;" .null := D328 (Or.inr (wd hw 54 rfl)) (ty := (.object "java/lang/String")) (by decide)
  replace X328 := Stand.num (C := 7) (S := 57) X328 rfl rfl
  refine Go.by (fun t => XS.dup X328.here hx rfl (hb hby at_75) rfl rfl) ?_
  refine Go.by (fun t => XS.aload X328.here hx rfl (hb hby at_76) rfl rfl) ?_
  refine Go.by (fun t => XS.aload X328.here hx rfl (hb hby at_78) rfl rfl) ?_
  obtain ⟨_, _, ⟨T329, L329, k329, n329⟩, -, X329, ⟨Lc329, hQ329, l329, y329, z329⟩, st329⟩ := X328.specialBack hx (y := (⟨"com/example/harvest_rules/harvestrules/registry/SecretReference", "<init>", "(Lcom/example/harvest_rules/harvestrules/registry/SecretReference$Kind;Ljava/lang/String;)V"⟩ : MethodName)) rfl hown (mvT hZ (wd hw 42 rfl)) (mvT hZ (wd hw 43 rfl)) (mvT hZ (wd hw 44 rfl)) (by decide) (backOf (W := 1) (rm8 l Z a0 hw [] r1 kd s1 h328 n0 E_r1 F_kind_r1 F_target_r1 g_r1) hZ (wd hw 44 rfl) (wd hw 41 rfl) (by decide) (by decide)) (g := (mkF m 80 #[.val (.int i0), .val (.int i1), .val (.int i2), .val (.int i3), .val (.int i4), .val (.int (1 : Int32)), .val (.int (Int32.ofNat nn)), .val (.int ca), .val (.int cb), .val (.int cc), .val (.ref s1), .val (.ref kd), .unset, .unset, .unset, .unset, .unset] [(.ref s1), (.ref kd), (.ref r1), (.ref r1)])) rfl (by rw [hml]; rfl) (Steps.refl _) (a := r1) (argsL := [(.ref kd), (.ref s1)]) (rest := [(.ref r1)]) (lenOf pd_1 rfl) rfl (by show 2 * 0 + _ ≤ _; exact Nat.le_of_eq rfl) (hb hby at_80) (fun _ _ => ⟨rfl, e328, (by decide : 7 + 0 ≤ _), (by decide : 57 + 0 ≤ _)⟩)
  dsimp only [Pt.U, Pt.locs, Pt.cells, Pt.slots] at X329 l329 y329 z329 st329 hQ329
  subst y329 z329
  obtain ⟨rfl, Nq329, K329, f1, f2⟩ := hQ329
  have N329 : Fr n0 L329 := by rw [l329]; exact Fr.app N326 Nq329
  clear l329
  refine Go.by (fun t => st329.trans) ?_
  have Sfw := ((sfS (Safe.exa hZ.alike E_r1 (by decide) (by decide)) sf0) : ∀ x ∈ [r1], Safe Z EL T326.vm h328 x)
  replace CR := CR.trans (CHr.keep K329 Sfw CR.1)
  clear Sfw
  replace hk := Nat.le_trans hk K329.1
  replace S1 := S1.keep K329 (ninS ne_s1_r1 nin0) (fun _ _ _ _ A => (ninS (Ne.symm (Exa.neArv E_r1 A (wd hw 40 rfl))) nin0))
  replace Od := Od.keep K329 (allS g_r1 all0)
  replace E_kd := E_kd.keep K329
  replace F_prefix_kd := F_prefix_kd.keep K329 (ninS ne_kd_r1 nin0)
  replace E_p1 := E_p1.keep K329
  replace F_value_p1 := F_value_p1.keep K329 (ninS ne_p1_r1 nin0)
  replace F_coder_p1 := F_coder_p1.keep K329 (ninS ne_p1_r1 nin0)
  replace V_pt := V_pt.keep K329 (ninS ne_pt_r1 nin0)
  replace E_r1 := E_r1.keep K329
  replace Z0 := Nat.le_trans Z0 K329.1
  clear F_kind_r1 F_target_r1
  have F_kind_r1 := f1
  have F_target_r1 := f2
  clear f1 f2
  refine Go.by (fun t => XS.astore X329.here hx rfl (hb hby at_83) rfl rfl (l' := #[.val (.int i0), .val (.int i1), .val (.int i2), .val (.int i3), .val (.int i4), .val (.int (1 : Int32)), .val (.int (Int32.ofNat nn)), .val (.int ca), .val (.int cb), .val (.int cc), .val (.ref s1), .val (.ref kd), .val (.ref r1), .unset, .unset, .unset, .unset]) rfl) ?_
  refine Go.by (fun t => XS.aload X329.here hx rfl (hb hby at_85) rfl rfl) ?_
  have hlen : ([ca, cb, cc].take nn).length = nn := by rw [List.length_take]; show min nn 3 = nn; omega
  obtain ⟨cq330, kq330, q330a, q330b, q330c⟩ := isOf hZ rfl E_r1
  obtain ⟨_, _, ⟨T330, L330, k330, n330⟩, -, X330, ⟨Lc330, hQ330, l330, y330, z330⟩, st330⟩ := X329.virtualBack hx (y := (⟨"com/example/harvest_rules/harvestrules/registry/SecretReference", "toString", "()Ljava/lang/String;"⟩ : MethodName)) (z := (⟨"com/example/harvest_rules/harvestrules/registry/SecretReference", "toString", "()Ljava/lang/String;"⟩ : MethodName)) hown (mvT hZ (wd hw 55 rfl)) (mvT hZ (wd hw 56 rfl)) (notFace_of_selects (args := #[]) (mvT hZ (wd hw 58 rfl))) (mvT hZ (wd hw 58 rfl)) (mvT hZ (wd hw 57 rfl)) (by decide) (backOf (W := 0) (rmTO l Z a0 hw [] r1 kd p1 pt s1 kp [(102 : Int32), (105 : Int32), (108 : Int32), (101 : Int32), (58 : Int32)] ([ca, cb, cc].take nn) G1 G3 T329.heap n0 Z0 Od A1 HS LS O4 rG3 O2 P5 E_r1 F_kind_r1 F_target_r1 E_kd F_prefix_kd E_p1 F_value_p1 F_coder_p1 V_pt (by unfold LatP; decide) (by decide) S1 (by rw [hlen]; exact hnn)) hZ (wd hw 59 rfl) (wd hw 41 rfl) (by decide) (by decide)) q330a q330c (g := (mkF m 87 #[.val (.int i0), .val (.int i1), .val (.int i2), .val (.int i3), .val (.int i4), .val (.int (1 : Int32)), .val (.int (Int32.ofNat nn)), .val (.int ca), .val (.int cb), .val (.int cc), .val (.ref s1), .val (.ref kd), .val (.ref r1), .unset, .unset, .unset, .unset] [(.ref r1)])) rfl (by rw [hml]; rfl) (Steps.refl _) (argsL := []) (rest := []) (lenOf pd_2 rfl) rfl (by show 2 * 0 + _ ≤ _; exact Nat.le_of_eq rfl) (hb hby at_87) (fun _ _ => ⟨rfl, rfl, (by decide : 7 + 6 ≤ _), (by decide : 57 + 140 ≤ _)⟩)
  dsimp only [Pt.U, Pt.locs, Pt.cells, Pt.slots] at X330 l330 y330 z330 st330 hQ330
  subst y330 z330
  obtain ⟨u1, rfl, Nq330, K330, U1⟩ := hQ330
  have N330 : Fr n0 L330 := by rw [l330]; exact Fr.app N329 Nq330
  clear l330
  refine Go.by (fun t => st330.trans) ?_
  replace X330 := Stand.num (C := 13) (S := 197) X330 rfl rfl
  have Sfw := (sf0 : ∀ x ∈ [], Safe Z EL T326.vm T329.heap x)
  replace CR := CR.trans (CHr.keep K330 Sfw CR.1)
  clear Sfw
  replace hk := Nat.le_trans hk K330.1
  replace Od := Od.keep K330 all0
  replace Z0 := Nat.le_trans Z0 K330.1
  show Go p e below _ (T330.setTop (mkF m 90 #[.val (.int i0), .val (.int i1), .val (.int i2), .val (.int i3), .val (.int i4), .val (.int (1 : Int32)), .val (.int (Int32.ofNat nn)), .val (.int ca), .val (.int cb), .val (.int cc), .val (.ref s1), .val (.ref kd), .val (.ref r1), .unset, .unset, .unset, .unset] [(.ref u1)]))
  refine Go.by (fun t => XS.astore X330.here hx rfl (hb hby at_90) rfl rfl (l' := #[.val (.int i0), .val (.int i1), .val (.int i2), .val (.int i3), .val (.int i4), .val (.int (1 : Int32)), .val (.int (Int32.ofNat nn)), .val (.int ca), .val (.int cb), .val (.int cc), .val (.ref s1), .val (.ref kd), .val (.ref r1), .val (.ref u1), .unset, .unset, .unset]) rfl) ?_
  refine Go.by (fun t => XS.bipush X330.here hx rfl (hb hby at_92)) ?_
  obtain ⟨T331, h331, k331, X331, e331, E331, A331, st331⟩ := newP X330 hx hZ (wd hw 9 rfl) rfl (g := (mkF m 94 #[.val (.int i0), .val (.int i1), .val (.int i2), .val (.int i3), .val (.int i4), .val (.int (1 : Int32)), .val (.int (Int32.ofNat nn)), .val (.int ca), .val (.int cb), .val (.int cc), .val (.ref s1), .val (.ref kd), .val (.ref r1), .val (.ref u1), .unset, .unset, .unset] [(.int (8 : Int32))])) rfl (hb hby at_94) rfl (by decide) (cap := 8) (by decide) (by decide) (by decide) (by decide)
  obtain ⟨bf, g331⟩ : ∃ z, z = T330.heap.size := ⟨_, rfl⟩
  rw [← g331] at A331 st331
  refine Go.by (fun t => st331 t) ?_
  have g_bf : n0 ≤ bf := Nat.le_trans Z0 (Nat.le_of_eq g331.symm)
  have ne_u1_bf : u1 ≠ bf := Nat.ne_of_lt (Nat.lt_of_lt_of_le U1.lt (Nat.le_of_eq g331.symm))
  replace CR := CR.trans (CHr.ext E331 CR.1)
  replace hk := Nat.le_trans hk E331.1
  replace Od := Od.ext E331
  replace U1 := U1.ext E331
  replace Z0 := Nat.le_trans Z0 E331.1
  have V_bf : Arv Z h331 bf k331 .char (8 : Int32) [(.int (0 : Int32)), (.int (0 : Int32)), (.int (0 : Int32)), (.int (0 : Int32)), (.int (0 : Int32)), (.int (0 : Int32)), (.int (0 : Int32)), (.int (0 : Int32))] (.int (0 : Int32)) := (Arv.new A331 (by decide)).pad (pad_rep [] (.int (0 : Int32)) 8)
  replace X331 := Stand.num (C := 14) (S := 205) X331 rfl rfl
  refine Go.by (fun t => XS.astore X331.here hx rfl (hb hby at_96) rfl rfl (l' := #[.val (.int i0), .val (.int i1), .val (.int i2), .val (.int i3), .val (.int i4), .val (.int (1 : Int32)), .val (.int (Int32.ofNat nn)), .val (.int ca), .val (.int cb), .val (.int cc), .val (.ref s1), .val (.ref kd), .val (.ref r1), .val (.ref u1), .val (.ref bf), .unset, .unset]) rfl) ?_
  refine Go.by (fun t => XS.iload X331.here hx rfl (hb hby at_98) rfl ) ?_
  refine Go.by (fun t => XS.ifNo X331.here hx rfl (hb hby at_100) rfl ((if0 _ _).trans (feq (by decide : ¬ ((1 : Int32) = (0 : Int32)))).1)) ?_
  refine Go.by (fun t => XS.aload X331.here hx rfl (hb hby at_103) rfl rfl) ?_
  refine Go.by (fun t => XS.iconst X331.here hx rfl (hb hby at_105)) ?_
  refine Go.by (fun t => XS.bipush X331.here hx rfl (hb hby at_106)) ?_
  obtain ⟨cl_332, Ar_332, q_332, S_332, M_332, H_332, G_332⟩ := id V_bf
  obtain ⟨T332, h332, X332, e332, W332, st332⟩ := stC X331 hx hZ e331 Ar_332 (j := (0 : Int32)) (inb_of S_332 ⟨by decide, by decide⟩) (g := (mkF m 108 #[.val (.int i0), .val (.int i1), .val (.int i2), .val (.int i3), .val (.int i4), .val (.int (1 : Int32)), .val (.int (Int32.ofNat nn)), .val (.int ca), .val (.int cb), .val (.int cc), .val (.ref s1), .val (.ref kd), .val (.ref r1), .val (.ref u1), .val (.ref bf), .unset, .unset] [(.int (102 : Int32)), (.int (0 : Int32)), (.ref bf)])) rfl rfl (hb hby at_108)
  refine Go.by (fun t => st332 t) ?_
  have Sfw : Safe Z EL T326.vm h331 bf := (Safe.arv hZ.alike V_bf (by decide))
  replace CR := CR.trans (CHr.wr W332 Sfw CR.1)
  clear Sfw
  replace hk := Nat.le_trans hk (Keep.of_wr W332).1
  replace U1 := U1.wr W332 ne_u1_bf (fun _ _ _ _ A => arv_neT A V_bf (by decide))
  replace V_bf := Arv.set Ar_332 q_332 S_332 M_332 H_332 G_332 (fits_nar_char _) W332 0 rfl (Nat.le_of_ble_eq_true rfl)
  rw [show nar .char (102 : Int32) = (102 : Int32) from rfl] at V_bf
  replace V_bf : Arv Z h332 bf k331 .char (8 : Int32) [(.int (102 : Int32)), (.int (0 : Int32)), (.int (0 : Int32)), (.int (0 : Int32)), (.int (0 : Int32)), (.int (0 : Int32)), (.int (0 : Int32)), (.int (0 : Int32))] (.int (0 : Int32)) := V_bf
  replace Od := Od.wr W332 g_bf
  replace Z0 := Nat.le_trans Z0 (Keep.of_wr W332).1
  have N332 := Fr.snoc X332 N330 g_bf
  show Go p e below _ (T332.setTop (mkF m 109 #[.val (.int i0), .val (.int i1), .val (.int i2), .val (.int i3), .val (.int i4), .val (.int (1 : Int32)), .val (.int (Int32.ofNat nn)), .val (.int ca), .val (.int cb), .val (.int cc), .val (.ref s1), .val (.ref kd), .val (.ref r1), .val (.ref u1), .val (.ref bf), .unset, .unset] []))
  refine Go.by (fun t => XS.aload X332.here hx rfl (hb hby at_109) rfl rfl) ?_
  refine Go.by (fun t => XS.iconst X332.here hx rfl (hb hby at_111)) ?_
  refine Go.by (fun t => XS.bipush X332.here hx rfl (hb hby at_112)) ?_
  obtain ⟨cl_333, Ar_333, q_333, S_333, M_333, H_333, G_333⟩ := id V_bf
  obtain ⟨T333, h333, X333, e333, W333, st333⟩ := stC X332 hx hZ e332 Ar_333 (j := (1 : Int32)) (inb_of S_333 ⟨by decide, by decide⟩) (g := (mkF m 114 #[.val (.int i0), .val (.int i1), .val (.int i2), .val (.int i3), .val (.int i4), .val (.int (1 : Int32)), .val (.int (Int32.ofNat nn)), .val (.int ca), .val (.int cb), .val (.int cc), .val (.ref s1), .val (.ref kd), .val (.ref r1), .val (.ref u1), .val (.ref bf), .unset, .unset] [(.int (105 : Int32)), (.int (1 : Int32)), (.ref bf)])) rfl rfl (hb hby at_114)
  refine Go.by (fun t => st333 t) ?_
  have Sfw : Safe Z EL T326.vm h332 bf := (Safe.arv hZ.alike V_bf (by decide))
  replace CR := CR.trans (CHr.wr W333 Sfw CR.1)
  clear Sfw
  replace hk := Nat.le_trans hk (Keep.of_wr W333).1
  replace U1 := U1.wr W333 ne_u1_bf (fun _ _ _ _ A => arv_neT A V_bf (by decide))
  replace V_bf := Arv.set Ar_333 q_333 S_333 M_333 H_333 G_333 (fits_nar_char _) W333 1 rfl (Nat.le_of_ble_eq_true rfl)
  rw [show nar .char (105 : Int32) = (105 : Int32) from rfl] at V_bf
  replace V_bf : Arv Z h333 bf k331 .char (8 : Int32) [(.int (102 : Int32)), (.int (105 : Int32)), (.int (0 : Int32)), (.int (0 : Int32)), (.int (0 : Int32)), (.int (0 : Int32)), (.int (0 : Int32)), (.int (0 : Int32))] (.int (0 : Int32)) := V_bf
  replace Od := Od.wr W333 g_bf
  replace Z0 := Nat.le_trans Z0 (Keep.of_wr W333).1
  have N333 := Fr.snoc X333 N332 g_bf
  refine Go.by (fun t => XS.aload X333.here hx rfl (hb hby at_115) rfl rfl) ?_
  refine Go.by (fun t => XS.iconst X333.here hx rfl (hb hby at_117)) ?_
  refine Go.by (fun t => XS.bipush X333.here hx rfl (hb hby at_118)) ?_
  obtain ⟨cl_334, Ar_334, q_334, S_334, M_334, H_334, G_334⟩ := id V_bf
  obtain ⟨T334, h334, X334, e334, W334, st334⟩ := stC X333 hx hZ e333 Ar_334 (j := (2 : Int32)) (inb_of S_334 ⟨by decide, by decide⟩) (g := (mkF m 120 #[.val (.int i0), .val (.int i1), .val (.int i2), .val (.int i3), .val (.int i4), .val (.int (1 : Int32)), .val (.int (Int32.ofNat nn)), .val (.int ca), .val (.int cb), .val (.int cc), .val (.ref s1), .val (.ref kd), .val (.ref r1), .val (.ref u1), .val (.ref bf), .unset, .unset] [(.int (108 : Int32)), (.int (2 : Int32)), (.ref bf)])) rfl rfl (hb hby at_120)
  refine Go.by (fun t => st334 t) ?_
  have Sfw : Safe Z EL T326.vm h333 bf := (Safe.arv hZ.alike V_bf (by decide))
  replace CR := CR.trans (CHr.wr W334 Sfw CR.1)
  clear Sfw
  replace hk := Nat.le_trans hk (Keep.of_wr W334).1
  replace U1 := U1.wr W334 ne_u1_bf (fun _ _ _ _ A => arv_neT A V_bf (by decide))
  replace V_bf := Arv.set Ar_334 q_334 S_334 M_334 H_334 G_334 (fits_nar_char _) W334 2 rfl (Nat.le_of_ble_eq_true rfl)
  rw [show nar .char (108 : Int32) = (108 : Int32) from rfl] at V_bf
  replace V_bf : Arv Z h334 bf k331 .char (8 : Int32) [(.int (102 : Int32)), (.int (105 : Int32)), (.int (108 : Int32)), (.int (0 : Int32)), (.int (0 : Int32)), (.int (0 : Int32)), (.int (0 : Int32)), (.int (0 : Int32))] (.int (0 : Int32)) := V_bf
  replace Od := Od.wr W334 g_bf
  replace Z0 := Nat.le_trans Z0 (Keep.of_wr W334).1
  have N334 := Fr.snoc X334 N333 g_bf
  refine Go.by (fun t => XS.aload X334.here hx rfl (hb hby at_121) rfl rfl) ?_
  refine Go.by (fun t => XS.iconst X334.here hx rfl (hb hby at_123)) ?_
  refine Go.by (fun t => XS.bipush X334.here hx rfl (hb hby at_124)) ?_
  obtain ⟨cl_335, Ar_335, q_335, S_335, M_335, H_335, G_335⟩ := id V_bf
  obtain ⟨T335, h335, X335, e335, W335, st335⟩ := stC X334 hx hZ e334 Ar_335 (j := (3 : Int32)) (inb_of S_335 ⟨by decide, by decide⟩) (g := (mkF m 126 #[.val (.int i0), .val (.int i1), .val (.int i2), .val (.int i3), .val (.int i4), .val (.int (1 : Int32)), .val (.int (Int32.ofNat nn)), .val (.int ca), .val (.int cb), .val (.int cc), .val (.ref s1), .val (.ref kd), .val (.ref r1), .val (.ref u1), .val (.ref bf), .unset, .unset] [(.int (101 : Int32)), (.int (3 : Int32)), (.ref bf)])) rfl rfl (hb hby at_126)
  refine Go.by (fun t => st335 t) ?_
  have Sfw : Safe Z EL T326.vm h334 bf := (Safe.arv hZ.alike V_bf (by decide))
  replace CR := CR.trans (CHr.wr W335 Sfw CR.1)
  clear Sfw
  replace hk := Nat.le_trans hk (Keep.of_wr W335).1
  replace U1 := U1.wr W335 ne_u1_bf (fun _ _ _ _ A => arv_neT A V_bf (by decide))
  replace V_bf := Arv.set Ar_335 q_335 S_335 M_335 H_335 G_335 (fits_nar_char _) W335 3 rfl (Nat.le_of_ble_eq_true rfl)
  rw [show nar .char (101 : Int32) = (101 : Int32) from rfl] at V_bf
  replace V_bf : Arv Z h335 bf k331 .char (8 : Int32) [(.int (102 : Int32)), (.int (105 : Int32)), (.int (108 : Int32)), (.int (101 : Int32)), (.int (0 : Int32)), (.int (0 : Int32)), (.int (0 : Int32)), (.int (0 : Int32))] (.int (0 : Int32)) := V_bf
  replace Od := Od.wr W335 g_bf
  replace Z0 := Nat.le_trans Z0 (Keep.of_wr W335).1
  have N335 := Fr.snoc X335 N334 g_bf
  show Go p e below _ (T335.setTop (mkF m 127 #[.val (.int i0), .val (.int i1), .val (.int i2), .val (.int i3), .val (.int i4), .val (.int (1 : Int32)), .val (.int (Int32.ofNat nn)), .val (.int ca), .val (.int cb), .val (.int cc), .val (.ref s1), .val (.ref kd), .val (.ref r1), .val (.ref u1), .val (.ref bf), .unset, .unset] []))
  refine Go.by (fun t => XS.aload X335.here hx rfl (hb hby at_127) rfl rfl) ?_
  refine Go.by (fun t => XS.iconst X335.here hx rfl (hb hby at_129)) ?_
  refine Go.by (fun t => XS.bipush X335.here hx rfl (hb hby at_130)) ?_
  obtain ⟨cl_336, Ar_336, q_336, S_336, M_336, H_336, G_336⟩ := id V_bf
  obtain ⟨T336, h336, X336, e336, W336, st336⟩ := stC X335 hx hZ e335 Ar_336 (j := (4 : Int32)) (inb_of S_336 ⟨by decide, by decide⟩) (g := (mkF m 132 #[.val (.int i0), .val (.int i1), .val (.int i2), .val (.int i3), .val (.int i4), .val (.int (1 : Int32)), .val (.int (Int32.ofNat nn)), .val (.int ca), .val (.int cb), .val (.int cc), .val (.ref s1), .val (.ref kd), .val (.ref r1), .val (.ref u1), .val (.ref bf), .unset, .unset] [(.int (58 : Int32)), (.int (4 : Int32)), (.ref bf)])) rfl rfl (hb hby at_132)
  refine Go.by (fun t => st336 t) ?_
  have Sfw : Safe Z EL T326.vm h335 bf := (Safe.arv hZ.alike V_bf (by decide))
  replace CR := CR.trans (CHr.wr W336 Sfw CR.1)
  clear Sfw
  replace hk := Nat.le_trans hk (Keep.of_wr W336).1
  replace U1 := U1.wr W336 ne_u1_bf (fun _ _ _ _ A => arv_neT A V_bf (by decide))
  replace V_bf := Arv.set Ar_336 q_336 S_336 M_336 H_336 G_336 (fits_nar_char _) W336 4 rfl (Nat.le_of_ble_eq_true rfl)
  rw [show nar .char (58 : Int32) = (58 : Int32) from rfl] at V_bf
  replace V_bf : Arv Z h336 bf k331 .char (8 : Int32) [(.int (102 : Int32)), (.int (105 : Int32)), (.int (108 : Int32)), (.int (101 : Int32)), (.int (58 : Int32)), (.int (0 : Int32)), (.int (0 : Int32)), (.int (0 : Int32))] (.int (0 : Int32)) := V_bf
  replace Od := Od.wr W336 g_bf
  replace Z0 := Nat.le_trans Z0 (Keep.of_wr W336).1
  have N336 := Fr.snoc X336 N335 g_bf
  refine Go.by (fun t => XS.iconst X336.here hx rfl (hb hby at_133)) ?_
  refine Go.by (fun t => XS.istore X336.here hx rfl (hb hby at_134) rfl (l' := #[.val (.int i0), .val (.int i1), .val (.int i2), .val (.int i3), .val (.int i4), .val (.int (1 : Int32)), .val (.int (Int32.ofNat nn)), .val (.int ca), .val (.int cb), .val (.int cc), .val (.ref s1), .val (.ref kd), .val (.ref r1), .val (.ref u1), .val (.ref bf), .val (.int (5 : Int32)), .unset]) rfl) ?_
  refine Go.by (fun t => XS.goto X336.here hx rfl (pc0 := 136) (pc' := 166) rfl (hb hby at_136) (by decide) (by decide)) ?_
  refine Go.by (fun t => XS.aload X336.here hx rfl (hb hby at_166) rfl rfl) ?_
  refine Go.by (fun t => XS.iload X336.here hx rfl (hb hby at_168) rfl ) ?_
  refine Go.by (fun t => XS.iload X336.here hx rfl (hb hby at_170) rfl ) ?_
  obtain ⟨cl_337, Ar_337, q_337, S_337, M_337, H_337, G_337⟩ := id V_bf
  obtain ⟨T337, h337, X337, e337, W337, st337⟩ := stC X336 hx hZ e336 Ar_337 (j := (5 : Int32)) (inb_of S_337 ⟨by decide, by decide⟩) (g := (mkF m 172 #[.val (.int i0), .val (.int i1), .val (.int i2), .val (.int i3), .val (.int i4), .val (.int (1 : Int32)), .val (.int (Int32.ofNat nn)), .val (.int ca), .val (.int cb), .val (.int cc), .val (.ref s1), .val (.ref kd), .val (.ref r1), .val (.ref u1), .val (.ref bf), .val (.int (5 : Int32)), .unset] [(.int ca), (.int (5 : Int32)), (.ref bf)])) rfl rfl (hb hby at_172)
  refine Go.by (fun t => st337 t) ?_
  have Sfw : Safe Z EL T326.vm h336 bf := (Safe.arv hZ.alike V_bf (by decide))
  replace CR := CR.trans (CHr.wr W337 Sfw CR.1)
  clear Sfw
  replace hk := Nat.le_trans hk (Keep.of_wr W337).1
  replace U1 := U1.wr W337 ne_u1_bf (fun _ _ _ _ A => arv_neT A V_bf (by decide))
  replace V_bf := Arv.set Ar_337 q_337 S_337 M_337 H_337 G_337 (fits_nar_char _) W337 5 rfl (Nat.le_of_ble_eq_true rfl)
  rw [nar_c bca] at V_bf
  replace V_bf : Arv Z h337 bf k331 .char (8 : Int32) [(.int (102 : Int32)), (.int (105 : Int32)), (.int (108 : Int32)), (.int (101 : Int32)), (.int (58 : Int32)), (.int ca), (.int (0 : Int32)), (.int (0 : Int32))] (.int (0 : Int32)) := V_bf
  replace Od := Od.wr W337 g_bf
  replace Z0 := Nat.le_trans Z0 (Keep.of_wr W337).1
  have N337 := Fr.snoc X337 N336 g_bf
  refine Go.by (fun t => XS.aload X337.here hx rfl (hb hby at_173) rfl rfl) ?_
  refine Go.by (fun t => XS.iload X337.here hx rfl (hb hby at_175) rfl ) ?_
  refine Go.by (fun t => XS.iconst X337.here hx rfl (hb hby at_177)) ?_
  refine Go.by (fun t => XS.iadd X337.here hx rfl (hb hby at_178) rfl) ?_
  refine Go.by (fun t => XS.iload X337.here hx rfl (hb hby at_179) rfl ) ?_
  obtain ⟨cl_338, Ar_338, q_338, S_338, M_338, H_338, G_338⟩ := id V_bf
  obtain ⟨T338, h338, X338, e338, W338, st338⟩ := stC X337 hx hZ e337 Ar_338 (j := ((5 : Int32) + (1 : Int32))) (inb_of S_338 ⟨by decide, by decide⟩) (g := (mkF m 181 #[.val (.int i0), .val (.int i1), .val (.int i2), .val (.int i3), .val (.int i4), .val (.int (1 : Int32)), .val (.int (Int32.ofNat nn)), .val (.int ca), .val (.int cb), .val (.int cc), .val (.ref s1), .val (.ref kd), .val (.ref r1), .val (.ref u1), .val (.ref bf), .val (.int (5 : Int32)), .unset] [(.int cb), (.int ((5 : Int32) + (1 : Int32))), (.ref bf)])) rfl rfl (hb hby at_181)
  refine Go.by (fun t => st338 t) ?_
  have Sfw : Safe Z EL T326.vm h337 bf := (Safe.arv hZ.alike V_bf (by decide))
  replace CR := CR.trans (CHr.wr W338 Sfw CR.1)
  clear Sfw
  replace hk := Nat.le_trans hk (Keep.of_wr W338).1
  replace U1 := U1.wr W338 ne_u1_bf (fun _ _ _ _ A => arv_neT A V_bf (by decide))
  replace V_bf := Arv.set Ar_338 q_338 S_338 M_338 H_338 G_338 (fits_nar_char _) W338 6 rfl (Nat.le_of_ble_eq_true rfl)
  rw [nar_c bcb] at V_bf
  replace V_bf : Arv Z h338 bf k331 .char (8 : Int32) [(.int (102 : Int32)), (.int (105 : Int32)), (.int (108 : Int32)), (.int (101 : Int32)), (.int (58 : Int32)), (.int ca), (.int cb), (.int (0 : Int32))] (.int (0 : Int32)) := V_bf
  replace Od := Od.wr W338 g_bf
  replace Z0 := Nat.le_trans Z0 (Keep.of_wr W338).1
  have N338 := Fr.snoc X338 N337 g_bf
  show Go p e below _ (T338.setTop (mkF m 182 #[.val (.int i0), .val (.int i1), .val (.int i2), .val (.int i3), .val (.int i4), .val (.int (1 : Int32)), .val (.int (Int32.ofNat nn)), .val (.int ca), .val (.int cb), .val (.int cc), .val (.ref s1), .val (.ref kd), .val (.ref r1), .val (.ref u1), .val (.ref bf), .val (.int (5 : Int32)), .unset] []))
  refine Go.by (fun t => XS.aload X338.here hx rfl (hb hby at_182) rfl rfl) ?_
  refine Go.by (fun t => XS.iload X338.here hx rfl (hb hby at_184) rfl ) ?_
  refine Go.by (fun t => XS.iconst X338.here hx rfl (hb hby at_186)) ?_
  refine Go.by (fun t => XS.iadd X338.here hx rfl (hb hby at_187) rfl) ?_
  refine Go.by (fun t => XS.iload X338.here hx rfl (hb hby at_188) rfl ) ?_
  obtain ⟨cl_339, Ar_339, q_339, S_339, M_339, H_339, G_339⟩ := id V_bf
  obtain ⟨T339, h339, X339, e339, W339, st339⟩ := stC X338 hx hZ e338 Ar_339 (j := ((5 : Int32) + (2 : Int32))) (inb_of S_339 ⟨by decide, by decide⟩) (g := (mkF m 190 #[.val (.int i0), .val (.int i1), .val (.int i2), .val (.int i3), .val (.int i4), .val (.int (1 : Int32)), .val (.int (Int32.ofNat nn)), .val (.int ca), .val (.int cb), .val (.int cc), .val (.ref s1), .val (.ref kd), .val (.ref r1), .val (.ref u1), .val (.ref bf), .val (.int (5 : Int32)), .unset] [(.int cc), (.int ((5 : Int32) + (2 : Int32))), (.ref bf)])) rfl rfl (hb hby at_190)
  refine Go.by (fun t => st339 t) ?_
  have Sfw : Safe Z EL T326.vm h338 bf := (Safe.arv hZ.alike V_bf (by decide))
  replace CR := CR.trans (CHr.wr W339 Sfw CR.1)
  clear Sfw
  replace hk := Nat.le_trans hk (Keep.of_wr W339).1
  replace U1 := U1.wr W339 ne_u1_bf (fun _ _ _ _ A => arv_neT A V_bf (by decide))
  replace V_bf := Arv.set Ar_339 q_339 S_339 M_339 H_339 G_339 (fits_nar_char _) W339 7 rfl (Nat.le_of_ble_eq_true rfl)
  rw [nar_c bcc] at V_bf
  replace V_bf : Arv Z h339 bf k331 .char (8 : Int32) [(.int (102 : Int32)), (.int (105 : Int32)), (.int (108 : Int32)), (.int (101 : Int32)), (.int (58 : Int32)), (.int ca), (.int cb), (.int cc)] (.int (0 : Int32)) := V_bf
  replace Od := Od.wr W339 g_bf
  replace Z0 := Nat.le_trans Z0 (Keep.of_wr W339).1
  have N339 := Fr.snoc X339 N338 g_bf
  refine Go.by (fun t => XS.iload X339.here hx rfl (hb hby at_191) rfl ) ?_
  refine Go.by (fun t => XS.iload X339.here hx rfl (hb hby at_193) rfl ) ?_
  refine Go.by (fun t => XS.iadd X339.here hx rfl (hb hby at_195) rfl) ?_
  show Go p e below _ (T339.setTop (mkF m 196 #[.val (.int i0), .val (.int i1), .val (.int i2), .val (.int i3), .val (.int i4), .val (.int (1 : Int32)), .val (.int (Int32.ofNat nn)), .val (.int ca), .val (.int cb), .val (.int cc), .val (.ref s1), .val (.ref kd), .val (.ref r1), .val (.ref u1), .val (.ref bf), .val (.int (5 : Int32)), .unset] [(.int ((5 : Int32) + (Int32.ofNat nn)))]))
  rw [show ((5 : Int32) + (Int32.ofNat nn)) = (Int32.ofNat (5 + nn)) from o_add 5 nn]
  refine Go.by (fun t => XS.istore X339.here hx rfl (hb hby at_196) rfl (l' := #[.val (.int i0), .val (.int i1), .val (.int i2), .val (.int i3), .val (.int i4), .val (.int (1 : Int32)), .val (.int (Int32.ofNat nn)), .val (.int ca), .val (.int cb), .val (.int cc), .val (.ref s1), .val (.ref kd), .val (.ref r1), .val (.ref u1), .val (.ref bf), .val (.int (5 : Int32)), .val (.int (Int32.ofNat (5 + nn)))]) rfl) ?_
  refine Go.by (fun t => XS.aload X339.here hx rfl (hb hby at_198) rfl rfl) ?_
  refine Go.by (fun t => XS.ifnullNo X339.here hx rfl (hb hby at_200) rfl) ?_
  refine Go.by (fun t => XS.aload X339.here hx rfl (hb hby at_203) rfl rfl) ?_
  have hul : ([(102 : Int32), (105 : Int32), (108 : Int32), (101 : Int32), (58 : Int32)] ++ [ca, cb, cc].take nn).length = 5 + nn := by rw [List.length_append, hlen]; rfl
  obtain ⟨cq340, kq340, q340a, q340b, q340c⟩ := isOf hZ e339 U1.exa
  obtain ⟨_, _, ⟨T340, L340, k340, n340⟩, -, X340, ⟨Lc340, hQ340, l340, y340, z340⟩, st340⟩ := X339.virtualBack hx (y := (⟨"java/lang/String", "length", "()I"⟩ : MethodName)) (z := (⟨"java/lang/String", "length", "()I"⟩ : MethodName)) hown (mvT hZ (wd hw 177 rfl)) (mvT hZ (wd hw 96 rfl)) (notFace_of_selects (args := #[]) (mvT hZ (wd hw 98 rfl))) (mvT hZ (wd hw 98 rfl)) (mvT hZ (wd hw 97 rfl)) (by decide) (backOf (W := 0) (rmLEN l Z a0 hw [] u1 ([(102 : Int32), (105 : Int32), (108 : Int32), (101 : Int32), (58 : Int32)] ++ [ca, cb, cc].take nn) G1 h339 n0 Od O2 P5 U1 (by rw [hul]; omega)) hZ (wd hw 99 rfl) (wd hw 8 rfl) (by decide) (by decide)) q340a q340c (g := (mkF m 205 #[.val (.int i0), .val (.int i1), .val (.int i2), .val (.int i3), .val (.int i4), .val (.int (1 : Int32)), .val (.int (Int32.ofNat nn)), .val (.int ca), .val (.int cb), .val (.int cc), .val (.ref s1), .val (.ref kd), .val (.ref r1), .val (.ref u1), .val (.ref bf), .val (.int (5 : Int32)), .val (.int (Int32.ofNat (5 + nn)))] [(.ref u1)])) rfl (by rw [hml]; rfl) (Steps.refl _) (argsL := []) (rest := []) (lenOf pd_3 rfl) rfl (by show 2 * 0 + _ ≤ _; exact Nat.le_of_eq rfl) (hb hby at_205) (fun _ _ => ⟨rfl, e339, (by decide : 14 + 0 ≤ _), (by decide : 205 + 0 ≤ _)⟩)
  dsimp only [Pt.U, Pt.locs, Pt.cells, Pt.slots] at X340 l340 y340 z340 st340 hQ340
  subst y340 z340
  obtain ⟨rfl, Nq340, e340⟩ := hQ340
  have N340 : Fr n0 L340 := by rw [l340]; exact Fr.app N339 Nq340
  clear l340
  refine Go.by (fun t => st340.trans) ?_
  show Go p e below _ (T340.setTop (mkF m 208 #[.val (.int i0), .val (.int i1), .val (.int i2), .val (.int i3), .val (.int i4), .val (.int (1 : Int32)), .val (.int (Int32.ofNat nn)), .val (.int ca), .val (.int cb), .val (.int cc), .val (.ref s1), .val (.ref kd), .val (.ref r1), .val (.ref u1), .val (.ref bf), .val (.int (5 : Int32)), .val (.int (Int32.ofNat (5 + nn)))] [(.int (Int32.ofNat ([(102 : Int32), (105 : Int32), (108 : Int32), (101 : Int32), (58 : Int32)] ++ [ca, cb, cc].take nn).length))]))
  rw [hul]
  refine Go.by (fun t => XS.iload X340.here hx rfl (hb hby at_208) rfl ) ?_
  refine Go.by (fun t => XS.icmpYes X340.here hx rfl (pc0 := 210) (pc' := 215) rfl (hb hby at_210) rfl (teq (rfl : (Int32.ofNat (5 + nn)) = (Int32.ofNat (5 + nn)))).1 (by decide) (by decide)) ?_
  refine Go.by (fun t => XS.aload X340.here hx rfl (hb hby at_215) rfl rfl) ?_
  refine Go.by (fun t => XS.aload X340.here hx rfl (hb hby at_217) rfl rfl) ?_
  refine Go.by (fun t => XS.iconst X340.here hx rfl (hb hby at_219)) ?_
  refine Go.by (fun t => XS.iload X340.here hx rfl (hb hby at_220) rfl ) ?_
  obtain ⟨_, _, ⟨T341, L341, k341, n341⟩, -, X341, ⟨Lc341, hQ341, l341, y341, z341⟩, st341⟩ := Jvm.LawKit.callS X340 hx (y := (⟨"com/example/harvest_rules/harvestrules/registry/SecretReferenceToStringPinLaw", "eqAt", "(Ljava/lang/String;[CII)Z"⟩ : MethodName)) hown (mvT hZ (wd hw 178 rfl)) (mvT hZ (wd hw 179 rfl)) (mvT hZ (wd hw 4 rfl)) (mvT hZ (wd hw 180 rfl)) (by decide) (backOf (W := 0) (rmEQ l Z a0 hw [] u1 bf ([(102 : Int32), (105 : Int32), (108 : Int32), (101 : Int32), (58 : Int32)] ++ [ca, cb, cc].take nn) k331 8 0 (Int32.ofNat (5 + nn)) _ G1 G3 h339 n0 Od A1 HS LS O4 rG3 O2 P5 U1 V_bf (by rw [hul]; omega) (fun _ => ⟨[], 102, [(105 : Int32), (108 : Int32), (101 : Int32), (58 : Int32)] ++ [ca, cb, cc].take nn, rfl, rfl, (by decide), (by decide), rfl⟩)) hZ (wd hw 180 rfl) (wd hw 4 rfl) (by decide) (by decide)) (g := (mkF m 222 #[.val (.int i0), .val (.int i1), .val (.int i2), .val (.int i3), .val (.int i4), .val (.int (1 : Int32)), .val (.int (Int32.ofNat nn)), .val (.int ca), .val (.int cb), .val (.int cc), .val (.ref s1), .val (.ref kd), .val (.ref r1), .val (.ref u1), .val (.ref bf), .val (.int (5 : Int32)), .val (.int (Int32.ofNat (5 + nn)))] [(.int (Int32.ofNat (5 + nn))), (.int (0 : Int32)), (.ref bf), (.ref u1)])) rfl (by rw [hml]; rfl) (argsL := [(.ref u1), (.ref bf), (.int (0 : Int32)), (.int (Int32.ofNat (5 + nn)))]) (rest := []) (lenOf pd_4 rfl) rfl (by show 2 * 0 + _ ≤ _; exact Nat.le_of_eq rfl) (hb hby at_222) (fun _ _ => ⟨rfl, e340, (by decide : 14 + 0 ≤ _), (by decide : 205 + 0 ≤ _)⟩)
  dsimp only [Pt.U, Pt.locs, Pt.cells, Pt.slots] at X341 l341 y341 z341 st341 hQ341
  subst y341 z341
  obtain ⟨rfl, Nq341, e341⟩ := hQ341
  have N341 : Fr n0 L341 := by rw [l341]; exact Fr.app N340 Nq341
  clear l341
  refine Go.by (fun t => st341 t) ?_
  refine Go.by (fun t => XS.ifNo X341.here hx rfl (hb hby at_225) rfl ((if0 _ _).trans (feq (by decide : ¬ ((1 : Int32) = (0 : Int32)))).1)) ?_
  show Go p e below _ (T341.setTop (mkF m 228 #[.val (.int i0), .val (.int i1), .val (.int i2), .val (.int i3), .val (.int i4), .val (.int (1 : Int32)), .val (.int (Int32.ofNat nn)), .val (.int ca), .val (.int cb), .val (.int cc), .val (.ref s1), .val (.ref kd), .val (.ref r1), .val (.ref u1), .val (.ref bf), .val (.int (5 : Int32)), .val (.int (Int32.ofNat (5 + nn)))] []))
  refine Go.by (fun t => XS.aload X341.here hx rfl (hb hby at_228) rfl rfl) ?_
  refine Go.by (fun t => XS.aload X341.here hx rfl (hb hby at_230) rfl rfl) ?_
  refine Go.by (fun t => XS.iconst X341.here hx rfl (hb hby at_232)) ?_
  refine Go.by (fun t => XS.iload X341.here hx rfl (hb hby at_233) rfl ) ?_
  obtain ⟨_, _, ⟨T342, L342, k342, n342⟩, -, X342, ⟨Lc342, hQ342, l342, y342, z342⟩, st342⟩ := Jvm.LawKit.callS X341 hx (y := (⟨"com/example/harvest_rules/harvestrules/registry/SecretReferenceToStringPinLaw", "eqAt", "(Ljava/lang/String;[CII)Z"⟩ : MethodName)) hown (mvT hZ (wd hw 178 rfl)) (mvT hZ (wd hw 179 rfl)) (mvT hZ (wd hw 4 rfl)) (mvT hZ (wd hw 180 rfl)) (by decide) (backOf (W := 0) (rmEQ l Z a0 hw [] u1 bf ([(102 : Int32), (105 : Int32), (108 : Int32), (101 : Int32), (58 : Int32)] ++ [ca, cb, cc].take nn) k331 8 1 (Int32.ofNat (5 + nn)) _ G1 G3 h339 n0 Od A1 HS LS O4 rG3 O2 P5 U1 V_bf (by rw [hul]; omega) (fun _ => ⟨[(102 : Int32)], 105, [(108 : Int32), (101 : Int32), (58 : Int32)] ++ [ca, cb, cc].take nn, rfl, rfl, (by decide), (by decide), rfl⟩)) hZ (wd hw 180 rfl) (wd hw 4 rfl) (by decide) (by decide)) (g := (mkF m 235 #[.val (.int i0), .val (.int i1), .val (.int i2), .val (.int i3), .val (.int i4), .val (.int (1 : Int32)), .val (.int (Int32.ofNat nn)), .val (.int ca), .val (.int cb), .val (.int cc), .val (.ref s1), .val (.ref kd), .val (.ref r1), .val (.ref u1), .val (.ref bf), .val (.int (5 : Int32)), .val (.int (Int32.ofNat (5 + nn)))] [(.int (Int32.ofNat (5 + nn))), (.int (1 : Int32)), (.ref bf), (.ref u1)])) rfl (by rw [hml]; rfl) (argsL := [(.ref u1), (.ref bf), (.int (1 : Int32)), (.int (Int32.ofNat (5 + nn)))]) (rest := []) (lenOf pd_4 rfl) rfl (by show 2 * 0 + _ ≤ _; exact Nat.le_of_eq rfl) (hb hby at_235) (fun _ _ => ⟨rfl, e341, (by decide : 14 + 0 ≤ _), (by decide : 205 + 0 ≤ _)⟩)
  dsimp only [Pt.U, Pt.locs, Pt.cells, Pt.slots] at X342 l342 y342 z342 st342 hQ342
  subst y342 z342
  obtain ⟨rfl, Nq342, e342⟩ := hQ342
  have N342 : Fr n0 L342 := by rw [l342]; exact Fr.app N341 Nq342
  clear l342
  refine Go.by (fun t => st342 t) ?_
  refine Go.by (fun t => XS.ifNo X342.here hx rfl (hb hby at_238) rfl ((if0 _ _).trans (feq (by decide : ¬ ((1 : Int32) = (0 : Int32)))).1)) ?_
  refine Go.by (fun t => XS.aload X342.here hx rfl (hb hby at_241) rfl rfl) ?_
  refine Go.by (fun t => XS.aload X342.here hx rfl (hb hby at_243) rfl rfl) ?_
  refine Go.by (fun t => XS.iconst X342.here hx rfl (hb hby at_245)) ?_
  refine Go.by (fun t => XS.iload X342.here hx rfl (hb hby at_246) rfl ) ?_
  obtain ⟨_, _, ⟨T343, L343, k343, n343⟩, -, X343, ⟨Lc343, hQ343, l343, y343, z343⟩, st343⟩ := Jvm.LawKit.callS X342 hx (y := (⟨"com/example/harvest_rules/harvestrules/registry/SecretReferenceToStringPinLaw", "eqAt", "(Ljava/lang/String;[CII)Z"⟩ : MethodName)) hown (mvT hZ (wd hw 178 rfl)) (mvT hZ (wd hw 179 rfl)) (mvT hZ (wd hw 4 rfl)) (mvT hZ (wd hw 180 rfl)) (by decide) (backOf (W := 0) (rmEQ l Z a0 hw [] u1 bf ([(102 : Int32), (105 : Int32), (108 : Int32), (101 : Int32), (58 : Int32)] ++ [ca, cb, cc].take nn) k331 8 2 (Int32.ofNat (5 + nn)) _ G1 G3 h339 n0 Od A1 HS LS O4 rG3 O2 P5 U1 V_bf (by rw [hul]; omega) (fun _ => ⟨[(102 : Int32), (105 : Int32)], 108, [(101 : Int32), (58 : Int32)] ++ [ca, cb, cc].take nn, rfl, rfl, (by decide), (by decide), rfl⟩)) hZ (wd hw 180 rfl) (wd hw 4 rfl) (by decide) (by decide)) (g := (mkF m 248 #[.val (.int i0), .val (.int i1), .val (.int i2), .val (.int i3), .val (.int i4), .val (.int (1 : Int32)), .val (.int (Int32.ofNat nn)), .val (.int ca), .val (.int cb), .val (.int cc), .val (.ref s1), .val (.ref kd), .val (.ref r1), .val (.ref u1), .val (.ref bf), .val (.int (5 : Int32)), .val (.int (Int32.ofNat (5 + nn)))] [(.int (Int32.ofNat (5 + nn))), (.int (2 : Int32)), (.ref bf), (.ref u1)])) rfl (by rw [hml]; rfl) (argsL := [(.ref u1), (.ref bf), (.int (2 : Int32)), (.int (Int32.ofNat (5 + nn)))]) (rest := []) (lenOf pd_4 rfl) rfl (by show 2 * 0 + _ ≤ _; exact Nat.le_of_eq rfl) (hb hby at_248) (fun _ _ => ⟨rfl, e342, (by decide : 14 + 0 ≤ _), (by decide : 205 + 0 ≤ _)⟩)
  dsimp only [Pt.U, Pt.locs, Pt.cells, Pt.slots] at X343 l343 y343 z343 st343 hQ343
  subst y343 z343
  obtain ⟨rfl, Nq343, e343⟩ := hQ343
  have N343 : Fr n0 L343 := by rw [l343]; exact Fr.app N342 Nq343
  clear l343
  refine Go.by (fun t => st343 t) ?_
  refine Go.by (fun t => XS.ifNo X343.here hx rfl (hb hby at_251) rfl ((if0 _ _).trans (feq (by decide : ¬ ((1 : Int32) = (0 : Int32)))).1)) ?_
  show Go p e below _ (T343.setTop (mkF m 254 #[.val (.int i0), .val (.int i1), .val (.int i2), .val (.int i3), .val (.int i4), .val (.int (1 : Int32)), .val (.int (Int32.ofNat nn)), .val (.int ca), .val (.int cb), .val (.int cc), .val (.ref s1), .val (.ref kd), .val (.ref r1), .val (.ref u1), .val (.ref bf), .val (.int (5 : Int32)), .val (.int (Int32.ofNat (5 + nn)))] []))
  refine Go.by (fun t => XS.aload X343.here hx rfl (hb hby at_254) rfl rfl) ?_
  refine Go.by (fun t => XS.aload X343.here hx rfl (hb hby at_256) rfl rfl) ?_
  refine Go.by (fun t => XS.iconst X343.here hx rfl (hb hby at_258)) ?_
  refine Go.by (fun t => XS.iload X343.here hx rfl (hb hby at_259) rfl ) ?_
  obtain ⟨_, _, ⟨T344, L344, k344, n344⟩, -, X344, ⟨Lc344, hQ344, l344, y344, z344⟩, st344⟩ := Jvm.LawKit.callS X343 hx (y := (⟨"com/example/harvest_rules/harvestrules/registry/SecretReferenceToStringPinLaw", "eqAt", "(Ljava/lang/String;[CII)Z"⟩ : MethodName)) hown (mvT hZ (wd hw 178 rfl)) (mvT hZ (wd hw 179 rfl)) (mvT hZ (wd hw 4 rfl)) (mvT hZ (wd hw 180 rfl)) (by decide) (backOf (W := 0) (rmEQ l Z a0 hw [] u1 bf ([(102 : Int32), (105 : Int32), (108 : Int32), (101 : Int32), (58 : Int32)] ++ [ca, cb, cc].take nn) k331 8 3 (Int32.ofNat (5 + nn)) _ G1 G3 h339 n0 Od A1 HS LS O4 rG3 O2 P5 U1 V_bf (by rw [hul]; omega) (fun _ => ⟨[(102 : Int32), (105 : Int32), (108 : Int32)], 101, [(58 : Int32)] ++ [ca, cb, cc].take nn, rfl, rfl, (by decide), (by decide), rfl⟩)) hZ (wd hw 180 rfl) (wd hw 4 rfl) (by decide) (by decide)) (g := (mkF m 261 #[.val (.int i0), .val (.int i1), .val (.int i2), .val (.int i3), .val (.int i4), .val (.int (1 : Int32)), .val (.int (Int32.ofNat nn)), .val (.int ca), .val (.int cb), .val (.int cc), .val (.ref s1), .val (.ref kd), .val (.ref r1), .val (.ref u1), .val (.ref bf), .val (.int (5 : Int32)), .val (.int (Int32.ofNat (5 + nn)))] [(.int (Int32.ofNat (5 + nn))), (.int (3 : Int32)), (.ref bf), (.ref u1)])) rfl (by rw [hml]; rfl) (argsL := [(.ref u1), (.ref bf), (.int (3 : Int32)), (.int (Int32.ofNat (5 + nn)))]) (rest := []) (lenOf pd_4 rfl) rfl (by show 2 * 0 + _ ≤ _; exact Nat.le_of_eq rfl) (hb hby at_261) (fun _ _ => ⟨rfl, e343, (by decide : 14 + 0 ≤ _), (by decide : 205 + 0 ≤ _)⟩)
  dsimp only [Pt.U, Pt.locs, Pt.cells, Pt.slots] at X344 l344 y344 z344 st344 hQ344
  subst y344 z344
  obtain ⟨rfl, Nq344, e344⟩ := hQ344
  have N344 : Fr n0 L344 := by rw [l344]; exact Fr.app N343 Nq344
  clear l344
  refine Go.by (fun t => st344 t) ?_
  refine Go.by (fun t => XS.ifNo X344.here hx rfl (hb hby at_264) rfl ((if0 _ _).trans (feq (by decide : ¬ ((1 : Int32) = (0 : Int32)))).1)) ?_
  refine Go.by (fun t => XS.aload X344.here hx rfl (hb hby at_267) rfl rfl) ?_
  refine Go.by (fun t => XS.aload X344.here hx rfl (hb hby at_269) rfl rfl) ?_
  refine Go.by (fun t => XS.iconst X344.here hx rfl (hb hby at_271)) ?_
  refine Go.by (fun t => XS.iload X344.here hx rfl (hb hby at_272) rfl ) ?_
  obtain ⟨_, _, ⟨T345, L345, k345, n345⟩, -, X345, ⟨Lc345, hQ345, l345, y345, z345⟩, st345⟩ := Jvm.LawKit.callS X344 hx (y := (⟨"com/example/harvest_rules/harvestrules/registry/SecretReferenceToStringPinLaw", "eqAt", "(Ljava/lang/String;[CII)Z"⟩ : MethodName)) hown (mvT hZ (wd hw 178 rfl)) (mvT hZ (wd hw 179 rfl)) (mvT hZ (wd hw 4 rfl)) (mvT hZ (wd hw 180 rfl)) (by decide) (backOf (W := 0) (rmEQ l Z a0 hw [] u1 bf ([(102 : Int32), (105 : Int32), (108 : Int32), (101 : Int32), (58 : Int32)] ++ [ca, cb, cc].take nn) k331 8 4 (Int32.ofNat (5 + nn)) _ G1 G3 h339 n0 Od A1 HS LS O4 rG3 O2 P5 U1 V_bf (by rw [hul]; omega) (fun _ => ⟨[(102 : Int32), (105 : Int32), (108 : Int32), (101 : Int32)], 58, [] ++ [ca, cb, cc].take nn, rfl, rfl, (by decide), (by decide), rfl⟩)) hZ (wd hw 180 rfl) (wd hw 4 rfl) (by decide) (by decide)) (g := (mkF m 274 #[.val (.int i0), .val (.int i1), .val (.int i2), .val (.int i3), .val (.int i4), .val (.int (1 : Int32)), .val (.int (Int32.ofNat nn)), .val (.int ca), .val (.int cb), .val (.int cc), .val (.ref s1), .val (.ref kd), .val (.ref r1), .val (.ref u1), .val (.ref bf), .val (.int (5 : Int32)), .val (.int (Int32.ofNat (5 + nn)))] [(.int (Int32.ofNat (5 + nn))), (.int (4 : Int32)), (.ref bf), (.ref u1)])) rfl (by rw [hml]; rfl) (argsL := [(.ref u1), (.ref bf), (.int (4 : Int32)), (.int (Int32.ofNat (5 + nn)))]) (rest := []) (lenOf pd_4 rfl) rfl (by show 2 * 0 + _ ≤ _; exact Nat.le_of_eq rfl) (hb hby at_274) (fun _ _ => ⟨rfl, e344, (by decide : 14 + 0 ≤ _), (by decide : 205 + 0 ≤ _)⟩)
  dsimp only [Pt.U, Pt.locs, Pt.cells, Pt.slots] at X345 l345 y345 z345 st345 hQ345
  subst y345 z345
  obtain ⟨rfl, Nq345, e345⟩ := hQ345
  have N345 : Fr n0 L345 := by rw [l345]; exact Fr.app N344 Nq345
  clear l345
  refine Go.by (fun t => st345 t) ?_
  refine Go.by (fun t => XS.ifNo X345.here hx rfl (hb hby at_277) rfl ((if0 _ _).trans (feq (by decide : ¬ ((1 : Int32) = (0 : Int32)))).1)) ?_
  show Go p e below _ (T345.setTop (mkF m 280 #[.val (.int i0), .val (.int i1), .val (.int i2), .val (.int i3), .val (.int i4), .val (.int (1 : Int32)), .val (.int (Int32.ofNat nn)), .val (.int ca), .val (.int cb), .val (.int cc), .val (.ref s1), .val (.ref kd), .val (.ref r1), .val (.ref u1), .val (.ref bf), .val (.int (5 : Int32)), .val (.int (Int32.ofNat (5 + nn)))] []))
  refine Go.by (fun t => XS.aload X345.here hx rfl (hb hby at_280) rfl rfl) ?_
  refine Go.by (fun t => XS.aload X345.here hx rfl (hb hby at_282) rfl rfl) ?_
  refine Go.by (fun t => XS.iconst X345.here hx rfl (hb hby at_284)) ?_
  refine Go.by (fun t => XS.iload X345.here hx rfl (hb hby at_285) rfl ) ?_
  obtain ⟨_, _, ⟨T346, L346, k346, n346⟩, -, X346, ⟨Lc346, hQ346, l346, y346, z346⟩, st346⟩ := Jvm.LawKit.callS X345 hx (y := (⟨"com/example/harvest_rules/harvestrules/registry/SecretReferenceToStringPinLaw", "eqAt", "(Ljava/lang/String;[CII)Z"⟩ : MethodName)) hown (mvT hZ (wd hw 178 rfl)) (mvT hZ (wd hw 179 rfl)) (mvT hZ (wd hw 4 rfl)) (mvT hZ (wd hw 180 rfl)) (by decide) (backOf (W := 0) (rmEQ l Z a0 hw [] u1 bf ([(102 : Int32), (105 : Int32), (108 : Int32), (101 : Int32), (58 : Int32)] ++ [ca, cb, cc].take nn) k331 8 5 (Int32.ofNat (5 + nn)) _ G1 G3 h339 n0 Od A1 HS LS O4 rG3 O2 P5 U1 V_bf (by rw [hul]; omega) (by intro q; have q' : 5 < 5 + nn := (o_lt (a := 5) (by decide) (by omega)).1 q; have h4 : nn = 0 ∨ nn = 1 ∨ nn = 2 ∨ nn = 3 := (by omega); clear q; rcases h4 with rfl | rfl | rfl | rfl; exact absurd q' (by decide); exact ⟨[(102 : Int32), (105 : Int32), (108 : Int32), (101 : Int32), (58 : Int32)], ca, [], rfl, rfl, bca, (by decide), rfl⟩; exact ⟨[(102 : Int32), (105 : Int32), (108 : Int32), (101 : Int32), (58 : Int32)], ca, [cb], rfl, rfl, bca, (by decide), rfl⟩; exact ⟨[(102 : Int32), (105 : Int32), (108 : Int32), (101 : Int32), (58 : Int32)], ca, [cb, cc], rfl, rfl, bca, (by decide), rfl⟩)) hZ (wd hw 180 rfl) (wd hw 4 rfl) (by decide) (by decide)) (g := (mkF m 287 #[.val (.int i0), .val (.int i1), .val (.int i2), .val (.int i3), .val (.int i4), .val (.int (1 : Int32)), .val (.int (Int32.ofNat nn)), .val (.int ca), .val (.int cb), .val (.int cc), .val (.ref s1), .val (.ref kd), .val (.ref r1), .val (.ref u1), .val (.ref bf), .val (.int (5 : Int32)), .val (.int (Int32.ofNat (5 + nn)))] [(.int (Int32.ofNat (5 + nn))), (.int (5 : Int32)), (.ref bf), (.ref u1)])) rfl (by rw [hml]; rfl) (argsL := [(.ref u1), (.ref bf), (.int (5 : Int32)), (.int (Int32.ofNat (5 + nn)))]) (rest := []) (lenOf pd_4 rfl) rfl (by show 2 * 0 + _ ≤ _; exact Nat.le_of_eq rfl) (hb hby at_287) (fun _ _ => ⟨rfl, e345, (by decide : 14 + 0 ≤ _), (by decide : 205 + 0 ≤ _)⟩)
  dsimp only [Pt.U, Pt.locs, Pt.cells, Pt.slots] at X346 l346 y346 z346 st346 hQ346
  subst y346 z346
  obtain ⟨rfl, Nq346, e346⟩ := hQ346
  have N346 : Fr n0 L346 := by rw [l346]; exact Fr.app N345 Nq346
  clear l346
  refine Go.by (fun t => st346 t) ?_
  refine Go.by (fun t => XS.ifNo X346.here hx rfl (hb hby at_290) rfl ((if0 _ _).trans (feq (by decide : ¬ ((1 : Int32) = (0 : Int32)))).1)) ?_
  refine Go.by (fun t => XS.aload X346.here hx rfl (hb hby at_293) rfl rfl) ?_
  refine Go.by (fun t => XS.aload X346.here hx rfl (hb hby at_295) rfl rfl) ?_
  refine Go.by (fun t => XS.bipush X346.here hx rfl (hb hby at_297)) ?_
  refine Go.by (fun t => XS.iload X346.here hx rfl (hb hby at_299) rfl ) ?_
  obtain ⟨_, _, ⟨T347, L347, k347, n347⟩, -, X347, ⟨Lc347, hQ347, l347, y347, z347⟩, st347⟩ := Jvm.LawKit.callS X346 hx (y := (⟨"com/example/harvest_rules/harvestrules/registry/SecretReferenceToStringPinLaw", "eqAt", "(Ljava/lang/String;[CII)Z"⟩ : MethodName)) hown (mvT hZ (wd hw 178 rfl)) (mvT hZ (wd hw 179 rfl)) (mvT hZ (wd hw 4 rfl)) (mvT hZ (wd hw 180 rfl)) (by decide) (backOf (W := 0) (rmEQ l Z a0 hw [] u1 bf ([(102 : Int32), (105 : Int32), (108 : Int32), (101 : Int32), (58 : Int32)] ++ [ca, cb, cc].take nn) k331 8 6 (Int32.ofNat (5 + nn)) _ G1 G3 h339 n0 Od A1 HS LS O4 rG3 O2 P5 U1 V_bf (by rw [hul]; omega) (by intro q; have q' : 6 < 5 + nn := (o_lt (a := 6) (by decide) (by omega)).1 q; have h4 : nn = 0 ∨ nn = 1 ∨ nn = 2 ∨ nn = 3 := (by omega); clear q; rcases h4 with rfl | rfl | rfl | rfl; exact absurd q' (by decide); exact absurd q' (by decide); exact ⟨[(102 : Int32), (105 : Int32), (108 : Int32), (101 : Int32), (58 : Int32), ca], cb, [], rfl, rfl, bcb, (by decide), rfl⟩; exact ⟨[(102 : Int32), (105 : Int32), (108 : Int32), (101 : Int32), (58 : Int32), ca], cb, [cc], rfl, rfl, bcb, (by decide), rfl⟩)) hZ (wd hw 180 rfl) (wd hw 4 rfl) (by decide) (by decide)) (g := (mkF m 301 #[.val (.int i0), .val (.int i1), .val (.int i2), .val (.int i3), .val (.int i4), .val (.int (1 : Int32)), .val (.int (Int32.ofNat nn)), .val (.int ca), .val (.int cb), .val (.int cc), .val (.ref s1), .val (.ref kd), .val (.ref r1), .val (.ref u1), .val (.ref bf), .val (.int (5 : Int32)), .val (.int (Int32.ofNat (5 + nn)))] [(.int (Int32.ofNat (5 + nn))), (.int (6 : Int32)), (.ref bf), (.ref u1)])) rfl (by rw [hml]; rfl) (argsL := [(.ref u1), (.ref bf), (.int (6 : Int32)), (.int (Int32.ofNat (5 + nn)))]) (rest := []) (lenOf pd_4 rfl) rfl (by show 2 * 0 + _ ≤ _; exact Nat.le_of_eq rfl) (hb hby at_301) (fun _ _ => ⟨rfl, e346, (by decide : 14 + 0 ≤ _), (by decide : 205 + 0 ≤ _)⟩)
  dsimp only [Pt.U, Pt.locs, Pt.cells, Pt.slots] at X347 l347 y347 z347 st347 hQ347
  subst y347 z347
  obtain ⟨rfl, Nq347, e347⟩ := hQ347
  have N347 : Fr n0 L347 := by rw [l347]; exact Fr.app N346 Nq347
  clear l347
  refine Go.by (fun t => st347 t) ?_
  refine Go.by (fun t => XS.ifNo X347.here hx rfl (hb hby at_304) rfl ((if0 _ _).trans (feq (by decide : ¬ ((1 : Int32) = (0 : Int32)))).1)) ?_
  show Go p e below _ (T347.setTop (mkF m 307 #[.val (.int i0), .val (.int i1), .val (.int i2), .val (.int i3), .val (.int i4), .val (.int (1 : Int32)), .val (.int (Int32.ofNat nn)), .val (.int ca), .val (.int cb), .val (.int cc), .val (.ref s1), .val (.ref kd), .val (.ref r1), .val (.ref u1), .val (.ref bf), .val (.int (5 : Int32)), .val (.int (Int32.ofNat (5 + nn)))] []))
  refine Go.by (fun t => XS.aload X347.here hx rfl (hb hby at_307) rfl rfl) ?_
  refine Go.by (fun t => XS.aload X347.here hx rfl (hb hby at_309) rfl rfl) ?_
  refine Go.by (fun t => XS.bipush X347.here hx rfl (hb hby at_311)) ?_
  refine Go.by (fun t => XS.iload X347.here hx rfl (hb hby at_313) rfl ) ?_
  obtain ⟨_, _, ⟨T348, L348, k348, n348⟩, -, X348, ⟨Lc348, hQ348, l348, y348, z348⟩, st348⟩ := Jvm.LawKit.callS X347 hx (y := (⟨"com/example/harvest_rules/harvestrules/registry/SecretReferenceToStringPinLaw", "eqAt", "(Ljava/lang/String;[CII)Z"⟩ : MethodName)) hown (mvT hZ (wd hw 178 rfl)) (mvT hZ (wd hw 179 rfl)) (mvT hZ (wd hw 4 rfl)) (mvT hZ (wd hw 180 rfl)) (by decide) (backOf (W := 0) (rmEQ l Z a0 hw [] u1 bf ([(102 : Int32), (105 : Int32), (108 : Int32), (101 : Int32), (58 : Int32)] ++ [ca, cb, cc].take nn) k331 8 7 (Int32.ofNat (5 + nn)) _ G1 G3 h339 n0 Od A1 HS LS O4 rG3 O2 P5 U1 V_bf (by rw [hul]; omega) (by intro q; have q' : 7 < 5 + nn := (o_lt (a := 7) (by decide) (by omega)).1 q; have h4 : nn = 0 ∨ nn = 1 ∨ nn = 2 ∨ nn = 3 := (by omega); clear q; rcases h4 with rfl | rfl | rfl | rfl; exact absurd q' (by decide); exact absurd q' (by decide); exact absurd q' (by decide); exact ⟨[(102 : Int32), (105 : Int32), (108 : Int32), (101 : Int32), (58 : Int32), ca, cb], cc, [], rfl, rfl, bcc, (by decide), rfl⟩)) hZ (wd hw 180 rfl) (wd hw 4 rfl) (by decide) (by decide)) (g := (mkF m 315 #[.val (.int i0), .val (.int i1), .val (.int i2), .val (.int i3), .val (.int i4), .val (.int (1 : Int32)), .val (.int (Int32.ofNat nn)), .val (.int ca), .val (.int cb), .val (.int cc), .val (.ref s1), .val (.ref kd), .val (.ref r1), .val (.ref u1), .val (.ref bf), .val (.int (5 : Int32)), .val (.int (Int32.ofNat (5 + nn)))] [(.int (Int32.ofNat (5 + nn))), (.int (7 : Int32)), (.ref bf), (.ref u1)])) rfl (by rw [hml]; rfl) (argsL := [(.ref u1), (.ref bf), (.int (7 : Int32)), (.int (Int32.ofNat (5 + nn)))]) (rest := []) (lenOf pd_4 rfl) rfl (by show 2 * 0 + _ ≤ _; exact Nat.le_of_eq rfl) (hb hby at_315) (fun _ _ => ⟨rfl, e347, (by decide : 14 + 0 ≤ _), (by decide : 205 + 0 ≤ _)⟩)
  dsimp only [Pt.U, Pt.locs, Pt.cells, Pt.slots] at X348 l348 y348 z348 st348 hQ348
  subst y348 z348
  obtain ⟨rfl, Nq348, e348⟩ := hQ348
  have N348 : Fr n0 L348 := by rw [l348]; exact Fr.app N347 Nq348
  clear l348
  refine Go.by (fun t => st348 t) ?_
  refine Go.by (fun t => XS.ifNo X348.here hx rfl (hb hby at_318) rfl ((if0 _ _).trans (feq (by decide : ¬ ((1 : Int32) = (0 : Int32)))).1)) ?_
  refine Go.by (fun t => XS.iconst X348.here hx rfl (hb hby at_321)) ?_
  refine Go.by (fun t => XS.goto X348.here hx rfl (pc0 := 322) (pc' := 326) rfl (hb hby at_322) (by decide) (by decide)) ?_
  exact Go.ret1W X348 hS (by rw [e348]; exact hk) (by rw [e348]; exact CR) hZ hEL hx Bd.returns Bd.notSynchronized (by first | rfl | decide) (Or.inl ⟨rfl, by simp, _, rfl⟩) (hb hby at_326) (by decide) (by decide) (by first | (rw [e348]; exact ⟨rfl, N348⟩) | exact ⟨rfl, N348⟩)
def Q_rm0 (Z : State) (i0 i1 i2 i3 i4 : Int32) (kd0 p10 pt0 : Addr) (kp0 : ClassId) (kd1 p11 pt1 : Addr) (kp1 : ClassId) (G1 : Int32) (G3 : Value) (h0 : Heap) (n0 : Nat) : Option Value → Heap → List Loc → Prop := fun (v : Option Value) (_ : Heap) (L : List Loc) => v = some (.int 1) ∧ Fr n0 L
set_option maxRecDepth 65536 in
set_option maxHeartbeats 40000000 in
theorem rm0 (l : Launch) (Z : State) (a0 : Array Value) (hw : ∀ d ∈ tables_1, d.before a0 Z = true) (ws : List Jvm.Cond) (i0 i1 i2 i3 i4 : Int32) (kd0 p10 pt0 : Addr) (kp0 : ClassId) (kd1 p11 pt1 : Addr) (kp1 : ClassId) (G1 : Int32) (G3 : Value) (h0 : Heap) (n0 : Nat) (Z0 : n0 ≤ h0.size) (Od : Old Z n0 h0) (A1 : Sta Z Z.heap "java/lang/StringUTF16" "$assertionsDisabled" "Z" (.int 1)) (HS : Sta Z Z.heap "java/lang/StringUTF16" "HI_BYTE_SHIFT" "I" (.int 0)) (LS : Sta Z Z.heap "java/lang/StringUTF16" "LO_BYTE_SHIFT" "I" (.int 8)) (O4 : Sta Z Z.heap "jdk/internal/util/Preconditions" "SIOOBE_FORMATTER" "Ljava/util/function/BiFunction;" G3) (rG3 : G3.isRef = true) (O2 : Sta Z Z.heap "java/lang/String" "COMPACT_STRINGS" "Z" (.int G1)) (P5 : ¬ (G1 = (0 : Int32))) (SK0 : Sta Z Z.heap "com/example/harvest_rules/harvestrules/registry/SecretReference$Kind" "ENV" "Lcom/example/harvest_rules/harvestrules/registry/SecretReference$Kind;" (.ref kd0)) (k0_0 : Exa Z h0 kd0 "com/example/harvest_rules/harvestrules/registry/SecretReference$Kind") (k0_1 : Fld Z h0 kd0 "com/example/harvest_rules/harvestrules/registry/SecretReference$Kind" "prefix" "Ljava/lang/String;" (.ref p10)) (k0_2 : Exa Z h0 p10 "java/lang/String") (k0_3 : Fld Z h0 p10 "java/lang/String" "value" "[B" (.ref pt0)) (k0_4 : Fld Z h0 p10 "java/lang/String" "coder" "B" (.int 0)) (k0_5 : Arv Z h0 pt0 kp0 .byte (Int32.ofNat 4) (latL [(101 : Int32), (110 : Int32), (118 : Int32), (58 : Int32)]) (.int 0)) (SK1 : Sta Z Z.heap "com/example/harvest_rules/harvestrules/registry/SecretReference$Kind" "FILE" "Lcom/example/harvest_rules/harvestrules/registry/SecretReference$Kind;" (.ref kd1)) (k1_0 : Exa Z h0 kd1 "com/example/harvest_rules/harvestrules/registry/SecretReference$Kind") (k1_1 : Fld Z h0 kd1 "com/example/harvest_rules/harvestrules/registry/SecretReference$Kind" "prefix" "Ljava/lang/String;" (.ref p11)) (k1_2 : Exa Z h0 p11 "java/lang/String") (k1_3 : Fld Z h0 p11 "java/lang/String" "value" "[B" (.ref pt1)) (k1_4 : Fld Z h0 p11 "java/lang/String" "coder" "B" (.int 0)) (k1_5 : Arv Z h0 pt1 kp1 .byte (Int32.ofNat 5) (latL [(102 : Int32), (105 : Int32), (108 : Int32), (101 : Int32), (58 : Int32)]) (.int 0)) :
    CTW EL l x code maxLocals ret ws room_1 #[(.int i0), (.int i1), (.int i2), (.int i3), (.int i4)] Z h0 (Q_rm0 Z i0 i1 i2 i3 i4 kd0 p10 pt0 kp0 kd1 p11 pt1 kp1 G1 G3 h0 n0) := by
  have bca := i2c_bd (i2 &&& (65535 : Int32))
  obtain ⟨ca, hca⟩ : ∃ z, (i2 &&& (65535 : Int32)).toUInt32.toUInt16.toUInt32.toInt32 = z := ⟨_, rfl⟩
  rw [hca] at bca
  have bcb := i2c_bd (i3 &&& (65535 : Int32))
  obtain ⟨cb, hcb⟩ : ∃ z, (i3 &&& (65535 : Int32)).toUInt32.toUInt16.toUInt32.toInt32 = z := ⟨_, rfl⟩
  rw [hcb] at bcb
  have bcc := i2c_bd (i4 &&& (65535 : Int32))
  obtain ⟨cc, hcc⟩ : ∃ z, (i4 &&& (65535 : Int32)).toUInt32.toUInt16.toUInt32.toInt32 = z := ⟨_, rfl⟩
  rw [hcc] at bcc
  obtain ⟨nn, hnn, hn⟩ : ∃ nn : Nat, nn ≤ 3 ∧ ((i1 &&& (2147483647 : Int32)) % (4 : Int32)) = Int32.ofNat nn := by rcases mod4 i1 with h | h | h | h; exact ⟨0, by decide, h⟩; exact ⟨1, by decide, h⟩; exact ⟨2, by decide, h⟩; exact ⟨3, by decide, h⟩
  rcases kand i0 with kq | kq
  · exact rm0_4 l Z a0 hw ws i0 i1 i2 i3 i4 ca cb cc nn kd0 p10 pt0 kp0 G1 G3 h0 n0 Z0 Od A1 HS LS O4 rG3 O2 P5 SK0 k0_0 k0_1 k0_2 k0_3 k0_4 k0_5 kq hn hnn hca hcb hcc bca bcb bcc
  · exact rm0_5 l Z a0 hw ws i0 i1 i2 i3 i4 ca cb cc nn kd1 p11 pt1 kp1 G1 G3 h0 n0 Z0 Od A1 HS LS O4 rG3 O2 P5 SK1 k1_0 k1_1 k1_2 k1_3 k1_4 k1_5 kq hn hnn hca hcb hcc bca bcb bcc
theorem lat_4 : [Value.int (101 : Int32), Value.int (110 : Int32), Value.int (118 : Int32), Value.int (58 : Int32)] = latL [(101 : Int32), (110 : Int32), (118 : Int32), (58 : Int32)] := by first | rfl | decide | simp [latL]
theorem lat_5 : [Value.int (102 : Int32), Value.int (105 : Int32), Value.int (108 : Int32), Value.int (101 : Int32), Value.int (58 : Int32)] = latL [(102 : Int32), (105 : Int32), (108 : Int32), (101 : Int32), (58 : Int32)] := by first | rfl | decide | simp [latL]
set_option maxRecDepth 65536 in
set_option maxHeartbeats 40000000 in
theorem comes_1 {Post : Tables → Env → Array Value → State → Outcome → State → Prop} (hpost : ∀ tb e args s v u, (limb_1_1.after args s (.returned v) u = true ∧ limb_1_2.after args s (.returned v) u = true ∧ True) → ReturnedEndW s (.returned v) u (Jvm.fieldLocs frame_1_writes args s ++ Jvm.arrayLocs frame_1_arrays args s ++ Jvm.staticLocs frame_1_statics s) 32 1344 → Post tb e args s (.returned v) u) :
    ArmFor flags0 classFile x code maxLocals ret World_1 tables_1 room_1 Calls_1 rest_1 Pre_1 Post := by
  intro l hfl _ _ p e ha hc hk s m args below hf hA hF happ hP
  obtain ⟨hcalls, hrest, hpre⟩ := hP
  obtain ⟨-, -, -, hnamed, -, -, -, hat⟩ := (Spec.applies_iff hf).mp happ
  obtain ⟨hg, hn⟩ := and_e (Cond.before_iff.mp (show (Jvm.Cond.and given_1 narrow_1).before args s = true from hpre))
  obtain ⟨hcount, hgs⟩ := and_e hg
  obtain ⟨w0, w1, w2, w3, w4, rfl⟩ : ∃ w0 w1 w2 w3 w4 : Value, args = #[w0, w1, w2, w3, w4] := by
    have hs : args.size = 5 := by simpa [Cond.value, given_1] using hcount
    obtain ⟨L⟩ := args
    match L, hs with
    | [w0, w1, w2, w3, w4], _ => exact ⟨w0, w1, w2, w3, w4, rfl⟩
  have hw := fun d (hd : d ∈ tables_1) => atoms_spec (ws := Jvm.Cond.code x code maxLocals ret :: tables_1) hat d (List.mem_cons_of_mem _ hd)
  have hfit : Fit s := fun {y c} hc i hi => by
    obtain ⟨ha, rfl⟩ := Array.getElem?_eq_some_iff.mp hc
    have q := List.all_eq_true.mp ((Array.all_eq_true_iff_forall_mem.mp hF) _ (Array.getElem_mem ha)) i (List.mem_range.mpr hi)
    simpa [Array.getElem?_eq_getElem hi] using q
  obtain ⟨ga0, gb0⟩ := and_e hgs
  obtain ⟨i0, ei0⟩ := is_v ga0
  obtain rfl : w0 = (.int i0) := Option.some.inj ei0
  obtain ⟨ga1, gb1⟩ := and_e gb0
  obtain ⟨i1, ei1⟩ := is_v ga1
  obtain rfl : w1 = (.int i1) := Option.some.inj ei1
  obtain ⟨ga2, gb2⟩ := and_e gb1
  obtain ⟨i2, ei2⟩ := is_v ga2
  obtain rfl : w2 = (.int i2) := Option.some.inj ei2
  obtain ⟨ga3, gb3⟩ := and_e gb2
  obtain ⟨i3, ei3⟩ := is_v ga3
  obtain rfl : w3 = (.int i3) := Option.some.inj ei3
  obtain ⟨i4, ei4⟩ := is_v gb3
  obtain rfl : w4 = (.int i4) := Option.some.inj ei4
  obtain ⟨hsets, hown0⟩ := atoms_of _ (rest_1_c_eq ▸ (show rest_1_c.before _ s = true from hrest))
  obtain ⟨G_COMPACT_STRINGS, eG_COMPACT_STRINGS⟩ := is_v (Cond.before_iff.mp (hsets _ (List.mem_of_getElem? (i := 1) rfl)))
  have S_COMPACT_STRINGS : Sta s s.heap "java/lang/String" "COMPACT_STRINGS" "Z" (.int G_COMPACT_STRINGS) := Sta.start eG_COMPACT_STRINGS (Or.inl (hsets _ (List.mem_of_getElem? (i := 0) rfl)))
  have n_CS := not_v (Cond.before_iff.mp (hsets _ (List.mem_of_getElem? (i := 2) rfl)))
  have c_CS : ¬ (G_COMPACT_STRINGS = (0 : Int32)) := gotF (Cond.eq_ints eG_COMPACT_STRINGS (Term.int_eval (0))) n_CS
  obtain ⟨G_SIOOBE_FORMATTER, eG_SIOOBE_FORMATTER, rG_SIOOBE_FORMATTER⟩ := isR_v (Cond.before_iff.mp (hsets _ (List.mem_of_getElem? (i := 8) rfl)))
  have S_SIOOBE_FORMATTER : Sta s s.heap "jdk/internal/util/Preconditions" "SIOOBE_FORMATTER" "Ljava/util/function/BiFunction;" G_SIOOBE_FORMATTER := Sta.start eG_SIOOBE_FORMATTER (Or.inl (hsets _ (List.mem_of_getElem? (i := 7) rfl)))
  have hcw : Jvm.Lit.compactW.before _ s = true := (hsets _ (List.mem_of_getElem? (i := 2) rfl))
  have hCH : CHv s EL s.vm s.heap := CHv.start (ew_of hw) (fun p hp => hcalls.1 p hp) hcw (wd hw 25 rfl) (wd hw 7 rfl)
  have A1 : Sta s s.heap "java/lang/StringUTF16" "$assertionsDisabled" "Z" (.int 1) := Sta.start (sta_eqI (Cond.before_iff.mp (hsets _ (List.mem_of_getElem? (i := 12) rfl)))) (Or.inl (hsets _ (List.mem_of_getElem? (i := 11) rfl)))
  have HS : Sta s s.heap "java/lang/StringUTF16" "HI_BYTE_SHIFT" "I" (.int 0) := Sta.start (sta_eqI (Cond.before_iff.mp (hsets _ (List.mem_of_getElem? (i := 15) rfl)))) (Or.inl (hsets _ (List.mem_of_getElem? (i := 14) rfl)))
  have LS : Sta s s.heap "java/lang/StringUTF16" "LO_BYTE_SHIFT" "I" (.int 8) := Sta.start (sta_eqI (Cond.before_iff.mp (hsets _ (List.mem_of_getElem? (i := 18) rfl)))) (Or.inl (hsets _ (List.mem_of_getElem? (i := 17) rfl)))
  obtain ⟨na0, nb0⟩ := and_e hn
  obtain ⟨kd0, ek0⟩ := exa_v na0
  have SK0 : Sta s s.heap "com/example/harvest_rules/harvestrules/registry/SecretReference$Kind" "ENV" "Lcom/example/harvest_rules/harvestrules/registry/SecretReference$Kind;" (.ref kd0) := Sta.start ek0 (Or.inr ⟨(wd hw 37 rfl), (wd hw 38 rfl)⟩)
  have k0_0 := Exa.start ek0 na0
  obtain ⟨na1, nb1⟩ := and_e nb0
  obtain ⟨p10, ep0⟩ := exa_v na1
  have k0_1 := Fld.start ((fld_at ek0).symm.trans ep0)
  have k0_2 := Exa.start ep0 na1
  obtain ⟨na2, nb2⟩ := and_e nb1
  obtain ⟨pt0, et0⟩ := arr_v na2
  have k0_3 := Fld.start ((fld_at ep0).symm.trans et0)
  obtain ⟨ct0, At0⟩ := Arr.start et0 na2
  obtain ⟨na3, nb3⟩ := and_e nb2
  obtain ⟨na4, nb4⟩ := and_e nb3
  obtain ⟨na5, nb5⟩ := and_e nb4
  have k0_4 := Fld.start ((fld_at ep0).symm.trans (sta_eqI na5))
  obtain ⟨na6, nb6⟩ := and_e nb5
  obtain ⟨na7, nb7⟩ := and_e nb6
  obtain ⟨na8, nb8⟩ := and_e nb7
  obtain ⟨na9, nb9⟩ := and_e nb8
  have k0_5 : Arv s s.heap pt0 ct0.cls .byte (4 : Int32) [(.int (101 : Int32)), (.int (110 : Int32)), (.int (118 : Int32)), (.int (58 : Int32))] (.int 0) := start_arv hfit et0 At0 (sta_eqI na4) (by decide) rfl ⟨(elem_in (sta_eqI na6) et0 (Term.int_eval 0) At0.1).2, ⟨(elem_in (sta_eqI na7) et0 (Term.int_eval 1) At0.1).2, ⟨(elem_in (sta_eqI na8) et0 (Term.int_eval 2) At0.1).2, ⟨(elem_in (sta_eqI na9) et0 (Term.int_eval 3) At0.1).2, trivial⟩⟩⟩⟩
  replace k0_5 := arv_eq k0_5 lat_4
  obtain ⟨na10, nb10⟩ := and_e nb9
  obtain ⟨kd1, ek1⟩ := exa_v na10
  have SK1 : Sta s s.heap "com/example/harvest_rules/harvestrules/registry/SecretReference$Kind" "FILE" "Lcom/example/harvest_rules/harvestrules/registry/SecretReference$Kind;" (.ref kd1) := Sta.start ek1 (Or.inr ⟨(wd hw 37 rfl), (wd hw 207 rfl)⟩)
  have k1_0 := Exa.start ek1 na10
  obtain ⟨na11, nb11⟩ := and_e nb10
  obtain ⟨p11, ep1⟩ := exa_v na11
  have k1_1 := Fld.start ((fld_at ek1).symm.trans ep1)
  have k1_2 := Exa.start ep1 na11
  obtain ⟨na12, nb12⟩ := and_e nb11
  obtain ⟨pt1, et1⟩ := arr_v na12
  have k1_3 := Fld.start ((fld_at ep1).symm.trans et1)
  obtain ⟨ct1, At1⟩ := Arr.start et1 na12
  obtain ⟨na13, nb13⟩ := and_e nb12
  obtain ⟨na14, nb14⟩ := and_e nb13
  obtain ⟨na15, nb15⟩ := and_e nb14
  have k1_4 := Fld.start ((fld_at ep1).symm.trans (sta_eqI na15))
  obtain ⟨na16, nb16⟩ := and_e nb15
  obtain ⟨na17, nb17⟩ := and_e nb16
  obtain ⟨na18, nb18⟩ := and_e nb17
  obtain ⟨na19, nb19⟩ := and_e nb18
  have k1_5 : Arv s s.heap pt1 ct1.cls .byte (5 : Int32) [(.int (102 : Int32)), (.int (105 : Int32)), (.int (108 : Int32)), (.int (101 : Int32)), (.int (58 : Int32))] (.int 0) := start_arv hfit et1 At1 (sta_eqI na14) (by decide) rfl ⟨(elem_in (sta_eqI na16) et1 (Term.int_eval 0) At1.1).2, ⟨(elem_in (sta_eqI na17) et1 (Term.int_eval 1) At1.1).2, ⟨(elem_in (sta_eqI na18) et1 (Term.int_eval 2) At1.1).2, ⟨(elem_in (sta_eqI na19) et1 (Term.int_eval 3) At1.1).2, ⟨(elem_in (sta_eqI nb19) et1 (Term.int_eval 4) At1.1).2, trivial⟩⟩⟩⟩⟩
  replace k1_5 := arv_eq k1_5 lat_5
  obtain ⟨n, o, h1, h2, h3, _, L, rfl, ⟨rfl, N⟩, -, hq⟩ := rm0 l s _ hw tables_1 i0 i1 i2 i3 i4 kd0 p10 pt0 ct0.cls kd1 p11 pt1 ct1.cls G_COMPACT_STRINGS G_SIOOBE_FORMATTER s.heap s.heap.size (Nat.le_refl _) (Old.start s) A1 HS LS S_SIOOBE_FORMATTER rG_SIOOBE_FORMATTER S_COMPACT_STRINGS c_CS SK0 k0_0 k0_1 k0_2 k0_3 k0_4 k0_5 SK1 k1_0 k1_1 k1_2 k1_3 k1_4 k1_5 p e ha hc hk s m _ below hf ((Spec.applies_iff_loose hf).mp happ).1 ⟨rfl, State.Warmed39.refl s, rfl, hCH⟩ trivial
  refine ⟨n, _, h1, h2, h3, hpost _ _ _ _ _ _ ⟨Cond.after_iff.mpr rfl, Cond.after_iff.mpr (eq_i res_at (Term.int_eval (1)) rfl), trivial⟩ ⟨hq.1, hq.2.1, hq.2.2.1, (hq.2.2.2.sift fun y hy => Or.inr (N y hy)).mono (by decide) (by decide)⟩⟩
theorem main_1_1 : Claimed_1_1 := comes_1 fun _ _ _ _ _ _ h hF => ⟨h.1, hF⟩
theorem main_1_2 : Claimed_1_2 := comes_1 fun _ _ _ _ _ _ h hF => ⟨h.2.1, hF⟩
end Jvm.Pilot.@@N@@
namespace Jvm.Pilot.@@N@@
open Jvm Jvm.ClassFile Sem Op Lib Jvm.Free Jvm.Stand Jvm.Pilot.@@N@@.Jvm.D
/-! MADE BY PROGRAM (witnessworld.py) out of the Statement's table words and the real class files: 27 classes; the members and pool entries that the words name. The judged class is class 1, her method 3. -/
namespace start1
open Jvm.ClassFile
def u (s : String) : CpInfo := .utf8 (stringToUtf16 s)
/-- a pool by its gaps: so many unusable entries, then the entry; so many at the end -/
def gap : Nat → List CpInfo → List CpInfo
  | 0, r => r
  | n + 1, r => .unusable :: gap n r
def poolList (es : List (Nat × CpInfo)) (last : Nat) : List CpInfo := es.foldr (fun e r => gap e.1 (e.2 :: r)) (gap last [])
def pool (es : List (Nat × CpInfo)) (last : Nat) : Array CpInfo := ⟨poolList es last⟩
def fileOf (pool : Array CpInfo) (this : Nat) (attrs : Array Attribute := #[]) (ms : Array MethodInfo := #[]) (fl : Nat := 33) (sup : Nat := 0) (ifs : Array Nat := #[]) (fds : Array FieldInfo := #[]) : ClassFile where
  minorVersion := 0
  majorVersion := 65
  constantPool := pool
  accessFlags := fl
  thisClass := this
  superClass := sup
  interfaces := ifs
  fields := fds
  methods := ms
  attributes := attrs
def plain (name : String) (sup : Option ClassId) : Class where
  name := name
  kind := .ordinary
  loader := none
  accessFlags := 33
  super := sup
  interfaces := #[]
  cf := none
  fields := #[]
  methods := #[]
  instanceTypes := #[]
  staticTypes := #[]
  resolved := #[]
  callSites := []
  init := .initialized
  statics := none
  mirror := none

def pool0 : Array CpInfo := pool [(5, u "<init>"), (0, u "()V"), (1, .class_ 10), (1, u "java/lang/Object")] 113

def k0c0 : Code := { maxStack := 0, maxLocals := 1, code := object_method_1_code, exceptionTable := #[], attributes := #[] }
def k0m0 : Method := { name := "<init>", desc := "()V", sig := { parameters := [], returnType := none }, accessFlags := 1, code := some k0c0 }
/-- java/lang/Object -/
def k0 : Class := { plain "java/lang/Object" none with
  accessFlags := 33
  interfaces := #[]
  cf := some (fileOf pool0 8 #[] #[{ accessFlags := 1, nameIndex := 5, descriptorIndex := 6, attributes := #[] }] 33 0 #[] #[])
  fields := #[]
  methods := #[k0m0]
  instanceTypes := #[]
  staticTypes := #[]
  resolved := Array.replicate 124 none
  statics := none }

def pool1 : Array CpInfo := pool [(2, .class_ 4), (1, u "java/lang/Object"), (0, u "<init>"), (0, u "()V"), (0, .class_ 8), (0, u "java/lang/String"), (0, .methodref 7 10), (0, .nameAndType 5 11), (0, u "([C)V"), (0, .methodref 7 13), (0, .nameAndType 14 15), (0, u "charAt"), (0, u "(I)C"), (0, .integer 2147483647), (0, .integer 65535), (0, .methodref 19 20), (0, .class_ 21), (0, .nameAndType 22 23), (0, u "com/example/harvest_rules/harvestrules/registry/SecretReferenceToStringPinLaw"), (0, u "target"), (0, u "(ICCC)Ljava/lang/String;"), (0, .fieldref 25 26), (0, .class_ 27), (0, .nameAndType 28 29), (0, u "com/example/harvest_rules/harvestrules/registry/SecretReference$Kind"), (0, u "FILE"), (0, u "Lcom/example/harvest_rules/harvestrules/registry/SecretReference$Kind;"), (0, .fieldref 25 31), (0, .nameAndType 32 29), (0, u "ENV"), (0, .class_ 34), (0, u "com/example/harvest_rules/harvestrules/registry/SecretReference"), (0, .methodref 33 36), (0, .nameAndType 5 37), (0, u "(Lcom/example/harvest_rules/harvestrules/registry/SecretReference$Kind;Ljava/lang/String;)V"), (0, .methodref 33 39), (0, .nameAndType 40 41), (0, u "toString"), (0, u "()Ljava/lang/String;"), (0, .methodref 7 43), (0, .nameAndType 44 45), (0, u "length"), (0, u "()I"), (0, .methodref 19 47), (0, .nameAndType 48 49), (0, u "eqAt"), (0, u "(Ljava/lang/String;[CII)Z"), (3, u "law"), (0, u "(IIIII)Z")] 6

def k1m0 : Method := { name := "<init>", desc := "()V", sig := { parameters := [], returnType := none }, accessFlags := 1, code := none }
def k1c1 : Code := { maxStack := 6, maxLocals := 4, code := method_2_code, exceptionTable := #[], attributes := #[] }
def k1m1 : Method := { name := "target", desc := "(ICCC)Ljava/lang/String;", sig := { parameters := [.int, .char, .char, .char], returnType := some (.object "java/lang/String") }, accessFlags := 10, code := some k1c1 }
def k1c2 : Code := { maxStack := 3, maxLocals := 4, code := method_3_code, exceptionTable := #[], attributes := #[] }
def k1m2 : Method := { name := "eqAt", desc := "(Ljava/lang/String;[CII)Z", sig := { parameters := [(.object "java/lang/String"), (.array .char), .int, .int], returnType := some .boolean }, accessFlags := 10, code := some k1c2 }
def k1c3 : Code := { maxStack := 4, maxLocals := 17, code := code, exceptionTable := #[], attributes := #[] }
def k1m3 : Method := { name := "law", desc := "(IIIII)Z", sig := { parameters := [.int, .int, .int, .int, .int], returnType := some .boolean }, accessFlags := 9, code := some k1c3 }
/-- com/example/harvest_rules/harvestrules/registry/SecretReferenceToStringPinLaw -/
def k1 : Class := { plain "com/example/harvest_rules/harvestrules/registry/SecretReferenceToStringPinLaw" (some 0) with
  accessFlags := 49
  interfaces := #[]
  cf := some (fileOf pool1 19 #[] #[{ accessFlags := 1, nameIndex := 5, descriptorIndex := 6, attributes := #[] }, { accessFlags := 10, nameIndex := 22, descriptorIndex := 23, attributes := #[] }, { accessFlags := 10, nameIndex := 48, descriptorIndex := 49, attributes := #[] }, { accessFlags := 9, nameIndex := 53, descriptorIndex := 54, attributes := #[] }] 49 2 #[] #[])
  fields := #[]
  methods := #[k1m0, k1m1, k1m2, k1m3]
  instanceTypes := #[]
  staticTypes := #[]
  resolved := Array.replicate 61 none
  statics := none }

def pool2 : Array CpInfo := pool [(1, .class_ 2), (0, u "java/io/Serializable"), (0, .class_ 4), (0, u "java/lang/Object")] 2

/-- java/io/Serializable -/
def k2 : Class := { plain "java/io/Serializable" (some 0) with
  accessFlags := 1537
  interfaces := #[]
  cf := some (fileOf pool2 1 #[] #[] 1537 3 #[] #[])
  fields := #[]
  methods := #[]
  instanceTypes := #[]
  staticTypes := #[]
  resolved := Array.replicate 7 none
  statics := none }

def pool3 : Array CpInfo := pool [(1, .class_ 2), (0, u "java/lang/Comparable"), (0, .class_ 4), (0, u "java/lang/Object")] 7

/-- java/lang/Comparable -/
def k3 : Class := { plain "java/lang/Comparable" (some 0) with
  accessFlags := 1537
  interfaces := #[]
  cf := some (fileOf pool3 1 #[] #[] 1537 3 #[] #[])
  fields := #[]
  methods := #[]
  instanceTypes := #[]
  staticTypes := #[]
  resolved := Array.replicate 12 none
  statics := none }

def pool4 : Array CpInfo := pool [(2, .class_ 4), (1, u "java/lang/CharSequence"), (42, .class_ 48), (0, u "java/lang/CharSequence$1CodePointIterator"), (10, .class_ 60), (0, u "java/lang/CharSequence$1CharIterator"), (5, .class_ 67), (0, u "java/lang/Object")] 63

/-- java/lang/CharSequence -/
def k4 : Class := { plain "java/lang/CharSequence" (some 0) with
  accessFlags := 1537
  interfaces := #[]
  cf := some (fileOf pool4 2 #[.nestMembers #[47, 59]] #[] 1537 66 #[] #[])
  fields := #[]
  methods := #[]
  instanceTypes := #[]
  staticTypes := #[]
  resolved := Array.replicate 131 none
  statics := none }

def pool5 : Array CpInfo := pool [(1, .class_ 2), (0, u "java/lang/constant/Constable"), (0, .class_ 4), (0, u "java/lang/Object")] 6

/-- java/lang/constant/Constable -/
def k5 : Class := { plain "java/lang/constant/Constable" (some 0) with
  accessFlags := 1537
  interfaces := #[]
  cf := some (fileOf pool5 1 #[] #[] 1537 3 #[] #[])
  fields := #[]
  methods := #[]
  instanceTypes := #[]
  staticTypes := #[]
  resolved := Array.replicate 11 none
  statics := none }

def pool6 : Array CpInfo := pool [(1, .class_ 2), (0, u "java/lang/constant/ConstantDesc"), (0, .class_ 4), (0, u "java/lang/Object")] 32

/-- java/lang/constant/ConstantDesc -/
def k6 : Class := { plain "java/lang/constant/ConstantDesc" (some 0) with
  accessFlags := 1537
  interfaces := #[]
  cf := some (fileOf pool6 1 #[] #[] 1537 3 #[] #[])
  fields := #[]
  methods := #[]
  instanceTypes := #[]
  staticTypes := #[]
  resolved := Array.replicate 37 none
  statics := none }

def pool7 : Array CpInfo := pool [(1, .methodref 2 3), (0, .class_ 4), (0, .nameAndType 5 6), (0, u "java/lang/Object"), (0, u "<init>"), (0, u "()V"), (0, .string 8), (0, u ""), (0, .fieldref 10 11), (0, .class_ 12), (0, .nameAndType 13 14), (0, u "java/lang/String"), (0, u "value"), (0, u "[B"), (0, .fieldref 10 16), (0, .nameAndType 17 18), (0, u "coder"), (0, u "B"), (2, u "hash"), (0, u "I"), (2, u "hashIsZero"), (0, u "Z"), (0, .methodref 10 28), (0, .nameAndType 5 29), (0, u "([CIILjava/lang/Void;)V"), (6, u "checkBoundsOffCount"), (0, u "(III)I"), (0, .fieldref 10 39), (0, .nameAndType 40 26), (0, u "COMPACT_STRINGS"), (1, .class_ 44), (1, u "java/lang/StringUTF16"), (0, u "compress"), (1, .methodref 42 48), (0, .nameAndType 49 50), (0, u "coderFromArrayLen"), (0, u "([BI)B"), (3, .methodref 55 56), (0, .class_ 57), (0, .nameAndType 58 59), (0, u "java/util/Arrays"), (0, u "copyOfRange"), (0, u "([BII)[B"), (47, .class_ 109), (1, u "java/lang/StringLatin1"), (32, u "()Z"), (34, .methodref 42 178), (0, .nameAndType 45 179), (0, u "([CII)[B"), (13, .class_ 195), (1, u "java/lang/System"), (16, .methodref 193 213), (0, .nameAndType 214 215), (0, u "arraycopy"), (0, u "(Ljava/lang/Object;ILjava/lang/Object;II)V"), (118, u "()I"), (0, .methodref 10 336), (0, .nameAndType 17 337), (0, u "()B"), (2, u "()[B"), (22, u "([BI)C"), (27, u "(II)V"), (35, u "(I)C"), (61, .methodref 10 490), (0, .nameAndType 5 491), (0, u "(Ljava/lang/AbstractStringBuilder;Ljava/lang/Void;)V"), (0, .methodref 10 493), (0, .nameAndType 494 142), (0, u "isLatin1"), (0, .methodref 107 496), (0, .nameAndType 497 363), (0, u "charAt"), (0, .methodref 42 496), (2, u "checkIndex"), (4, .nameAndType 507 334), (0, u "length"), (24, u "getBytes"), (16, .methodref 550 506), (0, .class_ 551), (0, u "java/lang/AbstractStringBuilder"), (0, .methodref 550 553), (0, .nameAndType 554 340), (0, u "getValue"), (20, .class_ 576), (0, u "java/lang/CharSequence"), (22, u "CASE_INSENSITIVE_ORDER"), (0, u "Ljava/util/Comparator;"), (220, u "([BIB)V"), (188, u "([C)V"), (36, .methodref 550 493), (0, .fieldref 550 1049), (0, .nameAndType 1050 26), (0, u "maybeLatin1"), (2, .fieldref 1054 1055), (0, .class_ 1056), (0, .nameAndType 1057 1058), (0, u "jdk/internal/util/Preconditions"), (0, u "SIOOBE_FORMATTER"), (0, u "Ljava/util/function/BiFunction;"), (0, .methodref 1054 1060), (0, .nameAndType 501 1061), (0, u "(IILjava/util/function/BiFunction;)I"), (2, u "(IIILjava/util/function/BiFunction;)I"), (0, .methodref 1054 1066), (0, .nameAndType 1067 1064), (0, u "checkFromIndexSize"), (33, u "serialPersistentFields"), (0, u "[Ljava/io/ObjectStreamField;"), (0, .class_ 1104), (0, u "java/lang/String$CaseInsensitiveComparator"), (1, .class_ 1107), (0, u "java/io/Serializable"), (0, .class_ 1109), (0, u "java/lang/Comparable"), (0, .class_ 1111), (0, u "java/lang/constant/Constable"), (0, .class_ 1113), (0, u "java/lang/constant/ConstantDesc"), (2, u "serialVersionUID"), (0, u "J"), (3, u "REPL"), (0, u "C"), (2, u "LATIN1"), (1, u "UTF16"), (105, u "(Ljava/lang/StringBuilder;)V")] 217

def k7m0 : Method := { name := "<init>", desc := "()V", sig := { parameters := [], returnType := none }, accessFlags := 1, code := none }
def k7c1 : Code := { maxStack := 5, maxLocals := 2, code := jdk_42_method_3_code, exceptionTable := #[], attributes := #[] }
def k7m1 : Method := { name := "<init>", desc := "([C)V", sig := { parameters := [(.array .char)], returnType := none }, accessFlags := 1, code := some k7c1 }
def k7c2 : Code := { maxStack := 3, maxLocals := 2, code := jdk_42_method_53_code, exceptionTable := #[], attributes := #[] }
def k7m2 : Method := { name := "<init>", desc := "(Ljava/lang/StringBuilder;)V", sig := { parameters := [(.object "java/lang/StringBuilder")], returnType := none }, accessFlags := 1, code := some k7c2 }
def k7c3 : Code := { maxStack := 2, maxLocals := 1, code := jdk_42_method_54_code, exceptionTable := #[], attributes := #[] }
def k7m3 : Method := { name := "length", desc := "()I", sig := { parameters := [], returnType := some .int }, accessFlags := 1, code := some k7c3 }
def k7c4 : Code := { maxStack := 2, maxLocals := 2, code := jdk_42_method_56_code, exceptionTable := #[], attributes := #[] }
def k7m4 : Method := { name := "charAt", desc := "(I)C", sig := { parameters := [.int], returnType := some .char }, accessFlags := 1, code := some k7c4 }
def k7c5 : Code := { maxStack := 5, maxLocals := 4, code := jdk_42_method_147_code, exceptionTable := #[], attributes := #[] }
def k7m5 : Method := { name := "getBytes", desc := "([BIB)V", sig := { parameters := [(.array .byte), .int, .byte], returnType := none }, accessFlags := 0, code := some k7c5 }
def k7c6 : Code := { maxStack := 4, maxLocals := 6, code := jdk_42_method_149_code, exceptionTable := #[], attributes := #[] }
def k7m6 : Method := { name := "<init>", desc := "([CIILjava/lang/Void;)V", sig := { parameters := [(.array .char), .int, .int, (.object "java/lang/Void")], returnType := none }, accessFlags := 2, code := some k7c6 }
def k7c7 : Code := { maxStack := 5, maxLocals := 5, code := jdk_42_method_150_code, exceptionTable := #[], attributes := #[] }
def k7m7 : Method := { name := "<init>", desc := "(Ljava/lang/AbstractStringBuilder;Ljava/lang/Void;)V", sig := { parameters := [(.object "java/lang/AbstractStringBuilder"), (.object "java/lang/Void")], returnType := none }, accessFlags := 0, code := some k7c7 }
def k7c8 : Code := { maxStack := 1, maxLocals := 1, code := jdk_42_method_152_code, exceptionTable := #[], attributes := #[] }
def k7m8 : Method := { name := "coder", desc := "()B", sig := { parameters := [], returnType := some .byte }, accessFlags := 0, code := some k7c8 }
def k7c9 : Code := { maxStack := 1, maxLocals := 1, code := jdk_42_method_154_code, exceptionTable := #[], attributes := #[] }
def k7m9 : Method := { name := "isLatin1", desc := "()Z", sig := { parameters := [], returnType := some .boolean }, accessFlags := 0, code := some k7c9 }
def k7c10 : Code := { maxStack := 3, maxLocals := 2, code := jdk_42_method_155_code, exceptionTable := #[], attributes := #[] }
def k7m10 : Method := { name := "checkIndex", desc := "(II)V", sig := { parameters := [.int, .int], returnType := none }, accessFlags := 8, code := some k7c10 }
def k7c11 : Code := { maxStack := 4, maxLocals := 3, code := jdk_42_method_157_code, exceptionTable := #[], attributes := #[] }
def k7m11 : Method := { name := "checkBoundsOffCount", desc := "(III)I", sig := { parameters := [.int, .int, .int], returnType := some .int }, accessFlags := 8, code := some k7c11 }
/-- java/lang/String -/
def k7 : Class := { plain "java/lang/String" (some 0) with
  accessFlags := 49
  interfaces := #[2, 3, 4, 5, 6]
  cf := some (fileOf pool7 10 #[.nestMembers #[1103]] #[{ accessFlags := 1, nameIndex := 5, descriptorIndex := 6, attributes := #[] }, { accessFlags := 1, nameIndex := 5, descriptorIndex := 1010, attributes := #[] }, { accessFlags := 1, nameIndex := 5, descriptorIndex := 1233, attributes := #[] }, { accessFlags := 1, nameIndex := 507, descriptorIndex := 334, attributes := #[] }, { accessFlags := 1, nameIndex := 497, descriptorIndex := 427, attributes := #[] }, { accessFlags := 0, nameIndex := 532, descriptorIndex := 821, attributes := #[] }, { accessFlags := 2, nameIndex := 5, descriptorIndex := 29, attributes := #[] }, { accessFlags := 0, nameIndex := 5, descriptorIndex := 491, attributes := #[] }, { accessFlags := 0, nameIndex := 17, descriptorIndex := 337, attributes := #[] }, { accessFlags := 0, nameIndex := 494, descriptorIndex := 142, attributes := #[] }, { accessFlags := 8, nameIndex := 501, descriptorIndex := 391, attributes := #[] }, { accessFlags := 8, nameIndex := 36, descriptorIndex := 37, attributes := #[] }] 49 2 #[1106, 1108, 575, 1110, 1112] #[{ accessFlags := 18, nameIndex := 13, descriptorIndex := 14, attributes := #[] }, { accessFlags := 18, nameIndex := 17, descriptorIndex := 18, attributes := #[] }, { accessFlags := 2, nameIndex := 21, descriptorIndex := 22, attributes := #[] }, { accessFlags := 2, nameIndex := 25, descriptorIndex := 26, attributes := #[] }, { accessFlags := 26, nameIndex := 1116, descriptorIndex := 1117, attributes := #[] }, { accessFlags := 24, nameIndex := 40, descriptorIndex := 26, attributes := #[] }, { accessFlags := 26, nameIndex := 1101, descriptorIndex := 1102, attributes := #[] }, { accessFlags := 26, nameIndex := 1121, descriptorIndex := 1122, attributes := #[] }, { accessFlags := 25, nameIndex := 599, descriptorIndex := 600, attributes := #[] }, { accessFlags := 24, nameIndex := 1125, descriptorIndex := 18, attributes := #[] }, { accessFlags := 24, nameIndex := 1127, descriptorIndex := 18, attributes := #[] }])
  fields := #[{ name := "value", type := (.array .byte), accessFlags := 18, slot := 0, constantValue := 0 }, { name := "coder", type := .byte, accessFlags := 18, slot := 1, constantValue := 0 }, { name := "hash", type := .int, accessFlags := 2, slot := 2, constantValue := 0 }, { name := "hashIsZero", type := .boolean, accessFlags := 2, slot := 3, constantValue := 0 }, { name := "serialVersionUID", type := .long, accessFlags := 26, slot := 0, constantValue := 0 }, { name := "COMPACT_STRINGS", type := .boolean, accessFlags := 24, slot := 1, constantValue := 0 }, { name := "serialPersistentFields", type := (.array (.object "java/io/ObjectStreamField")), accessFlags := 26, slot := 2, constantValue := 0 }, { name := "REPL", type := .char, accessFlags := 26, slot := 3, constantValue := 0 }, { name := "CASE_INSENSITIVE_ORDER", type := (.object "java/util/Comparator"), accessFlags := 25, slot := 4, constantValue := 0 }, { name := "LATIN1", type := .byte, accessFlags := 24, slot := 5, constantValue := 0 }, { name := "UTF16", type := .byte, accessFlags := 24, slot := 6, constantValue := 0 }]
  methods := #[k7m0, k7m1, k7m2, k7m3, k7m4, k7m5, k7m6, k7m7, k7m8, k7m9, k7m10, k7m11]
  instanceTypes := #[(.array .byte), .byte, .int, .boolean]
  staticTypes := #[.long, .boolean, (.array (.object "java/io/ObjectStreamField")), .char, (.object "java/util/Comparator"), .byte, .byte]
  resolved := Array.replicate 1451 none
  statics := some 0 }

def pool8 : Array CpInfo := pool [(3, .class_ 4), (0, u "java/lang/String"), (1, .class_ 8), (1, u "java/lang/Object"), (0, u "<init>"), (0, u "()V"), (0, .methodref 12 13), (0, .class_ 14), (0, .nameAndType 15 16), (0, u "java/lang/StringUTF16"), (0, u "newBytesLength"), (0, u "(I)I"), (3, .integer 1073741823), (23, .fieldref 12 45), (0, .nameAndType 46 47), (0, u "$assertionsDisabled"), (0, u "Z"), (0, .methodref 12 49), (0, .nameAndType 50 51), (0, u "length"), (0, u "([B)I"), (7, .fieldref 12 60), (0, .nameAndType 61 62), (0, u "HI_BYTE_SHIFT"), (0, u "I"), (0, .fieldref 12 64), (0, .nameAndType 65 62), (0, u "LO_BYTE_SHIFT"), (1, .methodref 12 68), (0, .nameAndType 69 70), (0, u "checkIndex"), (0, u "(I[B)V"), (0, .methodref 12 72), (0, .nameAndType 73 74), (0, u "getChar"), (0, u "([BI)C"), (24, u "(II[B)V"), (7, .methodref 12 108), (0, .nameAndType 109 110), (0, u "newBytesFor"), (0, u "(I)[B"), (0, .methodref 12 112), (0, .nameAndType 113 114), (0, u "putChar"), (0, u "([BII)V"), (0, .methodref 12 116), (0, .nameAndType 117 118), (0, u "compress"), (0, u "([CI[BII)I"), (0, .methodref 12 120), (0, .nameAndType 121 122), (0, u "toBytes"), (0, u "([CII)[B"), (17, u "inflate"), (0, u "([BI[BII)V"), (31, .methodref 12 174), (0, .nameAndType 175 99), (0, u "checkBoundsOffCount"), (85, u "coderFromArrayLen"), (0, u "([BI)B"), (18, u "(III)I"), (87, .class_ 371), (1, u "java/lang/StringUTF16$LinesSpliterator"), (20, u "charAt"), (21, .methodref 3 415), (0, .nameAndType 69 416), (0, u "(II)V"), (2, .methodref 3 420), (0, .nameAndType 175 281), (9, u "MAX_LENGTH"), (196, .class_ 628), (0, u "java/lang/StringUTF16$CodePointsSpliterator"), (0, .class_ 630), (0, u "java/lang/StringUTF16$CharsSpliterator")] 4

def k8m0 : Method := { name := "<init>", desc := "()V", sig := { parameters := [], returnType := none }, accessFlags := 0, code := none }
def k8c1 : Code := { maxStack := 1, maxLocals := 1, code := jdk_52_method_2_code, exceptionTable := #[], attributes := #[] }
def k8m1 : Method := { name := "newBytesFor", desc := "(I)[B", sig := { parameters := [.int], returnType := some (.array .byte) }, accessFlags := 9, code := some k8c1 }
def k8c2 : Code := { maxStack := 4, maxLocals := 1, code := jdk_52_method_3_code, exceptionTable := #[], attributes := #[] }
def k8m2 : Method := { name := "newBytesLength", desc := "(I)I", sig := { parameters := [.int], returnType := some .int }, accessFlags := 9, code := some k8c2 }
def k8c3 : Code := { maxStack := 4, maxLocals := 3, code := jdk_52_method_4_code, exceptionTable := #[], attributes := #[] }
def k8m3 : Method := { name := "putChar", desc := "([BII)V", sig := { parameters := [(.array .byte), .int, .int], returnType := none }, accessFlags := 8, code := some k8c3 }
def k8c4 : Code := { maxStack := 3, maxLocals := 2, code := jdk_52_method_5_code, exceptionTable := #[], attributes := #[] }
def k8m4 : Method := { name := "getChar", desc := "([BI)C", sig := { parameters := [(.array .byte), .int], returnType := some .char }, accessFlags := 8, code := some k8c4 }
def k8c5 : Code := { maxStack := 2, maxLocals := 1, code := jdk_52_method_6_code, exceptionTable := #[], attributes := #[] }
def k8m5 : Method := { name := "length", desc := "([B)I", sig := { parameters := [(.array .byte)], returnType := some .int }, accessFlags := 9, code := some k8c5 }
def k8c6 : Code := { maxStack := 4, maxLocals := 5, code := jdk_52_method_14_code, exceptionTable := #[], attributes := #[] }
def k8m6 : Method := { name := "toBytes", desc := "([CII)[B", sig := { parameters := [(.array .char), .int, .int], returnType := some (.array .byte) }, accessFlags := 9, code := some k8c6 }
def k8c7 : Code := { maxStack := 2, maxLocals := 2, code := jdk_52_method_15_code, exceptionTable := #[], attributes := #[] }
def k8m7 : Method := { name := "coderFromArrayLen", desc := "([BI)B", sig := { parameters := [(.array .byte), .int], returnType := some .byte }, accessFlags := 8, code := some k8c7 }
def k8c8 : Code := { maxStack := 5, maxLocals := 6, code := jdk_52_method_16_code, exceptionTable := #[], attributes := #[] }
def k8m8 : Method := { name := "compress", desc := "([CII)[B", sig := { parameters := [(.array .char), .int, .int], returnType := some (.array .byte) }, accessFlags := 9, code := some k8c8 }
def k8c9 : Code := { maxStack := 3, maxLocals := 7, code := jdk_52_method_21_code, exceptionTable := #[], attributes := #[] }
def k8m9 : Method := { name := "compress", desc := "([CI[BII)I", sig := { parameters := [(.array .char), .int, (.array .byte), .int, .int], returnType := some .int }, accessFlags := 9, code := some k8c9 }
def k8c10 : Code := { maxStack := 2, maxLocals := 2, code := jdk_52_method_83_code, exceptionTable := #[], attributes := #[] }
def k8m10 : Method := { name := "charAt", desc := "([BI)C", sig := { parameters := [(.array .byte), .int], returnType := some .char }, accessFlags := 9, code := some k8c10 }
def k8c11 : Code := { maxStack := 4, maxLocals := 6, code := jdk_52_method_86_code, exceptionTable := #[], attributes := #[] }
def k8m11 : Method := { name := "inflate", desc := "([BI[BII)V", sig := { parameters := [(.array .byte), .int, (.array .byte), .int, .int], returnType := none }, accessFlags := 9, code := some k8c11 }
def k8c12 : Code := { maxStack := 2, maxLocals := 2, code := jdk_52_method_91_code, exceptionTable := #[], attributes := #[] }
def k8m12 : Method := { name := "checkIndex", desc := "(I[B)V", sig := { parameters := [.int, (.array .byte)], returnType := none }, accessFlags := 9, code := some k8c12 }
def k8c13 : Code := { maxStack := 3, maxLocals := 3, code := jdk_52_method_94_code, exceptionTable := #[], attributes := #[] }
def k8m13 : Method := { name := "checkBoundsOffCount", desc := "(II[B)V", sig := { parameters := [.int, .int, (.array .byte)], returnType := none }, accessFlags := 9, code := some k8c13 }
/-- java/lang/StringUTF16 -/
def k8 : Class := { plain "java/lang/StringUTF16" (some 0) with
  accessFlags := 48
  interfaces := #[]
  cf := some (fileOf pool8 12 #[.nestMembers #[627, 629, 369]] #[{ accessFlags := 0, nameIndex := 9, descriptorIndex := 10, attributes := #[] }, { accessFlags := 9, nameIndex := 109, descriptorIndex := 110, attributes := #[] }, { accessFlags := 9, nameIndex := 15, descriptorIndex := 16, attributes := #[] }, { accessFlags := 8, nameIndex := 113, descriptorIndex := 114, attributes := #[] }, { accessFlags := 8, nameIndex := 73, descriptorIndex := 74, attributes := #[] }, { accessFlags := 9, nameIndex := 50, descriptorIndex := 51, attributes := #[] }, { accessFlags := 9, nameIndex := 121, descriptorIndex := 122, attributes := #[] }, { accessFlags := 8, nameIndex := 261, descriptorIndex := 262, attributes := #[] }, { accessFlags := 9, nameIndex := 117, descriptorIndex := 122, attributes := #[] }, { accessFlags := 9, nameIndex := 117, descriptorIndex := 118, attributes := #[] }, { accessFlags := 9, nameIndex := 392, descriptorIndex := 74, attributes := #[] }, { accessFlags := 9, nameIndex := 140, descriptorIndex := 141, attributes := #[] }, { accessFlags := 9, nameIndex := 69, descriptorIndex := 70, attributes := #[] }, { accessFlags := 9, nameIndex := 175, descriptorIndex := 99, attributes := #[] }] 48 6 #[] #[{ accessFlags := 26, nameIndex := 61, descriptorIndex := 62, attributes := #[] }, { accessFlags := 26, nameIndex := 65, descriptorIndex := 62, attributes := #[] }, { accessFlags := 24, nameIndex := 430, descriptorIndex := 62, attributes := #[] }, { accessFlags := 4120, nameIndex := 46, descriptorIndex := 47, attributes := #[] }])
  fields := #[{ name := "HI_BYTE_SHIFT", type := .int, accessFlags := 26, slot := 0, constantValue := 0 }, { name := "LO_BYTE_SHIFT", type := .int, accessFlags := 26, slot := 1, constantValue := 0 }, { name := "MAX_LENGTH", type := .int, accessFlags := 24, slot := 2, constantValue := 0 }, { name := "$assertionsDisabled", type := .boolean, accessFlags := 4120, slot := 3, constantValue := 0 }]
  methods := #[k8m0, k8m1, k8m2, k8m3, k8m4, k8m5, k8m6, k8m7, k8m8, k8m9, k8m10, k8m11, k8m12, k8m13]
  instanceTypes := #[]
  staticTypes := #[.int, .int, .int, .boolean]
  resolved := Array.replicate 635 none
  statics := some 1 }

def pool9 : Array CpInfo := pool [(2, .class_ 4), (1, u "java/lang/Enum"), (0, u "name"), (0, u "Ljava/lang/String;"), (2, u "ordinal"), (0, u "I"), (1, .class_ 14), (1, u "java/lang/Object"), (4, u "hash"), (86, .class_ 108), (1, u "java/lang/Enum$EnumDesc"), (2, .class_ 112), (0, u "java/lang/constant/Constable"), (0, .class_ 114), (0, u "java/lang/Comparable"), (0, .class_ 116), (0, u "java/io/Serializable")] 87

/-- java/lang/Enum -/
def k9 : Class := { plain "java/lang/Enum" (some 0) with
  accessFlags := 1057
  interfaces := #[5, 3, 2]
  cf := some (fileOf pool9 2 #[.nestMembers #[106]] #[] 1057 12 #[111, 113, 115] #[{ accessFlags := 18, nameIndex := 5, descriptorIndex := 6, attributes := #[] }, { accessFlags := 18, nameIndex := 9, descriptorIndex := 10, attributes := #[] }, { accessFlags := 2, nameIndex := 19, descriptorIndex := 10, attributes := #[] }])
  fields := #[{ name := "name", type := (.object "java/lang/String"), accessFlags := 18, slot := 0, constantValue := 0 }, { name := "ordinal", type := .int, accessFlags := 18, slot := 1, constantValue := 0 }, { name := "hash", type := .int, accessFlags := 2, slot := 2, constantValue := 0 }]
  methods := #[]
  instanceTypes := #[(.object "java/lang/String"), .int, .int]
  staticTypes := #[]
  resolved := Array.replicate 204 none
  statics := none }

def pool10 : Array CpInfo := pool [(1, .class_ 2), (0, u "com/example/harvest_rules/harvestrules/registry/SecretReference$Kind"), (2, u "ENV"), (0, u "Lcom/example/harvest_rules/harvestrules/registry/SecretReference$Kind;"), (2, u "FILE"), (2, u "$VALUES"), (0, u "[Lcom/example/harvest_rules/harvestrules/registry/SecretReference$Kind;"), (6, .class_ 22), (1, u "java/lang/Enum"), (6, .fieldref 1 30), (0, .nameAndType 31 32), (0, u "prefix"), (0, u "Ljava/lang/String;"), (20, u "()Ljava/lang/String;"), (6, .class_ 61), (0, u "com/example/harvest_rules/harvestrules/registry/SecretReference")] 2

def k10c0 : Code := { maxStack := 1, maxLocals := 1, code := prog_53_method_4_code, exceptionTable := #[], attributes := #[] }
def k10m0 : Method := { name := "prefix", desc := "()Ljava/lang/String;", sig := { parameters := [], returnType := some (.object "java/lang/String") }, accessFlags := 1, code := some k10c0 }
/-- com/example/harvest_rules/harvestrules/registry/SecretReference$Kind -/
def k10 : Class := { plain "com/example/harvest_rules/harvestrules/registry/SecretReference$Kind" (some 9) with
  accessFlags := 16433
  interfaces := #[]
  cf := some (fileOf pool10 1 #[.nestHost 60] #[{ accessFlags := 1, nameIndex := 31, descriptorIndex := 53, attributes := #[] }] 16433 20 #[] #[{ accessFlags := 16409, nameIndex := 5, descriptorIndex := 6, attributes := #[] }, { accessFlags := 16409, nameIndex := 9, descriptorIndex := 6, attributes := #[] }, { accessFlags := 18, nameIndex := 31, descriptorIndex := 32, attributes := #[] }, { accessFlags := 4122, nameIndex := 12, descriptorIndex := 13, attributes := #[] }])
  fields := #[{ name := "ENV", type := (.object "com/example/harvest_rules/harvestrules/registry/SecretReference$Kind"), accessFlags := 16409, slot := 0, constantValue := 0 }, { name := "FILE", type := (.object "com/example/harvest_rules/harvestrules/registry/SecretReference$Kind"), accessFlags := 16409, slot := 1, constantValue := 0 }, { name := "prefix", type := (.object "java/lang/String"), accessFlags := 18, slot := 3, constantValue := 0 }, { name := "$VALUES", type := (.array (.object "com/example/harvest_rules/harvestrules/registry/SecretReference$Kind")), accessFlags := 4122, slot := 2, constantValue := 0 }]
  methods := #[k10m0]
  instanceTypes := #[(.object "java/lang/String"), .int, .int, (.object "java/lang/String")]
  staticTypes := #[(.object "com/example/harvest_rules/harvestrules/registry/SecretReference$Kind"), (.object "com/example/harvest_rules/harvestrules/registry/SecretReference$Kind"), (.array (.object "com/example/harvest_rules/harvestrules/registry/SecretReference$Kind"))]
  resolved := Array.replicate 64 none
  statics := some 2 }

def pool11 : Array CpInfo := pool [(1, .methodref 2 3), (0, .class_ 4), (0, .nameAndType 5 6), (0, u "java/lang/Object"), (0, u "<init>"), (0, u "()V"), (0, .class_ 8), (0, u "java/lang/Record")] 13

def k11c0 : Code := { maxStack := 1, maxLocals := 1, code := jdk_30_method_1_code, exceptionTable := #[], attributes := #[] }
def k11m0 : Method := { name := "<init>", desc := "()V", sig := { parameters := [], returnType := none }, accessFlags := 4, code := some k11c0 }
/-- java/lang/Record -/
def k11 : Class := { plain "java/lang/Record" (some 0) with
  accessFlags := 1057
  interfaces := #[]
  cf := some (fileOf pool11 7 #[] #[{ accessFlags := 4, nameIndex := 5, descriptorIndex := 6, attributes := #[] }] 1057 2 #[] #[])
  fields := #[]
  methods := #[k11m0]
  instanceTypes := #[]
  staticTypes := #[]
  resolved := Array.replicate 22 none
  statics := none }

def pool12 : Array CpInfo := pool [(1, .methodref 2 3), (0, .class_ 4), (0, .nameAndType 5 6), (0, u "java/lang/Record"), (0, u "<init>"), (0, u "()V"), (0, .fieldref 8 9), (0, .class_ 10), (0, .nameAndType 11 12), (0, u "com/example/harvest_rules/harvestrules/registry/SecretReference"), (0, u "kind"), (0, u "Lcom/example/harvest_rules/harvestrules/registry/SecretReference$Kind;"), (0, .fieldref 8 14), (0, .nameAndType 15 16), (0, u "target"), (0, u "Ljava/lang/String;"), (23, .class_ 42), (1, u "com/example/harvest_rules/harvestrules/registry/SecretReference$Kind"), (7, .class_ 51), (0, u "com/example/harvest_rules/harvestrules/registry/SecretReference$Unresolved"), (0, .class_ 53), (0, u "java/lang/StringBuilder"), (0, .methodref 52 3), (2, .methodref 52 58), (0, .nameAndType 59 60), (0, u "append"), (0, u "(Ljava/lang/String;)Ljava/lang/StringBuilder;"), (2, .methodref 52 64), (0, .nameAndType 65 66), (0, u "toString"), (0, u "()Ljava/lang/String;"), (27, .methodref 40 95), (0, .nameAndType 96 66), (0, u "prefix"), (140, u "(Lcom/example/harvest_rules/harvestrules/registry/SecretReference$Kind;Ljava/lang/String;)V"), (11, u "COLUMN"), (3, u "MASK"), (2, u "MAX_SECRET_BYTES"), (0, u "I")] 73

def k12c0 : Code := { maxStack := 2, maxLocals := 3, code := prog_52_method_1_code, exceptionTable := #[], attributes := #[] }
def k12m0 : Method := { name := "<init>", desc := "(Lcom/example/harvest_rules/harvestrules/registry/SecretReference$Kind;Ljava/lang/String;)V", sig := { parameters := [(.object "com/example/harvest_rules/harvestrules/registry/SecretReference$Kind"), (.object "java/lang/String")], returnType := none }, accessFlags := 1, code := some k12c0 }
def k12c1 : Code := { maxStack := 2, maxLocals := 1, code := prog_52_method_4_code, exceptionTable := #[], attributes := #[] }
def k12m1 : Method := { name := "toString", desc := "()Ljava/lang/String;", sig := { parameters := [], returnType := some (.object "java/lang/String") }, accessFlags := 1, code := some k12c1 }
/-- com/example/harvest_rules/harvestrules/registry/SecretReference -/
def k12 : Class := { plain "com/example/harvest_rules/harvestrules/registry/SecretReference" (some 11) with
  accessFlags := 49
  interfaces := #[]
  cf := some (fileOf pool12 8 #[.nestMembers #[50, 40]] #[{ accessFlags := 1, nameIndex := 5, descriptorIndex := 237, attributes := #[] }, { accessFlags := 1, nameIndex := 65, descriptorIndex := 66, attributes := #[] }] 49 2 #[] #[{ accessFlags := 18, nameIndex := 11, descriptorIndex := 12, attributes := #[] }, { accessFlags := 18, nameIndex := 15, descriptorIndex := 16, attributes := #[] }, { accessFlags := 25, nameIndex := 249, descriptorIndex := 16, attributes := #[] }, { accessFlags := 25, nameIndex := 253, descriptorIndex := 16, attributes := #[] }, { accessFlags := 26, nameIndex := 256, descriptorIndex := 257, attributes := #[] }])
  fields := #[{ name := "kind", type := (.object "com/example/harvest_rules/harvestrules/registry/SecretReference$Kind"), accessFlags := 18, slot := 0, constantValue := 0 }, { name := "target", type := (.object "java/lang/String"), accessFlags := 18, slot := 1, constantValue := 0 }, { name := "COLUMN", type := (.object "java/lang/String"), accessFlags := 25, slot := 0, constantValue := 0 }, { name := "MASK", type := (.object "java/lang/String"), accessFlags := 25, slot := 1, constantValue := 0 }, { name := "MAX_SECRET_BYTES", type := .int, accessFlags := 26, slot := 2, constantValue := 0 }]
  methods := #[k12m0, k12m1]
  instanceTypes := #[(.object "com/example/harvest_rules/harvestrules/registry/SecretReference$Kind"), (.object "java/lang/String")]
  staticTypes := #[(.object "java/lang/String"), (.object "java/lang/String"), .int]
  resolved := Array.replicate 331 none
  statics := none }

def pool13 : Array CpInfo := pool [(1, .class_ 2), (0, u "java/lang/Appendable"), (0, .class_ 4), (0, u "java/lang/Object")] 9

/-- java/lang/Appendable -/
def k13 : Class := { plain "java/lang/Appendable" (some 0) with
  accessFlags := 1537
  interfaces := #[]
  cf := some (fileOf pool13 1 #[] #[] 1537 3 #[] #[])
  fields := #[]
  methods := #[]
  instanceTypes := #[]
  staticTypes := #[]
  resolved := Array.replicate 14 none
  statics := none }

def pool14 : Array CpInfo := pool [(1, .class_ 2), (0, u "java/lang/String"), (0, .methodref 4 5), (0, .class_ 6), (0, .nameAndType 7 8), (0, u "java/lang/Object"), (0, u "<init>"), (0, u "()V"), (1, .class_ 12), (1, u "java/lang/AbstractStringBuilder"), (0, u "EMPTYVALUE"), (0, u "[B"), (0, .fieldref 10 16), (0, .nameAndType 17 14), (0, u "value"), (0, .fieldref 1 19), (0, .nameAndType 20 21), (0, u "COMPACT_STRINGS"), (0, u "Z"), (0, .fieldref 10 23), (0, .nameAndType 24 25), (0, u "coder"), (0, u "B"), (0, .methodref 27 28), (0, .class_ 29), (0, .nameAndType 30 31), (0, u "java/lang/StringUTF16"), (0, u "newBytesFor"), (0, u "(I)[B"), (0, .methodref 1 33), (0, .nameAndType 34 35), (0, u "length"), (0, u "()I"), (4, .methodref 1 41), (0, .nameAndType 24 42), (0, u "()B"), (2, u "append"), (0, u "(Ljava/lang/String;)Ljava/lang/AbstractStringBuilder;"), (1, .class_ 49), (0, u "java/lang/CharSequence"), (19, u "(Ljava/lang/String;)V"), (5, u "maybeLatin1"), (3, .fieldref 10 80), (0, .nameAndType 81 82), (0, u "count"), (0, u "I"), (0, .methodref 10 84), (0, .nameAndType 85 86), (0, u "isLatin1"), (0, u "()Z"), (1, .class_ 90), (1, u "java/lang/StringLatin1"), (9, .methodref 10 101), (0, .nameAndType 102 103), (0, u "ensureCapacityInternal"), (0, u "(I)V"), (21, .methodref 88 126), (0, .nameAndType 127 128), (0, u "inflate"), (0, u "([BI[BII)V"), (66, .methodref 10 196), (0, .nameAndType 127 8), (11, .methodref 10 209), (0, .nameAndType 210 211), (0, u "putStringAt"), (0, u "(ILjava/lang/String;)V"), (5, u "inflateIfNeededFor"), (2, .nameAndType 221 222), (0, u "getBytes"), (0, u "([BIB)V"), (174, .methodref 10 398), (0, .nameAndType 217 69), (0, .methodref 1 220), (3, u "()[B"), (40, .class_ 445), (0, u "java/lang/Appendable"), (106, u "getValue")] 56

def k14m0 : Method := { name := "<init>", desc := "()V", sig := { parameters := [], returnType := none }, accessFlags := 0, code := none }
def k14c1 : Code := { maxStack := 2, maxLocals := 2, code := jdk_68_method_2_code, exceptionTable := #[], attributes := #[] }
def k14m1 : Method := { name := "<init>", desc := "(I)V", sig := { parameters := [.int], returnType := none }, accessFlags := 0, code := some k14c1 }
def k14c2 : Code := { maxStack := 1, maxLocals := 1, code := jdk_68_method_6_code, exceptionTable := #[], attributes := #[] }
def k14m2 : Method := { name := "length", desc := "()I", sig := { parameters := [], returnType := some .int }, accessFlags := 1, code := some k14c2 }
def k14c3 : Code := { maxStack := 4, maxLocals := 3, code := jdk_68_method_9_code, exceptionTable := #[], attributes := #[] }
def k14m3 : Method := { name := "ensureCapacityInternal", desc := "(I)V", sig := { parameters := [.int], returnType := none }, accessFlags := 2, code := some k14c3 }
def k14c4 : Code := { maxStack := 5, maxLocals := 2, code := jdk_68_method_11_code, exceptionTable := #[], attributes := #[] }
def k14m4 : Method := { name := "inflate", desc := "()V", sig := { parameters := [], returnType := none }, accessFlags := 2, code := some k14c4 }
def k14c5 : Code := { maxStack := 3, maxLocals := 3, code := jdk_68_method_22_code, exceptionTable := #[], attributes := #[] }
def k14m5 : Method := { name := "append", desc := "(Ljava/lang/String;)Ljava/lang/AbstractStringBuilder;", sig := { parameters := [(.object "java/lang/String")], returnType := some (.object "java/lang/AbstractStringBuilder") }, accessFlags := 1, code := some k14c5 }
def k14c6 : Code := { maxStack := 1, maxLocals := 1, code := jdk_68_method_64_code, exceptionTable := #[], attributes := #[] }
def k14m6 : Method := { name := "getValue", desc := "()[B", sig := { parameters := [], returnType := some (.array .byte) }, accessFlags := 16, code := some k14c6 }
def k14c7 : Code := { maxStack := 1, maxLocals := 1, code := jdk_68_method_68_code, exceptionTable := #[], attributes := #[] }
def k14m7 : Method := { name := "isLatin1", desc := "()Z", sig := { parameters := [], returnType := some .boolean }, accessFlags := 16, code := some k14c7 }
def k14c8 : Code := { maxStack := 2, maxLocals := 2, code := jdk_68_method_71_code, exceptionTable := #[], attributes := #[] }
def k14m8 : Method := { name := "inflateIfNeededFor", desc := "(Ljava/lang/String;)V", sig := { parameters := [(.object "java/lang/String")], returnType := none }, accessFlags := 2, code := some k14c8 }
def k14c9 : Code := { maxStack := 4, maxLocals := 3, code := jdk_68_method_73_code, exceptionTable := #[], attributes := #[] }
def k14m9 : Method := { name := "putStringAt", desc := "(ILjava/lang/String;)V", sig := { parameters := [.int, (.object "java/lang/String")], returnType := none }, accessFlags := 2, code := some k14c9 }
/-- java/lang/AbstractStringBuilder -/
def k14 : Class := { plain "java/lang/AbstractStringBuilder" (some 0) with
  accessFlags := 1056
  interfaces := #[13, 4]
  cf := some (fileOf pool14 10 #[] #[{ accessFlags := 0, nameIndex := 7, descriptorIndex := 8, attributes := #[] }, { accessFlags := 0, nameIndex := 7, descriptorIndex := 103, attributes := #[] }, { accessFlags := 1, nameIndex := 34, descriptorIndex := 35, attributes := #[] }, { accessFlags := 2, nameIndex := 102, descriptorIndex := 103, attributes := #[] }, { accessFlags := 2, nameIndex := 127, descriptorIndex := 8, attributes := #[] }, { accessFlags := 1, nameIndex := 45, descriptorIndex := 46, attributes := #[] }, { accessFlags := 16, nameIndex := 552, descriptorIndex := 403, attributes := #[] }, { accessFlags := 16, nameIndex := 85, descriptorIndex := 86, attributes := #[] }, { accessFlags := 2, nameIndex := 217, descriptorIndex := 69, attributes := #[] }, { accessFlags := 2, nameIndex := 210, descriptorIndex := 211, attributes := #[] }] 1056 4 #[444, 48] #[{ accessFlags := 0, nameIndex := 17, descriptorIndex := 14, attributes := #[] }, { accessFlags := 0, nameIndex := 24, descriptorIndex := 25, attributes := #[] }, { accessFlags := 0, nameIndex := 75, descriptorIndex := 21, attributes := #[] }, { accessFlags := 0, nameIndex := 81, descriptorIndex := 82, attributes := #[] }, { accessFlags := 26, nameIndex := 13, descriptorIndex := 14, attributes := #[] }])
  fields := #[{ name := "value", type := (.array .byte), accessFlags := 0, slot := 0, constantValue := 0 }, { name := "coder", type := .byte, accessFlags := 0, slot := 1, constantValue := 0 }, { name := "maybeLatin1", type := .boolean, accessFlags := 0, slot := 2, constantValue := 0 }, { name := "count", type := .int, accessFlags := 0, slot := 3, constantValue := 0 }, { name := "EMPTYVALUE", type := (.array .byte), accessFlags := 26, slot := 0, constantValue := 0 }]
  methods := #[k14m0, k14m1, k14m2, k14m3, k14m4, k14m5, k14m6, k14m7, k14m8, k14m9]
  instanceTypes := #[(.array .byte), .byte, .boolean, .int]
  staticTypes := #[(.array .byte)]
  resolved := Array.replicate 609 none
  statics := none }

def pool15 : Array CpInfo := pool [(1, .methodref 2 3), (0, .class_ 4), (0, .nameAndType 5 6), (0, u "java/lang/AbstractStringBuilder"), (0, u "<init>"), (0, u "(I)V"), (11, .class_ 20), (1, u "java/lang/String"), (3, .class_ 26), (1, u "java/lang/StringBuilder"), (0, u "append"), (0, u "(Ljava/lang/String;)Ljava/lang/StringBuilder;"), (0, .methodref 2 30), (0, .nameAndType 27 31), (0, u "(Ljava/lang/String;)Ljava/lang/AbstractStringBuilder;"), (105, .methodref 18 138), (0, .nameAndType 5 139), (0, u "(Ljava/lang/StringBuilder;)V"), (5, u "()V"), (10, u "()I"), (186, .methodref 2 344), (0, .nameAndType 345 156), (0, u "length"), (3, .class_ 350), (0, u "java/lang/Appendable"), (0, .class_ 352), (0, u "java/io/Serializable"), (0, .class_ 354), (0, u "java/lang/Comparable"), (0, .class_ 356), (0, u "java/lang/CharSequence"), (0, u "serialVersionUID"), (0, u "J"), (40, u "toString"), (0, u "()Ljava/lang/String;")] 21

def k15c0 : Code := { maxStack := 2, maxLocals := 1, code := jdk_67_method_1_code, exceptionTable := #[], attributes := #[] }
def k15m0 : Method := { name := "<init>", desc := "()V", sig := { parameters := [], returnType := none }, accessFlags := 1, code := some k15c0 }
def k15c1 : Code := { maxStack := 2, maxLocals := 2, code := jdk_67_method_7_code, exceptionTable := #[], attributes := #[] }
def k15m1 : Method := { name := "append", desc := "(Ljava/lang/String;)Ljava/lang/StringBuilder;", sig := { parameters := [(.object "java/lang/String")], returnType := some (.object "java/lang/StringBuilder") }, accessFlags := 1, code := some k15c1 }
def k15c2 : Code := { maxStack := 3, maxLocals := 1, code := jdk_67_method_42_code, exceptionTable := #[], attributes := #[] }
def k15m2 : Method := { name := "toString", desc := "()Ljava/lang/String;", sig := { parameters := [], returnType := some (.object "java/lang/String") }, accessFlags := 1, code := some k15c2 }
def k15c3 : Code := { maxStack := 1, maxLocals := 1, code := jdk_67_method_93_code, exceptionTable := #[], attributes := #[] }
def k15m3 : Method := { name := "length", desc := "()I", sig := { parameters := [], returnType := some .int }, accessFlags := 4161, code := some k15c3 }
/-- java/lang/StringBuilder -/
def k15 : Class := { plain "java/lang/StringBuilder" (some 14) with
  accessFlags := 49
  interfaces := #[13, 2, 3, 4]
  cf := some (fileOf pool15 24 #[] #[{ accessFlags := 1, nameIndex := 5, descriptorIndex := 145, attributes := #[] }, { accessFlags := 1, nameIndex := 27, descriptorIndex := 28, attributes := #[] }, { accessFlags := 1, nameIndex := 399, descriptorIndex := 400, attributes := #[] }, { accessFlags := 4161, nameIndex := 345, descriptorIndex := 156, attributes := #[] }] 49 2 #[349, 351, 353, 355] #[{ accessFlags := 24, nameIndex := 357, descriptorIndex := 358, attributes := #[] }])
  fields := #[{ name := "serialVersionUID", type := .long, accessFlags := 24, slot := 0, constantValue := 0 }]
  methods := #[k15m0, k15m1, k15m2, k15m3]
  instanceTypes := #[(.array .byte), .byte, .boolean, .int]
  staticTypes := #[.long]
  resolved := Array.replicate 422 none
  statics := none }

def pool16 : Array CpInfo := pool [(2, .class_ 4), (1, u "java/lang/Object"), (0, u "<init>"), (0, u "()V"), (1, .class_ 10), (1, u "java/lang/System"), (0, u "allowSecurityManager"), (0, u "I"), (16, u "cons"), (0, u "Ljava/io/Console;"), (77, .class_ 110), (1, u "java/lang/System$CallersHolder"), (43, u "initialErrStream"), (0, u "Ljava/io/PrintStream;"), (19, u "security"), (0, u "Ljava/lang/SecurityManager;"), (31, .class_ 209), (0, u "java/lang/System$1"), (7, u "props"), (0, u "Ljava/util/Properties;"), (2, u "lineSeparator"), (0, u "Ljava/lang/String;"), (96, .class_ 321), (1, u "java/lang/System$LoggerFinder"), (5, .class_ 328), (0, u "java/lang/System$Logger"), (67, u "err"), (2, u "out"), (91, u "notSupportedJnuEncoding"), (15, u "in"), (17, u "initialIn"), (0, u "Ljava/io/InputStream;"), (35, u "bootLayer"), (0, u "Ljava/lang/ModuleLayer;"), (99, .class_ 664), (0, u "java/lang/System$2"), (9, u "NEVER"), (2, u "MAYBE"), (49, u "arraycopy"), (0, u "(Ljava/lang/Object;ILjava/lang/Object;II)V"), (72, .class_ 802), (0, u "java/lang/System$Logger$Level")] 31

def k16m0 : Method := { name := "<init>", desc := "()V", sig := { parameters := [], returnType := none }, accessFlags := 2, code := none }
def k16m1 : Method := { name := "arraycopy", desc := "(Ljava/lang/Object;ILjava/lang/Object;II)V", sig := { parameters := [(.object "java/lang/Object"), .int, (.object "java/lang/Object"), .int, .int], returnType := none }, accessFlags := 265, code := none }
/-- java/lang/System -/
def k16 : Class := { plain "java/lang/System" (some 0) with
  accessFlags := 49
  interfaces := #[]
  cf := some (fileOf pool16 8 #[.nestMembers #[319, 327, 801, 108, 663, 208]] #[{ accessFlags := 2, nameIndex := 5, descriptorIndex := 6, attributes := #[] }, { accessFlags := 265, nameIndex := 727, descriptorIndex := 728, attributes := #[] }] 49 2 #[] #[{ accessFlags := 25, nameIndex := 507, descriptorIndex := 526, attributes := #[] }, { accessFlags := 25, nameIndex := 399, descriptorIndex := 155, attributes := #[] }, { accessFlags := 25, nameIndex := 396, descriptorIndex := 155, attributes := #[] }, { accessFlags := 10, nameIndex := 525, descriptorIndex := 526, attributes := #[] }, { accessFlags := 26, nameIndex := 674, descriptorIndex := 12, attributes := #[] }, { accessFlags := 26, nameIndex := 677, descriptorIndex := 12, attributes := #[] }, { accessFlags := 10, nameIndex := 11, descriptorIndex := 12, attributes := #[] }, { accessFlags := 74, nameIndex := 175, descriptorIndex := 176, attributes := #[] }, { accessFlags := 10, nameIndex := 491, descriptorIndex := 222, attributes := #[] }, { accessFlags := 74, nameIndex := 29, descriptorIndex := 30, attributes := #[] }, { accessFlags := 74, nameIndex := 154, descriptorIndex := 155, attributes := #[] }, { accessFlags := 10, nameIndex := 217, descriptorIndex := 218, attributes := #[] }, { accessFlags := 10, nameIndex := 221, descriptorIndex := 222, attributes := #[] }, { accessFlags := 8, nameIndex := 562, descriptorIndex := 563, attributes := #[] }])
  fields := #[{ name := "in", type := (.object "java/io/InputStream"), accessFlags := 25, slot := 0, constantValue := 0 }, { name := "out", type := (.object "java/io/PrintStream"), accessFlags := 25, slot := 1, constantValue := 0 }, { name := "err", type := (.object "java/io/PrintStream"), accessFlags := 25, slot := 2, constantValue := 0 }, { name := "initialIn", type := (.object "java/io/InputStream"), accessFlags := 10, slot := 3, constantValue := 0 }, { name := "NEVER", type := .int, accessFlags := 26, slot := 4, constantValue := 0 }, { name := "MAYBE", type := .int, accessFlags := 26, slot := 5, constantValue := 0 }, { name := "allowSecurityManager", type := .int, accessFlags := 10, slot := 6, constantValue := 0 }, { name := "security", type := (.object "java/lang/SecurityManager"), accessFlags := 74, slot := 7, constantValue := 0 }, { name := "notSupportedJnuEncoding", type := (.object "java/lang/String"), accessFlags := 10, slot := 8, constantValue := 0 }, { name := "cons", type := (.object "java/io/Console"), accessFlags := 74, slot := 9, constantValue := 0 }, { name := "initialErrStream", type := (.object "java/io/PrintStream"), accessFlags := 74, slot := 10, constantValue := 0 }, { name := "props", type := (.object "java/util/Properties"), accessFlags := 10, slot := 11, constantValue := 0 }, { name := "lineSeparator", type := (.object "java/lang/String"), accessFlags := 10, slot := 12, constantValue := 0 }, { name := "bootLayer", type := (.object "java/lang/ModuleLayer"), accessFlags := 8, slot := 13, constantValue := 0 }]
  methods := #[k16m0, k16m1]
  instanceTypes := #[]
  staticTypes := #[(.object "java/io/InputStream"), (.object "java/io/PrintStream"), (.object "java/io/PrintStream"), (.object "java/io/InputStream"), .int, .int, .int, (.object "java/lang/SecurityManager"), (.object "java/lang/String"), (.object "java/io/Console"), (.object "java/io/PrintStream"), (.object "java/util/Properties"), (.object "java/lang/String"), (.object "java/lang/ModuleLayer")]
  resolved := Array.replicate 834 none
  statics := none }

def pool17 : Array CpInfo := pool [(2, .class_ 4), (1, u "java/lang/Object"), (0, u "<init>"), (0, u "()V"), (7, .class_ 16), (1, u "java/util/Arrays"), (57, .class_ 76), (1, u "java/util/Arrays$NaturalOrder"), (36, .class_ 115), (1, u "java/util/Arrays$LegacyMergeSort"), (1, u "Z"), (21, u "copyOfRange"), (10, .methodref 151 152), (0, .class_ 153), (0, .nameAndType 154 155), (0, u "java/lang/System"), (0, u "arraycopy"), (0, u "(Ljava/lang/Object;ILjava/lang/Object;II)V"), (148, .methodref 305 306), (0, .class_ 307), (0, .nameAndType 308 309), (0, u "java/lang/Math"), (0, u "min"), (0, u "(II)I"), (29, .methodref 14 340), (0, .nameAndType 341 342), (0, u "copyOfRangeByte"), (0, u "([BII)[B"), (0, .methodref 14 344), (0, .nameAndType 345 346), (0, u "checkLength"), (0, u "(II)V"), (28, .class_ 376), (0, u "java/util/Arrays$ArrayList"), (68, u "$assertionsDisabled"), (269, u "MIN_ARRAY_SORT_GRAN"), (0, u "I"), (2, u "INSERTIONSORT_THRESHOLD"), (255, .class_ 976), (0, u "java/util/Arrays$ArrayItr")] 52

def k17m0 : Method := { name := "<init>", desc := "()V", sig := { parameters := [], returnType := none }, accessFlags := 2, code := none }
def k17c1 : Code := { maxStack := 4, maxLocals := 2, code := jdk_65_method_131_code, exceptionTable := #[], attributes := #[] }
def k17m1 : Method := { name := "checkLength", desc := "(II)V", sig := { parameters := [.int, .int], returnType := none }, accessFlags := 10, code := some k17c1 }
def k17c2 : Code := { maxStack := 3, maxLocals := 3, code := jdk_65_method_132_code, exceptionTable := #[], attributes := #[] }
def k17m2 : Method := { name := "copyOfRange", desc := "([BII)[B", sig := { parameters := [(.array .byte), .int, .int], returnType := some (.array .byte) }, accessFlags := 9, code := some k17c2 }
def k17c3 : Code := { maxStack := 6, maxLocals := 5, code := jdk_65_method_133_code, exceptionTable := #[], attributes := #[] }
def k17m3 : Method := { name := "copyOfRangeByte", desc := "([BII)[B", sig := { parameters := [(.array .byte), .int, .int], returnType := some (.array .byte) }, accessFlags := 10, code := some k17c3 }
/-- java/util/Arrays -/
def k17 : Class := { plain "java/util/Arrays" (some 0) with
  accessFlags := 49
  interfaces := #[]
  cf := some (fileOf pool17 14 #[.nestMembers #[975, 375, 113, 74]] #[{ accessFlags := 2, nameIndex := 5, descriptorIndex := 6, attributes := #[] }, { accessFlags := 10, nameIndex := 345, descriptorIndex := 346, attributes := #[] }, { accessFlags := 9, nameIndex := 139, descriptorIndex := 342, attributes := #[] }, { accessFlags := 10, nameIndex := 341, descriptorIndex := 342, attributes := #[] }] 49 2 #[] #[{ accessFlags := 26, nameIndex := 715, descriptorIndex := 716, attributes := #[] }, { accessFlags := 26, nameIndex := 719, descriptorIndex := 716, attributes := #[] }, { accessFlags := 4120, nameIndex := 445, descriptorIndex := 117, attributes := #[] }])
  fields := #[{ name := "MIN_ARRAY_SORT_GRAN", type := .int, accessFlags := 26, slot := 0, constantValue := 0 }, { name := "INSERTIONSORT_THRESHOLD", type := .int, accessFlags := 26, slot := 1, constantValue := 0 }, { name := "$assertionsDisabled", type := .boolean, accessFlags := 4120, slot := 2, constantValue := 0 }]
  methods := #[k17m0, k17m1, k17m2, k17m3]
  instanceTypes := #[]
  staticTypes := #[.int, .int, .boolean]
  resolved := Array.replicate 1029 none
  statics := none }

def pool18 : Array CpInfo := pool [(1, .class_ 2), (0, u "java/lang/Math"), (1, .class_ 6), (1, u "java/lang/Object"), (0, u "<init>"), (0, u "()V"), (89, .class_ 100), (1, u "java/lang/Math$RandomNumberGeneratorHolder"), (71, u "negativeZeroFloatBits"), (0, u "J"), (2, u "negativeZeroDoubleBits"), (24, u "min"), (43, u "$assertionsDisabled"), (0, u "Z"), (88, u "(II)I"), (2, u "twoToTheDoubleScaleDown"), (0, u "D"), (4, u "twoToTheDoubleScaleUp"), (9, u "E"), (3, u "PI"), (2, u "TAU"), (2, u "DEGREES_TO_RADIANS"), (0, u "RADIANS_TO_DEGREES")] 94

def k18m0 : Method := { name := "<init>", desc := "()V", sig := { parameters := [], returnType := none }, accessFlags := 2, code := none }
def k18c1 : Code := { maxStack := 2, maxLocals := 2, code := jdk_29_method_69_code, exceptionTable := #[], attributes := #[] }
def k18m1 : Method := { name := "min", desc := "(II)I", sig := { parameters := [.int, .int], returnType := some .int }, accessFlags := 9, code := some k18c1 }
/-- java/lang/Math -/
def k18 : Class := { plain "java/lang/Math" (some 0) with
  accessFlags := 49
  interfaces := #[]
  cf := some (fileOf pool18 1 #[.nestMembers #[98]] #[{ accessFlags := 2, nameIndex := 7, descriptorIndex := 8, attributes := #[] }, { accessFlags := 9, nameIndex := 201, descriptorIndex := 335, attributes := #[] }] 49 4 #[] #[{ accessFlags := 25, nameIndex := 354, descriptorIndex := 339, attributes := #[] }, { accessFlags := 25, nameIndex := 358, descriptorIndex := 339, attributes := #[] }, { accessFlags := 25, nameIndex := 361, descriptorIndex := 339, attributes := #[] }, { accessFlags := 26, nameIndex := 364, descriptorIndex := 339, attributes := #[] }, { accessFlags := 26, nameIndex := 365, descriptorIndex := 339, attributes := #[] }, { accessFlags := 26, nameIndex := 172, descriptorIndex := 173, attributes := #[] }, { accessFlags := 26, nameIndex := 176, descriptorIndex := 173, attributes := #[] }, { accessFlags := 8, nameIndex := 344, descriptorIndex := 339, attributes := #[] }, { accessFlags := 8, nameIndex := 338, descriptorIndex := 339, attributes := #[] }, { accessFlags := 4120, nameIndex := 245, descriptorIndex := 246, attributes := #[] }])
  fields := #[{ name := "E", type := .double, accessFlags := 25, slot := 0, constantValue := 0 }, { name := "PI", type := .double, accessFlags := 25, slot := 1, constantValue := 0 }, { name := "TAU", type := .double, accessFlags := 25, slot := 2, constantValue := 0 }, { name := "DEGREES_TO_RADIANS", type := .double, accessFlags := 26, slot := 3, constantValue := 0 }, { name := "RADIANS_TO_DEGREES", type := .double, accessFlags := 26, slot := 4, constantValue := 0 }, { name := "negativeZeroFloatBits", type := .long, accessFlags := 26, slot := 5, constantValue := 0 }, { name := "negativeZeroDoubleBits", type := .long, accessFlags := 26, slot := 6, constantValue := 0 }, { name := "twoToTheDoubleScaleUp", type := .double, accessFlags := 8, slot := 7, constantValue := 0 }, { name := "twoToTheDoubleScaleDown", type := .double, accessFlags := 8, slot := 8, constantValue := 0 }, { name := "$assertionsDisabled", type := .boolean, accessFlags := 4120, slot := 9, constantValue := 0 }]
  methods := #[k18m0, k18m1]
  instanceTypes := #[]
  staticTypes := #[.double, .double, .double, .double, .double, .long, .long, .double, .double, .boolean]
  resolved := Array.replicate 460 none
  statics := none }

def pool19 : Array CpInfo := pool [(1, .class_ 2), (0, u "java/lang/String"), (1, .class_ 6), (1, u "java/lang/Object"), (0, u "<init>"), (0, u "()V"), (0, .methodref 1 10), (0, .nameAndType 11 12), (0, u "checkIndex"), (0, u "(II)V"), (1, .class_ 16), (1, u "java/lang/StringLatin1"), (0, u "inflate"), (2, .class_ 22), (1, u "java/lang/StringUTF16"), (3, .nameAndType 17 27), (0, u "([BI[BII)V"), (25, u "([BI)C"), (67, u "$assertionsDisabled"), (0, u "Z"), (98, .class_ 223), (1, u "java/lang/StringLatin1$LinesSpliterator"), (16, .methodref 20 26), (11, u "charAt"), (137, .class_ 391), (0, u "java/lang/StringLatin1$CharsSpliterator")] 3

def k19m0 : Method := { name := "<init>", desc := "()V", sig := { parameters := [], returnType := none }, accessFlags := 0, code := none }
def k19c1 : Code := { maxStack := 2, maxLocals := 2, code := jdk_43_method_2_code, exceptionTable := #[], attributes := #[] }
def k19m1 : Method := { name := "charAt", desc := "([BI)C", sig := { parameters := [(.array .byte), .int], returnType := some .char }, accessFlags := 9, code := some k19c1 }
def k19c2 : Code := { maxStack := 5, maxLocals := 5, code := jdk_43_method_50_code, exceptionTable := #[], attributes := #[] }
def k19m2 : Method := { name := "inflate", desc := "([BI[BII)V", sig := { parameters := [(.array .byte), .int, (.array .byte), .int, .int], returnType := none }, accessFlags := 9, code := some k19c2 }
/-- java/lang/StringLatin1 -/
def k19 : Class := { plain "java/lang/StringLatin1" (some 0) with
  accessFlags := 48
  interfaces := #[]
  cf := some (fileOf pool19 14 #[.nestMembers #[390, 221]] #[{ accessFlags := 0, nameIndex := 7, descriptorIndex := 8, attributes := #[] }, { accessFlags := 9, nameIndex := 252, descriptorIndex := 53, attributes := #[] }, { accessFlags := 9, nameIndex := 17, descriptorIndex := 27, attributes := #[] }] 48 4 #[] #[{ accessFlags := 4120, nameIndex := 121, descriptorIndex := 122, attributes := #[] }])
  fields := #[{ name := "$assertionsDisabled", type := .boolean, accessFlags := 4120, slot := 0, constantValue := 0 }]
  methods := #[k19m0, k19m1, k19m2]
  instanceTypes := #[]
  staticTypes := #[.boolean]
  resolved := Array.replicate 395 none
  statics := none }

def pool20 : Array CpInfo := pool [(2, .class_ 4), (1, u "java/lang/Object"), (0, u "<init>"), (0, u "()V"), (17, .class_ 26), (1, u "jdk/internal/util/Preconditions"), (6, u "checkIndex"), (15, u "checkFromIndexSize"), (5, .class_ 56), (0, u "jdk/internal/util/Preconditions$4"), (57, .class_ 115), (0, u "jdk/internal/util/Preconditions$1"), (7, u "SIOOBE_FORMATTER"), (0, u "Ljava/util/function/BiFunction;"), (0, .class_ 126), (0, u "jdk/internal/util/Preconditions$2"), (3, u "AIOOBE_FORMATTER"), (0, .class_ 132), (0, u "jdk/internal/util/Preconditions$3"), (3, u "IOOBE_FORMATTER"), (41, u "(IILjava/util/function/BiFunction;)I"), (4, u "(IIILjava/util/function/BiFunction;)I")] 10

def k20m0 : Method := { name := "<init>", desc := "()V", sig := { parameters := [], returnType := none }, accessFlags := 1, code := none }
def k20c1 : Code := { maxStack := 3, maxLocals := 3, code := jdk_41_method_11_code, exceptionTable := #[], attributes := #[] }
def k20m1 : Method := { name := "checkIndex", desc := "(IILjava/util/function/BiFunction;)I", sig := { parameters := [.int, .int, (.object "java/util/function/BiFunction")], returnType := some .int }, accessFlags := 9, code := some k20c1 }
def k20c2 : Code := { maxStack := 4, maxLocals := 4, code := jdk_41_method_13_code, exceptionTable := #[], attributes := #[] }
def k20m2 : Method := { name := "checkFromIndexSize", desc := "(IIILjava/util/function/BiFunction;)I", sig := { parameters := [.int, .int, .int, (.object "java/util/function/BiFunction")], returnType := some .int }, accessFlags := 9, code := some k20c2 }
/-- jdk/internal/util/Preconditions -/
def k20 : Class := { plain "jdk/internal/util/Preconditions" (some 0) with
  accessFlags := 33
  interfaces := #[]
  cf := some (fileOf pool20 24 #[.nestMembers #[55, 131, 125, 114]] #[{ accessFlags := 1, nameIndex := 5, descriptorIndex := 6, attributes := #[] }, { accessFlags := 9, nameIndex := 33, descriptorIndex := 178, attributes := #[] }, { accessFlags := 9, nameIndex := 49, descriptorIndex := 183, attributes := #[] }] 33 2 #[] #[{ accessFlags := 25, nameIndex := 123, descriptorIndex := 124, attributes := #[] }, { accessFlags := 25, nameIndex := 130, descriptorIndex := 124, attributes := #[] }, { accessFlags := 25, nameIndex := 136, descriptorIndex := 124, attributes := #[] }])
  fields := #[{ name := "SIOOBE_FORMATTER", type := (.object "java/util/function/BiFunction"), accessFlags := 25, slot := 0, constantValue := 0 }, { name := "AIOOBE_FORMATTER", type := (.object "java/util/function/BiFunction"), accessFlags := 25, slot := 1, constantValue := 0 }, { name := "IOOBE_FORMATTER", type := (.object "java/util/function/BiFunction"), accessFlags := 25, slot := 2, constantValue := 0 }]
  methods := #[k20m0, k20m1, k20m2]
  instanceTypes := #[]
  staticTypes := #[(.object "java/util/function/BiFunction"), (.object "java/util/function/BiFunction"), (.object "java/util/function/BiFunction")]
  resolved := Array.replicate 194 none
  statics := some 3 }

def pool21 : Array CpInfo := pool [(9, u "<init>"), (6, .class_ 18), (1, u "java/lang/Object"), (0, u "()V"), (1, .class_ 23), (1, u "jdk/internal/util/ArraysSupport"), (0, u "LOG2_ARRAY_LONG_INDEX_SCALE"), (0, u "I"), (2, u "U"), (0, u "Ljdk/internal/misc/Unsafe;"), (8, u "BIG_ENDIAN"), (0, u "Z"), (8, u "LOG2_BYTE_BIT_SIZE"), (4, u "LOG2_ARRAY_INT_INDEX_SCALE"), (54, u "JLA"), (0, u "Ljdk/internal/access/JavaLangAccess;"), (11, u "LOG2_ARRAY_BOOLEAN_INDEX_SCALE"), (9, u "LOG2_ARRAY_BYTE_INDEX_SCALE"), (5, u "LOG2_ARRAY_CHAR_INDEX_SCALE"), (5, u "LOG2_ARRAY_SHORT_INDEX_SCALE"), (18, u "LOG2_ARRAY_FLOAT_INDEX_SCALE"), (24, u "LOG2_ARRAY_DOUBLE_INDEX_SCALE"), (89, u "T_BOOLEAN"), (2, u "T_CHAR"), (1, u "T_FLOAT"), (1, u "T_DOUBLE"), (1, u "T_BYTE"), (1, u "T_SHORT"), (1, u "T_INT"), (1, u "T_LONG"), (1, u "SOFT_MAX_ARRAY_LENGTH")] 83

def k21m0 : Method := { name := "<init>", desc := "()V", sig := { parameters := [], returnType := none }, accessFlags := 2, code := none }
/-- jdk/internal/util/ArraysSupport -/
def k21 : Class := { plain "jdk/internal/util/ArraysSupport" (some 0) with
  accessFlags := 33
  interfaces := #[]
  cf := some (fileOf pool21 21 #[] #[{ accessFlags := 2, nameIndex := 9, descriptorIndex := 19, attributes := #[] }] 33 16 #[] #[{ accessFlags := 24, nameIndex := 28, descriptorIndex := 29, attributes := #[] }, { accessFlags := 26, nameIndex := 38, descriptorIndex := 39, attributes := #[] }, { accessFlags := 25, nameIndex := 121, descriptorIndex := 25, attributes := #[] }, { accessFlags := 25, nameIndex := 131, descriptorIndex := 25, attributes := #[] }, { accessFlags := 25, nameIndex := 137, descriptorIndex := 25, attributes := #[] }, { accessFlags := 25, nameIndex := 143, descriptorIndex := 25, attributes := #[] }, { accessFlags := 25, nameIndex := 53, descriptorIndex := 25, attributes := #[] }, { accessFlags := 25, nameIndex := 24, descriptorIndex := 25, attributes := #[] }, { accessFlags := 25, nameIndex := 162, descriptorIndex := 25, attributes := #[] }, { accessFlags := 25, nameIndex := 187, descriptorIndex := 25, attributes := #[] }, { accessFlags := 26, nameIndex := 48, descriptorIndex := 25, attributes := #[] }, { accessFlags := 25, nameIndex := 277, descriptorIndex := 25, attributes := #[] }, { accessFlags := 25, nameIndex := 280, descriptorIndex := 25, attributes := #[] }, { accessFlags := 25, nameIndex := 282, descriptorIndex := 25, attributes := #[] }, { accessFlags := 25, nameIndex := 284, descriptorIndex := 25, attributes := #[] }, { accessFlags := 25, nameIndex := 286, descriptorIndex := 25, attributes := #[] }, { accessFlags := 25, nameIndex := 288, descriptorIndex := 25, attributes := #[] }, { accessFlags := 25, nameIndex := 290, descriptorIndex := 25, attributes := #[] }, { accessFlags := 25, nameIndex := 292, descriptorIndex := 25, attributes := #[] }, { accessFlags := 26, nameIndex := 108, descriptorIndex := 109, attributes := #[] }, { accessFlags := 25, nameIndex := 294, descriptorIndex := 25, attributes := #[] }])
  fields := #[{ name := "U", type := (.object "jdk/internal/misc/Unsafe"), accessFlags := 24, slot := 0, constantValue := 0 }, { name := "BIG_ENDIAN", type := .boolean, accessFlags := 26, slot := 1, constantValue := 0 }, { name := "LOG2_ARRAY_BOOLEAN_INDEX_SCALE", type := .int, accessFlags := 25, slot := 2, constantValue := 0 }, { name := "LOG2_ARRAY_BYTE_INDEX_SCALE", type := .int, accessFlags := 25, slot := 3, constantValue := 0 }, { name := "LOG2_ARRAY_CHAR_INDEX_SCALE", type := .int, accessFlags := 25, slot := 4, constantValue := 0 }, { name := "LOG2_ARRAY_SHORT_INDEX_SCALE", type := .int, accessFlags := 25, slot := 5, constantValue := 0 }, { name := "LOG2_ARRAY_INT_INDEX_SCALE", type := .int, accessFlags := 25, slot := 6, constantValue := 0 }, { name := "LOG2_ARRAY_LONG_INDEX_SCALE", type := .int, accessFlags := 25, slot := 7, constantValue := 0 }, { name := "LOG2_ARRAY_FLOAT_INDEX_SCALE", type := .int, accessFlags := 25, slot := 8, constantValue := 0 }, { name := "LOG2_ARRAY_DOUBLE_INDEX_SCALE", type := .int, accessFlags := 25, slot := 9, constantValue := 0 }, { name := "LOG2_BYTE_BIT_SIZE", type := .int, accessFlags := 26, slot := 10, constantValue := 0 }, { name := "T_BOOLEAN", type := .int, accessFlags := 25, slot := 11, constantValue := 0 }, { name := "T_CHAR", type := .int, accessFlags := 25, slot := 12, constantValue := 0 }, { name := "T_FLOAT", type := .int, accessFlags := 25, slot := 13, constantValue := 0 }, { name := "T_DOUBLE", type := .int, accessFlags := 25, slot := 14, constantValue := 0 }, { name := "T_BYTE", type := .int, accessFlags := 25, slot := 15, constantValue := 0 }, { name := "T_SHORT", type := .int, accessFlags := 25, slot := 16, constantValue := 0 }, { name := "T_INT", type := .int, accessFlags := 25, slot := 17, constantValue := 0 }, { name := "T_LONG", type := .int, accessFlags := 25, slot := 18, constantValue := 0 }, { name := "JLA", type := (.object "jdk/internal/access/JavaLangAccess"), accessFlags := 26, slot := 19, constantValue := 0 }, { name := "SOFT_MAX_ARRAY_LENGTH", type := .int, accessFlags := 25, slot := 20, constantValue := 0 }]
  methods := #[k21m0]
  instanceTypes := #[]
  staticTypes := #[(.object "jdk/internal/misc/Unsafe"), .boolean, .int, .int, .int, .int, .int, .int, .int, .int, .int, .int, .int, .int, .int, .int, .int, .int, .int, (.object "jdk/internal/access/JavaLangAccess"), .int]
  resolved := Array.replicate 378 none
  statics := none }

def pool22 : Array CpInfo := pool [(1, u "java/lang/Cloneable"), (0, .class_ 1), (0, u "java/lang/Object"), (0, .class_ 3)] 3

/-- java/lang/Cloneable -/
def k22 : Class := { plain "java/lang/Cloneable" (some 0) with
  accessFlags := 1537
  interfaces := #[]
  cf := some (fileOf pool22 2 #[] #[] 1537 4 #[] #[])
  fields := #[]
  methods := #[]
  instanceTypes := #[]
  staticTypes := #[]
  resolved := Array.replicate 8 none
  statics := none }

/-- the primitive byte -/
def k23 : Class := { plain "byte" none with kind := .primitive 'B', accessFlags := 0x411 }
/-- [B -/
def k24 : Class := { plain "[B" (some 0) with kind := .array 23 .byte, interfaces := #[22, 2], accessFlags := 1041 }

/-- the primitive char -/
def k25 : Class := { plain "char" none with kind := .primitive 'C', accessFlags := 0x411 }
/-- [C -/
def k26 : Class := { plain "[C" (some 0) with kind := .array 25 .char, interfaces := #[22, 2], accessFlags := 1041 }

def heap : Heap := #[{ cls := 7, slots := #[.long 0, .int 1, .null, .int 0, .null, .int 0, .int 0], vm := .statics 7 },
  { cls := 8, slots := #[.int 0, .int 8, .int 0, .int 1], vm := .statics 8 },
  { cls := 10, slots := #[.ref 4, .ref 5, .null], vm := .statics 10 },
  { cls := 20, slots := #[.null, .null, .null], vm := .statics 20 },
  { cls := 10, slots := #[.null, .int 0, .int 0, .ref 6], vm := .none },
  { cls := 10, slots := #[.null, .int 1, .int 0, .ref 7], vm := .none },
  { cls := 7, slots := #[.ref 8, .int 0, .int 0, .int 0], vm := .none },
  { cls := 7, slots := #[.ref 9, .int 0, .int 0, .int 0], vm := .none },
  { cls := 24, slots := #[.int 101, .int 110, .int 118, .int 58], vm := .none },
  { cls := 24, slots := #[.int 102, .int 105, .int 108, .int 101, .int 58], vm := .none }]
def classes : Array Class := #[k0, k1, k2, k3, k4, k5, k6, k7, k8, k9, k10, k11, k12, k13, k14, k15, k16, k17, k18, k19, k20, k21, k22, k23, k24, k25, k26]
def interned : List (Array UInt16 × Addr) := []
def slotsUsed : Nat := 42
def theMethod : MethodId := ⟨1, 3⟩
def args0 : Array Value := #[.int 5, .int 7, .int 65, .int 3, .int 300]
def aboutOver (below : List Frame) : State where
  vm := { classes := classes, interned := interned.toArray }
  heap := heap
  slotsUsed := slotsUsed
  threads := #[{ frames := .invoking theMethod args0 :: below }]
def below0 : List Frame := [.native { method := ⟨0, 0⟩, args := #[] }]
def about1 : State := aboutOver below0
def p0 : Program := .bare "" "" ""
def e0 : Env := launch0.env 0 0 0
theorem w_frames : about1.frames = Frame.invoking theMethod args0 :: below0 := rfl
set_option maxRecDepth 65536 in
theorem w_args : argsFit about1.vm theMethod args0 = true := by decide +kernel
set_option maxRecDepth 65536 in
theorem w_heap : heapFits about1 = true := by decide +kernel
set_option maxRecDepth 65536 in
theorem w_runnable : about1.curStatus? = some .runnable := by decide +kernel
set_option maxRecDepth 65536 in
theorem w_alone : about1.alone = true := by decide +kernel
set_option maxRecDepth 65536 in
theorem w_named : about1.methodNamed? x = some theMethod := by decide +kernel
set_option maxRecDepth 65536 in
theorem w_hears : about1.hears theMethod below0 = true := by decide +kernel
set_option maxRecDepth 65536 in
theorem w_ripe : about1.ripe theMethod args0 below0 = true := by decide +kernel
theorem w_running : about1.status = .running := rfl
set_option maxRecDepth 65536 in
theorem w_room : about1.hasRoom e0.platform room_1 = true :=
  launch0.hasRoom_least _ room_1 (by decide +kernel) (by decide +kernel) (by decide +kernel) (by decide +kernel) (by decide +kernel) (by decide +kernel)
theorem allAtoms_all (ts : List Jvm.Cond) (a : Array Jvm.Value) (st : Jvm.State) : (allAtoms ts).before a st = ts.all (fun c => c.before a st) := by
  induction ts with
  | nil => rfl
  | cons c t ih =>
    show (Jvm.Cond.and c (allAtoms t)).before a st = _
    rw [Jvm.Cond.before_and, ih, List.all_cons]
def words1 : List Jvm.Cond := Jvm.Cond.code x code maxLocals ret :: tables_1
/-- a 'code' word, met by the world's own term for the bytes: nothing is compared byte by byte -/
theorem code_word {y : MethodName} {bytes : ByteArray} {mx : Nat} {rt : Option FieldType} {a : Array Value} {s : State} {m : MethodId} {meth : Method} {c : Code} (h1 : s.methodNamed? y = some m) (h2 : s.vm.method? m = some meth) (h3 : meth.code = some c) (h4 : c.code = bytes)
    (h5 : (c.maxLocals == mx && c.exceptionTable.isEmpty && decide (c.maxStack ≤ mostOperands) && decide (meth.sig.returnType = rt) && !meth.locks && decide (parseMethodDescriptor y.desc = some meth.sig)) = true) : (Jvm.Cond.code y bytes mx rt).before a s = true := by
  simp only [Bool.and_eq_true, beq_iff_eq, Bool.not_eq_true', decide_eq_true_eq] at h5
  obtain ⟨⟨⟨⟨⟨g1, g2⟩, g3⟩, g4⟩, g5⟩, g6⟩ := h5
  simp [Cond.before, Cond.holds, Cond.value, h1, h2, h3, h4, g1, g2, g3, g4, g5, g6]
def isCode : Jvm.Cond → Bool
  | .code _ _ _ _ => true
  | _ => false
theorem all_split {L : List Jvm.Cond} {P : Jvm.Cond → Bool} (h1 : L.all (fun c => isCode c || P c) = true) (h2 : ∀ c ∈ L.filter isCode, P c = true) : L.all P = true := by
  refine List.all_eq_true.mpr fun c hc => ?_
  have h := List.all_eq_true.mp h1 c hc
  rcases Bool.eq_false_or_eq_true (isCode c) with hi | hi
  · exact h2 c (List.mem_filter.mpr ⟨hc, hi⟩)
  · simpa [hi] using h
set_option maxRecDepth 65536 in
theorem w_c0 : (Jvm.Cond.code x code maxLocals ret).before args0 about1 = true := code_word (m := ⟨1, 3⟩) (meth := k1m3) (c := k1c3) (by decide +kernel) rfl rfl rfl (by decide +kernel)
set_option maxRecDepth 65536 in
theorem w_c1 : (Jvm.Cond.code ({ cls := "com/example/harvest_rules/harvestrules/registry/SecretReferenceToStringPinLaw", name := "target", desc := "(ICCC)Ljava/lang/String;" } : Jvm.MethodName) method_2_code (4 : Nat) (Option.some (Jvm.ClassFile.FieldType.object "java/lang/String"))).before args0 about1 = true := code_word (m := ⟨1, 1⟩) (meth := k1m1) (c := k1c1) (by decide +kernel) rfl rfl rfl (by decide +kernel)
set_option maxRecDepth 65536 in
theorem w_c2 : (Jvm.Cond.code ({ cls := "java/lang/String", name := "<init>", desc := "([C)V" } : Jvm.MethodName) jdk_42_method_3_code (2 : Nat) (Option.none : Option Jvm.ClassFile.FieldType)).before args0 about1 = true := code_word (m := ⟨7, 1⟩) (meth := k7m1) (c := k7c1) (by decide +kernel) rfl rfl rfl (by decide +kernel)
set_option maxRecDepth 65536 in
theorem w_c3 : (Jvm.Cond.code ({ cls := "java/lang/String", name := "<init>", desc := "([CIILjava/lang/Void;)V" } : Jvm.MethodName) jdk_42_method_149_code (6 : Nat) (Option.none : Option Jvm.ClassFile.FieldType)).before args0 about1 = true := code_word (m := ⟨7, 6⟩) (meth := k7m6) (c := k7c6) (by decide +kernel) rfl rfl rfl (by decide +kernel)
set_option maxRecDepth 65536 in
theorem w_c4 : (Jvm.Cond.code ({ cls := "java/lang/Object", name := "<init>", desc := "()V" } : Jvm.MethodName) object_method_1_code (1 : Nat) (Option.none : Option Jvm.ClassFile.FieldType)).before args0 about1 = true := code_word (m := ⟨0, 0⟩) (meth := k0m0) (c := k0c0) (by decide +kernel) rfl rfl rfl (by decide +kernel)
set_option maxRecDepth 65536 in
theorem w_c5 : (Jvm.Cond.code ({ cls := "java/lang/StringUTF16", name := "compress", desc := "([CII)[B" } : Jvm.MethodName) jdk_52_method_16_code (6 : Nat) (Option.some (Jvm.ClassFile.FieldType.array Jvm.ClassFile.FieldType.byte))).before args0 about1 = true := code_word (m := ⟨8, 8⟩) (meth := k8m8) (c := k8c8) (by decide +kernel) rfl rfl rfl (by decide +kernel)
set_option maxRecDepth 65536 in
theorem w_c6 : (Jvm.Cond.code ({ cls := "java/lang/StringUTF16", name := "compress", desc := "([CI[BII)I" } : Jvm.MethodName) jdk_52_method_21_code (7 : Nat) (Option.some Jvm.ClassFile.FieldType.int)).before args0 about1 = true := code_word (m := ⟨8, 9⟩) (meth := k8m9) (c := k8c9) (by decide +kernel) rfl rfl rfl (by decide +kernel)
set_option maxRecDepth 65536 in
theorem w_c7 : (Jvm.Cond.code ({ cls := "java/lang/StringUTF16", name := "coderFromArrayLen", desc := "([BI)B" } : Jvm.MethodName) jdk_52_method_15_code (2 : Nat) (Option.some Jvm.ClassFile.FieldType.byte)).before args0 about1 = true := code_word (m := ⟨8, 7⟩) (meth := k8m7) (c := k8c7) (by decide +kernel) rfl rfl rfl (by decide +kernel)
set_option maxRecDepth 65536 in
theorem w_c8 : (Jvm.Cond.code ({ cls := "com/example/harvest_rules/harvestrules/registry/SecretReference", name := "<init>", desc := "(Lcom/example/harvest_rules/harvestrules/registry/SecretReference$Kind;Ljava/lang/String;)V" } : Jvm.MethodName) prog_52_method_1_code (3 : Nat) (Option.none : Option Jvm.ClassFile.FieldType)).before args0 about1 = true := code_word (m := ⟨12, 0⟩) (meth := k12m0) (c := k12c0) (by decide +kernel) rfl rfl rfl (by decide +kernel)
set_option maxRecDepth 65536 in
theorem w_c9 : (Jvm.Cond.code ({ cls := "java/lang/Record", name := "<init>", desc := "()V" } : Jvm.MethodName) jdk_30_method_1_code (1 : Nat) (Option.none : Option Jvm.ClassFile.FieldType)).before args0 about1 = true := code_word (m := ⟨11, 0⟩) (meth := k11m0) (c := k11c0) (by decide +kernel) rfl rfl rfl (by decide +kernel)
set_option maxRecDepth 65536 in
theorem w_c10 : (Jvm.Cond.code ({ cls := "com/example/harvest_rules/harvestrules/registry/SecretReference", name := "toString", desc := "()Ljava/lang/String;" } : Jvm.MethodName) prog_52_method_4_code (1 : Nat) (Option.some (Jvm.ClassFile.FieldType.object "java/lang/String"))).before args0 about1 = true := code_word (m := ⟨12, 1⟩) (meth := k12m1) (c := k12c1) (by decide +kernel) rfl rfl rfl (by decide +kernel)
set_option maxRecDepth 65536 in
theorem w_c11 : (Jvm.Cond.code ({ cls := "java/lang/StringBuilder", name := "<init>", desc := "()V" } : Jvm.MethodName) jdk_67_method_1_code (1 : Nat) (Option.none : Option Jvm.ClassFile.FieldType)).before args0 about1 = true := code_word (m := ⟨15, 0⟩) (meth := k15m0) (c := k15c0) (by decide +kernel) rfl rfl rfl (by decide +kernel)
set_option maxRecDepth 65536 in
theorem w_c12 : (Jvm.Cond.code ({ cls := "java/lang/AbstractStringBuilder", name := "<init>", desc := "(I)V" } : Jvm.MethodName) jdk_68_method_2_code (2 : Nat) (Option.none : Option Jvm.ClassFile.FieldType)).before args0 about1 = true := code_word (m := ⟨14, 1⟩) (meth := k14m1) (c := k14c1) (by decide +kernel) rfl rfl rfl (by decide +kernel)
set_option maxRecDepth 65536 in
theorem w_c13 : (Jvm.Cond.code ({ cls := "com/example/harvest_rules/harvestrules/registry/SecretReference$Kind", name := "prefix", desc := "()Ljava/lang/String;" } : Jvm.MethodName) prog_53_method_4_code (1 : Nat) (Option.some (Jvm.ClassFile.FieldType.object "java/lang/String"))).before args0 about1 = true := code_word (m := ⟨10, 0⟩) (meth := k10m0) (c := k10c0) (by decide +kernel) rfl rfl rfl (by decide +kernel)
set_option maxRecDepth 65536 in
theorem w_c14 : (Jvm.Cond.code ({ cls := "java/lang/StringBuilder", name := "append", desc := "(Ljava/lang/String;)Ljava/lang/StringBuilder;" } : Jvm.MethodName) jdk_67_method_7_code (2 : Nat) (Option.some (Jvm.ClassFile.FieldType.object "java/lang/StringBuilder"))).before args0 about1 = true := code_word (m := ⟨15, 1⟩) (meth := k15m1) (c := k15c1) (by decide +kernel) rfl rfl rfl (by decide +kernel)
set_option maxRecDepth 65536 in
theorem w_c15 : (Jvm.Cond.code ({ cls := "java/lang/AbstractStringBuilder", name := "append", desc := "(Ljava/lang/String;)Ljava/lang/AbstractStringBuilder;" } : Jvm.MethodName) jdk_68_method_22_code (3 : Nat) (Option.some (Jvm.ClassFile.FieldType.object "java/lang/AbstractStringBuilder"))).before args0 about1 = true := code_word (m := ⟨14, 5⟩) (meth := k14m5) (c := k14c5) (by decide +kernel) rfl rfl rfl (by decide +kernel)
set_option maxRecDepth 65536 in
theorem w_c16 : (Jvm.Cond.code ({ cls := "java/lang/String", name := "length", desc := "()I" } : Jvm.MethodName) jdk_42_method_54_code (1 : Nat) (Option.some Jvm.ClassFile.FieldType.int)).before args0 about1 = true := code_word (m := ⟨7, 3⟩) (meth := k7m3) (c := k7c3) (by decide +kernel) rfl rfl rfl (by decide +kernel)
set_option maxRecDepth 65536 in
theorem w_c17 : (Jvm.Cond.code ({ cls := "java/lang/String", name := "coder", desc := "()B" } : Jvm.MethodName) jdk_42_method_152_code (1 : Nat) (Option.some Jvm.ClassFile.FieldType.byte)).before args0 about1 = true := code_word (m := ⟨7, 8⟩) (meth := k7m8) (c := k7c8) (by decide +kernel) rfl rfl rfl (by decide +kernel)
set_option maxRecDepth 65536 in
theorem w_c18 : (Jvm.Cond.code ({ cls := "java/lang/AbstractStringBuilder", name := "ensureCapacityInternal", desc := "(I)V" } : Jvm.MethodName) jdk_68_method_9_code (3 : Nat) (Option.none : Option Jvm.ClassFile.FieldType)).before args0 about1 = true := code_word (m := ⟨14, 3⟩) (meth := k14m3) (c := k14c3) (by decide +kernel) rfl rfl rfl (by decide +kernel)
set_option maxRecDepth 65536 in
theorem w_c19 : (Jvm.Cond.code ({ cls := "java/lang/AbstractStringBuilder", name := "putStringAt", desc := "(ILjava/lang/String;)V" } : Jvm.MethodName) jdk_68_method_73_code (3 : Nat) (Option.none : Option Jvm.ClassFile.FieldType)).before args0 about1 = true := code_word (m := ⟨14, 9⟩) (meth := k14m9) (c := k14c9) (by decide +kernel) rfl rfl rfl (by decide +kernel)
set_option maxRecDepth 65536 in
theorem w_c20 : (Jvm.Cond.code ({ cls := "java/lang/AbstractStringBuilder", name := "inflateIfNeededFor", desc := "(Ljava/lang/String;)V" } : Jvm.MethodName) jdk_68_method_71_code (2 : Nat) (Option.none : Option Jvm.ClassFile.FieldType)).before args0 about1 = true := code_word (m := ⟨14, 8⟩) (meth := k14m8) (c := k14c8) (by decide +kernel) rfl rfl rfl (by decide +kernel)
set_option maxRecDepth 65536 in
theorem w_c21 : (Jvm.Cond.code ({ cls := "java/lang/String", name := "getBytes", desc := "([BIB)V" } : Jvm.MethodName) jdk_42_method_147_code (4 : Nat) (Option.none : Option Jvm.ClassFile.FieldType)).before args0 about1 = true := code_word (m := ⟨7, 5⟩) (meth := k7m5) (c := k7c5) (by decide +kernel) rfl rfl rfl (by decide +kernel)
set_option maxRecDepth 65536 in
theorem w_c22 : (Jvm.Cond.code ({ cls := "java/lang/StringBuilder", name := "toString", desc := "()Ljava/lang/String;" } : Jvm.MethodName) jdk_67_method_42_code (1 : Nat) (Option.some (Jvm.ClassFile.FieldType.object "java/lang/String"))).before args0 about1 = true := code_word (m := ⟨15, 2⟩) (meth := k15m2) (c := k15c2) (by decide +kernel) rfl rfl rfl (by decide +kernel)
set_option maxRecDepth 65536 in
theorem w_c23 : (Jvm.Cond.code ({ cls := "java/lang/String", name := "<init>", desc := "(Ljava/lang/StringBuilder;)V" } : Jvm.MethodName) jdk_42_method_53_code (2 : Nat) (Option.none : Option Jvm.ClassFile.FieldType)).before args0 about1 = true := code_word (m := ⟨7, 2⟩) (meth := k7m2) (c := k7c2) (by decide +kernel) rfl rfl rfl (by decide +kernel)
set_option maxRecDepth 65536 in
theorem w_c24 : (Jvm.Cond.code ({ cls := "java/lang/String", name := "<init>", desc := "(Ljava/lang/AbstractStringBuilder;Ljava/lang/Void;)V" } : Jvm.MethodName) jdk_42_method_150_code (5 : Nat) (Option.none : Option Jvm.ClassFile.FieldType)).before args0 about1 = true := code_word (m := ⟨7, 7⟩) (meth := k7m7) (c := k7c7) (by decide +kernel) rfl rfl rfl (by decide +kernel)
set_option maxRecDepth 65536 in
theorem w_c25 : (Jvm.Cond.code ({ cls := "java/lang/AbstractStringBuilder", name := "getValue", desc := "()[B" } : Jvm.MethodName) jdk_68_method_64_code (1 : Nat) (Option.some (Jvm.ClassFile.FieldType.array Jvm.ClassFile.FieldType.byte))).before args0 about1 = true := code_word (m := ⟨14, 6⟩) (meth := k14m6) (c := k14c6) (by decide +kernel) rfl rfl rfl (by decide +kernel)
set_option maxRecDepth 65536 in
theorem w_c26 : (Jvm.Cond.code ({ cls := "java/lang/StringBuilder", name := "length", desc := "()I" } : Jvm.MethodName) jdk_67_method_93_code (1 : Nat) (Option.some Jvm.ClassFile.FieldType.int)).before args0 about1 = true := code_word (m := ⟨15, 3⟩) (meth := k15m3) (c := k15c3) (by decide +kernel) rfl rfl rfl (by decide +kernel)
set_option maxRecDepth 65536 in
theorem w_c27 : (Jvm.Cond.code ({ cls := "java/lang/AbstractStringBuilder", name := "length", desc := "()I" } : Jvm.MethodName) jdk_68_method_6_code (1 : Nat) (Option.some Jvm.ClassFile.FieldType.int)).before args0 about1 = true := code_word (m := ⟨14, 2⟩) (meth := k14m2) (c := k14c2) (by decide +kernel) rfl rfl rfl (by decide +kernel)
set_option maxRecDepth 65536 in
theorem w_c28 : (Jvm.Cond.code ({ cls := "java/lang/AbstractStringBuilder", name := "isLatin1", desc := "()Z" } : Jvm.MethodName) jdk_68_method_68_code (1 : Nat) (Option.some Jvm.ClassFile.FieldType.boolean)).before args0 about1 = true := code_word (m := ⟨14, 7⟩) (meth := k14m7) (c := k14c7) (by decide +kernel) rfl rfl rfl (by decide +kernel)
set_option maxRecDepth 65536 in
theorem w_c29 : (Jvm.Cond.code ({ cls := "java/util/Arrays", name := "copyOfRange", desc := "([BII)[B" } : Jvm.MethodName) jdk_65_method_132_code (3 : Nat) (Option.some (Jvm.ClassFile.FieldType.array Jvm.ClassFile.FieldType.byte))).before args0 about1 = true := code_word (m := ⟨17, 2⟩) (meth := k17m2) (c := k17c2) (by decide +kernel) rfl rfl rfl (by decide +kernel)
set_option maxRecDepth 65536 in
theorem w_c30 : (Jvm.Cond.code ({ cls := "java/util/Arrays", name := "copyOfRangeByte", desc := "([BII)[B" } : Jvm.MethodName) jdk_65_method_133_code (5 : Nat) (Option.some (Jvm.ClassFile.FieldType.array Jvm.ClassFile.FieldType.byte))).before args0 about1 = true := code_word (m := ⟨17, 3⟩) (meth := k17m3) (c := k17c3) (by decide +kernel) rfl rfl rfl (by decide +kernel)
set_option maxRecDepth 65536 in
theorem w_c31 : (Jvm.Cond.code ({ cls := "java/util/Arrays", name := "checkLength", desc := "(II)V" } : Jvm.MethodName) jdk_65_method_131_code (2 : Nat) (Option.none : Option Jvm.ClassFile.FieldType)).before args0 about1 = true := code_word (m := ⟨17, 1⟩) (meth := k17m1) (c := k17c1) (by decide +kernel) rfl rfl rfl (by decide +kernel)
set_option maxRecDepth 65536 in
theorem w_c32 : (Jvm.Cond.code ({ cls := "java/lang/Math", name := "min", desc := "(II)I" } : Jvm.MethodName) jdk_29_method_69_code (2 : Nat) (Option.some Jvm.ClassFile.FieldType.int)).before args0 about1 = true := code_word (m := ⟨18, 1⟩) (meth := k18m1) (c := k18c1) (by decide +kernel) rfl rfl rfl (by decide +kernel)
set_option maxRecDepth 65536 in
theorem w_c33 : (Jvm.Cond.code ({ cls := "com/example/harvest_rules/harvestrules/registry/SecretReferenceToStringPinLaw", name := "eqAt", desc := "(Ljava/lang/String;[CII)Z" } : Jvm.MethodName) method_3_code (4 : Nat) (Option.some Jvm.ClassFile.FieldType.boolean)).before args0 about1 = true := code_word (m := ⟨1, 2⟩) (meth := k1m2) (c := k1c2) (by decide +kernel) rfl rfl rfl (by decide +kernel)
set_option maxRecDepth 65536 in
theorem w_c34 : (Jvm.Cond.code ({ cls := "java/lang/String", name := "charAt", desc := "(I)C" } : Jvm.MethodName) jdk_42_method_56_code (2 : Nat) (Option.some Jvm.ClassFile.FieldType.char)).before args0 about1 = true := code_word (m := ⟨7, 4⟩) (meth := k7m4) (c := k7c4) (by decide +kernel) rfl rfl rfl (by decide +kernel)
set_option maxRecDepth 65536 in
theorem w_c35 : (Jvm.Cond.code ({ cls := "java/lang/String", name := "isLatin1", desc := "()Z" } : Jvm.MethodName) jdk_42_method_154_code (1 : Nat) (Option.some Jvm.ClassFile.FieldType.boolean)).before args0 about1 = true := code_word (m := ⟨7, 9⟩) (meth := k7m9) (c := k7c9) (by decide +kernel) rfl rfl rfl (by decide +kernel)
set_option maxRecDepth 65536 in
theorem w_c36 : (Jvm.Cond.code ({ cls := "java/lang/StringLatin1", name := "charAt", desc := "([BI)C" } : Jvm.MethodName) jdk_43_method_2_code (2 : Nat) (Option.some Jvm.ClassFile.FieldType.char)).before args0 about1 = true := code_word (m := ⟨19, 1⟩) (meth := k19m1) (c := k19c1) (by decide +kernel) rfl rfl rfl (by decide +kernel)
set_option maxRecDepth 65536 in
theorem w_c37 : (Jvm.Cond.code ({ cls := "java/lang/String", name := "checkIndex", desc := "(II)V" } : Jvm.MethodName) jdk_42_method_155_code (2 : Nat) (Option.none : Option Jvm.ClassFile.FieldType)).before args0 about1 = true := code_word (m := ⟨7, 10⟩) (meth := k7m10) (c := k7c10) (by decide +kernel) rfl rfl rfl (by decide +kernel)
set_option maxRecDepth 65536 in
theorem w_c38 : (Jvm.Cond.code ({ cls := "jdk/internal/util/Preconditions", name := "checkIndex", desc := "(IILjava/util/function/BiFunction;)I" } : Jvm.MethodName) jdk_41_method_11_code (3 : Nat) (Option.some Jvm.ClassFile.FieldType.int)).before args0 about1 = true := code_word (m := ⟨20, 1⟩) (meth := k20m1) (c := k20c1) (by decide +kernel) rfl rfl rfl (by decide +kernel)
set_option maxRecDepth 65536 in
theorem w_c39 : (Jvm.Cond.code ({ cls := "java/lang/StringUTF16", name := "toBytes", desc := "([CII)[B" } : Jvm.MethodName) jdk_52_method_14_code (5 : Nat) (Option.some (Jvm.ClassFile.FieldType.array Jvm.ClassFile.FieldType.byte))).before args0 about1 = true := code_word (m := ⟨8, 6⟩) (meth := k8m6) (c := k8c6) (by decide +kernel) rfl rfl rfl (by decide +kernel)
set_option maxRecDepth 65536 in
theorem w_c40 : (Jvm.Cond.code ({ cls := "java/lang/StringUTF16", name := "newBytesFor", desc := "(I)[B" } : Jvm.MethodName) jdk_52_method_2_code (1 : Nat) (Option.some (Jvm.ClassFile.FieldType.array Jvm.ClassFile.FieldType.byte))).before args0 about1 = true := code_word (m := ⟨8, 1⟩) (meth := k8m1) (c := k8c1) (by decide +kernel) rfl rfl rfl (by decide +kernel)
set_option maxRecDepth 65536 in
theorem w_c41 : (Jvm.Cond.code ({ cls := "java/lang/StringUTF16", name := "newBytesLength", desc := "(I)I" } : Jvm.MethodName) jdk_52_method_3_code (1 : Nat) (Option.some Jvm.ClassFile.FieldType.int)).before args0 about1 = true := code_word (m := ⟨8, 2⟩) (meth := k8m2) (c := k8c2) (by decide +kernel) rfl rfl rfl (by decide +kernel)
set_option maxRecDepth 65536 in
theorem w_c42 : (Jvm.Cond.code ({ cls := "java/lang/StringUTF16", name := "putChar", desc := "([BII)V" } : Jvm.MethodName) jdk_52_method_4_code (3 : Nat) (Option.none : Option Jvm.ClassFile.FieldType)).before args0 about1 = true := code_word (m := ⟨8, 3⟩) (meth := k8m3) (c := k8c3) (by decide +kernel) rfl rfl rfl (by decide +kernel)
set_option maxRecDepth 65536 in
theorem w_c43 : (Jvm.Cond.code ({ cls := "java/lang/StringUTF16", name := "getChar", desc := "([BI)C" } : Jvm.MethodName) jdk_52_method_5_code (2 : Nat) (Option.some Jvm.ClassFile.FieldType.char)).before args0 about1 = true := code_word (m := ⟨8, 4⟩) (meth := k8m4) (c := k8c4) (by decide +kernel) rfl rfl rfl (by decide +kernel)
set_option maxRecDepth 65536 in
theorem w_c44 : (Jvm.Cond.code ({ cls := "java/lang/AbstractStringBuilder", name := "inflate", desc := "()V" } : Jvm.MethodName) jdk_68_method_11_code (2 : Nat) (Option.none : Option Jvm.ClassFile.FieldType)).before args0 about1 = true := code_word (m := ⟨14, 4⟩) (meth := k14m4) (c := k14c4) (by decide +kernel) rfl rfl rfl (by decide +kernel)
set_option maxRecDepth 65536 in
theorem w_c45 : (Jvm.Cond.code ({ cls := "java/lang/StringLatin1", name := "inflate", desc := "([BI[BII)V" } : Jvm.MethodName) jdk_43_method_50_code (5 : Nat) (Option.none : Option Jvm.ClassFile.FieldType)).before args0 about1 = true := code_word (m := ⟨19, 2⟩) (meth := k19m2) (c := k19c2) (by decide +kernel) rfl rfl rfl (by decide +kernel)
set_option maxRecDepth 65536 in
theorem w_c46 : (Jvm.Cond.code ({ cls := "java/lang/StringUTF16", name := "inflate", desc := "([BI[BII)V" } : Jvm.MethodName) jdk_52_method_86_code (6 : Nat) (Option.none : Option Jvm.ClassFile.FieldType)).before args0 about1 = true := code_word (m := ⟨8, 11⟩) (meth := k8m11) (c := k8c11) (by decide +kernel) rfl rfl rfl (by decide +kernel)
set_option maxRecDepth 65536 in
theorem w_c47 : (Jvm.Cond.code ({ cls := "java/lang/StringUTF16", name := "checkBoundsOffCount", desc := "(II[B)V" } : Jvm.MethodName) jdk_52_method_94_code (3 : Nat) (Option.none : Option Jvm.ClassFile.FieldType)).before args0 about1 = true := code_word (m := ⟨8, 13⟩) (meth := k8m13) (c := k8c13) (by decide +kernel) rfl rfl rfl (by decide +kernel)
set_option maxRecDepth 65536 in
theorem w_c48 : (Jvm.Cond.code ({ cls := "java/lang/StringUTF16", name := "length", desc := "([B)I" } : Jvm.MethodName) jdk_52_method_6_code (1 : Nat) (Option.some Jvm.ClassFile.FieldType.int)).before args0 about1 = true := code_word (m := ⟨8, 5⟩) (meth := k8m5) (c := k8c5) (by decide +kernel) rfl rfl rfl (by decide +kernel)
set_option maxRecDepth 65536 in
theorem w_c49 : (Jvm.Cond.code ({ cls := "java/lang/String", name := "checkBoundsOffCount", desc := "(III)I" } : Jvm.MethodName) jdk_42_method_157_code (3 : Nat) (Option.some Jvm.ClassFile.FieldType.int)).before args0 about1 = true := code_word (m := ⟨7, 11⟩) (meth := k7m11) (c := k7c11) (by decide +kernel) rfl rfl rfl (by decide +kernel)
set_option maxRecDepth 65536 in
theorem w_c50 : (Jvm.Cond.code ({ cls := "jdk/internal/util/Preconditions", name := "checkFromIndexSize", desc := "(IIILjava/util/function/BiFunction;)I" } : Jvm.MethodName) jdk_41_method_13_code (4 : Nat) (Option.some Jvm.ClassFile.FieldType.int)).before args0 about1 = true := code_word (m := ⟨20, 2⟩) (meth := k20m2) (c := k20c2) (by decide +kernel) rfl rfl rfl (by decide +kernel)
set_option maxRecDepth 65536 in
theorem w_c51 : (Jvm.Cond.code ({ cls := "java/lang/StringUTF16", name := "charAt", desc := "([BI)C" } : Jvm.MethodName) jdk_52_method_83_code (2 : Nat) (Option.some Jvm.ClassFile.FieldType.char)).before args0 about1 = true := code_word (m := ⟨8, 10⟩) (meth := k8m10) (c := k8c10) (by decide +kernel) rfl rfl rfl (by decide +kernel)
set_option maxRecDepth 65536 in
theorem w_c52 : (Jvm.Cond.code ({ cls := "java/lang/StringUTF16", name := "checkIndex", desc := "(I[B)V" } : Jvm.MethodName) jdk_52_method_91_code (2 : Nat) (Option.none : Option Jvm.ClassFile.FieldType)).before args0 about1 = true := code_word (m := ⟨8, 12⟩) (meth := k8m12) (c := k8c12) (by decide +kernel) rfl rfl rfl (by decide +kernel)
def codes1 : List Jvm.Cond := [Jvm.Cond.code x code maxLocals ret, Jvm.Cond.code ({ cls := "com/example/harvest_rules/harvestrules/registry/SecretReferenceToStringPinLaw", name := "target", desc := "(ICCC)Ljava/lang/String;" } : Jvm.MethodName) method_2_code (4 : Nat) (Option.some (Jvm.ClassFile.FieldType.object "java/lang/String")), Jvm.Cond.code ({ cls := "java/lang/String", name := "<init>", desc := "([C)V" } : Jvm.MethodName) jdk_42_method_3_code (2 : Nat) (Option.none : Option Jvm.ClassFile.FieldType), Jvm.Cond.code ({ cls := "java/lang/String", name := "<init>", desc := "([CIILjava/lang/Void;)V" } : Jvm.MethodName) jdk_42_method_149_code (6 : Nat) (Option.none : Option Jvm.ClassFile.FieldType), Jvm.Cond.code ({ cls := "java/lang/Object", name := "<init>", desc := "()V" } : Jvm.MethodName) object_method_1_code (1 : Nat) (Option.none : Option Jvm.ClassFile.FieldType), Jvm.Cond.code ({ cls := "java/lang/StringUTF16", name := "compress", desc := "([CII)[B" } : Jvm.MethodName) jdk_52_method_16_code (6 : Nat) (Option.some (Jvm.ClassFile.FieldType.array Jvm.ClassFile.FieldType.byte)), Jvm.Cond.code ({ cls := "java/lang/StringUTF16", name := "compress", desc := "([CI[BII)I" } : Jvm.MethodName) jdk_52_method_21_code (7 : Nat) (Option.some Jvm.ClassFile.FieldType.int), Jvm.Cond.code ({ cls := "java/lang/StringUTF16", name := "coderFromArrayLen", desc := "([BI)B" } : Jvm.MethodName) jdk_52_method_15_code (2 : Nat) (Option.some Jvm.ClassFile.FieldType.byte), Jvm.Cond.code ({ cls := "com/example/harvest_rules/harvestrules/registry/SecretReference", name := "<init>", desc := "(Lcom/example/harvest_rules/harvestrules/registry/SecretReference$Kind;Ljava/lang/String;)V" } : Jvm.MethodName) prog_52_method_1_code (3 : Nat) (Option.none : Option Jvm.ClassFile.FieldType), Jvm.Cond.code ({ cls := "java/lang/Record", name := "<init>", desc := "()V" } : Jvm.MethodName) jdk_30_method_1_code (1 : Nat) (Option.none : Option Jvm.ClassFile.FieldType), Jvm.Cond.code ({ cls := "com/example/harvest_rules/harvestrules/registry/SecretReference", name := "toString", desc := "()Ljava/lang/String;" } : Jvm.MethodName) prog_52_method_4_code (1 : Nat) (Option.some (Jvm.ClassFile.FieldType.object "java/lang/String")), Jvm.Cond.code ({ cls := "java/lang/StringBuilder", name := "<init>", desc := "()V" } : Jvm.MethodName) jdk_67_method_1_code (1 : Nat) (Option.none : Option Jvm.ClassFile.FieldType), Jvm.Cond.code ({ cls := "java/lang/AbstractStringBuilder", name := "<init>", desc := "(I)V" } : Jvm.MethodName) jdk_68_method_2_code (2 : Nat) (Option.none : Option Jvm.ClassFile.FieldType), Jvm.Cond.code ({ cls := "com/example/harvest_rules/harvestrules/registry/SecretReference$Kind", name := "prefix", desc := "()Ljava/lang/String;" } : Jvm.MethodName) prog_53_method_4_code (1 : Nat) (Option.some (Jvm.ClassFile.FieldType.object "java/lang/String")), Jvm.Cond.code ({ cls := "java/lang/StringBuilder", name := "append", desc := "(Ljava/lang/String;)Ljava/lang/StringBuilder;" } : Jvm.MethodName) jdk_67_method_7_code (2 : Nat) (Option.some (Jvm.ClassFile.FieldType.object "java/lang/StringBuilder")), Jvm.Cond.code ({ cls := "java/lang/AbstractStringBuilder", name := "append", desc := "(Ljava/lang/String;)Ljava/lang/AbstractStringBuilder;" } : Jvm.MethodName) jdk_68_method_22_code (3 : Nat) (Option.some (Jvm.ClassFile.FieldType.object "java/lang/AbstractStringBuilder")), Jvm.Cond.code ({ cls := "java/lang/String", name := "length", desc := "()I" } : Jvm.MethodName) jdk_42_method_54_code (1 : Nat) (Option.some Jvm.ClassFile.FieldType.int), Jvm.Cond.code ({ cls := "java/lang/String", name := "coder", desc := "()B" } : Jvm.MethodName) jdk_42_method_152_code (1 : Nat) (Option.some Jvm.ClassFile.FieldType.byte), Jvm.Cond.code ({ cls := "java/lang/AbstractStringBuilder", name := "ensureCapacityInternal", desc := "(I)V" } : Jvm.MethodName) jdk_68_method_9_code (3 : Nat) (Option.none : Option Jvm.ClassFile.FieldType), Jvm.Cond.code ({ cls := "java/lang/AbstractStringBuilder", name := "putStringAt", desc := "(ILjava/lang/String;)V" } : Jvm.MethodName) jdk_68_method_73_code (3 : Nat) (Option.none : Option Jvm.ClassFile.FieldType), Jvm.Cond.code ({ cls := "java/lang/AbstractStringBuilder", name := "inflateIfNeededFor", desc := "(Ljava/lang/String;)V" } : Jvm.MethodName) jdk_68_method_71_code (2 : Nat) (Option.none : Option Jvm.ClassFile.FieldType), Jvm.Cond.code ({ cls := "java/lang/String", name := "getBytes", desc := "([BIB)V" } : Jvm.MethodName) jdk_42_method_147_code (4 : Nat) (Option.none : Option Jvm.ClassFile.FieldType), Jvm.Cond.code ({ cls := "java/lang/StringBuilder", name := "toString", desc := "()Ljava/lang/String;" } : Jvm.MethodName) jdk_67_method_42_code (1 : Nat) (Option.some (Jvm.ClassFile.FieldType.object "java/lang/String")), Jvm.Cond.code ({ cls := "java/lang/String", name := "<init>", desc := "(Ljava/lang/StringBuilder;)V" } : Jvm.MethodName) jdk_42_method_53_code (2 : Nat) (Option.none : Option Jvm.ClassFile.FieldType), Jvm.Cond.code ({ cls := "java/lang/String", name := "<init>", desc := "(Ljava/lang/AbstractStringBuilder;Ljava/lang/Void;)V" } : Jvm.MethodName) jdk_42_method_150_code (5 : Nat) (Option.none : Option Jvm.ClassFile.FieldType), Jvm.Cond.code ({ cls := "java/lang/AbstractStringBuilder", name := "getValue", desc := "()[B" } : Jvm.MethodName) jdk_68_method_64_code (1 : Nat) (Option.some (Jvm.ClassFile.FieldType.array Jvm.ClassFile.FieldType.byte)), Jvm.Cond.code ({ cls := "java/lang/StringBuilder", name := "length", desc := "()I" } : Jvm.MethodName) jdk_67_method_93_code (1 : Nat) (Option.some Jvm.ClassFile.FieldType.int), Jvm.Cond.code ({ cls := "java/lang/AbstractStringBuilder", name := "length", desc := "()I" } : Jvm.MethodName) jdk_68_method_6_code (1 : Nat) (Option.some Jvm.ClassFile.FieldType.int), Jvm.Cond.code ({ cls := "java/lang/AbstractStringBuilder", name := "isLatin1", desc := "()Z" } : Jvm.MethodName) jdk_68_method_68_code (1 : Nat) (Option.some Jvm.ClassFile.FieldType.boolean), Jvm.Cond.code ({ cls := "java/util/Arrays", name := "copyOfRange", desc := "([BII)[B" } : Jvm.MethodName) jdk_65_method_132_code (3 : Nat) (Option.some (Jvm.ClassFile.FieldType.array Jvm.ClassFile.FieldType.byte)), Jvm.Cond.code ({ cls := "java/util/Arrays", name := "copyOfRangeByte", desc := "([BII)[B" } : Jvm.MethodName) jdk_65_method_133_code (5 : Nat) (Option.some (Jvm.ClassFile.FieldType.array Jvm.ClassFile.FieldType.byte)), Jvm.Cond.code ({ cls := "java/util/Arrays", name := "checkLength", desc := "(II)V" } : Jvm.MethodName) jdk_65_method_131_code (2 : Nat) (Option.none : Option Jvm.ClassFile.FieldType), Jvm.Cond.code ({ cls := "java/lang/Math", name := "min", desc := "(II)I" } : Jvm.MethodName) jdk_29_method_69_code (2 : Nat) (Option.some Jvm.ClassFile.FieldType.int), Jvm.Cond.code ({ cls := "com/example/harvest_rules/harvestrules/registry/SecretReferenceToStringPinLaw", name := "eqAt", desc := "(Ljava/lang/String;[CII)Z" } : Jvm.MethodName) method_3_code (4 : Nat) (Option.some Jvm.ClassFile.FieldType.boolean), Jvm.Cond.code ({ cls := "java/lang/String", name := "charAt", desc := "(I)C" } : Jvm.MethodName) jdk_42_method_56_code (2 : Nat) (Option.some Jvm.ClassFile.FieldType.char), Jvm.Cond.code ({ cls := "java/lang/String", name := "isLatin1", desc := "()Z" } : Jvm.MethodName) jdk_42_method_154_code (1 : Nat) (Option.some Jvm.ClassFile.FieldType.boolean), Jvm.Cond.code ({ cls := "java/lang/StringLatin1", name := "charAt", desc := "([BI)C" } : Jvm.MethodName) jdk_43_method_2_code (2 : Nat) (Option.some Jvm.ClassFile.FieldType.char), Jvm.Cond.code ({ cls := "java/lang/String", name := "checkIndex", desc := "(II)V" } : Jvm.MethodName) jdk_42_method_155_code (2 : Nat) (Option.none : Option Jvm.ClassFile.FieldType), Jvm.Cond.code ({ cls := "jdk/internal/util/Preconditions", name := "checkIndex", desc := "(IILjava/util/function/BiFunction;)I" } : Jvm.MethodName) jdk_41_method_11_code (3 : Nat) (Option.some Jvm.ClassFile.FieldType.int), Jvm.Cond.code ({ cls := "java/lang/StringUTF16", name := "toBytes", desc := "([CII)[B" } : Jvm.MethodName) jdk_52_method_14_code (5 : Nat) (Option.some (Jvm.ClassFile.FieldType.array Jvm.ClassFile.FieldType.byte)), Jvm.Cond.code ({ cls := "java/lang/StringUTF16", name := "newBytesFor", desc := "(I)[B" } : Jvm.MethodName) jdk_52_method_2_code (1 : Nat) (Option.some (Jvm.ClassFile.FieldType.array Jvm.ClassFile.FieldType.byte)), Jvm.Cond.code ({ cls := "java/lang/StringUTF16", name := "newBytesLength", desc := "(I)I" } : Jvm.MethodName) jdk_52_method_3_code (1 : Nat) (Option.some Jvm.ClassFile.FieldType.int), Jvm.Cond.code ({ cls := "java/lang/StringUTF16", name := "putChar", desc := "([BII)V" } : Jvm.MethodName) jdk_52_method_4_code (3 : Nat) (Option.none : Option Jvm.ClassFile.FieldType), Jvm.Cond.code ({ cls := "java/lang/StringUTF16", name := "getChar", desc := "([BI)C" } : Jvm.MethodName) jdk_52_method_5_code (2 : Nat) (Option.some Jvm.ClassFile.FieldType.char), Jvm.Cond.code ({ cls := "java/lang/AbstractStringBuilder", name := "inflate", desc := "()V" } : Jvm.MethodName) jdk_68_method_11_code (2 : Nat) (Option.none : Option Jvm.ClassFile.FieldType), Jvm.Cond.code ({ cls := "java/lang/StringLatin1", name := "inflate", desc := "([BI[BII)V" } : Jvm.MethodName) jdk_43_method_50_code (5 : Nat) (Option.none : Option Jvm.ClassFile.FieldType), Jvm.Cond.code ({ cls := "java/lang/StringUTF16", name := "inflate", desc := "([BI[BII)V" } : Jvm.MethodName) jdk_52_method_86_code (6 : Nat) (Option.none : Option Jvm.ClassFile.FieldType), Jvm.Cond.code ({ cls := "java/lang/StringUTF16", name := "checkBoundsOffCount", desc := "(II[B)V" } : Jvm.MethodName) jdk_52_method_94_code (3 : Nat) (Option.none : Option Jvm.ClassFile.FieldType), Jvm.Cond.code ({ cls := "java/lang/StringUTF16", name := "length", desc := "([B)I" } : Jvm.MethodName) jdk_52_method_6_code (1 : Nat) (Option.some Jvm.ClassFile.FieldType.int), Jvm.Cond.code ({ cls := "java/lang/String", name := "checkBoundsOffCount", desc := "(III)I" } : Jvm.MethodName) jdk_42_method_157_code (3 : Nat) (Option.some Jvm.ClassFile.FieldType.int), Jvm.Cond.code ({ cls := "jdk/internal/util/Preconditions", name := "checkFromIndexSize", desc := "(IIILjava/util/function/BiFunction;)I" } : Jvm.MethodName) jdk_41_method_13_code (4 : Nat) (Option.some Jvm.ClassFile.FieldType.int), Jvm.Cond.code ({ cls := "java/lang/StringUTF16", name := "charAt", desc := "([BI)C" } : Jvm.MethodName) jdk_52_method_83_code (2 : Nat) (Option.some Jvm.ClassFile.FieldType.char), Jvm.Cond.code ({ cls := "java/lang/StringUTF16", name := "checkIndex", desc := "(I[B)V" } : Jvm.MethodName) jdk_52_method_91_code (2 : Nat) (Option.none : Option Jvm.ClassFile.FieldType)]
set_option maxRecDepth 65536 in
theorem codes_eq : words1.filter isCode = codes1 := rfl
theorem w_codes : ∀ c ∈ words1.filter isCode, c.before args0 about1 = true := by
  rw [codes_eq]
  intro c hc
  simp only [codes1, List.mem_cons, List.not_mem_nil, or_false] at hc
  rcases hc with rfl | rfl | rfl | rfl | rfl | rfl | rfl | rfl | rfl | rfl | rfl | rfl | rfl | rfl | rfl | rfl | rfl | rfl | rfl | rfl | rfl | rfl | rfl | rfl | rfl | rfl | rfl | rfl | rfl | rfl | rfl | rfl | rfl | rfl | rfl | rfl | rfl | rfl | rfl | rfl | rfl | rfl | rfl | rfl | rfl | rfl | rfl | rfl | rfl | rfl | rfl | rfl | rfl
  · exact w_c0
  · exact w_c1
  · exact w_c2
  · exact w_c3
  · exact w_c4
  · exact w_c5
  · exact w_c6
  · exact w_c7
  · exact w_c8
  · exact w_c9
  · exact w_c10
  · exact w_c11
  · exact w_c12
  · exact w_c13
  · exact w_c14
  · exact w_c15
  · exact w_c16
  · exact w_c17
  · exact w_c18
  · exact w_c19
  · exact w_c20
  · exact w_c21
  · exact w_c22
  · exact w_c23
  · exact w_c24
  · exact w_c25
  · exact w_c26
  · exact w_c27
  · exact w_c28
  · exact w_c29
  · exact w_c30
  · exact w_c31
  · exact w_c32
  · exact w_c33
  · exact w_c34
  · exact w_c35
  · exact w_c36
  · exact w_c37
  · exact w_c38
  · exact w_c39
  · exact w_c40
  · exact w_c41
  · exact w_c42
  · exact w_c43
  · exact w_c44
  · exact w_c45
  · exact w_c46
  · exact w_c47
  · exact w_c48
  · exact w_c49
  · exact w_c50
  · exact w_c51
  · exact w_c52
set_option maxRecDepth 65536 in
theorem w_t1 : (words1.take 24).all (fun c => isCode c || c.before args0 about1) = true := by decide +kernel
set_option maxRecDepth 65536 in
theorem w_t2 : ((words1.drop 24).take 24).all (fun c => isCode c || c.before args0 about1) = true := by decide +kernel
set_option maxRecDepth 65536 in
theorem w_t3 : (((words1.drop 24).drop 24).take 24).all (fun c => isCode c || c.before args0 about1) = true := by decide +kernel
set_option maxRecDepth 65536 in
theorem w_t4 : ((((words1.drop 24).drop 24).drop 24).take 24).all (fun c => isCode c || c.before args0 about1) = true := by decide +kernel
set_option maxRecDepth 65536 in
theorem w_t5 : (((((words1.drop 24).drop 24).drop 24).drop 24).take 24).all (fun c => isCode c || c.before args0 about1) = true := by decide +kernel
set_option maxRecDepth 65536 in
theorem w_t6 : ((((((words1.drop 24).drop 24).drop 24).drop 24).drop 24).take 24).all (fun c => isCode c || c.before args0 about1) = true := by decide +kernel
set_option maxRecDepth 65536 in
theorem w_t7 : (((((((words1.drop 24).drop 24).drop 24).drop 24).drop 24).drop 24).take 24).all (fun c => isCode c || c.before args0 about1) = true := by decide +kernel
set_option maxRecDepth 65536 in
theorem w_t8 : ((((((((words1.drop 24).drop 24).drop 24).drop 24).drop 24).drop 24).drop 24).take 24).all (fun c => isCode c || c.before args0 about1) = true := by decide +kernel
set_option maxRecDepth 65536 in
theorem w_t9 : (((((((((words1.drop 24).drop 24).drop 24).drop 24).drop 24).drop 24).drop 24).drop 24).take 24).all (fun c => isCode c || c.before args0 about1) = true := by decide +kernel
set_option maxRecDepth 65536 in
theorem w_t10 : ((((((((((words1.drop 24).drop 24).drop 24).drop 24).drop 24).drop 24).drop 24).drop 24).drop 24).take 24).all (fun c => isCode c || c.before args0 about1) = true := by decide +kernel
set_option maxRecDepth 65536 in
theorem w_t11 : ((((((((((words1.drop 24).drop 24).drop 24).drop 24).drop 24).drop 24).drop 24).drop 24).drop 24).drop 24).all (fun c => isCode c || c.before args0 about1) = true := by decide +kernel
theorem w_tables : (allAtoms (Jvm.Cond.code x code maxLocals ret :: tables_1)).before args0 about1 = true := by
  rw [allAtoms_all]
  show words1.all (fun c => c.before args0 about1) = true
  refine all_split ?_ w_codes
  rw [← List.take_append_drop 24 words1, List.all_append, w_t1, ← List.take_append_drop 24 (words1.drop 24), List.all_append, w_t2, ← List.take_append_drop 24 ((words1.drop 24).drop 24), List.all_append, w_t3, ← List.take_append_drop 24 (((words1.drop 24).drop 24).drop 24), List.all_append, w_t4, ← List.take_append_drop 24 ((((words1.drop 24).drop 24).drop 24).drop 24), List.all_append, w_t5, ← List.take_append_drop 24 (((((words1.drop 24).drop 24).drop 24).drop 24).drop 24), List.all_append, w_t6, ← List.take_append_drop 24 ((((((words1.drop 24).drop 24).drop 24).drop 24).drop 24).drop 24), List.all_append, w_t7, ← List.take_append_drop 24 (((((((words1.drop 24).drop 24).drop 24).drop 24).drop 24).drop 24).drop 24), List.all_append, w_t8, ← List.take_append_drop 24 ((((((((words1.drop 24).drop 24).drop 24).drop 24).drop 24).drop 24).drop 24).drop 24), List.all_append, w_t9, ← List.take_append_drop 24 (((((((((words1.drop 24).drop 24).drop 24).drop 24).drop 24).drop 24).drop 24).drop 24).drop 24), List.all_append, w_t10, w_t11]
  rfl
set_option maxRecDepth 65536 in
theorem w_rest : rest_1_c.before args0 about1 = true := by decide +kernel
set_option maxRecDepth 65536 in
theorem w_case : (Jvm.Cond.and given_1 narrow_1).before args0 about1 = true := by decide +kernel
set_option maxRecDepth 65536 in
theorem w_consts : constsHeld consts_1 about1 := Jvm.Lit.constsHeldB_iff.mp (by decide +kernel)
theorem w_applies : (headSpec (Jvm.Cond.code x code maxLocals ret :: tables_1) room_1).applies x e0.platform about1 = true :=
  (Spec.applies_iff w_frames).mpr ⟨w_running, w_runnable, w_alone, w_named, w_hears, w_ripe, w_room, w_tables⟩
theorem atStart : AtStart classFile x code maxLocals ret World_1 tables_1 room_1 Calls_1 rest_1 Pre_1 launch0 p0 e0 about1 theMethod args0 below0 :=
  ⟨lists_1, trivial, launch0.admits_env _ _ _, launch0.least_env, fairChoices_fair.cas, fairChoices_fair.clock, w_frames, w_args, w_heap, w_applies, ⟨w_consts, trivial⟩, w_rest, w_case⟩
end start1
theorem witness_1 : WitnessClaimed_1 := ⟨start1.p0, start1.e0, start1.about1, start1.theMethod, start1.args0, start1.below0, start1.atStart⟩
end Jvm.Pilot.@@N@@
